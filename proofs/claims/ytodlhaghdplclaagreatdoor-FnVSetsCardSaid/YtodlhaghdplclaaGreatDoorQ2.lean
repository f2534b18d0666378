/- Moments. -/
import Derived.Test.YtodlhaghdplclaaGreatDoorQ1
import Derived.Test.YtodlhaghdplclaaGreatDoorQ0
import Derived.Lay
import Derived.LaidEql
namespace Go.Proofs.YtodlhaghdplclaaGreatDoor
open Go Go.RowKit V EA EB EC ED EE EF EG
set_option linter.unusedSimpArgs false
set_option linter.unusedVariables false
set_option maxRecDepth 10000
namespace EH
theorem call60 : Callable Tryz.prog 60 := ⟨_, Tryz.func60, rfl, by kernel_rfl⟩
theorem call72 : Callable Tryz.prog 72 := ⟨_, Tryz.func72, rfl, by kernel_rfl⟩
theorem call73 : Callable Tryz.prog 73 := ⟨_, Tryz.func73, rfl, by kernel_rfl⟩
theorem call86 : Callable Tryz.prog 86 := ⟨_, Tryz.func86, rfl, by kernel_rfl⟩
theorem call162 : Callable Tryz.prog 162 := ⟨_, Tryz.func162, rfl, by kernel_rfl⟩
theorem call188 : Callable Tryz.prog 188 := ⟨_, Tryz.func188, rfl, by kernel_rfl⟩
theorem call189 : Callable Tryz.prog 189 := ⟨_, Tryz.func189, rfl, by kernel_rfl⟩
theorem call190 : Callable Tryz.prog 190 := ⟨_, Tryz.func190, rfl, by kernel_rfl⟩
theorem flat2 : Flat Tryz.prog 2 := ⟨_, Tryz.underlying2, by simp⟩
theorem flat21 : Flat Tryz.prog 21 := ⟨_, Tryz.underlying21, by simp⟩
theorem ty2 : Ty Tryz.prog 2 (.int .i64 0) 1 8 := ty_of (by kernel_rfl)
theorem ty21 : Ty Tryz.prog 21 (.int .i32 0) 1 4 := ty_of (by kernel_rfl)
theorem ty89 : Ty Tryz.prog 89 (.agg #[(.int .i64 0), (.int .i32 0), (S []), (.int .i64 0)]) 4 40 := ty_of (by kernel_rfl)
theorem ty134 : Ty Tryz.prog 134 (.agg #[(.int .i64 0), (.int .i32 0), (S []), (.int .i64 0)]) 4 40 := ty_of (by kernel_rfl)
theorem ty224 : Ty Tryz.prog 224 (.agg #[(.int .u8 0), (.int .u16 0), (.slice none 0 0)]) 3 32 := ty_of (by kernel_rfl)
theorem conc2 : Conc Tryz.prog 2 := ⟨_, Tryz.underlying2, by simp⟩
theorem agg89 : Agg Tryz.prog 89 := agg_of Tryz.underlying89
theorem agg134 : Agg Tryz.prog 134 := agg_of Tryz.underlying134
theorem agg224 : Agg Tryz.prog 224 := agg_of Tryz.underlying224
theorem str89 : Str Tryz.prog 89 #[(0, 1), (1, 1), (2, 1), (3, 1)] := ⟨_, Tryz.underlying89, fun w => by kernel_rfl⟩
theorem str224 : Str Tryz.prog 224 #[(0, 1), (1, 1), (2, 1)] := ⟨_, Tryz.underlying224, fun w => by kernel_rfl⟩
theorem fld89_0 : Fld Tryz.prog 89 0 0 2 := fld_of Tryz.underlying89 rfl rfl rfl ty2 (by decide)
theorem fld89_1 : Fld Tryz.prog 89 1 1 21 := fld_of Tryz.underlying89 rfl rfl rfl ty21 (by decide)
abbrev tmV (s n : Int) : Value := .agg #[I s, .int .i32 n, S [85, 84, 67], I 0]
theorem tm_eq {s s' n n' : Int} (h : s = s') (h2 : n = n') : tmV s n = tmV s' n' := by rw [h, h2]
abbrev msV (ms : Int) : Value := tmV (ms / 1000 + 62135596800) (ms % 1000 * 1000000)
theorem tmod_b (x m : Int) (h : 0 < m) : x.tmod m = x - m * x.tdiv m := by rw [Int.tmod_def]
theorem sec (s n : Int) : Fn0 Tryz.prog 86 [tmV s n] (I s) := by
 refine Fn0.enter (n := 5) Tryz.func86 rfl rfl fun w0 => ?_
 refine WC.sub (fr' := [(0, _)]) ?_ ⟨rfl, trivial⟩
 refine WC.seq (WC.region ?_)
 refine WL.box rfl rfl rfl fun b0_0 hb0_0 => ?_
 refine WL.q (oq_assign rfl) rfl rfl rfl ?_
 refine WL.nil (WE.then_normal (WC.sub (fr' := [(1, _)]) ?_ ⟨rfl, trivial⟩))
 refine WC.seq (WC.region ?_)
 refine WL.q (oq_fieldAddr fld89_0 rfl) rfl rfl rfl ?_
 refine WL.q (oq_load flat2 rfl (.head _) (List.mem_singleton.2 rfl) rfl) rfl rfl rfl ?_
 refine WL.q (oq_assign rfl) rfl rfl rfl ?_
 refine WL.nil (WE.then_normal (WC.sub (fr' := [(2, _)]) ?_ ⟨rfl, trivial⟩))
 refine WC.ret ?_
 refine WE.lose hb0_0 ?_
 refine WE.end0 (.inl rfl) (res1 Tryz.results86 rfl) ?_
 rfl
theorem nsec (s n : Int) : Fn0 Tryz.prog 73 [tmV s n] (.int .i32 n) := by
 refine Fn0.enter (n := 5) Tryz.func73 rfl rfl fun w0 => ?_
 refine WC.sub (fr' := [(0, _)]) ?_ ⟨rfl, trivial⟩
 refine WC.seq (WC.region ?_)
 refine WL.box rfl rfl rfl fun b0_0 hb0_0 => ?_
 refine WL.q (oq_assign rfl) rfl rfl rfl ?_
 refine WL.nil (WE.then_normal (WC.sub (fr' := [(1, _)]) ?_ ⟨rfl, trivial⟩))
 refine WC.seq (WC.region ?_)
 refine WL.q (oq_fieldAddr fld89_1 rfl) rfl rfl rfl ?_
 refine WL.q (oq_load flat21 rfl (.head _) (List.mem_singleton.2 rfl) rfl) rfl rfl rfl ?_
 refine WL.q (oq_assign rfl) rfl rfl rfl ?_
 refine WL.nil (WE.then_normal (WC.sub (fr' := [(2, _)]) ?_ ⟨rfl, trivial⟩))
 refine WC.ret ?_
 refine WE.lose hb0_0 ?_
 refine WE.end0 (.inl rfl) (res1 Tryz.results73 rfl) ?_
 rfl
theorem unix (s n : Int) (h1 : -1000000000000 ≤ s) (h2 : s ≤ 1000000000000) (h3 : -9223372036854775808 ≤ n) (h4 : n ≤ 9223372036854775807) : Fn0 Tryz.prog 60 [I s, I n] (tmV (s + n / 1000000000 + 62135596800) (n % 1000000000)) := by
 refine Fn0.enter (n := 32) Tryz.func60 rfl rfl fun w0 => ?_
 refine WC.sub (fr' := [(0, _), (1, _)]) ?_ ⟨rfl, rfl, trivial⟩
 refine WC.seq (WC.region ?_)
 refine WL.alloc ty89 rfl rfl fun b0_0 hb0_0 => ?_
 refine WL.nil (WE.then_normal (WC.sub (fr' := [(0, _), (1, _), (4, _)]) ?_ ⟨rfl, rfl, rfl, trivial⟩))
 refine WC.seq (WC.seq (WC.region ?_))
 refine WL.q (oq_move rfl) rfl rfl rfl ?_
 refine WL.q (oq_lss rfl rfl) rfl rfl rfl ?_
 refine WL.q (oq_move rfl) rfl rfl rfl ?_
 refine WL.split 8 rfl (fun s1_2 => ?_) (fun s1_2 => ?_)
 ·
  try simp only [Z1, Z2, Z3, Z4, Z5, Z6, Z7, Z8, Z9, Z0] at s1_2
  refine WL.skip rfl rfl rfl ?_
  refine WL.skip rfl rfl rfl ?_
  refine WL.q (oq_pick_t rfl rfl) rfl rfl rfl ?_
  refine WL.nil (WE.then_normal (WC.sub (fr' := [(0, _), (1, _), (4, _), (11, _)]) ?_ ⟨rfl, rfl, rfl, rfl, trivial⟩))
  refine WC.cond_t rfl ?_
  refine WC.seq (WC.region ?_)
  refine WL.q (oq_move rfl) rfl rfl rfl ?_
  refine WL.q (oq_tquo rfl rfl (by omega) (by rw [i64_lo, i64_hi]; omega)) rfl rfl rfl ?_
  refine WL.q (oq_assign rfl) rfl rfl rfl ?_
  refine WL.nil (WE.then_normal (WC.sub (fr' := [(0, _), (1, _), (4, _), (5, _)]) ?_ ⟨rfl, rfl, rfl, rfl, trivial⟩))
  refine WC.seq ?_
  have hk := tdiv_b n 1000000000 (by decide)
  generalize n.tdiv 1000000000 = k at *
  refine WC.region ?_
  refine WL.q (oq_move rfl) rfl rfl rfl ?_
  refine WL.q (oq_move rfl) rfl rfl rfl ?_
  refine WL.q (oq_add rfl rfl (by rw [i64_lo, i64_hi]; (first | omega | (simp only [List.length_cons, List.length_nil, List.length_append, List.length_drop, List.length_take]; omega)))) rfl rfl rfl ?_
  refine WL.q (oq_assign rfl) rfl rfl rfl ?_
  refine WL.nil (WE.then_normal (WC.sub (fr' := [(0, _), (1, _), (4, _), (5, _)]) ?_ ⟨rfl, rfl, rfl, rfl, trivial⟩))
  refine WC.seq (WC.region ?_)
  refine WL.q (oq_move rfl) rfl rfl rfl ?_
  refine WL.q (oq_move rfl) rfl rfl rfl ?_
  refine WL.q (oq_mul rfl rfl (by rw [i64_lo, i64_hi]; (first | omega | (simp only [List.length_cons, List.length_nil, List.length_append, List.length_drop, List.length_take]; omega)))) rfl rfl rfl ?_
  refine WL.q (oq_sub rfl rfl (by rw [i64_lo, i64_hi]; (first | omega | (simp only [List.length_cons, List.length_nil, List.length_append, List.length_drop, List.length_take]; omega)))) rfl rfl rfl ?_
  refine WL.q (oq_assign rfl) rfl rfl rfl ?_
  refine WL.nil (WE.then_normal (WC.sub (fr' := [(0, _), (1, _), (4, _)]) ?_ ⟨rfl, rfl, rfl, trivial⟩))
  refine WC.seq (WC.region ?_)
  refine WL.q (oq_move rfl) rfl rfl rfl ?_
  refine WL.q (oq_lss rfl rfl) rfl rfl rfl ?_
  refine WL.nil (WE.then_normal (WC.sub (fr' := [(0, _), (1, _), (4, _), (22, _)]) ?_ ⟨rfl, rfl, rfl, rfl, trivial⟩))
  refine WC.cond rfl (fun q5 => ?_) (fun q5 => ?_)
  ·
   try simp only [Z1, Z2, Z3, Z4, Z5, Z6, Z7, Z8, Z9, Z0] at q5
   refine WC.seq (WC.region ?_)
   refine WL.q (oq_move rfl) rfl rfl rfl ?_
   refine WL.q (oq_add rfl rfl (by rw [i64_lo, i64_hi]; (first | omega | (simp only [List.length_cons, List.length_nil, List.length_append, List.length_drop, List.length_take]; omega)))) rfl rfl rfl ?_
   refine WL.q (oq_assign rfl) rfl rfl rfl ?_
   refine WL.nil (WE.then_normal (WC.sub (fr' := [(0, _), (1, _), (4, _)]) ?_ ⟨rfl, rfl, rfl, trivial⟩))
   refine WC.region ?_
   refine WL.q (oq_move rfl) rfl rfl rfl ?_
   refine WL.q (oq_sub rfl rfl (by rw [i64_lo, i64_hi]; (first | omega | (simp only [List.length_cons, List.length_nil, List.length_append, List.length_drop, List.length_take]; omega)))) rfl rfl rfl ?_
   refine WL.q (oq_assign rfl) rfl rfl rfl ?_
   refine WL.nil (WE.then_normal (WC.sub (fr' := [(0, _), (1, _), (4, _)]) ?_ ⟨rfl, rfl, rfl, trivial⟩))
   refine WC.seq (WC.region ?_)
   refine WL.q (oq_move rfl) rfl rfl rfl ?_
   refine WL.q (oq_add rfl rfl (by rw [i64_lo, i64_hi]; (first | omega | (simp only [List.length_cons, List.length_nil, List.length_append, List.length_drop, List.length_take]; omega)))) rfl rfl rfl ?_
   refine WL.q (oq_move rfl) rfl rfl rfl ?_
   refine WL.q (oq_conv Tryz.underlying2 Tryz.underlying21 rfl (by rw [i32_lo, i32_hi]; (first | omega | (simp only [List.length_cons, List.length_nil, List.length_append, List.length_drop, List.length_take]; omega)))) rfl rfl rfl ?_
   refine WL.q (oq_build #[_, _, _, _] str89 ty89 rfl rfl) rfl rfl rfl ?_
   refine WL.storeS #[_, _, _, _] ty89 rfl rfl rfl rfl (Nat.le_of_ble_eq_true rfl) rfl rfl ?_
   refine WL.nil (WE.then_normal (WC.sub (fr' := [(4, _)]) ?_ ⟨rfl, trivial⟩))
   refine WC.ret ?_
   refine WE.endD0 (.inl rfl) (rs1 Tryz.results60 (rv_cellS [_, _, _, _] agg89 ty89 rfl (.head _) (List.mem_singleton.2 rfl) rfl rfl)) (dr_lose hb0_0 dr_refl) ?_
   first | (exfalso; omega) | exact tm_eq (by omega) (by omega)
  ·
   try simp only [Z1, Z2, Z3, Z4, Z5, Z6, Z7, Z8, Z9, Z0] at q5
   refine WC.skip (WE.then_normal (WC.sub (fr' := [(0, _), (1, _), (4, _)]) ?_ ⟨rfl, rfl, rfl, trivial⟩))
   refine WC.seq (WC.region ?_)
   refine WL.q (oq_move rfl) rfl rfl rfl ?_
   refine WL.q (oq_add rfl rfl (by rw [i64_lo, i64_hi]; (first | omega | (simp only [List.length_cons, List.length_nil, List.length_append, List.length_drop, List.length_take]; omega)))) rfl rfl rfl ?_
   refine WL.q (oq_move rfl) rfl rfl rfl ?_
   refine WL.q (oq_conv Tryz.underlying2 Tryz.underlying21 rfl (by rw [i32_lo, i32_hi]; (first | omega | (simp only [List.length_cons, List.length_nil, List.length_append, List.length_drop, List.length_take]; omega)))) rfl rfl rfl ?_
   refine WL.q (oq_build #[_, _, _, _] str89 ty89 rfl rfl) rfl rfl rfl ?_
   refine WL.storeS #[_, _, _, _] ty89 rfl rfl rfl rfl (Nat.le_of_ble_eq_true rfl) rfl rfl ?_
   refine WL.nil (WE.then_normal (WC.sub (fr' := [(4, _)]) ?_ ⟨rfl, trivial⟩))
   refine WC.ret ?_
   refine WE.endD0 (.inl rfl) (rs1 Tryz.results60 (rv_cellS [_, _, _, _] agg89 ty89 rfl (.head _) (List.mem_singleton.2 rfl) rfl rfl)) (dr_lose hb0_0 dr_refl) ?_
   first | (exfalso; omega) | exact tm_eq (by omega) (by omega)
 ·
  try simp only [Z1, Z2, Z3, Z4, Z5, Z6, Z7, Z8, Z9, Z0] at s1_2
  refine WL.q (oq_move rfl) rfl rfl rfl ?_
  refine WL.q (oq_geq rfl rfl) rfl rfl rfl ?_
  refine WL.q (oq_pick_f rfl rfl) rfl rfl rfl ?_
  refine WL.nil (WE.then_normal (WC.sub (fr' := [(0, _), (1, _), (4, _), (11, _)]) ?_ ⟨rfl, rfl, rfl, rfl, trivial⟩))
  refine WC.cond rfl (fun q1 => ?_) (fun q1 => ?_)
  ·
   try simp only [Z1, Z2, Z3, Z4, Z5, Z6, Z7, Z8, Z9, Z0] at q1
   refine WC.seq (WC.region ?_)
   refine WL.q (oq_move rfl) rfl rfl rfl ?_
   refine WL.q (oq_tquo rfl rfl (by omega) (by rw [i64_lo, i64_hi]; omega)) rfl rfl rfl ?_
   refine WL.q (oq_assign rfl) rfl rfl rfl ?_
   refine WL.nil (WE.then_normal (WC.sub (fr' := [(0, _), (1, _), (4, _), (5, _)]) ?_ ⟨rfl, rfl, rfl, rfl, trivial⟩))
   refine WC.seq ?_
   have hk := tdiv_b n 1000000000 (by decide)
   generalize n.tdiv 1000000000 = k at *
   refine WC.region ?_
   refine WL.q (oq_move rfl) rfl rfl rfl ?_
   refine WL.q (oq_move rfl) rfl rfl rfl ?_
   refine WL.q (oq_add rfl rfl (by rw [i64_lo, i64_hi]; (first | omega | (simp only [List.length_cons, List.length_nil, List.length_append, List.length_drop, List.length_take]; omega)))) rfl rfl rfl ?_
   refine WL.q (oq_assign rfl) rfl rfl rfl ?_
   refine WL.nil (WE.then_normal (WC.sub (fr' := [(0, _), (1, _), (4, _), (5, _)]) ?_ ⟨rfl, rfl, rfl, rfl, trivial⟩))
   refine WC.seq (WC.region ?_)
   refine WL.q (oq_move rfl) rfl rfl rfl ?_
   refine WL.q (oq_move rfl) rfl rfl rfl ?_
   refine WL.q (oq_mul rfl rfl (by rw [i64_lo, i64_hi]; (first | omega | (simp only [List.length_cons, List.length_nil, List.length_append, List.length_drop, List.length_take]; omega)))) rfl rfl rfl ?_
   refine WL.q (oq_sub rfl rfl (by rw [i64_lo, i64_hi]; (first | omega | (simp only [List.length_cons, List.length_nil, List.length_append, List.length_drop, List.length_take]; omega)))) rfl rfl rfl ?_
   refine WL.q (oq_assign rfl) rfl rfl rfl ?_
   refine WL.nil (WE.then_normal (WC.sub (fr' := [(0, _), (1, _), (4, _)]) ?_ ⟨rfl, rfl, rfl, trivial⟩))
   refine WC.seq (WC.region ?_)
   refine WL.q (oq_move rfl) rfl rfl rfl ?_
   refine WL.q (oq_lss rfl rfl) rfl rfl rfl ?_
   refine WL.nil (WE.then_normal (WC.sub (fr' := [(0, _), (1, _), (4, _), (22, _)]) ?_ ⟨rfl, rfl, rfl, rfl, trivial⟩))
   refine WC.cond rfl (fun q5 => ?_) (fun q5 => ?_)
   ·
    try simp only [Z1, Z2, Z3, Z4, Z5, Z6, Z7, Z8, Z9, Z0] at q5
    refine WC.seq (WC.region ?_)
    refine WL.q (oq_move rfl) rfl rfl rfl ?_
    refine WL.q (oq_add rfl rfl (by rw [i64_lo, i64_hi]; (first | omega | (simp only [List.length_cons, List.length_nil, List.length_append, List.length_drop, List.length_take]; omega)))) rfl rfl rfl ?_
    refine WL.q (oq_assign rfl) rfl rfl rfl ?_
    refine WL.nil (WE.then_normal (WC.sub (fr' := [(0, _), (1, _), (4, _)]) ?_ ⟨rfl, rfl, rfl, trivial⟩))
    refine WC.region ?_
    refine WL.q (oq_move rfl) rfl rfl rfl ?_
    refine WL.q (oq_sub rfl rfl (by rw [i64_lo, i64_hi]; (first | omega | (simp only [List.length_cons, List.length_nil, List.length_append, List.length_drop, List.length_take]; omega)))) rfl rfl rfl ?_
    refine WL.q (oq_assign rfl) rfl rfl rfl ?_
    refine WL.nil (WE.then_normal (WC.sub (fr' := [(0, _), (1, _), (4, _)]) ?_ ⟨rfl, rfl, rfl, trivial⟩))
    refine WC.seq (WC.region ?_)
    refine WL.q (oq_move rfl) rfl rfl rfl ?_
    refine WL.q (oq_add rfl rfl (by rw [i64_lo, i64_hi]; (first | omega | (simp only [List.length_cons, List.length_nil, List.length_append, List.length_drop, List.length_take]; omega)))) rfl rfl rfl ?_
    refine WL.q (oq_move rfl) rfl rfl rfl ?_
    refine WL.q (oq_conv Tryz.underlying2 Tryz.underlying21 rfl (by rw [i32_lo, i32_hi]; (first | omega | (simp only [List.length_cons, List.length_nil, List.length_append, List.length_drop, List.length_take]; omega)))) rfl rfl rfl ?_
    refine WL.q (oq_build #[_, _, _, _] str89 ty89 rfl rfl) rfl rfl rfl ?_
    refine WL.storeS #[_, _, _, _] ty89 rfl rfl rfl rfl (Nat.le_of_ble_eq_true rfl) rfl rfl ?_
    refine WL.nil (WE.then_normal (WC.sub (fr' := [(4, _)]) ?_ ⟨rfl, trivial⟩))
    refine WC.ret ?_
    refine WE.endD0 (.inl rfl) (rs1 Tryz.results60 (rv_cellS [_, _, _, _] agg89 ty89 rfl (.head _) (List.mem_singleton.2 rfl) rfl rfl)) (dr_lose hb0_0 dr_refl) ?_
    first | (exfalso; omega) | exact tm_eq (by omega) (by omega)
   ·
    try simp only [Z1, Z2, Z3, Z4, Z5, Z6, Z7, Z8, Z9, Z0] at q5
    refine WC.skip (WE.then_normal (WC.sub (fr' := [(0, _), (1, _), (4, _)]) ?_ ⟨rfl, rfl, rfl, trivial⟩))
    refine WC.seq (WC.region ?_)
    refine WL.q (oq_move rfl) rfl rfl rfl ?_
    refine WL.q (oq_add rfl rfl (by rw [i64_lo, i64_hi]; (first | omega | (simp only [List.length_cons, List.length_nil, List.length_append, List.length_drop, List.length_take]; omega)))) rfl rfl rfl ?_
    refine WL.q (oq_move rfl) rfl rfl rfl ?_
    refine WL.q (oq_conv Tryz.underlying2 Tryz.underlying21 rfl (by rw [i32_lo, i32_hi]; (first | omega | (simp only [List.length_cons, List.length_nil, List.length_append, List.length_drop, List.length_take]; omega)))) rfl rfl rfl ?_
    refine WL.q (oq_build #[_, _, _, _] str89 ty89 rfl rfl) rfl rfl rfl ?_
    refine WL.storeS #[_, _, _, _] ty89 rfl rfl rfl rfl (Nat.le_of_ble_eq_true rfl) rfl rfl ?_
    refine WL.nil (WE.then_normal (WC.sub (fr' := [(4, _)]) ?_ ⟨rfl, trivial⟩))
    refine WC.ret ?_
    refine WE.endD0 (.inl rfl) (rs1 Tryz.results60 (rv_cellS [_, _, _, _] agg89 ty89 rfl (.head _) (List.mem_singleton.2 rfl) rfl rfl)) (dr_lose hb0_0 dr_refl) ?_
    first | (exfalso; omega) | exact tm_eq (by omega) (by omega)
  ·
   try simp only [Z1, Z2, Z3, Z4, Z5, Z6, Z7, Z8, Z9, Z0] at q1
   refine WC.skip (WE.then_normal (WC.sub (fr' := [(0, _), (1, _), (4, _)]) ?_ ⟨rfl, rfl, rfl, trivial⟩))
   refine WC.seq (WC.region ?_)
   refine WL.q (oq_move rfl) rfl rfl rfl ?_
   refine WL.q (oq_add rfl rfl (by rw [i64_lo, i64_hi]; (first | omega | (simp only [List.length_cons, List.length_nil, List.length_append, List.length_drop, List.length_take]; omega)))) rfl rfl rfl ?_
   refine WL.q (oq_move rfl) rfl rfl rfl ?_
   refine WL.q (oq_conv Tryz.underlying2 Tryz.underlying21 rfl (by rw [i32_lo, i32_hi]; (first | omega | (simp only [List.length_cons, List.length_nil, List.length_append, List.length_drop, List.length_take]; omega)))) rfl rfl rfl ?_
   refine WL.q (oq_build #[_, _, _, _] str89 ty89 rfl rfl) rfl rfl rfl ?_
   refine WL.storeS #[_, _, _, _] ty89 rfl rfl rfl rfl (Nat.le_of_ble_eq_true rfl) rfl rfl ?_
   refine WL.nil (WE.then_normal (WC.sub (fr' := [(4, _)]) ?_ ⟨rfl, trivial⟩))
   refine WC.ret ?_
   refine WE.endD0 (.inl rfl) (rs1 Tryz.results60 (rv_cellS [_, _, _, _] agg89 ty89 rfl (.head _) (List.mem_singleton.2 rfl) rfl rfl)) (dr_lose hb0_0 dr_refl) ?_
   first | (exfalso; omega) | exact tm_eq (by omega) (by omega)
theorem unixMilli (ms : Int) (h1 : -9200000000000 ≤ ms) (h2 : ms ≤ 9200000000000) : Fn0 Tryz.prog 43 [I ms] (msV ms) := by
 have hk := tdiv_b ms 1000 (by decide)
 have hm := tmod_b ms 1000 (by decide)
 refine Fn0.enter (n := 9) Tryz.func43 rfl rfl fun w0 => ?_
 refine WC.sub (fr' := [(0, _)]) ?_ ⟨rfl, trivial⟩
 refine WC.seq (WC.region ?_)
 refine WL.alloc ty89 rfl rfl fun b0_0 hb0_0 => ?_
 refine WL.nil (WE.then_normal (WC.sub (fr' := [(0, _), (2, _)]) ?_ ⟨rfl, rfl, trivial⟩))
 refine WC.seq (WC.region ?_)
 refine WL.q (oq_move rfl) rfl rfl rfl ?_
 refine WL.q (oq_tquo rfl rfl (by omega) (by rw [i64_lo, i64_hi]; omega)) rfl rfl rfl ?_
 refine WL.q (oq_move rfl) rfl rfl rfl ?_
 refine WL.q (oq_trem rfl rfl (by omega)) rfl rfl rfl ?_
 refine WL.q (oq_mul rfl rfl (by rw [i64_lo, i64_hi]; (first | omega | (simp only [List.length_cons, List.length_nil, List.length_append, List.length_drop, List.length_take]; omega)))) rfl rfl rfl ?_
 refine WL.qc (oq_call (unix (ms.tdiv 1000) (ms.tmod 1000 * 1000000) (by omega) (by omega) (by omega) (by omega)) call60 rfl) rfl rfl rfl ?_
 refine WL.storeS #[_, _, _, _] ty89 rfl rfl rfl rfl (Nat.le_of_ble_eq_true rfl) rfl rfl ?_
 refine WL.nil (WE.then_normal (WC.sub (fr' := [(2, _)]) ?_ ⟨rfl, trivial⟩))
 refine WC.ret ?_
 refine WE.endD0 (.inl rfl) (rs1 Tryz.results43 (rv_cellS [_, _, _, _] agg89 ty89 rfl (.head _) (List.mem_singleton.2 rfl) rfl rfl)) (dr_lose hb0_0 dr_refl) ?_
 exact tm_eq (by omega) (by omega)
theorem unixSec (s n : Int) (h : 0 ≤ s ∧ s ≤ 1000000000000) : Fn0 Tryz.prog 72 [tmV s n] (I (s + -62135596800)) := by
 refine Fn0.enter (n := 6) Tryz.func72 rfl rfl fun w0 => ?_
 refine WC.sub (fr' := [(0, _)]) ?_ ⟨rfl, trivial⟩
 refine WC.seq (WC.region ?_)
 refine WL.box rfl rfl rfl fun b0_0 hb0_0 => ?_
 refine WL.q (oq_assign rfl) rfl rfl rfl ?_
 refine WL.nil (WE.then_normal (WC.sub (fr' := [(1, _)]) ?_ ⟨rfl, trivial⟩))
 refine WC.seq (WC.region ?_)
 refine WL.q (oq_loadS [_, _, _, _] agg89 ty89 rfl (.head _) (List.mem_singleton.2 rfl) rfl rfl) rfl rfl rfl ?_
 refine WL.qc (oq_call (sec _ _) call86 rfl) rfl rfl rfl ?_
 refine WL.q (oq_add rfl rfl (by rw [i64_lo, i64_hi]; (first | omega | (simp only [List.length_cons, List.length_nil, List.length_append, List.length_drop, List.length_take]; omega)))) rfl rfl rfl ?_
 refine WL.q (oq_assign rfl) rfl rfl rfl ?_
 refine WL.nil (WE.then_normal (WC.sub (fr' := [(2, _)]) ?_ ⟨rfl, trivial⟩))
 refine WC.ret ?_
 refine WE.lose hb0_0 ?_
 refine WE.end0 (.inl rfl) (res1 Tryz.results72 rfl) ?_
 rfl
theorem unixNano (ms : Int) (h1 : -9200000000000 ≤ ms) (h2 : ms ≤ 9200000000000) : Fn0 Tryz.prog 190 [msV ms] (I (ms * 1000000)) := by
 refine Fn0.enter (n := 10) Tryz.func190 rfl rfl fun w0 => ?_
 refine WC.sub (fr' := [(0, _)]) ?_ ⟨rfl, trivial⟩
 refine WC.seq (WC.region ?_)
 refine WL.box rfl rfl rfl fun b0_0 hb0_0 => ?_
 refine WL.q (oq_assign rfl) rfl rfl rfl ?_
 refine WL.nil (WE.then_normal (WC.sub (fr' := [(1, _)]) ?_ ⟨rfl, trivial⟩))
 refine WC.seq (WC.quiet (by kernel_rfl) (by kernel_rfl) ?_)
 refine WQ.q (oq_loadS [_, _, _, _] agg89 ty89 rfl (.head _) (List.mem_singleton.2 rfl) rfl rfl) rfl rfl rfl ?_
 refine WQ.qc (oq_call (unixSec _ _ (by omega)) call72 rfl) rfl rfl rfl ?_
 refine WQ.q (oq_mul rfl rfl (by rw [i64_lo, i64_hi]; (first | omega | (simp only [List.length_cons, List.length_nil, List.length_append, List.length_drop, List.length_take]; omega)))) rfl rfl rfl ?_
 refine WQ.q (oq_loadS [_, _, _, _] agg89 ty89 rfl (.head _) (List.mem_singleton.2 rfl) rfl rfl) rfl rfl rfl ?_
 refine WQ.qc (oq_call (nsec _ _) call73 rfl) rfl rfl rfl ?_
 refine WQ.q (oq_conv Tryz.underlying21 Tryz.underlying2 rfl (by rw [i64_lo, i64_hi]; (first | omega | (simp only [List.length_cons, List.length_nil, List.length_append, List.length_drop, List.length_take]; omega)))) rfl rfl rfl ?_
 refine WQ.q (oq_add rfl rfl (by rw [i64_lo, i64_hi]; (first | omega | (simp only [List.length_cons, List.length_nil, List.length_append, List.length_drop, List.length_take]; omega)))) rfl rfl rfl ?_
 refine WQ.q (oq_assign rfl) rfl rfl rfl ?_
 refine WQ.nil (WE.then_normal (WC.sub (fr' := [(2, _)]) ?_ ⟨rfl, trivial⟩))
 refine WC.ret ?_
 refine WE.lose hb0_0 ?_
 refine WE.end0 (.inl rfl) (res1 Tryz.results190 rfl) ?_
 congr 1; omega
theorem epochMilli (ms : Int) (h1 : -9200000000000 ≤ ms) (h2 : ms ≤ 9200000000000) : Fn0 Tryz.prog 189 [msV ms] (I ms) := by
 refine Fn0.enter (n := 10) Tryz.func189 rfl rfl fun w0 => ?_
 refine WC.sub (fr' := [(0, _)]) ?_ ⟨rfl, trivial⟩
 refine WC.seq (WC.region ?_)
 refine WL.box rfl rfl rfl fun b0_0 hb0_0 => ?_
 refine WL.q (oq_assign rfl) rfl rfl rfl ?_
 refine WL.nil (WE.then_normal (WC.sub (fr' := [(1, _)]) ?_ ⟨rfl, trivial⟩))
 refine WC.seq (WC.region ?_)
 refine WL.q (oq_loadS [_, _, _, _] agg134 ty134 rfl (.head _) (List.mem_singleton.2 rfl) rfl rfl) rfl rfl rfl ?_
 refine WL.qc (oq_call (unixNano ms h1 h2) call190 rfl) rfl rfl rfl ?_
 refine WL.q (oq_assign rfl) rfl rfl rfl ?_
 refine WL.nil (WE.then_normal (WC.sub (fr' := [(3, _)]) ?_ ⟨rfl, trivial⟩))
 refine WC.seq (WC.region ?_)
 refine WL.q (oq_move rfl) rfl rfl rfl ?_
 refine WL.q (oq_tquo rfl rfl (by omega) (by rw [i64_lo, i64_hi]; omega)) rfl rfl rfl ?_
 refine WL.q (oq_assign rfl) rfl rfl rfl ?_
 refine WL.nil (WE.then_normal (WC.sub (fr' := [(4, _)]) ?_ ⟨rfl, trivial⟩))
 refine WC.seq (WC.region ?_)
 refine WL.q (oq_move rfl) rfl rfl rfl ?_
 refine WL.q (oq_assign rfl) rfl rfl rfl ?_
 refine WL.nil (WE.then_normal (WC.sub (fr' := [(2, _)]) ?_ ⟨rfl, trivial⟩))
 refine WC.ret ?_
 refine WE.lose hb0_0 ?_
 refine WE.end0 (.inl rfl) (res1 Tryz.results189 rfl) ?_
 rw [Int.mul_tdiv_cancel _ (by decide)]
theorem vtTimestampValue (s n : Int) : Fn0 Tryz.prog 188 [tmV s n] (.int .u8 8) := by
 refine Fn0.enter (n := 3) Tryz.func188 rfl rfl fun w0 => ?_
 refine WC.sub (fr' := [(0, _)]) ?_ ⟨rfl, trivial⟩
 refine WC.seq (WC.region ?_)
 refine WL.box rfl rfl rfl fun b0_0 hb0_0 => ?_
 refine WL.q (oq_assign rfl) rfl rfl rfl ?_
 refine WL.nil (WE.then_normal (WC.sub (fr' := []) ?_ trivial))
 refine WC.seq (WC.region ?_)
 refine WL.q (oq_assign rfl) rfl rfl rfl ?_
 refine WL.nil (WE.then_normal (WC.sub (fr' := [(2, _)]) ?_ ⟨rfl, trivial⟩))
 refine WC.ret ?_
 refine WE.lose hb0_0 ?_
 refine WE.end0 (.inl rfl) (res1 Tryz.results188 rfl) ?_
 rfl
theorem encTimestampValue (base : Nat) (k : TypeId) (r : Value) (f : FuncId) (Wt : List UInt8 → Hp → Prop) (hW : Wr base k r f Wt) (acc0 : List UInt8) (G : Hp) (hG : Wt acc0 G) (ms : Int) (h1 : -9200000000000 ≤ ms) (h2 : ms ≤ 9200000000000) (hal : acc0.length ≤ 290000) : FnW Tryz.prog 187 [msV ms, .iface k r] base [G] (Then Wt (acc0 ++ (8 :: be 8 ms)) []) := by
 refine FnW.enter (n := 17) Tryz.func187 rfl rfl fun w0 R0 hbase => ?_
 subst hbase
 show WC _ _ _ _ _ _ _ ([G, R0])
 refine WC.sub (fr' := [(0, _), (1, _)]) ?_ ⟨rfl, rfl, trivial⟩
 refine WC.seq (WC.region ?_)
 refine WL.box rfl rfl rfl fun b0_0 hb0_0 => ?_
 refine WL.q (oq_assign rfl) rfl rfl rfl ?_
 refine WL.nil (WE.then_normal (WC.sub (fr' := [(1, _), (2, _)]) ?_ ⟨rfl, rfl, trivial⟩))
 refine WC.seq (WC.region ?_)
 refine WL.q (oq_loadS [_, _, _, _] agg134 ty134 rfl (.head _) (List.mem_singleton.2 rfl) rfl rfl) rfl rfl rfl ?_
 refine WL.qc (oq_call (vtTimestampValue _ _) call188 rfl) rfl rfl rfl ?_
 refine WL.q (oq_build #[_, _, _] str224 ty224 rfl rfl) rfl rfl rfl ?_
 refine WL.alloc ty224 rfl rfl fun b1_3 hb1_3 => ?_
 refine WL.storeS #[_, _, _] ty224 rfl rfl rfl rfl (Nat.le_of_ble_eq_true rfl) rfl rfl ?_
 refine WL.nil (WE.then_normal (WC.sub (fr' := [(1, _), (2, _), (5, _)]) ?_ ⟨rfl, rfl, rfl, trivial⟩))
 refine WC.seq (WC.region ?_)
 refine WL.q (oq_loadS [_, _, _, _] agg134 ty134 rfl (.tail _ (.head _)) (List.mem_singleton.2 rfl) rfl rfl) rfl rfl rfl ?_
 refine WL.qc (oq_call (epochMilli ms h1 h2) call189 rfl) rfl rfl rfl ?_
 refine WL.q (oq_assign rfl) rfl rfl rfl ?_
 refine WL.nil (WE.then_normal (WC.sub (fr' := [(1, _), (5, _), (6, _)]) ?_ ⟨rfl, rfl, rfl, trivial⟩))
 refine WC.seq (WC.region ?_)
 refine WL.q (oq_loadS [_, _, _] agg224 ty224 rfl (.head _) (List.mem_singleton.2 rfl) rfl rfl) rfl rfl rfl ?_
 refine WL.q (oq_move rfl) rfl rfl rfl ?_
 refine WL.q (oq_move rfl) rfl rfl rfl ?_
 refine WL.q (oq_makeI conc2 rfl) rfl rfl rfl ?_
 refine WL.f2 ?_
 refine WL.callW1 (encScalar _ k r f Wt hW acc0 G hG 8 (.int .u16 0) (.slice none 0 0) ⟨2, .i64, 8, ms⟩ (by simp [Num.ok, Num.kinds]) hal) call162 rfl rfl rfl fun v3_4 Hs3_4 hR3_4 => ?_
 obtain ⟨G2, rfl, rfl, hG2⟩ := hR3_4
 refine WL.to1 ?_
 refine WL.q (oq_assign rfl) rfl rfl rfl ?_
 refine WL.nil (WE.then_normal (WC.sub (fr' := [(4, _)]) ?_ ⟨rfl, trivial⟩))
 refine WC.ret ?_
 refine WE.f1 ?_
 refine WE.lose hb1_3 ?_
 refine WE.f1 ?_
 refine WE.lose hb0_0 ?_
 refine WE.endW1 (.inl rfl) (res1 Tryz.results187 rfl) ?_
 exact ⟨_, rfl, rfl, hG2⟩
end EH
end Go.Proofs.YtodlhaghdplclaaGreatDoor
/- Values of headers. -/
namespace Go.Proofs.YtodlhaghdplclaaGreatDoor
open Go Go.RowKit V EA EB EC ED EE EF EG EH
set_option linter.unusedSimpArgs false
set_option linter.unusedVariables false
set_option maxRecDepth 10000
namespace EI
theorem call43 : Callable Tryz.prog 43 := ⟨_, Tryz.func43, rfl, by kernel_rfl⟩
theorem call178 : Callable Tryz.prog 178 := ⟨_, Tryz.func178, rfl, by kernel_rfl⟩
theorem call179 : Callable Tryz.prog 179 := ⟨_, Tryz.func179, rfl, by kernel_rfl⟩
theorem call183 : Callable Tryz.prog 183 := ⟨_, Tryz.func183, rfl, by kernel_rfl⟩
theorem call184 : Callable Tryz.prog 184 := ⟨_, Tryz.func184, rfl, by kernel_rfl⟩
theorem flat2 : Flat Tryz.prog 2 := ⟨_, Tryz.underlying2, by simp⟩
theorem flat3 : Flat Tryz.prog 3 := ⟨_, Tryz.underlying3, by simp⟩
theorem flat9 : Flat Tryz.prog 9 := ⟨_, Tryz.underlying9, by simp⟩
theorem ty2 : Ty Tryz.prog 2 (.int .i64 0) 1 8 := ty_of (by kernel_rfl)
theorem ty3 : Ty Tryz.prog 3 (.int .i64 0) 1 8 := ty_of (by kernel_rfl)
theorem ty5 : Ty Tryz.prog 5 (.int .u8 0) 1 1 := ty_of (by kernel_rfl)
theorem ty9 : Ty Tryz.prog 9 (S []) 1 16 := ty_of (by kernel_rfl)
theorem ty120 : Ty Tryz.prog 120 (.agg #[(S []), (.int .i64 0), (.int .i64 0), .nilIface]) 4 48 := ty_of (by kernel_rfl)
theorem ty137 : Ty Tryz.prog 137 (.agg #[(.int .u8 0), (.int .u8 0), (.int .u8 0), (.int .u8 0), (.int .u8 0), (.int .u8 0), (.int .u8 0), (.int .u8 0), (.int .u8 0), (.int .u8 0), (.int .u8 0), (.int .u8 0), (.int .u8 0), (.int .u8 0), (.int .u8 0), (.int .u8 0)]) 16 16 := ty_of (by kernel_rfl)
theorem ty224 : Ty Tryz.prog 224 (.agg #[(.int .u8 0), (.int .u16 0), (.slice none 0 0)]) 3 32 := ty_of (by kernel_rfl)
theorem conc9 : Conc Tryz.prog 9 := ⟨_, Tryz.underlying9, by simp⟩
theorem conc28 : Conc Tryz.prog 28 := ⟨_, Tryz.underlying28, by simp⟩
theorem conc120 : Conc Tryz.prog 120 := ⟨_, Tryz.underlying120, by simp⟩
theorem conc126 : Conc Tryz.prog 126 := ⟨_, Tryz.underlying126, by simp⟩
theorem conc127 : Conc Tryz.prog 127 := ⟨_, Tryz.underlying127, by simp⟩
theorem conc129 : Conc Tryz.prog 129 := ⟨_, Tryz.underlying129, by simp⟩
theorem conc130 : Conc Tryz.prog 130 := ⟨_, Tryz.underlying130, by simp⟩
theorem conc131 : Conc Tryz.prog 131 := ⟨_, Tryz.underlying131, by simp⟩
theorem conc132 : Conc Tryz.prog 132 := ⟨_, Tryz.underlying132, by simp⟩
theorem conc133 : Conc Tryz.prog 133 := ⟨_, Tryz.underlying133, by simp⟩
theorem conc134 : Conc Tryz.prog 134 := ⟨_, Tryz.underlying134, by simp⟩
theorem conc137 : Conc Tryz.prog 137 := ⟨_, Tryz.underlying137, by simp⟩
theorem agg137 : Agg Tryz.prog 137 := agg_arr Tryz.underlying137
theorem agg224 : Agg Tryz.prog 224 := agg_of Tryz.underlying224
theorem str120 : Str Tryz.prog 120 #[(0, 1), (1, 1), (2, 1), (3, 1)] := ⟨_, Tryz.underlying120, fun w => by kernel_rfl⟩
theorem str224 : Str Tryz.prog 224 #[(0, 1), (1, 1), (2, 1)] := ⟨_, Tryz.underlying224, fun w => by kernel_rfl⟩
theorem fld24_0 : Fld Tryz.prog 24 0 0 3 := fld_of Tryz.underlying24 rfl rfl rfl ty3 (by decide)
theorem fld24_1 : Fld Tryz.prog 24 1 1 3 := fld_of Tryz.underlying24 rfl rfl rfl ty3 (by decide)
theorem fld24_2 : Fld Tryz.prog 24 2 2 2 := fld_of Tryz.underlying24 rfl rfl rfl ty2 (by decide)
theorem fld24_3 : Fld Tryz.prog 24 3 3 9 := fld_of Tryz.underlying24 rfl rfl rfl ty9 (by decide)
theorem encBytesX (base : Nat) (t : UInt8) (l1 l2 k : Value) (s : Value) (Z G : Hp) (data : List UInt8) (hr : RdS 1 s Z data.length (bytesV data)) (hdl : 32767 < data.length) (hl : data.length ≤ 400000) : FnW Tryz.prog 179 [.agg #[.int .u8 (t.toNat : Int), l1, l2], k, s] base [G, Z] (fun w Hs => ∃ e, w = .iface 120 e ∧ Hs = [G, Z]) := by
 refine FnW.enter (n := 40) Tryz.func179 rfl rfl fun w0 R0 hbase => ?_
 subst hbase
 show WC _ _ _ _ _ _ _ ([G, Z, R0])
 refine WC.sub (fr' := [(0, _), (1, _), (2, _)]) ?_ ⟨rfl, rfl, rfl, trivial⟩
 refine WC.seq (WC.region ?_)
 refine WL.box rfl rfl rfl fun b0_0 hb0_0 => ?_
 refine WL.q (oq_assign rfl) rfl rfl rfl ?_
 refine WL.nil (WE.then_normal (WC.sub (fr' := [(1, _), (2, _), (3, _)]) ?_ ⟨rfl, rfl, rfl, trivial⟩))
 refine WC.seq (WC.seq (WC.region ?_))
 refine WL.q (oq_move rfl) rfl rfl rfl ?_
 refine WL.q (oq_len_rd hr Tryz.underlying28 rfl) rfl rfl rfl ?_
 refine WL.q (oq_gtr rfl rfl) rfl rfl rfl ?_
 refine WL.nil (WE.then_normal (WC.sub (fr' := [(1, _), (2, _), (3, _), (10, _)]) ?_ ⟨rfl, rfl, rfl, rfl, trivial⟩))
 refine WC.cond rfl (fun q1 => ?_) (fun q1 => ?_)
 ·
  try simp only [Z1, Z2, Z3, Z4, Z5, Z6, Z7, Z8, Z9, Z0] at q1
  refine WC.seq (WC.region ?_)
  refine WL.q (oq_move rfl) rfl rfl rfl ?_
  refine WL.q (oq_len_rd hr Tryz.underlying28 rfl) rfl rfl rfl ?_
  refine WL.q (oq_move rfl) rfl rfl rfl ?_
  refine WL.q (oq_makeI conc28 rfl) rfl rfl rfl ?_
  refine WL.q (oq_build #[_, _, _, _] str120 ty120 rfl rfl) rfl rfl rfl ?_
  refine WL.q (oq_makeI conc120 rfl) rfl rfl rfl ?_
  refine WL.q (oq_assign rfl) rfl rfl rfl ?_
  refine WL.nil (WE.then_normal (WC.sub (fr' := [(6, _)]) ?_ ⟨rfl, trivial⟩))
  refine WC.ret (WE.then_ret ?_)
  refine WE.lose hb0_0 ?_
  refine WE.endW2 (.inl rfl) (res1 Tryz.results179 rfl) ?_
  exact ⟨_, rfl, rfl⟩
 ·
  try simp only [Z1, Z2, Z3, Z4, Z5, Z6, Z7, Z8, Z9, Z0] at q1
  first | contradiction | (exfalso; omega) | (exfalso; simp_all; done)
theorem encStringX (base : Nat) (t : UInt8) (l1 l2 k : Value) (G : Hp) (data : List UInt8) (hdl : 32767 < data.length) (hl : data.length ≤ 400000) : FnW Tryz.prog 184 [.agg #[.int .u8 (t.toNat : Int), l1, l2], k, S data] base [G] (fun w Hs => ∃ e, w = .iface 120 e ∧ Hs = [G]) := by
 refine FnW.enter (n := 55) Tryz.func184 rfl rfl fun w0 R0 hbase => ?_
 subst hbase
 show WC _ _ _ _ _ _ _ ([G, R0])
 refine WC.sub (fr' := [(0, _), (1, _), (2, _)]) ?_ ⟨rfl, rfl, rfl, trivial⟩
 refine WC.seq (WC.region ?_)
 refine WL.box rfl rfl rfl fun b0_0 hb0_0 => ?_
 refine WL.q (oq_assign rfl) rfl rfl rfl ?_
 refine WL.nil (WE.then_normal (WC.sub (fr' := [(1, _), (2, _), (3, _)]) ?_ ⟨rfl, rfl, rfl, trivial⟩))
 refine WC.seq (WC.seq (WC.region ?_))
 refine WL.q (oq_move rfl) rfl rfl rfl ?_
 refine WL.q (oq_len_s Tryz.underlying9 rfl) rfl rfl rfl ?_
 refine WL.q (oq_gtr rfl rfl) rfl rfl rfl ?_
 refine WL.nil (WE.then_normal (WC.sub (fr' := [(1, _), (2, _), (3, _), (12, _)]) ?_ ⟨rfl, rfl, rfl, rfl, trivial⟩))
 refine WC.cond rfl (fun q1 => ?_) (fun q1 => ?_)
 ·
  try simp only [Z1, Z2, Z3, Z4, Z5, Z6, Z7, Z8, Z9, Z0] at q1
  refine WC.seq (WC.region ?_)
  refine WL.q (oq_move rfl) rfl rfl rfl ?_
  refine WL.q (oq_len_s Tryz.underlying9 rfl) rfl rfl rfl ?_
  refine WL.q (oq_move rfl) rfl rfl rfl ?_
  refine WL.q (oq_makeI conc9 rfl) rfl rfl rfl ?_
  refine WL.q (oq_build #[_, _, _, _] str120 ty120 rfl rfl) rfl rfl rfl ?_
  refine WL.q (oq_makeI conc120 rfl) rfl rfl rfl ?_
  refine WL.q (oq_assign rfl) rfl rfl rfl ?_
  refine WL.nil (WE.then_normal (WC.sub (fr' := [(6, _)]) ?_ ⟨rfl, trivial⟩))
  refine WC.ret (WE.then_ret ?_)
  refine WE.lose hb0_0 ?_
  refine WE.endW1 (.inl rfl) (res1 Tryz.results184 rfl) ?_
  exact ⟨_, rfl, rfl⟩
 ·
  try simp only [Z1, Z2, Z3, Z4, Z5, Z6, Z7, Z8, Z9, Z0] at q1
  first | contradiction | (exfalso; omega) | (exfalso; simp_all; done)
theorem encBytesValueX (base : Nat) (k : Value) (s : Value) (Z G : Hp) (data : List UInt8) (hr : RdS 1 s Z data.length (bytesV data)) (hdl : 32767 < data.length) (hl : data.length ≤ 400000) : FnW Tryz.prog 177 [s, k] base [G, Z] (fun w Hs => ∃ e, w = .iface 120 e ∧ Hs = [G, Z]) := by
 refine FnW.enter (n := 13) Tryz.func177 rfl rfl fun w0 R0 hbase => ?_
 subst hbase
 show WC _ _ _ _ _ _ _ ([G, Z, R0])
 refine WC.sub (fr' := [(0, _), (1, _)]) ?_ ⟨rfl, rfl, trivial⟩
 refine WC.seq (WC.region ?_)
 refine WL.q (oq_assign rfl) rfl rfl rfl ?_
 refine WL.nil (WE.then_normal (WC.sub (fr' := [(0, _), (1, _)]) ?_ ⟨rfl, rfl, trivial⟩))
 refine WC.seq (WC.region ?_)
 refine WL.q (oq_move rfl) rfl rfl rfl ?_
 refine WL.qc (oq_call (vtBytesValue s) call178 rfl) rfl rfl rfl ?_
 refine WL.q (oq_build #[_, _, _] str224 ty224 rfl rfl) rfl rfl rfl ?_
 refine WL.alloc ty224 rfl rfl fun b1_3 hb1_3 => ?_
 refine WL.storeS #[_, _, _] ty224 rfl rfl rfl rfl (Nat.le_of_ble_eq_true rfl) rfl rfl ?_
 refine WL.nil (WE.then_normal (WC.sub (fr' := [(0, _), (1, _), (5, _)]) ?_ ⟨rfl, rfl, rfl, trivial⟩))
 refine WC.seq (WC.region ?_)
 refine WL.q (oq_loadS [_, _, _] agg224 ty224 rfl (.head _) (List.mem_singleton.2 rfl) rfl rfl) rfl rfl rfl ?_
 refine WL.q (oq_move rfl) rfl rfl rfl ?_
 refine WL.q (oq_move rfl) rfl rfl rfl ?_
 refine WL.f2 ?_
 refine WL.f2 ?_
 refine WL.callW2 (encBytesX _ 6 (.int .u16 0) (.slice none 0 0) k s Z G data hr hdl hl) call179 rfl rfl rfl fun v2_3 Hs2_3 hR2_3 => ?_
 obtain ⟨e, rfl, rfl⟩ := hR2_3
 refine WL.to2 ?_
 refine WL.q (oq_assign rfl) rfl rfl rfl ?_
 refine WL.nil (WE.then_normal (WC.sub (fr' := [(4, _)]) ?_ ⟨rfl, trivial⟩))
 refine WC.ret ?_
 refine WE.f2 ?_
 refine WE.lose hb1_3 ?_
 refine WE.endW2 (.inl rfl) (res1 Tryz.results177 rfl) ?_
 exact ⟨_, rfl, rfl⟩
theorem encStringValueX (base : Nat) (k : Value) (G : Hp) (data : List UInt8) (hdl : 32767 < data.length) (hl : data.length ≤ 400000) : FnW Tryz.prog 182 [S data, k] base [G] (fun w Hs => ∃ e, w = .iface 120 e ∧ Hs = [G]) := by
 refine FnW.enter (n := 13) Tryz.func182 rfl rfl fun w0 R0 hbase => ?_
 subst hbase
 show WC _ _ _ _ _ _ _ ([G, R0])
 refine WC.sub (fr' := [(0, _), (1, _)]) ?_ ⟨rfl, rfl, trivial⟩
 refine WC.seq (WC.region ?_)
 refine WL.q (oq_assign rfl) rfl rfl rfl ?_
 refine WL.nil (WE.then_normal (WC.sub (fr' := [(0, _), (1, _)]) ?_ ⟨rfl, rfl, trivial⟩))
 refine WC.seq (WC.region ?_)
 refine WL.q (oq_move rfl) rfl rfl rfl ?_
 refine WL.qc (oq_call (vtStringValue (S data)) call183 rfl) rfl rfl rfl ?_
 refine WL.q (oq_build #[_, _, _] str224 ty224 rfl rfl) rfl rfl rfl ?_
 refine WL.alloc ty224 rfl rfl fun b1_3 hb1_3 => ?_
 refine WL.storeS #[_, _, _] ty224 rfl rfl rfl rfl (Nat.le_of_ble_eq_true rfl) rfl rfl ?_
 refine WL.nil (WE.then_normal (WC.sub (fr' := [(0, _), (1, _), (5, _)]) ?_ ⟨rfl, rfl, rfl, trivial⟩))
 refine WC.seq (WC.region ?_)
 refine WL.q (oq_loadS [_, _, _] agg224 ty224 rfl (.head _) (List.mem_singleton.2 rfl) rfl rfl) rfl rfl rfl ?_
 refine WL.q (oq_move rfl) rfl rfl rfl ?_
 refine WL.q (oq_move rfl) rfl rfl rfl ?_
 refine WL.f1 ?_
 refine WL.callW1 (encStringX _ 7 (.int .u16 0) (.slice none 0 0) k G data hdl hl) call184 rfl rfl rfl fun v2_3 Hs2_3 hR2_3 => ?_
 obtain ⟨e, rfl, rfl⟩ := hR2_3
 refine WL.to1 ?_
 refine WL.q (oq_assign rfl) rfl rfl rfl ?_
 refine WL.nil (WE.then_normal (WC.sub (fr' := [(4, _)]) ?_ ⟨rfl, trivial⟩))
 refine WC.ret ?_
 refine WE.f1 ?_
 refine WE.lose hb1_3 ?_
 refine WE.endW1 (.inl rfl) (res1 Tryz.results182 rfl) ?_
 exact ⟨_, rfl, rfl⟩
structure HV where
 name : List UInt8
 kind : Int
 width : Int
 int : Int
 text : List UInt8
def HV.row (h : HV) : List Value := [S h.name, I h.kind, I h.width, I h.int, S h.text]
def fineV (h : HV) : Prop := 0 ≤ h.kind ∧ h.kind ≤ 5 ∧ (h.kind = 1 → (h.width = 8 ∧ -128 ≤ h.int ∧ h.int ≤ 127) ∨ (h.width = 16 ∧ -32768 ≤ h.int ∧ h.int ≤ 32767) ∨ (h.width = 32 ∧ -2147483648 ≤ h.int ∧ h.int ≤ 2147483647) ∨ h.width = 64) ∧ (h.kind = 5 → h.text.length = 16) ∧ (h.kind = 4 → -9200000000000 ≤ h.int ∧ h.int ≤ 9200000000000)
def badT (h : HV) : Bool := (h.kind == 2 || h.kind == 3) && decide (32767 < h.text.length)
def tagW (w : Int) : UInt8 := if w = 8 then 2 else if w = 16 then 3 else if w = 32 then 4 else 5
def enc (h : HV) : List UInt8 :=
 if h.kind = 1 then tagW h.width :: be (h.width / 8).toNat h.int
 else if h.kind = 2 then 6 :: be 2 h.text.length ++ h.text
 else if h.kind = 3 then 7 :: be 2 h.text.length ++ h.text
 else if h.kind = 4 then 8 :: be 8 h.int
 else if h.kind = 5 then 9 :: h.text
 else [if h.int = 0 then 1 else 0]
abbrev encName : String := "given.example/pub-tinwright/pub/smithy/eventstream.encode"
def EncR (base bb : Nat) (h : HV) (acc : List UInt8) (N : Hp) (w : Value) (Hs : List Hp) : Prop :=
 if badT h then ∃ e G', w = .iface 120 e ∧ Hs = [G', N] ∧ BufG base bb acc G' else ∃ G', w = .nilIface ∧ Hs = [G', N] ∧ BufG base bb (acc ++ enc h) G'
def VOk (h : HV) (v : Value) (N : Hp) : Prop :=
 ∃ k r f, v = .iface k r ∧ Inv1 Tryz.prog k encName f ∧ ∀ base bb acc G, BufG base bb acc G → acc.length ≤ 250000 → FnW Tryz.prog f [r, (.iface 107 (Pt bb 0))] base [G, N] (EncR base bb h acc N)
theorem VOk.wide {h : HV} {v : Value} {N Z D : Hp} (hv : VOk h v N) (p : Z.Perm (N ++ D)) : VOk h v Z := by
 obtain ⟨k, r, f, rfl, hi, hf⟩ := hv
 refine ⟨k, r, f, rfl, hi, fun base bb acc G hG hl w0 R0 w hbase hw => ?_⟩
 have p1 : (([G, Z] : List Hp) ++ [R0]).flatten.Perm (([G, N] : List Hp) ++ [D ++ R0]).flatten := by
  simp only [List.cons_append, List.nil_append, List.flatten_cons, List.flatten_nil, List.append_nil, List.append_assoc]
  refine List.Perm.append_left _ ?_
  rw [← List.append_assoc]
  exact p.append_right _
 refine (hf base bb acc G hG hl w0 (D ++ R0) w hbase (hw.perm p1)).mono ?_
 rintro e w' ⟨u, Hs, he, hR, hst⟩
 have back : ∀ G' : Hp, (([G', N] : List Hp) ++ [D ++ R0]).flatten.Perm (([G', Z] : List Hp) ++ [R0]).flatten := fun G' => by
  simp only [List.cons_append, List.nil_append, List.flatten_cons, List.flatten_nil, List.append_nil, List.append_assoc]
  refine List.Perm.append_left _ ?_
  rw [← List.append_assoc]
  exact (p.append_right _).symm
 unfold EncR at hR ⊢
 split at hR
 ·obtain ⟨e1, G', rfl, rfl, hG1⟩ := hR
  exact ⟨_, [G', Z], he, by rename_i hb; rw [if_pos hb]; exact ⟨e1, G', rfl, rfl, hG1⟩, hst.perm (back G')⟩
 ·obtain ⟨G', rfl, rfl, hG'⟩ := hR
  exact ⟨_, [G', Z], he, by rename_i hb; rw [if_neg hb]; exact ⟨G', rfl, rfl, hG'⟩, hst.perm (back G')⟩
theorem vok0 {h : HV} {k : TypeId} {r : Value} {f : FuncId} (hi : Inv1 Tryz.prog k encName f) (hb : badT h = false) (hf : ∀ base bb acc G, BufG base bb acc G → acc.length ≤ 250000 → FnW Tryz.prog f [r, (.iface 107 (Pt bb 0))] base [G] (Then (BufG base bb) (acc ++ enc h) [])) : VOk h (.iface k r) [] := by
 refine ⟨k, r, f, rfl, hi, fun base bb acc G hG hl w0 R0 w hbase hw => ?_⟩
 refine (hf base bb acc G hG hl w0 R0 w hbase (by simpa using hw)).mono ?_
 rintro e w' ⟨u, Hs, he, ⟨G', rfl, rfl, hG'⟩, hst⟩
 exact ⟨_, [G', []], he, by unfold EncR; rw [hb]; exact ⟨G', rfl, rfl, hG'⟩, by simpa using hst⟩
theorem vokX {h : HV} {k : TypeId} {r : Value} {f : FuncId} (hi : Inv1 Tryz.prog k encName f) (hb : badT h = true) (hf : ∀ base bb G, FnW Tryz.prog f [r, (.iface 107 (Pt bb 0))] base [G] (fun w Hs => ∃ e, w = .iface 120 e ∧ Hs = [G])) : VOk h (.iface k r) [] := by
 refine ⟨k, r, f, rfl, hi, fun base bb acc G hG hl w0 R0 w hbase hw => ?_⟩
 refine (hf base bb G w0 R0 w hbase (by simpa using hw)).mono ?_
 rintro e w' ⟨u, Hs, he, ⟨e1, rfl, rfl⟩, hst⟩
 exact ⟨_, [G, []], he, by unfold EncR; rw [hb]; exact ⟨e1, G, rfl, rfl, hG⟩, by simpa using hst⟩
theorem invInt8Value : Inv1 Tryz.prog 127 encName 160 := fun x a w => by kernel_rfl
theorem invInt16Value : Inv1 Tryz.prog 129 encName 165 := fun x a w => by kernel_rfl
theorem invInt32Value : Inv1 Tryz.prog 130 encName 169 := fun x a w => by kernel_rfl
theorem invInt64Value : Inv1 Tryz.prog 131 encName 173 := fun x a w => by kernel_rfl
theorem invBytesValue : Inv1 Tryz.prog 132 encName 177 := fun x a w => by kernel_rfl
theorem invStringValue : Inv1 Tryz.prog 133 encName 182 := fun x a w => by kernel_rfl
theorem invTimestampValue : Inv1 Tryz.prog 134 encName 187 := fun x a w => by kernel_rfl
theorem invUUIDValue : Inv1 Tryz.prog 137 encName 193 := fun x a w => by kernel_rfl
theorem invBoolValue : Inv1 Tryz.prog 126 encName 156 := fun x a w => by kernel_rfl
theorem enc_1 {h : HV} (hk : h.kind = 1) : enc h = tagW h.width :: be (h.width / 8).toNat h.int := by unfold enc; rw [if_pos hk]
theorem bad_no {h : HV} (h2 : h.kind ≠ 2) (h3 : h.kind ≠ 3) : badT h = false := by unfold badT; simp [h2, h3]
theorem vokInt8Value {h : HV} (hk : h.kind = 1) (hw : h.width = 8) : VOk h (.iface 127 (.int .i8 h.int)) [] := by
 refine vok0 invInt8Value (bad_no (by omega) (by omega)) fun base bb acc G hG hal => ?_
 have he : enc h = 2 :: be 1 h.int := by rw [enc_1 hk, hw]; rfl
 rw [he]
 exact encInt8Value base _ _ _ _ (bufWr base bb) acc G hG h.int (by omega)
theorem vokInt16Value {h : HV} (hk : h.kind = 1) (hw : h.width = 16) : VOk h (.iface 129 (.int .i16 h.int)) [] := by
 refine vok0 invInt16Value (bad_no (by omega) (by omega)) fun base bb acc G hG hal => ?_
 have he : enc h = 3 :: be 2 h.int := by rw [enc_1 hk, hw]; rfl
 rw [he]
 exact encInt16Value base _ _ _ _ (bufWr base bb) acc G hG h.int (by omega)
theorem vokInt32Value {h : HV} (hk : h.kind = 1) (hw : h.width = 32) : VOk h (.iface 130 (.int .i32 h.int)) [] := by
 refine vok0 invInt32Value (bad_no (by omega) (by omega)) fun base bb acc G hG hal => ?_
 have he : enc h = 4 :: be 4 h.int := by rw [enc_1 hk, hw]; rfl
 rw [he]
 exact encInt32Value base _ _ _ _ (bufWr base bb) acc G hG h.int (by omega)
theorem vokInt64Value {h : HV} (hk : h.kind = 1) (hw : h.width = 64) : VOk h (.iface 131 (.int .i64 h.int)) [] := by
 refine vok0 invInt64Value (bad_no (by omega) (by omega)) fun base bb acc G hG hal => ?_
 have he : enc h = 5 :: be 8 h.int := by rw [enc_1 hk, hw]; rfl
 rw [he]
 exact encInt64Value base _ _ _ _ (bufWr base bb) acc G hG h.int (by omega)
theorem vokBytes {h : HV} {s : Value} {N : Hp} (hk : h.kind = 2) (hr : RdS 1 s N h.text.length (bytesV h.text)) (hl : h.text.length ≤ 400000) : VOk h (.iface 132 s) N := by
 refine ⟨_, _, _, rfl, invBytesValue, fun base bb acc G hG hal => ?_⟩
 by_cases hb : 32767 < h.text.length
 ·refine (encBytesValueX base _ s N G h.text hr hb hl).mono ?_
  rintro w Hs ⟨e, rfl, rfl⟩
  have hbd : badT h = true := by unfold badT; simp [hk, hb]
  unfold EncR; rw [hbd]
  exact ⟨e, G, rfl, rfl, hG⟩
 ·refine (encBytesValue base _ _ _ _ (bufWr base bb) acc G hG s N h.text hr (by omega) hal).mono ?_
  rintro w Hs ⟨G', rfl, rfl, hG'⟩
  have he : enc h = 6 :: be 2 h.text.length ++ h.text := by unfold enc; rw [if_neg (by omega), if_pos hk]
  have hbd : badT h = false := by unfold badT; simp [hb]
  unfold EncR; rw [hbd]
  exact ⟨G', rfl, rfl, by rw [he]; exact hG'⟩
theorem vokString {h : HV} (hk : h.kind = 3) (hl : h.text.length ≤ 400000) : VOk h (.iface 133 (S h.text)) [] := by
 by_cases hb : 32767 < h.text.length
 ·exact vokX invStringValue (by unfold badT; simp [hk, hb]) fun base bb G => encStringValueX base _ G h.text hb hl
 ·refine vok0 invStringValue (by unfold badT; simp [hb]) fun base bb acc G hG hal => ?_
  have he : enc h = 7 :: be 2 h.text.length ++ h.text := by unfold enc; rw [if_neg (by omega), if_neg (by omega), if_pos hk]
  rw [he]
  exact encStringValue base bb acc G hG h.text (by omega) hal
theorem vokTime {h : HV} (hk : h.kind = 4) (h1 : -9200000000000 ≤ h.int) (h2 : h.int ≤ 9200000000000) : VOk h (.iface 134 (msV h.int)) [] := by
 refine vok0 invTimestampValue (bad_no (by omega) (by omega)) fun base bb acc G hG hal => ?_
 have he : enc h = 8 :: be 8 h.int := by unfold enc; rw [if_neg (by omega), if_neg (by omega), if_neg (by omega), if_pos hk]
 rw [he]
 exact encTimestampValue base _ _ _ _ (bufWr base bb) acc G hG h.int h1 h2 (by omega)
theorem vokUUID {h : HV} (hk : h.kind = 5) (hl : h.text.length = 16) : VOk h (.iface 137 (.agg (bytesV h.text).toArray)) [] := by
 refine vok0 invUUIDValue (bad_no (by omega) (by omega)) fun base bb acc G hG hal => ?_
 have he : enc h = 9 :: h.text := by unfold enc; rw [if_neg (by omega), if_neg (by omega), if_neg (by omega), if_neg (by omega), if_pos hk]
 rw [he]
 exact encUUIDValue base _ _ _ _ (bufWr base bb) acc G hG h.text hl hal
theorem vokBool {h : HV} (hk : h.kind = 0) : VOk h (.iface 126 (.bool (decide (¬ h.int = 0)))) [] := by
 refine vok0 invBoolValue (bad_no (by omega) (by omega)) fun base bb acc G hG hal => ?_
 have he : enc h = [if (decide (¬ h.int = 0)) then 0 else 1] := by
  unfold enc; rw [if_neg (by omega), if_neg (by omega), if_neg (by omega), if_neg (by omega), if_neg (by omega)]
  by_cases h0 : h.int = 0 <;> simp [h0]
 rw [he]
 exact encBoolValue base _ _ _ _ (bufWr base bb) acc G hG _ (by omega)
theorem valueFor (h : HV) (hf : fineV h) (hl : h.text.length ≤ 400000) : FnA Tryz.prog 35 [.agg #[I h.kind, I h.width, I h.int, S h.text]] [] (fun v N => VOk h v N) := by
 obtain ⟨hk0, hk5, hwd, hun, htm⟩ := hf
 refine FnA.enter0 (n := 60) Tryz.func35 rfl rfl fun w0 => ?_
 refine WC.sub (fr' := [(0, _)]) ?_ ⟨rfl, trivial⟩
 refine WC.seq (WC.region ?_)
 refine WL.box rfl rfl rfl fun b0_0 hb0_0 => ?_
 refine WL.q (oq_assign rfl) rfl rfl rfl ?_
 refine WL.nil (WE.then_normal (WC.sub (fr' := [(1, _)]) ?_ ⟨rfl, trivial⟩))
 refine WC.seq (WC.seq (WC.region ?_))
 refine WL.q (oq_fieldAddr fld24_0 rfl) rfl rfl rfl ?_
 refine WL.q (oq_load flat3 rfl (.head _) (List.mem_singleton.2 rfl) rfl) rfl rfl rfl ?_
 refine WL.nil (WE.then_normal (WC.sub (fr' := [(1, _), (5, _)]) ?_ ⟨rfl, rfl, trivial⟩))
 refine WC.block (WC.seq (WC.region ?_))
 refine WL.q (oq_eql rfl rfl) rfl rfl rfl ?_
 refine WL.q (oq_assign rfl) rfl rfl rfl ?_
 refine WL.nil (WE.then_normal (WC.sub (fr' := [(1, _), (5, _), (6, _)]) ?_ ⟨rfl, rfl, rfl, trivial⟩))
 refine WC.cond rfl (fun q2 => ?_) (fun q2 => ?_)
 ·
  try simp only [Z1, Z2, Z3, Z4, Z5, Z6, Z7, Z8, Z9, Z0] at q2
  refine WC.seq (WC.seq (WC.region ?_))
  refine WL.q (oq_fieldAddr fld24_1 rfl) rfl rfl rfl ?_
  refine WL.q (oq_load flat3 rfl (.head _) (List.mem_singleton.2 rfl) rfl) rfl rfl rfl ?_
  refine WL.nil (WE.then_normal (WC.sub (fr' := [(1, _), (9, _)]) ?_ ⟨rfl, rfl, trivial⟩))
  refine WC.block (WC.seq (WC.region ?_))
  refine WL.q (oq_eql rfl rfl) rfl rfl rfl ?_
  refine WL.q (oq_assign rfl) rfl rfl rfl ?_
  refine WL.nil (WE.then_normal (WC.sub (fr' := [(1, _), (9, _), (10, _)]) ?_ ⟨rfl, rfl, rfl, trivial⟩))
  refine WC.cond rfl (fun q4 => ?_) (fun q4 => ?_)
  ·
   try simp only [Z1, Z2, Z3, Z4, Z5, Z6, Z7, Z8, Z9, Z0] at q4
   refine WC.seq ?_
   have hw8 := hwd q2
   refine WC.region ?_
   refine WL.q (oq_fieldAddr fld24_2 rfl) rfl rfl rfl ?_
   refine WL.q (oq_load flat2 rfl (.head _) (List.mem_singleton.2 rfl) rfl) rfl rfl rfl ?_
   refine WL.q (oq_conv Tryz.underlying2 Tryz.underlying127 rfl (by rw [i8_lo, i8_hi]; (first | omega | (simp only [List.length_cons, List.length_nil, List.length_append, List.length_drop, List.length_take]; omega)))) rfl rfl rfl ?_
   refine WL.q (oq_makeI conc127 rfl) rfl rfl rfl ?_
   refine WL.q (oq_assign rfl) rfl rfl rfl ?_
   refine WL.nil (WE.then_normal (WC.sub (fr' := [(2, _)]) ?_ ⟨rfl, trivial⟩))
   refine WC.ret (WE.block_ret (WE.then_ret (WE.block_ret (WE.then_ret ?_))))
   refine WE.lose hb0_0 ?_
   refine WE.add0 ?_
   refine WE.endA0 (.inl rfl) (res1 Tryz.results35 rfl) ?_ fresh0
   exact vokInt8Value q2 q4
  ·
   try simp only [Z1, Z2, Z3, Z4, Z5, Z6, Z7, Z8, Z9, Z0] at q4
   refine WC.seq (WC.region ?_)
   refine WL.q (oq_eql rfl rfl) rfl rfl rfl ?_
   refine WL.q (oq_assign rfl) rfl rfl rfl ?_
   refine WL.nil (WE.then_normal (WC.sub (fr' := [(1, _), (9, _), (16, _)]) ?_ ⟨rfl, rfl, rfl, trivial⟩))
   refine WC.cond rfl (fun q6 => ?_) (fun q6 => ?_)
   ·
    try simp only [Z1, Z2, Z3, Z4, Z5, Z6, Z7, Z8, Z9, Z0] at q6
    refine WC.seq ?_
    have hw8 := hwd q2
    refine WC.region ?_
    refine WL.q (oq_fieldAddr fld24_2 rfl) rfl rfl rfl ?_
    refine WL.q (oq_load flat2 rfl (.head _) (List.mem_singleton.2 rfl) rfl) rfl rfl rfl ?_
    refine WL.q (oq_conv Tryz.underlying2 Tryz.underlying129 rfl (by rw [i16_lo, i16_hi]; (first | omega | (simp only [List.length_cons, List.length_nil, List.length_append, List.length_drop, List.length_take]; omega)))) rfl rfl rfl ?_
    refine WL.q (oq_makeI conc129 rfl) rfl rfl rfl ?_
    refine WL.q (oq_assign rfl) rfl rfl rfl ?_
    refine WL.nil (WE.then_normal (WC.sub (fr' := [(2, _)]) ?_ ⟨rfl, trivial⟩))
    refine WC.ret (WE.block_ret (WE.then_ret (WE.block_ret (WE.then_ret ?_))))
    refine WE.lose hb0_0 ?_
    refine WE.add0 ?_
    refine WE.endA0 (.inl rfl) (res1 Tryz.results35 rfl) ?_ fresh0
    exact vokInt16Value q2 q6
   ·
    try simp only [Z1, Z2, Z3, Z4, Z5, Z6, Z7, Z8, Z9, Z0] at q6
    refine WC.seq (WC.region ?_)
    refine WL.q (oq_eql rfl rfl) rfl rfl rfl ?_
    refine WL.q (oq_assign rfl) rfl rfl rfl ?_
    refine WL.nil (WE.then_normal (WC.sub (fr' := [(1, _), (22, _)]) ?_ ⟨rfl, rfl, trivial⟩))
    refine WC.cond rfl (fun q8 => ?_) (fun q8 => ?_)
    ·
     try simp only [Z1, Z2, Z3, Z4, Z5, Z6, Z7, Z8, Z9, Z0] at q8
     refine WC.seq ?_
     have hw8 := hwd q2
     refine WC.region ?_
     refine WL.q (oq_fieldAddr fld24_2 rfl) rfl rfl rfl ?_
     refine WL.q (oq_load flat2 rfl (.head _) (List.mem_singleton.2 rfl) rfl) rfl rfl rfl ?_
     refine WL.q (oq_conv Tryz.underlying2 Tryz.underlying130 rfl (by rw [i32_lo, i32_hi]; (first | omega | (simp only [List.length_cons, List.length_nil, List.length_append, List.length_drop, List.length_take]; omega)))) rfl rfl rfl ?_
     refine WL.q (oq_makeI conc130 rfl) rfl rfl rfl ?_
     refine WL.q (oq_assign rfl) rfl rfl rfl ?_
     refine WL.nil (WE.then_normal (WC.sub (fr' := [(2, _)]) ?_ ⟨rfl, trivial⟩))
     refine WC.ret (WE.block_ret (WE.then_ret (WE.block_ret (WE.then_ret ?_))))
     refine WE.lose hb0_0 ?_
     refine WE.add0 ?_
     refine WE.endA0 (.inl rfl) (res1 Tryz.results35 rfl) ?_ fresh0
     exact vokInt32Value q2 q8
    ·
     try simp only [Z1, Z2, Z3, Z4, Z5, Z6, Z7, Z8, Z9, Z0] at q8
     refine WC.skip (WE.block_normal (WE.then_normal (WC.sub (fr' := [(1, _)]) ?_ ⟨rfl, trivial⟩)))
     refine WC.seq ?_
     have hw8 := hwd q2
     refine WC.region ?_
     refine WL.q (oq_fieldAddr fld24_2 rfl) rfl rfl rfl ?_
     refine WL.q (oq_load flat2 rfl (.head _) (List.mem_singleton.2 rfl) rfl) rfl rfl rfl ?_
     refine WL.q (oq_makeI conc131 rfl) rfl rfl rfl ?_
     refine WL.q (oq_assign rfl) rfl rfl rfl ?_
     refine WL.nil (WE.then_normal (WC.sub (fr' := [(2, _)]) ?_ ⟨rfl, trivial⟩))
     refine WC.ret (WE.block_ret (WE.then_ret ?_))
     refine WE.lose hb0_0 ?_
     refine WE.add0 ?_
     refine WE.endA0 (.inl rfl) (res1 Tryz.results35 rfl) ?_ fresh0
     exact vokInt64Value q2 (by omega)
 ·
  try simp only [Z1, Z2, Z3, Z4, Z5, Z6, Z7, Z8, Z9, Z0] at q2
  refine WC.seq (WC.region ?_)
  refine WL.q (oq_eql rfl rfl) rfl rfl rfl ?_
  refine WL.q (oq_assign rfl) rfl rfl rfl ?_
  refine WL.nil (WE.then_normal (WC.sub (fr' := [(1, _), (5, _), (31, _)]) ?_ ⟨rfl, rfl, rfl, trivial⟩))
  refine WC.cond rfl (fun q11 => ?_) (fun q11 => ?_)
  ·
   try simp only [Z1, Z2, Z3, Z4, Z5, Z6, Z7, Z8, Z9, Z0] at q11
   refine WC.seq (WC.region ?_)
   refine WL.q (oq_fieldAddr fld24_3 rfl) rfl rfl rfl ?_
   refine WL.q (oq_load flat9 rfl (.head _) (List.mem_singleton.2 rfl) rfl) rfl rfl rfl ?_
   refine WL.toBytes Tryz.underlying9 Tryz.underlying132 Tryz.underlying5 rfl (by unfold maxLen; (first | omega | (simp only [List.length_cons, List.length_nil, List.length_append, List.length_drop, List.length_take]; omega))) rfl rfl fun v12_2 A12_2 hr12_2 hA12_2 => ?_
   refine WL.q (oq_makeI conc132 rfl) rfl rfl rfl ?_
   refine WL.q (oq_assign rfl) rfl rfl rfl ?_
   refine WL.nil (WE.then_normal (WC.sub (fr' := [(2, _)]) ?_ ⟨rfl, trivial⟩))
   refine WC.ret (WE.block_ret (WE.then_ret ?_))
   refine WE.f1 ?_
   refine WE.lose hb0_0 ?_
   refine WE.endA0 (.inl rfl) (res1 Tryz.results35 rfl) ?_ (hA12_2)
   exact vokBytes q11 hr12_2 hl
  ·
   try simp only [Z1, Z2, Z3, Z4, Z5, Z6, Z7, Z8, Z9, Z0] at q11
   refine WC.seq (WC.region ?_)
   refine WL.q (oq_eql rfl rfl) rfl rfl rfl ?_
   refine WL.q (oq_assign rfl) rfl rfl rfl ?_
   refine WL.nil (WE.then_normal (WC.sub (fr' := [(1, _), (5, _), (37, _)]) ?_ ⟨rfl, rfl, rfl, trivial⟩))
   refine WC.cond rfl (fun q13 => ?_) (fun q13 => ?_)
   ·
    try simp only [Z1, Z2, Z3, Z4, Z5, Z6, Z7, Z8, Z9, Z0] at q13
    refine WC.seq (WC.region ?_)
    refine WL.q (oq_fieldAddr fld24_3 rfl) rfl rfl rfl ?_
    refine WL.q (oq_load flat9 rfl (.head _) (List.mem_singleton.2 rfl) rfl) rfl rfl rfl ?_
    refine WL.q (oq_makeI conc133 rfl) rfl rfl rfl ?_
    refine WL.q (oq_assign rfl) rfl rfl rfl ?_
    refine WL.nil (WE.then_normal (WC.sub (fr' := [(2, _)]) ?_ ⟨rfl, trivial⟩))
    refine WC.ret (WE.block_ret (WE.then_ret ?_))
    refine WE.lose hb0_0 ?_
    refine WE.add0 ?_
    refine WE.endA0 (.inl rfl) (res1 Tryz.results35 rfl) ?_ fresh0
    exact vokString q13 hl
   ·
    try simp only [Z1, Z2, Z3, Z4, Z5, Z6, Z7, Z8, Z9, Z0] at q13
    refine WC.seq (WC.region ?_)
    refine WL.q (oq_eql rfl rfl) rfl rfl rfl ?_
    refine WL.q (oq_assign rfl) rfl rfl rfl ?_
    refine WL.nil (WE.then_normal (WC.sub (fr' := [(1, _), (5, _), (42, _)]) ?_ ⟨rfl, rfl, rfl, trivial⟩))
    refine WC.cond rfl (fun q15 => ?_) (fun q15 => ?_)
    ·
     try simp only [Z1, Z2, Z3, Z4, Z5, Z6, Z7, Z8, Z9, Z0] at q15
     refine WC.seq ?_
     have htm2 := htm q15
     refine WC.region ?_
     refine WL.q (oq_fieldAddr fld24_2 rfl) rfl rfl rfl ?_
     refine WL.q (oq_load flat2 rfl (.head _) (List.mem_singleton.2 rfl) rfl) rfl rfl rfl ?_
     refine WL.qc (oq_call (unixMilli h.int htm2.1 htm2.2) call43 rfl) rfl rfl rfl ?_
     refine WL.q (oq_makeI conc134 rfl) rfl rfl rfl ?_
     refine WL.q (oq_assign rfl) rfl rfl rfl ?_
     refine WL.nil (WE.then_normal (WC.sub (fr' := [(2, _)]) ?_ ⟨rfl, trivial⟩))
     refine WC.ret (WE.block_ret (WE.then_ret ?_))
     refine WE.lose hb0_0 ?_
     refine WE.add0 ?_
     refine WE.endA0 (.inl rfl) (res1 Tryz.results35 rfl) ?_ fresh0
     exact vokTime q15 htm2.1 htm2.2
    ·
     try simp only [Z1, Z2, Z3, Z4, Z5, Z6, Z7, Z8, Z9, Z0] at q15
     refine WC.seq (WC.region ?_)
     refine WL.q (oq_eql rfl rfl) rfl rfl rfl ?_
     refine WL.q (oq_assign rfl) rfl rfl rfl ?_
     refine WL.nil (WE.then_normal (WC.sub (fr' := [(1, _), (48, _)]) ?_ ⟨rfl, rfl, trivial⟩))
     refine WC.cond rfl (fun q17 => ?_) (fun q17 => ?_)
     ·
      try simp only [Z1, Z2, Z3, Z4, Z5, Z6, Z7, Z8, Z9, Z0] at q17
      refine WC.seq ?_
      have hul := hun q17
      refine WC.region ?_
      refine WL.alloc ty137 rfl rfl fun ub hub => ?_
      refine WL.asB (List.replicate 16 0) rfl ?_
      refine WL.nil (WE.then_normal (WC.sub (fr' := [(1, _), (3, _)]) ?_ ⟨rfl, rfl, trivial⟩))
      refine WC.seq ?_
      refine WC.tailM (pl := []) (ql := [_, _, _]) (tl := [_]) [] [0, 1, 2] 3 [] (by kernel_rfl) (by kernel_rfl) (by kernel_rfl) (by kernel_rfl) (by kernel_rfl) (by kernel_rfl) (by decide) rfl rfl rfl (by decide) (by repeat (first | with_reducible exact QOk.body | with_reducible apply QOk.then | with_reducible apply QOk.block | exact QOk.body | apply QOk.then | apply QOk.block)) ?_
      refine WM.nil ?_
      refine WY.q (oq_sliceArr Tryz.underlying137 ty5 rfl rfl rfl (by (first | (simp only [List.length_replicate]; omega) | omega)) (by (first | (simp only [List.length_replicate]; omega) | omega))) rfl rfl rfl ?_
      refine WY.q (oq_fieldAddr fld24_3 rfl) rfl rfl rfl ?_
      refine WY.q (oq_load flat9 rfl (.tail _ (.head _)) (List.mem_singleton.2 rfl) rfl) rfl rfl rfl ?_
      refine WY.nil ?_
      refine WL.copyBS Tryz.underlying28 ty5 rfl rfl (by (first | (simp only [List.length_replicate]; omega) | omega)) rfl rfl ?_
      refine WL.nil (WE.then_normal (WC.sub (fr' := [(3, _)]) ?_ ⟨rfl, trivial⟩))
      refine WC.seq ?_
      have hcp : List.take (0 + 0) (List.replicate 16 0) ++ List.take (min h.text.length (16 - 0)) h.text ++ List.drop (0 + 0 + min h.text.length (16 - 0)) (List.replicate 16 0) = h.text := by
       rw [hul, List.take_of_length_le (l := h.text) (by omega)]; simp
      rw [hcp]
      refine WC.region ?_
      refine WL.q (oq_loadArr agg137 ty137 (hul) rfl (.head _)) rfl rfl rfl ?_
      refine WL.q (oq_makeI conc137 rfl) rfl rfl rfl ?_
      refine WL.q (oq_assign rfl) rfl rfl rfl ?_
      refine WL.nil (WE.then_normal (WC.sub (fr' := [(2, _)]) ?_ ⟨rfl, trivial⟩))
      refine WC.ret (WE.block_ret (WE.then_ret ?_))
      refine WE.lose hub ?_
      refine WE.lose hb0_0 ?_
      refine WE.add0 ?_
      refine WE.endA0 (.inl rfl) (res1 Tryz.results35 rfl) ?_ fresh0
      exact vokUUID q17 hul
     ·
      try simp only [Z1, Z2, Z3, Z4, Z5, Z6, Z7, Z8, Z9, Z0] at q17
      refine WC.skip (WE.block_normal (WE.then_normal (WC.sub (fr' := [(1, _)]) ?_ ⟨rfl, trivial⟩)))
      refine WC.seq (WC.region ?_)
      refine WL.q (oq_fieldAddr fld24_2 rfl) rfl rfl rfl ?_
      refine WL.q (oq_load flat2 rfl (.head _) (List.mem_singleton.2 rfl) rfl) rfl rfl rfl ?_
      refine WL.q (oq_neq rfl rfl) rfl rfl rfl ?_
      refine WL.q (oq_makeI conc126 rfl) rfl rfl rfl ?_
      refine WL.q (oq_assign rfl) rfl rfl rfl ?_
      refine WL.nil (WE.then_normal (WC.sub (fr' := [(2, _)]) ?_ ⟨rfl, trivial⟩))
      refine WC.ret ?_
      refine WE.lose hb0_0 ?_
      refine WE.add0 ?_
      refine WE.endA0 (.inl rfl) (res1 Tryz.results35 rfl) ?_ fresh0
      exact vokBool (by omega)
end EI
end Go.Proofs.YtodlhaghdplclaaGreatDoor
/- Lists of headers. -/
namespace Go.Proofs.YtodlhaghdplclaaGreatDoor
open Go Go.RowKit V EA EB EC ED EE EF EG EH EI
set_option linter.unusedSimpArgs false
set_option linter.unusedVariables false
set_option maxRecDepth 10000
namespace EJ
theorem call35 : Callable Tryz.prog 35 := ⟨_, Tryz.func35, rfl, by kernel_rfl⟩
theorem call76 : Callable Tryz.prog 76 := ⟨_, Tryz.func76, rfl, by kernel_rfl⟩
theorem flat5 : Flat Tryz.prog 5 := ⟨_, Tryz.underlying5, by simp⟩
theorem flat9 : Flat Tryz.prog 9 := ⟨_, Tryz.underlying9, by simp⟩
theorem flat60 : Flat Tryz.prog 60 := ⟨_, Tryz.underlying60, by simp⟩
theorem ty5 : Ty Tryz.prog 5 (.int .u8 0) 1 1 := ty_of (by kernel_rfl)
theorem ty9 : Ty Tryz.prog 9 (S []) 1 16 := ty_of (by kernel_rfl)
theorem ty24 : Ty Tryz.prog 24 (.agg #[(.int .i64 0), (.int .i64 0), (.int .i64 0), (S [])]) 4 40 := ty_of (by kernel_rfl)
theorem ty32 : Ty Tryz.prog 32 (.agg #[(S []), (.int .i64 0), (.int .i64 0), (.int .i64 0), (S [])]) 5 56 := ty_of (by kernel_rfl)
theorem ty60 : Ty Tryz.prog 60 .nilIface 1 16 := ty_of (by kernel_rfl)
theorem ty120 : Ty Tryz.prog 120 (.agg #[(S []), (.int .i64 0), (.int .i64 0), .nilIface]) 4 48 := ty_of (by kernel_rfl)
theorem ty125 : Ty Tryz.prog 125 (.agg #[(S []), .nilIface]) 2 32 := ty_of (by kernel_rfl)
theorem ty172 : Ty Tryz.prog 172 (.agg #[(.int .u8 0), (.int .u8 0), (.int .u8 0), (.int .u8 0), (.int .u8 0), (.int .u8 0), (.int .u8 0), (.int .u8 0), (.int .u8 0), (.int .u8 0), (.int .u8 0), (.int .u8 0), (.int .u8 0), (.int .u8 0), (.int .u8 0), (.int .u8 0), (.int .u8 0), (.int .u8 0), (.int .u8 0), (.int .u8 0), (.int .u8 0), (.int .u8 0), (.int .u8 0), (.int .u8 0), (.int .u8 0), (.int .u8 0), (.int .u8 0), (.int .u8 0), (.int .u8 0), (.int .u8 0), (.int .u8 0), (.int .u8 0), (.int .u8 0), (.int .u8 0), (.int .u8 0), (.int .u8 0), (.int .u8 0), (.int .u8 0), (.int .u8 0), (.int .u8 0), (.int .u8 0), (.int .u8 0), (.int .u8 0), (.int .u8 0), (.int .u8 0), (.int .u8 0), (.int .u8 0), (.int .u8 0), (.int .u8 0), (.int .u8 0), (.int .u8 0), (.int .u8 0), (.int .u8 0), (.int .u8 0), (.int .u8 0), (.int .u8 0), (.int .u8 0), (.int .u8 0), (.int .u8 0), (.int .u8 0), (.int .u8 0), (.int .u8 0), (.int .u8 0), (.int .u8 0), (.int .u8 0), (.int .u8 0), (.int .u8 0), (.int .u8 0), (.int .u8 0), (.int .u8 0), (.int .u8 0), (.int .u8 0), (.int .u8 0), (.int .u8 0), (.int .u8 0), (.int .u8 0), (.int .u8 0), (.int .u8 0), (.int .u8 0), (.int .u8 0), (.int .u8 0), (.int .u8 0), (.int .u8 0), (.int .u8 0), (.int .u8 0), (.int .u8 0), (.int .u8 0), (.int .u8 0), (.int .u8 0), (.int .u8 0), (.int .u8 0), (.int .u8 0), (.int .u8 0), (.int .u8 0), (.int .u8 0), (.int .u8 0), (.int .u8 0), (.int .u8 0), (.int .u8 0), (.int .u8 0), (.int .u8 0), (.int .u8 0), (.int .u8 0), (.int .u8 0), (.int .u8 0), (.int .u8 0), (.int .u8 0), (.int .u8 0), (.int .u8 0), (.int .u8 0), (.int .u8 0), (.int .u8 0), (.int .u8 0), (.int .u8 0), (.int .u8 0), (.int .u8 0), (.int .u8 0), (.int .u8 0), (.int .u8 0), (.int .u8 0), (.int .u8 0), (.int .u8 0), (.int .u8 0), (.int .u8 0), (.int .u8 0), (.int .u8 0), (.int .u8 0), (.int .u8 0), (.int .u8 0), (.int .u8 0), (.int .u8 0), (.int .u8 0), (.int .u8 0), (.int .u8 0), (.int .u8 0), (.int .u8 0), (.int .u8 0), (.int .u8 0), (.int .u8 0), (.int .u8 0), (.int .u8 0), (.int .u8 0), (.int .u8 0), (.int .u8 0), (.int .u8 0), (.int .u8 0), (.int .u8 0), (.int .u8 0), (.int .u8 0), (.int .u8 0), (.int .u8 0), (.int .u8 0), (.int .u8 0), (.int .u8 0), (.int .u8 0), (.int .u8 0), (.int .u8 0), (.int .u8 0), (.int .u8 0), (.int .u8 0), (.int .u8 0), (.int .u8 0), (.int .u8 0), (.int .u8 0), (.int .u8 0), (.int .u8 0), (.int .u8 0), (.int .u8 0), (.int .u8 0), (.int .u8 0), (.int .u8 0), (.int .u8 0), (.int .u8 0), (.int .u8 0), (.int .u8 0), (.int .u8 0), (.int .u8 0), (.int .u8 0), (.int .u8 0), (.int .u8 0), (.int .u8 0), (.int .u8 0), (.int .u8 0), (.int .u8 0), (.int .u8 0), (.int .u8 0), (.int .u8 0), (.int .u8 0), (.int .u8 0), (.int .u8 0), (.int .u8 0), (.int .u8 0), (.int .u8 0), (.int .u8 0), (.int .u8 0), (.int .u8 0), (.int .u8 0), (.int .u8 0), (.int .u8 0), (.int .u8 0), (.int .u8 0), (.int .u8 0), (.int .u8 0), (.int .u8 0), (.int .u8 0), (.int .u8 0), (.int .u8 0), (.int .u8 0), (.int .u8 0), (.int .u8 0), (.int .u8 0), (.int .u8 0), (.int .u8 0), (.int .u8 0), (.int .u8 0), (.int .u8 0), (.int .u8 0), (.int .u8 0), (.int .u8 0), (.int .u8 0), (.int .u8 0), (.int .u8 0), (.int .u8 0), (.int .u8 0), (.int .u8 0), (.int .u8 0), (.int .u8 0), (.int .u8 0), (.int .u8 0), (.int .u8 0), (.int .u8 0), (.int .u8 0), (.int .u8 0), (.int .u8 0), (.int .u8 0), (.int .u8 0), (.int .u8 0), (.int .u8 0), (.int .u8 0), (.int .u8 0), (.int .u8 0), (.int .u8 0), (.int .u8 0), (.int .u8 0), (.int .u8 0), (.int .u8 0), (.int .u8 0), (.int .u8 0), (.int .u8 0), (.int .u8 0), (.int .u8 0), (.int .u8 0), (.int .u8 0), (.int .u8 0), (.int .u8 0)]) 255 255 := ty_of (by kernel_rfl)
theorem ty174 : Ty Tryz.prog 174 (.agg #[(.int .u8 0), (.int .u8 0), (.int .u8 0), (.int .u8 0), (.int .u8 0), (.int .u8 0), (.int .u8 0), (.int .u8 0), (.int .u8 0), (.int .u8 0), (.int .u8 0), (.int .u8 0), (.int .u8 0), (.int .u8 0), (.int .u8 0), (.int .u8 0), (.int .u8 0), (.int .u8 0), (.int .u8 0), (.int .u8 0), (.int .u8 0), (.int .u8 0), (.int .u8 0), (.int .u8 0), (.int .u8 0), (.int .u8 0), (.int .u8 0), (.int .u8 0), (.int .u8 0), (.int .u8 0), (.int .u8 0), (.int .u8 0), (.int .u8 0), (.int .u8 0), (.int .u8 0), (.int .u8 0), (.int .u8 0), (.int .u8 0), (.int .u8 0), (.int .u8 0), (.int .u8 0), (.int .u8 0), (.int .u8 0), (.int .u8 0), (.int .u8 0), (.int .u8 0), (.int .u8 0), (.int .u8 0), (.int .u8 0), (.int .u8 0), (.int .u8 0), (.int .u8 0), (.int .u8 0), (.int .u8 0), (.int .u8 0), (.int .u8 0), (.int .u8 0), (.int .u8 0), (.int .u8 0), (.int .u8 0), (.int .u8 0), (.int .u8 0), (.int .u8 0), (.int .u8 0), (.int .u8 0), (.int .u8 0), (.int .u8 0), (.int .u8 0), (.int .u8 0), (.int .u8 0), (.int .u8 0), (.int .u8 0), (.int .u8 0), (.int .u8 0), (.int .u8 0), (.int .u8 0), (.int .u8 0), (.int .u8 0), (.int .u8 0), (.int .u8 0), (.int .u8 0), (.int .u8 0), (.int .u8 0), (.int .u8 0), (.int .u8 0), (.int .u8 0), (.int .u8 0), (.int .u8 0), (.int .u8 0), (.int .u8 0), (.int .u8 0), (.int .u8 0), (.int .u8 0), (.int .u8 0), (.int .u8 0), (.int .u8 0), (.int .u8 0), (.int .u8 0), (.int .u8 0), (.int .u8 0), (.int .u8 0), (.int .u8 0), (.int .u8 0), (.int .u8 0), (.int .u8 0), (.int .u8 0), (.int .u8 0), (.int .u8 0), (.int .u8 0), (.int .u8 0), (.int .u8 0), (.int .u8 0), (.int .u8 0), (.int .u8 0), (.int .u8 0), (.int .u8 0), (.int .u8 0), (.int .u8 0), (.int .u8 0), (.int .u8 0), (.int .u8 0), (.int .u8 0), (.int .u8 0), (.int .u8 0), (.int .u8 0), (.int .u8 0), (.int .u8 0), (.int .u8 0), (.int .u8 0), (.int .u8 0), (.int .u8 0), (.int .u8 0), (.int .u8 0), (.int .u8 0), (.int .u8 0), (.int .u8 0), (.int .u8 0), (.int .u8 0), (.int .u8 0), (.int .u8 0), (.int .u8 0), (.int .u8 0), (.int .u8 0), (.int .u8 0), (.int .u8 0), (.int .u8 0), (.int .u8 0), (.int .u8 0), (.int .u8 0), (.int .u8 0), (.int .u8 0), (.int .u8 0), (.int .u8 0), (.int .u8 0), (.int .u8 0), (.int .u8 0), (.int .u8 0), (.int .u8 0), (.int .u8 0), (.int .u8 0), (.int .u8 0), (.int .u8 0), (.int .u8 0), (.int .u8 0), (.int .u8 0), (.int .u8 0), (.int .u8 0), (.int .u8 0), (.int .u8 0), (.int .u8 0), (.int .u8 0), (.int .u8 0), (.int .u8 0), (.int .u8 0), (.int .u8 0), (.int .u8 0), (.int .u8 0), (.int .u8 0), (.int .u8 0), (.int .u8 0), (.int .u8 0), (.int .u8 0), (.int .u8 0), (.int .u8 0), (.int .u8 0), (.int .u8 0), (.int .u8 0), (.int .u8 0), (.int .u8 0), (.int .u8 0), (.int .u8 0), (.int .u8 0), (.int .u8 0), (.int .u8 0), (.int .u8 0), (.int .u8 0), (.int .u8 0), (.int .u8 0), (.int .u8 0), (.int .u8 0), (.int .u8 0), (.int .u8 0), (.int .u8 0), (.int .u8 0), (.int .u8 0), (.int .u8 0), (.int .u8 0), (.int .u8 0), (.int .u8 0), (.int .u8 0), (.int .u8 0), (.int .u8 0), (.int .u8 0), (.int .u8 0), (.int .u8 0), (.int .u8 0), (.int .u8 0), (.int .u8 0), (.int .u8 0), (.int .u8 0), (.int .u8 0), (.int .u8 0), (.int .u8 0), (.int .u8 0), (.int .u8 0), (.int .u8 0), (.int .u8 0), (.int .u8 0), (.int .u8 0), (.int .u8 0), (.int .u8 0), (.int .u8 0), (.int .u8 0), (.int .u8 0), (.int .u8 0), (.int .u8 0), (.int .u8 0), (.int .u8 0), (.int .u8 0), (.int .u8 0), (.int .u8 0), (.int .u8 0), (.int .u8 0), (.int .u8 0), (.int .u8 0), (.int .u8 0), (.int .u8 0), (.int .u8 0), (.int .u8 0), (.int .u8 0), (.int .u8 0), (.int .u8 0), (.int .u8 0), (.int .u8 0), (.int .u8 0), (.int .u8 0)]) 256 256 := ty_of (by kernel_rfl)
theorem conc9 : Conc Tryz.prog 9 := ⟨_, Tryz.underlying9, by simp⟩
theorem conc120 : Conc Tryz.prog 120 := ⟨_, Tryz.underlying120, by simp⟩
theorem agg24 : Agg Tryz.prog 24 := agg_of Tryz.underlying24
theorem agg32 : Agg Tryz.prog 32 := agg_of Tryz.underlying32
theorem agg125 : Agg Tryz.prog 125 := agg_of Tryz.underlying125
theorem agg174 : Agg Tryz.prog 174 := agg_of Tryz.underlying174
theorem str120 : Str Tryz.prog 120 #[(0, 1), (1, 1), (2, 1), (3, 1)] := ⟨_, Tryz.underlying120, fun w => by kernel_rfl⟩
theorem str125 : Str Tryz.prog 125 #[(0, 1), (1, 1)] := ⟨_, Tryz.underlying125, fun w => by kernel_rfl⟩
theorem str174 : Str Tryz.prog 174 #[(0, 1), (1, 255)] := ⟨_, Tryz.underlying174, fun w => by kernel_rfl⟩
theorem fld32_0 : Fld Tryz.prog 32 0 0 9 := fld_of Tryz.underlying32 rfl rfl rfl ty9 (by decide)
theorem fld32_1 : Fld Tryz.prog 32 1 1 24 := fld_of Tryz.underlying32 rfl rfl rfl ty24 (by decide)
theorem fld125_0 : Fld Tryz.prog 125 0 0 9 := fld_of Tryz.underlying125 rfl rfl rfl ty9 (by decide)
theorem fld125_1 : Fld Tryz.prog 125 1 1 60 := fld_of Tryz.underlying125 rfl rfl rfl ty60 (by decide)
theorem fld174_0 : Fld Tryz.prog 174 0 0 5 := fld_of Tryz.underlying174 rfl rfl rfl ty5 (by decide)
theorem fld174_1 : Fld Tryz.prog 174 1 1 172 := fld_of Tryz.underlying174 rfl rfl rfl ty172 (by decide)
abbrev HV0 : HV := ⟨[], 0, 0, 0, []⟩
structure PV where
 name : List UInt8
 k : TypeId
 r : Value
def PV.row (p : PV) : List Value := [S p.name, .iface p.k p.r]
abbrev PV0 : PV := ⟨[], 0, .nilIface⟩
def Pair (l : List HV) (ps : List PV) (Z : Hp) : Prop := ps.length = l.length ∧ ∀ i, i < l.length → (ps.getD i PV0).name = (l.getD i HV0).name ∧ VOk (l.getD i HV0) (.iface (ps.getD i PV0).k (ps.getD i PV0).r) Z
theorem Pair.nil : Pair [] [] [] := ⟨rfl, fun i h => nomatch h⟩
theorem Pair.snoc {l : List HV} {i : Nat} {ps : List PV} {Z N : Hp} {k : TypeId} {r : Value} (h : Pair (l.take i) ps Z) (hi : i < l.length) (hv : VOk (l.getD i HV0) (.iface k r) N) : Pair (l.take (i + 1)) (ps ++ [⟨(l.getD i HV0).name, k, r⟩]) (N ++ Z) := by
 have hl : ps.length = i := by rw [h.1, List.length_take]; omega
 refine ⟨by simp [h.1]; omega, fun j hj => ?_⟩
 rw [List.length_take] at hj
 have ht : ∀ m, j < m → (l.take m).getD j HV0 = l.getD j HV0 := fun m hm => by simp [List.getD_eq_getElem?_getD, List.getElem?_take, hm]
 rcases Nat.lt_or_ge j i with hji | hji
 ·have h2 := h.2 j (by rw [List.length_take]; omega)
  rw [ht _ hji] at h2
  rw [ht _ (by omega)]
  have he : (ps ++ [(⟨(l.getD i HV0).name, k, r⟩ : PV)]).getD j PV0 = ps.getD j PV0 := by
   simp [List.getD_eq_getElem?_getD, List.getElem?_append, hl, hji]
  rw [he]
  exact ⟨h2.1, h2.2.wide (List.perm_append_comm)⟩
 ·obtain rfl : j = i := by omega
  rw [ht _ (by omega)]
  have he : (ps ++ [(⟨(l.getD j HV0).name, k, r⟩ : PV)]).getD j PV0 = ⟨(l.getD j HV0).name, k, r⟩ := by
   simp [List.getD_eq_getElem?_getD, List.getElem?_append, hl]
  rw [he]
  exact ⟨rfl, hv.wide (List.Perm.refl _)⟩
theorem recsPV_snoc (ps : List PV) (p : PV) : recsV PV.row ps ++ [S p.name, .iface p.k p.r] = recsV PV.row (ps ++ [p]) := by
 unfold recsV; rw [List.flatMap_append]; simp [PV.row]
theorem onePV (n : List UInt8) (k : TypeId) (r : Value) : ∀ u ∈ [S n, Value.iface k r], u.oneCell' = true := fun u hu => by
 rcases List.mem_cons.1 hu with rfl | hu
 ·rfl
 ·rw [List.mem_singleton] at hu; subst hu; rfl
def okH (l : List HV) : Prop := ∀ i, i < l.length → fineV (l.getD i HV0) ∧ (l.getD i HV0).text.length ≤ 400000
def HsOk (l : List HV) (v : Value) (N : Hp) : Prop := ∃ ps M Z, N = M ++ Z ∧ RdS 2 v M ps.length (recsV PV.row ps) ∧ Pair l ps Z
theorem headersFor (v : Value) (L : Hp) (l : List HV) (hr : RdS 5 v L l.length (recsV HV.row l)) (hok : okH l) (hn : l.length ≤ 1000) : FnA Tryz.prog 31 [v] L (HsOk l) := by
 refine FnA.enter (n := 23) Tryz.func31 rfl rfl fun w0 => ?_
 refine WC.sub (fr' := [(0, _)]) ?_ ⟨rfl, trivial⟩
 refine WC.seq (WC.region ?_)
 refine WL.q (oq_assign rfl) rfl rfl rfl ?_
 refine WL.nil (WE.then_normal (WC.sub (fr' := [(0, _)]) ?_ ⟨rfl, trivial⟩))
 refine WC.seq ?_
 refine WC.add0 ?_
 refine WC.add0 ?_
 refine WC.region ?_
 refine WL.q (oq_assign rfl) rfl rfl rfl ?_
 refine WL.nil (WE.then_normal (WC.sub (fr' := [(0, _), (3, _)]) ?_ ⟨rfl, rfl, trivial⟩))
 refine WC.seq (WC.seq (WC.region ?_))
 refine WL.q (oq_move rfl) rfl rfl rfl ?_
 refine WL.q (oq_len_rd hr Tryz.underlying22 rfl) rfl rfl rfl ?_
 refine WL.q (oq_move rfl) rfl rfl rfl ?_
 refine WL.nil (WE.then_normal (WC.sub (fr' := [(3, _), (6, _), (7, _), (8, _)]) ?_ ⟨rfl, rfl, rfl, rfl, trivial⟩))
 refine WC.block ?_
 refine WC.f2 ?_
 refine WC.f1 ?_
 refine WC.f2 ?_
 refine WC.loop (ι := Nat × Value × Hp × Hp × (List PV)) (fun i_ => (fun (i : Nat) (u : Value) (B : Hp) (Z : Hp) (ps : List PV) => [(3, u), (6, v), (7, I (l.length : Int)), (8, I (i : Int))]) i_.1 i_.2.1 i_.2.2.1 i_.2.2.2.1 i_.2.2.2.2) (fun i_ => (fun (i : Nat) (u : Value) (B : Hp) (Z : Hp) (ps : List PV) => [B, Z, L]) i_.1 i_.2.1 i_.2.2.1 i_.2.2.2.1 i_.2.2.2.2) (fun i_ => (fun (i : Nat) (u : Value) (B : Hp) (Z : Hp) (ps : List PV) => i ≤ l.length ∧ (∀ b o, (b, o) ∈ Z → w0.heap.size ≤ b) ∧ OwS w0.heap.size 125 2 u B ps.length (recsV PV.row ps) ∧ Pair (l.take i) ps Z) i_.1 i_.2.1 i_.2.2.1 i_.2.2.2.1 i_.2.2.2.2) (fun i_ => (fun (i : Nat) (u : Value) (B : Hp) (Z : Hp) (ps : List PV) => l.length - i) i_.1 i_.2.1 i_.2.2.1 i_.2.2.2.1 i_.2.2.2.2) ((0, _, _, [], [])) ?_ ⟨rfl, rfl, rfl, rfl, trivial⟩ (List.Perm.refl _) ?_
 ·try dsimp only
  exact ⟨by omega, (fun _ _ h => nomatch h), OwS.nil _ _ _, by simpa using Pair.nil⟩
 ·rintro ⟨i, u, B, Z, ps⟩ hp
  try dsimp only at hp
  obtain ⟨hi, hZ, ho, hp⟩ := hp
  show WC _ _ _ _ _ _ ([(3, u), (6, v), (7, I (l.length : Int)), (8, I (i : Int))]) ([B, Z, L])
  refine WC.seq (WC.region ?_)
  refine WL.q (oq_lss rfl rfl) rfl rfl rfl ?_
  refine WL.nil (WE.then_normal (WC.sub (fr' := [(3, _), (6, _), (7, _), (8, _), (9, _)]) ?_ ⟨rfl, rfl, rfl, rfl, rfl, trivial⟩))
  refine WC.seq ?_
  refine WC.cond rfl (fun q3 => ?_) (fun q3 => ?_)
  ·
   try simp only [Z1, Z2, Z3, Z4, Z5, Z6, Z7, Z8, Z9, Z0] at q3
   refine WC.skip (WE.then_normal (WC.sub (fr' := [(3, _), (6, _), (7, _), (8, _)]) ?_ ⟨rfl, rfl, rfl, rfl, trivial⟩))
   refine WC.seq (WC.block (WC.seq ?_))
   have hlt : i < l.length := by omega
   have hpl : ps.length = i := by rw [hp.1, List.length_take]; omega
   refine WC.region ?_
   refine WL.q (oq_ixaddr hr Tryz.underlying22 ty32 rfl rfl (by (first | omega | (simp only [List.length_cons, List.length_nil, List.length_append, List.length_drop, List.length_take]; omega)))) rfl rfl rfl ?_
   refine WL.q (oq_loadEl (f := HV.row) HV0 [_, _, _, _, _] (fun _ => rfl) agg32 ty32 hr (.tail _ (.tail _ (.head _))) rfl (by (first | omega | (simp only [List.length_cons, List.length_nil, List.length_append, List.length_drop, List.length_take]; omega))) (by first | exact Int.toNat_natCast _ | exact rfl) rfl) rfl rfl rfl ?_
   refine WL.alloc ty32 rfl rfl fun o5 ho5 => ?_
   refine WL.storeS #[_, _, _, _, _] ty32 rfl rfl rfl rfl (Nat.le_of_ble_eq_true rfl) rfl rfl ?_
   refine WL.nil (WE.then_normal (WC.sub (fr' := [(3, _), (5, _), (6, _), (7, _), (8, _)]) ?_ ⟨rfl, rfl, rfl, rfl, rfl, trivial⟩))
   refine WC.gate 7 ([(o5, .cells #[S (l.getD i HV0).name, I (l.getD i HV0).kind, I (l.getD i HV0).width, I (l.getD i HV0).int, S (l.getD i HV0).text] 32 (0, 0))]) (by kernel_rfl) ?_
   refine WG.p 0 rfl (.inr (.head _)) (fun w0 => oq_move rfl) rfl rfl rfl ?_
   refine WG.q 1 [6, 2] rfl (.head _) (fun w0 => oq_fieldAddr fld32_0 rfl) rfl rfl rfl ?_
   refine WG.q 2 [6] rfl (.head _) (fun w0 => oq_load flat9 rfl (.head _) (List.mem_singleton.2 rfl) rfl) rfl rfl rfl ?_
   refine WG.q 3 [6, 5, 4] rfl (.head _) (fun w0 => oq_fieldAddr fld32_1 rfl) rfl rfl rfl ?_
   refine WG.q 4 [6, 5] rfl (.head _) (fun w0 => oq_loadS [_, _, _, _] agg24 ty24 rfl (.head _) (List.mem_singleton.2 rfl) rfl rfl) rfl rfl rfl ?_
   refine WG.step (i := 5) (by kernel_rfl) rfl ?_
   refine WL.callA0 (valueFor (l.getD i HV0) (hok i hlt).1 (hok i hlt).2) call35 rfl rfl rfl fun v5_5 N5_5 hR5_5 hN5_5 => ?_
   obtain ⟨k5, r5, f5, rfl, hi5, hf5⟩ := hR5_5
   have hvo : VOk (l.getD i HV0) (.iface k5 r5) N5_5 := ⟨k5, r5, f5, rfl, hi5, hf5⟩
   refine WL.nil ?_
   refine WE.toG (.tail _ (.head _)) ?_
   refine WG.q 6 [] rfl (.tail _ (.head _)) (fun w0 => oq_build #[_, _] str125 ty125 rfl rfl) rfl rfl rfl ?_
   refine WG.step (i := 7) (by kernel_rfl) rfl ?_
   refine WL.buildSS (#[S (l.getD i HV0).name, .iface k5 r5]) Tryz.underlying62 ty125 rfl (by decide) (by decide) (by kernel_rfl) (by kernel_rfl) rfl rfl fun v5_7 A5_7 ho5_7 hne5_7 => ?_
   refine WL.nil ?_
   refine WE.toG0 (by kernel_rfl) ?_
   refine WG.step (i := 8) (by kernel_rfl) rfl ?_
   refine WL.f3 ?_
   refine WL.appendS ho Tryz.underlying62 ty125 rfl (by decide) rfl rfl ho5_7.rd (.head _) (onePV _ _ _) (by unfold maxLen; omega) (by omega) rfl rfl fun v5b A5b ho5b hne5b => ?_
   refine WL.nil ?_
   refine WE.toG0 (by kernel_rfl) ?_
   refine WG.p 9 rfl (.inl (by kernel_rfl)) (fun w0 => oq_assign rfl) rfl rfl rfl ?_
   refine WG.done (by kernel_rfl) ?_
   refine WE.block_normal (WE.then_normal (WC.sub (fr' := [(3, _), (6, _), (7, _), (8, _)]) ?_ ⟨rfl, rfl, rfl, rfl, trivial⟩))
   refine WC.f4 ?_
   refine WC.f3 ?_
   refine WC.cat ?_
   refine WC.region ?_
   refine WL.q (oq_add rfl rfl (by rw [i64_lo, i64_hi]; (first | omega | (simp only [List.length_cons, List.length_nil, List.length_append, List.length_drop, List.length_take]; omega)))) rfl rfl rfl ?_
   refine WL.q (oq_move rfl) rfl rfl rfl ?_
   refine WL.nil ?_
   refine WE.f2 ?_
   refine WE.forget ho5_7.fresh ?_
   refine WE.f2 ?_
   refine WE.lose ho5 ?_
   refine WE.f2 ?_
   refine WE.f1 ?_
   refine WE.f2 ?_
   refine WE.again (i + 1, _, _, _, ps ++ [⟨(l.getD i HV0).name, k5, r5⟩]) ?_ ?_ ⟨rfl, rfl, rfl, rfl, trivial⟩ (List.Perm.refl _)
   ·try dsimp only
    exact ⟨by omega, fresh_cat hN5_5 hZ, by have h2 := ho5b; rw [recsPV_snoc ps ⟨_, _, _⟩] at h2; simpa using h2, hp.snoc hlt hvo⟩
   ·(try dsimp only); omega
  ·
   try simp only [Z1, Z2, Z3, Z4, Z5, Z6, Z7, Z8, Z9, Z0] at q3
   refine WC.exit (WE.then_exit (WE.then_exit (WE.block_same (WE.then_normal (WC.sub (fr' := [(3, _)]) ?_ ⟨rfl, trivial⟩)))))
   refine WC.seq ?_
   obtain rfl : i = l.length := by omega
   rw [List.take_length] at hp
   refine WC.region ?_
   refine WL.q (oq_move rfl) rfl rfl rfl ?_
   refine WL.q (oq_assign rfl) rfl rfl rfl ?_
   refine WL.nil (WE.then_normal (WC.sub (fr' := [(2, _)]) ?_ ⟨rfl, trivial⟩))
   refine WC.ret ?_
   refine WE.cat ?_
   refine WE.endA (.inl rfl) (res1 Tryz.results31 rfl) ?_ (fresh_cat (ho.fresh) (hZ))
   exact ⟨ps, _, _, rfl, ho.rd, hp⟩
def hdr (h : HV) : List UInt8 := UInt8.ofNat h.name.length :: (h.name ++ enc h)
def hdrs (l : List HV) : List UInt8 := l.flatMap hdr
def badH (h : HV) : Bool := decide (255 < h.name.length) || badT h
def szH (h : HV) : Nat := h.name.length + h.text.length + 12
def szL (l : List HV) : Nat := (l.map szH).sum
theorem enc_len {h : HV} (hf : fineV h) : (enc h).length ≤ h.text.length + 11 := by
 obtain ⟨_, _, h1, _, _⟩ := hf
 unfold enc
 split
 ·rename_i hk
  have := h1 hk
  rw [List.length_cons, be_len]; omega
 ·split
  ·simp [be_len]; omega
  ·split
   ·simp [be_len]; omega
   ·split
    ·simp [be_len]
    ·split <;> simp
theorem hdr_len {h : HV} (hf : fineV h) : (hdr h).length ≤ szH h := by
 have := enc_len hf
 unfold hdr szH; simp; omega
theorem take_snoc {l : List HV} {i : Nat} (hi : i < l.length) : l.take (i + 1) = l.take i ++ [l.getD i HV0] := by
 rw [List.take_add_one, List.getD_eq_getElem?_getD, List.getElem?_eq_getElem hi]; rfl
theorem hdrs_snoc {l : List HV} {i : Nat} (hi : i < l.length) : hdrs (l.take (i + 1)) = hdrs (l.take i) ++ hdr (l.getD i HV0) := by
 rw [take_snoc hi]; simp [hdrs]
theorem szL_snoc {l : List HV} {i : Nat} (hi : i < l.length) : szL (l.take (i + 1)) = szL (l.take i) + szH (l.getD i HV0) := by
 rw [take_snoc hi]; simp [szL]
theorem szL_take (l : List HV) (i : Nat) : szL (l.take i) ≤ szL l := by
 have : szL l = szL (l.take i) + szL (l.drop i) := by unfold szL; rw [← List.sum_append, ← List.map_append, List.take_append_drop]
 omega
theorem hdrs_len {l : List HV} (hok : okH l) : ∀ i, i ≤ l.length → (hdrs (l.take i)).length ≤ szL (l.take i)
 | 0, _ => by simp [hdrs]
 | i + 1, h => by
  rw [hdrs_snoc (by omega), szL_snoc (by omega), List.length_append]
  have h1 := hdrs_len hok i (by omega)
  have h2 := hdr_len (hok i (by omega)).1
  omega
theorem cp_name (nm : List UInt8) (b0 : UInt8) (hn8 : b0.toNat = nm.length) : List.take (0 + 1 + 0) (b0 :: List.replicate 255 0) ++ List.take (min nm.length (b0.toNat - 0)) nm ++ List.drop (0 + 1 + 0 + min nm.length (b0.toNat - 0)) (b0 :: List.replicate 255 0) = b0 :: (nm ++ List.replicate (255 - nm.length) 0) := by
 rw [hn8, Nat.sub_zero, Nat.min_self, List.take_length, show 0 + 1 + 0 + nm.length = nm.length + 1 by omega, List.drop_succ_cons, List.drop_replicate]; rfl
theorem nm_len (nm : List UInt8) (h : nm.length ≤ 255) : (nm ++ List.replicate (255 - nm.length) (0 : UInt8)).length = 255 := by rw [List.length_append, List.length_replicate]; omega
theorem nm_len2 (b0 : UInt8) (nm : List UInt8) (h : nm.length ≤ 255) : (b0 :: (nm ++ List.replicate (255 - nm.length) (0 : UInt8))).length = 256 := by rw [List.length_cons, nm_len nm h]
def HdR (base bb : Nat) (l : List HV) (acc : List UInt8) (M Z : Hp) (w : Value) (Hs : List Hp) : Prop :=
 ∃ G' acc', Hs = [G', M, Z] ∧ BufG base bb acc' G' ∧ if l.any badH then ∃ k e, w = .iface k e else w = .nilIface ∧ acc' = acc ++ hdrs l
theorem any_take {l : List HV} {i : Nat} (hi : i < l.length) (hb : badH (l.getD i HV0) = true) : l.any badH = true := by
 rw [List.any_eq_true]
 refine ⟨l.getD i HV0, ?_, hb⟩
 rw [List.getD_eq_getElem?_getD, List.getElem?_eq_getElem hi]; exact List.getElem_mem hi
theorem any_snoc {l : List HV} {i : Nat} (hi : i < l.length) (h : (l.take i).any badH = false) (hb : badH (l.getD i HV0) = false) : (l.take (i + 1)).any badH = false := by
 rw [take_snoc hi, List.any_append, h, List.any_cons, hb]; rfl
theorem encR_split {base bb : Nat} {h : HV} {acc : List UInt8} {N : Hp} {w : Value} {Hs : List Hp} (hE : EncR base bb h acc N w Hs) : ∃ G', Hs = [G', N] ∧ (w = .nilIface ∨ ∃ k u, w = .iface k u) ∧ (nilI w = true → badT h = false ∧ BufG base bb (acc ++ enc h) G') ∧ (nilI w = false → badT h = true ∧ (∃ k e, w = .iface k e) ∧ BufG base bb acc G') := by
 unfold EncR at hE
 cases hb : badT h with
 | true => rw [hb] at hE; obtain ⟨e, G', rfl, rfl, hG⟩ := hE; exact ⟨G', rfl, (.inr ⟨_, _, rfl⟩), (fun h => nomatch h), (fun _ => ⟨rfl, ⟨_, _, rfl⟩, hG⟩)⟩
 | false => rw [hb] at hE; obtain ⟨G', rfl, rfl, hG⟩ := hE; exact ⟨G', rfl, (.inl rfl), (fun _ => ⟨rfl, hG⟩), (fun h => nomatch h)⟩
theorem encHeaders (base bb : Nat) (acc : List UInt8) (G : Hp) (hG : BufG base bb acc G) (v : Value) (M Z : Hp) (l : List HV) (ps : List PV) (hr : RdS 2 v M ps.length (recsV PV.row ps)) (hp : Pair l ps Z) (hok : okH l) (hn : l.length ≤ 1000) (hsz : acc.length + szL l ≤ 200000) : FnW Tryz.prog 64 [.iface 107 (Pt bb 0), v] base [G, M, Z] (HdR base bb l acc M Z) := by
 have hpl := hp.1
 refine FnW.enter (n := 54) Tryz.func64 rfl rfl fun w0 R0 hbase => ?_
 subst hbase
 show WC _ _ _ _ _ _ _ ([G, M, Z, R0])
 refine WC.sub (fr' := [(0, _), (1, _)]) ?_ ⟨rfl, rfl, trivial⟩
 refine WC.seq (WC.region ?_)
 refine WL.q (oq_assign rfl) rfl rfl rfl ?_
 refine WL.nil (WE.then_normal (WC.sub (fr' := [(0, _), (1, _)]) ?_ ⟨rfl, rfl, trivial⟩))
 refine WC.seq (WC.seq (WC.region ?_))
 refine WL.q (oq_move rfl) rfl rfl rfl ?_
 refine WL.q (oq_len_rd hr Tryz.underlying62 rfl) rfl rfl rfl ?_
 refine WL.q (oq_move rfl) rfl rfl rfl ?_
 refine WL.nil (WE.then_normal (WC.sub (fr' := [(0, _), (10, _), (11, _), (12, _)]) ?_ ⟨rfl, rfl, rfl, rfl, trivial⟩))
 refine WC.block ?_
 refine WC.loop (ι := Nat × Hp) (fun i_ => (fun (i : Nat) (X : Hp) => [(0, .iface 107 (Pt bb 0)), (10, v), (11, I (ps.length : Int)), (12, I (i : Int))]) i_.1 i_.2) (fun i_ => (fun (i : Nat) (X : Hp) => [X, M, Z, R0]) i_.1 i_.2) (fun i_ => (fun (i : Nat) (X : Hp) => i ≤ l.length ∧ (l.take i).any badH = false ∧ BufG w0.heap.size bb (acc ++ hdrs (l.take i)) X) i_.1 i_.2) (fun i_ => (fun (i : Nat) (X : Hp) => l.length - i) i_.1 i_.2) ((0, G)) ?_ ⟨rfl, rfl, rfl, rfl, trivial⟩ (List.Perm.refl _) ?_
 ·try dsimp only
  exact ⟨by omega, rfl, by simpa [hdrs] using hG⟩
 ·rintro ⟨i, X⟩ hp
  try dsimp only at hp
  obtain ⟨hi, hno, hX⟩ := hp
  show WC _ _ _ _ _ _ ([(0, .iface 107 (Pt bb 0)), (10, v), (11, I (ps.length : Int)), (12, I (i : Int))]) ([X, M, Z, R0])
  refine WC.seq (WC.region ?_)
  refine WL.q (oq_lss rfl rfl) rfl rfl rfl ?_
  refine WL.nil (WE.then_normal (WC.sub (fr' := [(0, _), (10, _), (11, _), (12, _), (13, _)]) ?_ ⟨rfl, rfl, rfl, rfl, rfl, trivial⟩))
  refine WC.seq ?_
  refine WC.cond rfl (fun q2 => ?_) (fun q2 => ?_)
  ·
   try simp only [Z1, Z2, Z3, Z4, Z5, Z6, Z7, Z8, Z9, Z0] at q2
   refine WC.skip (WE.then_normal (WC.sub (fr' := [(0, _), (10, _), (11, _), (12, _)]) ?_ ⟨rfl, rfl, rfl, rfl, trivial⟩))
   refine WC.seq (WC.block (WC.seq ?_))
   have hlt : i < l.length := by omega
   obtain ⟨hpn, hvo⟩ := hp.2 i hlt
   have hls := szL_take l (i + 1)
   rw [szL_snoc hlt] at hls
   have hll := hdrs_len hok i hi
   have hle : szH (l.getD i HV0) = (l.getD i HV0).name.length + (l.getD i HV0).text.length + 12 := rfl
   refine WC.region ?_
   refine WL.q (oq_ixaddr hr Tryz.underlying62 ty125 rfl rfl (by (first | omega | (simp only [List.length_cons, List.length_nil, List.length_append, List.length_drop, List.length_take]; omega)))) rfl rfl rfl ?_
   refine WL.q (oq_loadEl (f := PV.row) PV0 [_, _] (fun _ => rfl) agg125 ty125 hr (.tail _ (.head _)) rfl (by (first | omega | (simp only [List.length_cons, List.length_nil, List.length_append, List.length_drop, List.length_take]; omega))) (by first | exact Int.toNat_natCast _ | exact rfl) rfl) rfl rfl rfl ?_
   refine WL.alloc ty125 rfl rfl fun o6 ho6 => ?_
   refine WL.storeS #[_, _] ty125 rfl rfl rfl rfl (Nat.le_of_ble_eq_true rfl) rfl rfl ?_
   refine WL.nil (WE.then_normal (WC.sub (fr' := [(0, _), (6, _), (10, _), (11, _), (12, _)]) ?_ ⟨rfl, rfl, rfl, rfl, rfl, trivial⟩))
   refine WC.seq (WC.seq (WC.region ?_))
   refine WL.q (oq_fieldAddr fld125_0 rfl) rfl rfl rfl ?_
   refine WL.q (oq_load flat9 rfl (.head _) (List.mem_singleton.2 rfl) rfl) rfl rfl rfl ?_
   refine WL.q (oq_len_s Tryz.underlying9 rfl) rfl rfl rfl ?_
   refine WL.q (oq_gtr rfl rfl) rfl rfl rfl ?_
   refine WL.nil (WE.then_normal (WC.sub (fr' := [(0, _), (6, _), (10, _), (11, _), (12, _), (19, _)]) ?_ ⟨rfl, rfl, rfl, rfl, rfl, rfl, trivial⟩))
   refine WC.cond rfl (fun q4 => ?_) (fun q4 => ?_)
   ·
    try simp only [Z1, Z2, Z3, Z4, Z5, Z6, Z7, Z8, Z9, Z0] at q4
    refine WC.seq (WC.region ?_)
    refine WL.q (oq_fieldAddr fld125_0 rfl) rfl rfl rfl ?_
    refine WL.q (oq_load flat9 rfl (.head _) (List.mem_singleton.2 rfl) rfl) rfl rfl rfl ?_
    refine WL.q (oq_len_s Tryz.underlying9 rfl) rfl rfl rfl ?_
    refine WL.q (oq_fieldAddr fld125_0 rfl) rfl rfl rfl ?_
    refine WL.q (oq_load flat9 rfl (.head _) (List.mem_singleton.2 rfl) rfl) rfl rfl rfl ?_
    refine WL.q (oq_makeI conc9 rfl) rfl rfl rfl ?_
    refine WL.q (oq_build #[_, _, _, _] str120 ty120 rfl rfl) rfl rfl rfl ?_
    refine WL.q (oq_makeI conc120 rfl) rfl rfl rfl ?_
    refine WL.q (oq_assign rfl) rfl rfl rfl ?_
    refine WL.nil (WE.then_normal (WC.sub (fr' := [(4, _)]) ?_ ⟨rfl, trivial⟩))
    refine WC.ret (WE.then_ret (WE.block_ret (WE.then_ret (WE.then_ret (WE.block_ret (WE.then_ret ?_))))))
    refine WE.lose ho6 ?_
    refine WE.endW3 (.inl rfl) (res1 Tryz.results64 rfl) ?_
    exact ⟨_, _, rfl, hX, by rw [if_pos (any_take hlt (by unfold badH; rw [← hpn, decide_eq_true (by omega)]; rfl))]; exact ⟨_, _, rfl⟩⟩
   ·
    try simp only [Z1, Z2, Z3, Z4, Z5, Z6, Z7, Z8, Z9, Z0] at q4
    refine WC.skip (WE.then_normal (WC.sub (fr' := [(0, _), (6, _), (10, _), (11, _), (12, _)]) ?_ ⟨rfl, rfl, rfl, rfl, rfl, trivial⟩))
    refine WC.seq (WC.region ?_)
    refine WL.q (oq_fieldAddr fld125_0 rfl) rfl rfl rfl ?_
    refine WL.q (oq_load flat9 rfl (.head _) (List.mem_singleton.2 rfl) rfl) rfl rfl rfl ?_
    refine WL.q (oq_len_s Tryz.underlying9 rfl) rfl rfl rfl ?_
    refine WL.q ((oq_conv Tryz.underlying3 Tryz.underlying5 rfl (by rw [u8_lo, u8_hi]; omega)).to (v' := .int .u8 ((UInt8.ofNat (ps.getD i PV0).name.length).toNat : Int)) (by rw [UInt8.toNat_ofNat']; congr 1; omega)) rfl rfl rfl ?_
    refine WL.q (oq_build ((bytesV (UInt8.ofNat (ps.getD i PV0).name.length :: List.replicate 255 0)).toArray) str174 ty174 rfl (by kernel_rfl)) rfl rfl rfl ?_
    refine WL.alloc ty174 rfl rfl fun o7 ho7 => ?_
    refine WL.storeS ((bytesV (UInt8.ofNat (ps.getD i PV0).name.length :: List.replicate 255 0)).toArray) ty174 rfl rfl (by kernel_rfl) (by kernel_rfl) (Nat.le_of_ble_eq_true rfl) (by kernel_rfl) rfl ?_
    refine WL.nil (WE.then_normal (WC.sub (fr' := [(0, _), (6, _), (7, _), (10, _), (11, _), (12, _)]) ?_ ⟨rfl, rfl, rfl, rfl, rfl, rfl, trivial⟩))
    refine WC.seq ?_
    have hn8 : (UInt8.ofNat (ps.getD i PV0).name.length).toNat = (ps.getD i PV0).name.length := by rw [UInt8.toNat_ofNat']; omega
    refine WC.tailM (pl := []) (ql := [_, _, _, _, _, _]) (tl := [_]) [] [0, 1, 2, 3, 4, 5] 6 [] (by kernel_rfl) (by kernel_rfl) (by kernel_rfl) (by kernel_rfl) (by kernel_rfl) (by kernel_rfl) (by decide) rfl rfl rfl (by decide) (by repeat (first | with_reducible exact QOk.body | with_reducible apply QOk.then | with_reducible apply QOk.block | exact QOk.body | apply QOk.then | apply QOk.block)) ?_
    refine WM.nil ?_
    refine WY.q (oq_fieldAddr fld174_1 rfl) rfl rfl rfl ?_
    refine WY.q (oq_fieldAddr fld174_0 rfl) rfl rfl rfl ?_
    refine WY.q (oq_load flat5 rfl (.head _) (List.mem_singleton.2 rfl) rfl) rfl rfl rfl ?_
    refine WY.q (oq_sliceArr (j := (UInt8.ofNat (ps.getD i PV0).name.length).toNat) Tryz.underlying172 ty5 rfl rfl ⟨_, rfl⟩ (by (first | omega | (simp only [List.length_cons, List.length_replicate]; omega))) (by (first | omega | (simp only [List.length_cons, List.length_replicate]; omega)))) rfl rfl rfl ?_
    refine WY.q (oq_fieldAddr fld125_0 rfl) rfl rfl rfl ?_
    refine WY.q (oq_load flat9 rfl (.tail _ (.head _)) (List.mem_singleton.2 rfl) rfl) rfl rfl rfl ?_
    refine WY.nil ?_
    refine WL.copyBS Tryz.underlying28 ty5 rfl rfl (by (first | omega | (simp only [List.length_cons, List.length_replicate]; omega))) rfl rfl ?_
    refine WL.nil (WE.then_normal (WC.sub (fr' := [(0, _), (6, _), (7, _), (10, _), (11, _), (12, _)]) ?_ ⟨rfl, rfl, rfl, rfl, rfl, rfl, trivial⟩))
    refine WC.seq (WC.seq ?_)
    rw [cp_name (ps.getD i PV0).name (UInt8.ofNat (ps.getD i PV0).name.length) hn8]
    refine WC.region ?_
    refine WL.q (oq_loadArr agg174 ty174 ((nm_len2 _ _ (by omega))) rfl (.head _)) rfl rfl rfl ?_
    refine WL.q (oq_move rfl) rfl rfl rfl ?_
    refine WL.f2 ?_
    refine WL.callW1 (nameEnc _ _ _ _ _ (bufWr _ bb) _ X hX (UInt8.ofNat (ps.getD i PV0).name.length) ((ps.getD i PV0).name ++ List.replicate (255 - (ps.getD i PV0).name.length) 0) (nm_len _ (by omega)) (by rw [List.length_append]; omega)) call76 rfl rfl rfl fun v8_2 Hs8_2 hR8_2 => ?_
    obtain ⟨X2, rfl, rfl, hX2⟩ := hR8_2
    refine WL.to1 ?_
    refine WL.q (oq_assign rfl) rfl rfl rfl ?_
    refine WL.nil (WE.then_normal (WC.sub (fr' := [(0, _), (6, _), (8, _), (10, _), (11, _), (12, _)]) ?_ ⟨rfl, rfl, rfl, rfl, rfl, rfl, trivial⟩))
    refine WC.seq (WC.region ?_)
    refine WL.q (oq_move rfl) rfl rfl rfl ?_
    refine WL.q (oq_ineq Tryz.underlying99 rfl (.inl rfl)) rfl rfl rfl ?_
    refine WL.nil (WE.then_normal (WC.sub (fr' := [(0, _), (6, _), (8, _), (10, _), (11, _), (12, _), (44, _)]) ?_ ⟨rfl, rfl, rfl, rfl, rfl, rfl, rfl, trivial⟩))
    refine WC.cond rfl (fun q9 => ?_) (fun q9 => ?_)
    ·
     try simp only [Z1, Z2, Z3, Z4, Z5, Z6, Z7, Z8, Z9, Z0] at q9
     first | contradiction | (exfalso; omega) | (exfalso; simp_all; done)
    ·
     try simp only [Z1, Z2, Z3, Z4, Z5, Z6, Z7, Z8, Z9, Z0] at q9
     refine WC.skip (WE.then_normal (WC.sub (fr' := [(0, _), (6, _), (10, _), (11, _), (12, _)]) ?_ ⟨rfl, rfl, rfl, rfl, rfl, trivial⟩))
     refine WC.seq (WC.region ?_)
     refine WL.q (oq_fieldAddr fld125_1 rfl) rfl rfl rfl ?_
     refine WL.q (oq_load flat60 rfl (.tail _ (.tail _ (.head _))) (List.mem_singleton.2 rfl) rfl) rfl rfl rfl ?_
     refine WL.q (oq_move rfl) rfl rfl rfl ?_
     have hX3 : BufG w0.heap.size bb (acc ++ hdrs (l.take i) ++ (UInt8.ofNat (ps.getD i PV0).name.length :: (ps.getD i PV0).name)) X2 := by
      have e1 : (UInt8.ofNat (ps.getD i PV0).name.length).toNat = (ps.getD i PV0).name.length := by rw [UInt8.toNat_ofNat']; omega
      rw [e1, List.take_left' rfl] at hX2; exact hX2
     obtain ⟨_, _, f5, hkr, hi5, hf5⟩ := hvo
     injection hkr with hk1 hk2
     subst hk1 hk2
     refine WL.f4 ?_
     refine WL.f1 ?_
     refine WL.callWE (fun a w hf => ent_inv1 hi5 rfl rfl hf w) (hf5 _ bb _ X2 hX3 (by simp only [List.length_append, List.length_cons, hpn]; omega)) rfl rfl rfl rfl fun v11_3 Hs11_3 hR11_3 => ?_
     obtain ⟨X4, rfl, hei, he0, he1⟩ := encR_split hR11_3
     refine WL.app2 ?_
     refine WL.q (oq_assign rfl) rfl rfl rfl ?_
     refine WL.nil (WE.then_normal (WC.sub (fr' := [(0, _), (9, _), (10, _), (11, _), (12, _)]) ?_ ⟨rfl, rfl, rfl, rfl, rfl, trivial⟩))
     refine WC.seq (WC.region ?_)
     refine WL.q (oq_move rfl) rfl rfl rfl ?_
     refine WL.q (oq_ineq Tryz.underlying99 rfl (hei)) rfl rfl rfl ?_
     refine WL.nil (WE.then_normal (WC.sub (fr' := [(0, _), (9, _), (10, _), (11, _), (12, _), (51, _)]) ?_ ⟨rfl, rfl, rfl, rfl, rfl, rfl, trivial⟩))
     refine WC.cond rfl (fun q12 => ?_) (fun q12 => ?_)
     ·
      try simp only [Z1, Z2, Z3, Z4, Z5, Z6, Z7, Z8, Z9, Z0] at q12
      refine WC.seq (WC.region ?_)
      refine WL.q (oq_move rfl) rfl rfl rfl ?_
      refine WL.q (oq_assign rfl) rfl rfl rfl ?_
      refine WL.nil (WE.then_normal (WC.sub (fr' := [(4, _)]) ?_ ⟨rfl, trivial⟩))
      refine WC.ret (WE.block_ret (WE.then_ret (WE.then_ret (WE.block_ret (WE.then_ret ?_)))))
      refine WE.f2 ?_
      refine WE.lose ho7 ?_
      refine WE.f2 ?_
      refine WE.lose ho6 ?_
      refine WE.f3 ?_
      refine WE.f2 ?_
      refine WE.f3 ?_
      refine WE.f3 ?_
      refine WE.endW3 (.inl rfl) (res1 Tryz.results64 rfl) ?_
      obtain ⟨hb, ⟨k9, e9, rfl⟩, hG9⟩ := he1 (by simpa using q12)
      exact ⟨_, _, rfl, hG9, by rw [if_pos (any_take hlt (by unfold badH; rw [hb, Bool.or_true]))]; exact ⟨_, _, rfl⟩⟩
     ·
      try simp only [Z1, Z2, Z3, Z4, Z5, Z6, Z7, Z8, Z9, Z0] at q12
      refine WC.skip (WE.block_normal (WE.then_normal (WC.sub (fr' := [(0, _), (10, _), (11, _), (12, _)]) ?_ ⟨rfl, rfl, rfl, rfl, trivial⟩)))
      refine WC.region ?_
      refine WL.q (oq_add rfl rfl (by rw [i64_lo, i64_hi]; (first | omega | (simp only [List.length_cons, List.length_nil, List.length_append, List.length_drop, List.length_take]; omega)))) rfl rfl rfl ?_
      refine WL.q (oq_move rfl) rfl rfl rfl ?_
      refine WL.nil ?_
      refine WE.f2 ?_
      refine WE.lose ho7 ?_
      refine WE.f2 ?_
      refine WE.lose ho6 ?_
      refine WE.f3 ?_
      refine WE.f2 ?_
      refine WE.f3 ?_
      refine WE.f3 ?_
      refine WE.again (i + 1, X4) ?_ ?_ ⟨rfl, rfl, rfl, rfl, trivial⟩ (List.Perm.refl _)
      ·try dsimp only
       have hz := he0 (by simpa using q12)
       refine ⟨by omega, any_snoc hlt hno (by unfold badH; rw [hz.1, ← hpn, decide_eq_false (by omega)]; rfl), ?_⟩
       have hz2 := hz.2
       rw [hpn] at hz2
       rw [hdrs_snoc hlt, ← List.append_assoc]
       simpa [hdr] using hz2
      ·(try dsimp only); omega
  ·
   try simp only [Z1, Z2, Z3, Z4, Z5, Z6, Z7, Z8, Z9, Z0] at q2
   refine WC.exit (WE.then_exit (WE.then_exit (WE.block_same (WE.then_normal (WC.sub (fr' := []) ?_ trivial)))))
   refine WC.seq ?_
   obtain rfl : i = l.length := by omega
   rw [List.take_length] at hX hno
   refine WC.region ?_
   refine WL.q (oq_assign rfl) rfl rfl rfl ?_
   refine WL.nil (WE.then_normal (WC.sub (fr' := [(4, _)]) ?_ ⟨rfl, trivial⟩))
   refine WC.ret ?_
   refine WE.endW3 (.inl rfl) (res1 Tryz.results64 rfl) ?_
   exact ⟨_, _, rfl, hX, by rw [hno, if_neg (by simp)]; exact ⟨rfl, rfl⟩⟩
end EJ
end Go.Proofs.YtodlhaghdplclaaGreatDoor
/- Preludes, many writers, encoders. -/
namespace Go.Proofs.YtodlhaghdplclaaGreatDoor
open Go Go.RowKit V EA EB EC ED EE EF EG EH EI EJ
set_option linter.unusedSimpArgs false
set_option linter.unusedVariables false
set_option maxRecDepth 10000
namespace EK
theorem call62 : Callable Tryz.prog 62 := ⟨_, Tryz.func62, rfl, by kernel_rfl⟩
theorem call69 : Callable Tryz.prog 69 := ⟨_, Tryz.func69, rfl, by kernel_rfl⟩
theorem call70 : Callable Tryz.prog 70 := ⟨_, Tryz.func70, rfl, by kernel_rfl⟩
theorem call77 : Callable Tryz.prog 77 := ⟨_, Tryz.func77, rfl, by kernel_rfl⟩
theorem flat74 : Flat Tryz.prog 74 := ⟨_, Tryz.underlying74, by simp⟩
theorem flat151 : Flat Tryz.prog 151 := ⟨_, Tryz.underlying151, by simp⟩
theorem ty20 : Ty Tryz.prog 20 .nilIface 1 16 := ty_of (by kernel_rfl)
theorem ty74 : Ty Tryz.prog 74 (.int .u32 0) 1 4 := ty_of (by kernel_rfl)
theorem ty149 : Ty Tryz.prog 149 (.agg #[(.pointer none), (.pointer none)]) 2 16 := ty_of (by kernel_rfl)
theorem ty151 : Ty Tryz.prog 151 .nilIface 1 16 := ty_of (by kernel_rfl)
theorem ty177 : Ty Tryz.prog 177 (.pointer none) 1 8 := ty_of (by kernel_rfl)
theorem ty180 : Ty Tryz.prog 180 (.agg #[(.slice none 0 0)]) 1 24 := ty_of (by kernel_rfl)
theorem ty182 : Ty Tryz.prog 182 (.agg #[(.int .u32 0), (.int .u32 0), (.int .u32 0)]) 3 12 := ty_of (by kernel_rfl)
theorem conc74 : Conc Tryz.prog 74 := ⟨_, Tryz.underlying74, by simp⟩
theorem conc177 : Conc Tryz.prog 177 := ⟨_, Tryz.underlying177, by simp⟩
theorem agg182 : Agg Tryz.prog 182 := agg_of Tryz.underlying182
theorem str149 : Str Tryz.prog 149 #[(0, 1), (1, 1)] := ⟨_, Tryz.underlying149, fun w => by kernel_rfl⟩
theorem str180 : Str Tryz.prog 180 #[(0, 1)] := ⟨_, Tryz.underlying180, fun w => by kernel_rfl⟩
theorem str182 : Str Tryz.prog 182 #[(0, 1), (1, 1), (2, 1)] := ⟨_, Tryz.underlying182, fun w => by kernel_rfl⟩
theorem fld182_0 : Fld Tryz.prog 182 0 0 74 := fld_of Tryz.underlying182 rfl rfl rfl ty74 (by decide)
theorem fld182_1 : Fld Tryz.prog 182 1 1 74 := fld_of Tryz.underlying182 rfl rfl rfl ty74 (by decide)
theorem fld182_2 : Fld Tryz.prog 182 2 2 74 := fld_of Tryz.underlying182 rfl rfl rfl ty74 (by decide)
theorem bytesN_1 (d : Num) : bytesN [d] = be d.w d.x := by simp [bytesN]
theorem bytesN_2 (d e : Num) : bytesN [d, e] = be d.w d.x ++ be e.w e.x := by simp [bytesN]
theorem okU (x : Int) : Num.ok ⟨74, .u32, 4, x⟩ := by simp [Num.ok, Num.kinds]
def pre8 (hl pl : Nat) : List UInt8 := be 4 (16 + (hl : Int) + (pl : Int)) ++ be 4 (hl : Int)
def crcB (l : List UInt8) : List UInt8 := be 4 ((crc l).toNat : Int)
abbrev wval (x : TypeId × Value) : Value := .iface x.1 x.2
theorem validLens (n : Nat) (h0 : 0 < n) (a b : Value) : Fn0 Tryz.prog 77 [.agg #[.int .u32 (n : Int), a, b]] (.nilIface) := by
 refine Fn0.enter (n := 11) Tryz.func77 rfl rfl fun w0 => ?_
 refine WC.sub (fr' := [(0, _)]) ?_ ⟨rfl, trivial⟩
 refine WC.seq (WC.region ?_)
 refine WL.box rfl rfl rfl fun b0_0 hb0_0 => ?_
 refine WL.q (oq_assign rfl) rfl rfl rfl ?_
 refine WL.nil (WE.then_normal (WC.sub (fr' := [(1, _)]) ?_ ⟨rfl, trivial⟩))
 refine WC.seq (WC.seq (WC.region ?_))
 refine WL.q (oq_fieldAddr fld182_0 rfl) rfl rfl rfl ?_
 refine WL.q (oq_load flat74 rfl (.head _) (List.mem_singleton.2 rfl) rfl) rfl rfl rfl ?_
 refine WL.q (oq_eql rfl rfl) rfl rfl rfl ?_
 refine WL.nil (WE.then_normal (WC.sub (fr' := [(1, _), (5, _)]) ?_ ⟨rfl, rfl, trivial⟩))
 refine WC.cond rfl (fun q1 => ?_) (fun q1 => ?_)
 ·
  try simp only [Z1, Z2, Z3, Z4, Z5, Z6, Z7, Z8, Z9, Z0] at q1
  first | contradiction | (exfalso; omega) | (exfalso; simp_all; done)
 ·
  try simp only [Z1, Z2, Z3, Z4, Z5, Z6, Z7, Z8, Z9, Z0] at q1
  refine WC.skip (WE.then_normal (WC.sub (fr' := []) ?_ trivial))
  refine WC.seq (WC.region ?_)
  refine WL.q (oq_assign rfl) rfl rfl rfl ?_
  refine WL.nil (WE.then_normal (WC.sub (fr' := [(2, _)]) ?_ ⟨rfl, trivial⟩))
  refine WC.ret ?_
  refine WE.lose hb0_0 ?_
  refine WE.end0 (.inl rfl) (res1 Tryz.results77 rfl) ?_
  rfl
theorem encPrelude (base hb : Nat) (k : TypeId) (r : Value) (f : FuncId) (Wt : List UInt8 → Hp → Prop) (hW : Wr base k r f Wt) (acc0 : List UInt8) (G : Hp) (hG : Wt acc0 G) (hS : ∀ acc G, Wt acc G → FnR Tryz.prog 69 [Pt hb 0] G (U32 (crc acc))) (hl pl : Nat) (hhl : hl ≤ 1000000) (hpl : pl ≤ 1000000) (hal : acc0.length ≤ 200000) : FnW Tryz.prog 67 [.iface k r, Pt hb 0, .int .u32 (hl : Int), .int .u32 (pl : Int)] base [G] (Then Wt (acc0 ++ (pre8 hl pl ++ crcB (acc0 ++ pre8 hl pl))) []) := by
 refine FnW.enter (n := 47) Tryz.func67 rfl rfl fun w0 R0 hbase => ?_
 subst hbase
 show WC _ _ _ _ _ _ _ ([G, R0])
 refine WC.sub (fr' := [(0, _), (1, _), (2, _), (3, _)]) ?_ ⟨rfl, rfl, rfl, rfl, trivial⟩
 refine WC.seq (WC.region ?_)
 refine WL.q (oq_assign rfl) rfl rfl rfl ?_
 refine WL.nil (WE.then_normal (WC.sub (fr' := [(0, _), (1, _), (2, _), (3, _)]) ?_ ⟨rfl, rfl, rfl, rfl, trivial⟩))
 refine WC.seq (WC.region ?_)
 refine WL.q (oq_move rfl) rfl rfl rfl ?_
 refine WL.q (oq_add rfl rfl (by rw [u32_lo, u32_hi]; (first | omega | (simp only [List.length_cons, List.length_nil, List.length_append, List.length_drop, List.length_take]; omega)))) rfl rfl rfl ?_
 refine WL.q (oq_move rfl) rfl rfl rfl ?_
 refine WL.q (oq_add rfl rfl (by rw [u32_lo, u32_hi]; (first | omega | (simp only [List.length_cons, List.length_nil, List.length_append, List.length_drop, List.length_take]; omega)))) rfl rfl rfl ?_
 refine WL.q (oq_move rfl) rfl rfl rfl ?_
 refine WL.q (oq_build #[_, _, _] str182 ty182 rfl rfl) rfl rfl rfl ?_
 refine WL.alloc ty182 rfl rfl fun pb hpb => ?_
 refine WL.storeS #[_, _, _] ty182 rfl rfl rfl rfl (Nat.le_of_ble_eq_true rfl) rfl rfl ?_
 refine WL.nil (WE.then_normal (WC.sub (fr' := [(0, _), (1, _), (9, _)]) ?_ ⟨rfl, rfl, rfl, trivial⟩))
 refine WC.seq (WC.seq (WC.region ?_))
 refine WL.q (oq_loadS [_, _, _] agg182 ty182 rfl (.head _) (List.mem_singleton.2 rfl) rfl rfl) rfl rfl rfl ?_
 refine WL.qc (oq_call (validLens (16 + hl + pl) (by omega) _ _) call77 rfl) rfl rfl rfl ?_
 refine WL.q (oq_assign rfl) rfl rfl rfl ?_
 refine WL.nil (WE.then_normal (WC.sub (fr' := [(0, _), (1, _), (9, _), (10, _)]) ?_ ⟨rfl, rfl, rfl, rfl, trivial⟩))
 refine WC.seq (WC.region ?_)
 refine WL.q (oq_move rfl) rfl rfl rfl ?_
 refine WL.q (oq_ineq Tryz.underlying99 rfl (.inl rfl)) rfl rfl rfl ?_
 refine WL.nil (WE.then_normal (WC.sub (fr' := [(0, _), (1, _), (9, _), (10, _), (21, _)]) ?_ ⟨rfl, rfl, rfl, rfl, rfl, trivial⟩))
 refine WC.cond rfl (fun q3 => ?_) (fun q3 => ?_)
 ·
  try simp only [Z1, Z2, Z3, Z4, Z5, Z6, Z7, Z8, Z9, Z0] at q3
  first | contradiction | (exfalso; omega) | (exfalso; simp_all; done)
 ·
  try simp only [Z1, Z2, Z3, Z4, Z5, Z6, Z7, Z8, Z9, Z0] at q3
  refine WC.skip (WE.then_normal (WC.sub (fr' := [(0, _), (1, _), (9, _)]) ?_ ⟨rfl, rfl, rfl, trivial⟩))
  refine WC.seq (WC.region ?_)
  refine WL.q (oq_move rfl) rfl rfl rfl ?_
  refine WL.q (oq_fieldAddr fld182_0 rfl) rfl rfl rfl ?_
  refine WL.q (oq_load flat74 rfl (.head _) (List.mem_singleton.2 rfl) rfl) rfl rfl rfl ?_
  refine WL.q (oq_makeI conc74 rfl) rfl rfl rfl ?_
  refine WL.q (oq_fieldAddr fld182_1 rfl) rfl rfl rfl ?_
  refine WL.q (oq_load flat74 rfl (.head _) (List.mem_singleton.2 rfl) rfl) rfl rfl rfl ?_
  refine WL.q (oq_makeI conc74 rfl) rfl rfl rfl ?_
  refine WL.buildL Tryz.underlying184 ty20 rfl rfl (by decide) (by decide) rfl rfl rfl fun v5 A5 ho5 hne5 => ?_
  refine WL.f2 ?_
  refine WL.f1 ?_
  refine WL.callW2 (zzWrite _ k r f Wt hW acc0 G hG v5 A5 [⟨74, .u32, 4, 16 + (hl : Int) + (pl : Int)⟩, ⟨74, .u32, 4, (hl : Int)⟩] ho5.rd (ok2 (okU _) (okU _)) (by simp) (by simp; omega)) call70 rfl rfl rfl fun v5_8 Hs5_8 hR5_8 => ?_
  obtain ⟨G2, rfl, rfl, hG2⟩ := hR5_8
  rw [bytesN_2] at hG2
  have hG2 : Wt (acc0 ++ pre8 hl pl) G2 := hG2
  have h8 : (pre8 hl pl).length = 8 := by unfold pre8; rw [List.length_append, be_len, be_len]
  refine WL.to2 ?_
  refine WL.q (oq_assign rfl) rfl rfl rfl ?_
  refine WL.nil (WE.then_normal (WC.sub (fr' := [(0, _), (1, _), (9, _), (11, _)]) ?_ ⟨rfl, rfl, rfl, rfl, trivial⟩))
  refine WC.seq (WC.seq (WC.region ?_))
  refine WL.q (oq_move rfl) rfl rfl rfl ?_
  refine WL.q (oq_ineq Tryz.underlying99 rfl (.inl rfl)) rfl rfl rfl ?_
  refine WL.nil (WE.then_normal (WC.sub (fr' := [(0, _), (1, _), (9, _), (11, _), (33, _)]) ?_ ⟨rfl, rfl, rfl, rfl, rfl, trivial⟩))
  refine WC.cond rfl (fun q6 => ?_) (fun q6 => ?_)
  ·
   try simp only [Z1, Z2, Z3, Z4, Z5, Z6, Z7, Z8, Z9, Z0] at q6
   first | contradiction | (exfalso; omega) | (exfalso; simp_all; done)
  ·
   try simp only [Z1, Z2, Z3, Z4, Z5, Z6, Z7, Z8, Z9, Z0] at q6
   refine WC.skip (WE.then_normal (WC.sub (fr' := [(0, _), (1, _), (9, _)]) ?_ ⟨rfl, rfl, rfl, trivial⟩))
   refine WC.seq (WC.region ?_)
   refine WL.q (oq_move rfl) rfl rfl rfl ?_
   refine WL.qc (oq_callRm (hS _ G2 hG2) (.tail _ (.head _)) call69 rfl) rfl rfl rfl ?_
   refine WL.q (oq_fieldAddr fld182_2 rfl) rfl rfl rfl ?_
   refine WL.f2 ?_
   refine WL.store1 #[_, _, _] ty74 rfl rfl (by first | rfl | exact OwS.one one_) (Nat.lt_of_lt_of_le (Nat.lt_succ_self _) (Nat.le_of_ble_eq_true rfl)) rfl rfl ?_
   refine WL.nil (WE.then_normal (WC.sub (fr' := [(0, _), (9, _)]) ?_ ⟨rfl, rfl, trivial⟩))
   refine WC.seq (WC.region ?_)
   refine WL.q (oq_move rfl) rfl rfl rfl ?_
   refine WL.q (oq_fieldAddr fld182_2 rfl) rfl rfl rfl ?_
   refine WL.q (oq_load flat74 rfl (.head _) (List.mem_singleton.2 rfl) rfl) rfl rfl rfl ?_
   refine WL.q (oq_makeI conc74 rfl) rfl rfl rfl ?_
   refine WL.buildL Tryz.underlying184 ty20 rfl rfl (by decide) (by decide) rfl rfl rfl fun v9 A9 ho9 hne9 => ?_
   refine WL.f3 ?_
   refine WL.f1 ?_
   refine WL.callW2 (zzWrite _ k r f Wt hW _ G2 hG2 v9 A9 [⟨74, .u32, 4, ((crc (acc0 ++ pre8 hl pl)).toNat : Int)⟩] ho9.rd (ok1 (okU _)) (by simp) (by rw [List.length_append]; simp; omega)) call70 rfl rfl rfl fun v9_5 Hs9_5 hR9_5 => ?_
   obtain ⟨G3, rfl, rfl, hG3⟩ := hR9_5
   rw [bytesN_1, List.append_assoc] at hG3
   refine WL.to2 ?_
   refine WL.q (oq_assign rfl) rfl rfl rfl ?_
   refine WL.nil (WE.then_normal (WC.sub (fr' := [(11, _)]) ?_ ⟨rfl, trivial⟩))
   refine WC.seq (WC.seq (WC.region ?_))
   refine WL.q (oq_move rfl) rfl rfl rfl ?_
   refine WL.q (oq_ineq Tryz.underlying99 rfl (.inl rfl)) rfl rfl rfl ?_
   refine WL.nil (WE.then_normal (WC.sub (fr' := [(11, _), (45, _)]) ?_ ⟨rfl, rfl, trivial⟩))
   refine WC.cond rfl (fun q10 => ?_) (fun q10 => ?_)
   ·
    try simp only [Z1, Z2, Z3, Z4, Z5, Z6, Z7, Z8, Z9, Z0] at q10
    first | contradiction | (exfalso; omega) | (exfalso; simp_all; done)
   ·
    try simp only [Z1, Z2, Z3, Z4, Z5, Z6, Z7, Z8, Z9, Z0] at q10
    refine WC.skip (WE.then_normal (WC.sub (fr' := []) ?_ trivial))
    refine WC.seq (WC.region ?_)
    refine WL.q (oq_assign rfl) rfl rfl rfl ?_
    refine WL.nil (WE.then_normal (WC.sub (fr' := [(8, _)]) ?_ ⟨rfl, trivial⟩))
    refine WC.ret ?_
    refine WE.forget ho9.fresh ?_
    refine WE.f1 ?_
    refine WE.lose hpb ?_
    refine WE.f1 ?_
    refine WE.forget ho5.fresh ?_
    refine WE.endW1 (.inl rfl) (res1 Tryz.results67 rfl) ?_
    exact ⟨_, rfl, rfl, hG3⟩
theorem multiWriter (v : Value) (L : Hp) (ws : List (TypeId × Value)) (hr : RdS 1 v L ws.length (ws.map wval)) (hn : ws.length ≤ 100) (hk : ∀ x ∈ ws, x.1 ≠ 177) : FnA Tryz.prog 65 [v] L (fun w N => ∃ mb u Ws, w = .iface 177 (Pt mb 0) ∧ N = [(mb, .cells #[u] 180 (0, 0))] ++ Ws ∧ RdS 1 u Ws ws.length (ws.map wval)) := by
 refine FnA.enter (n := 38) Tryz.func65 rfl rfl fun w0 => ?_
 refine WC.sub (fr' := [(0, _)]) ?_ ⟨rfl, trivial⟩
 refine WC.seq (WC.region ?_)
 refine WL.q (oq_assign rfl) rfl rfl rfl ?_
 refine WL.nil (WE.then_normal (WC.sub (fr' := [(0, _)]) ?_ ⟨rfl, trivial⟩))
 refine WC.seq (WC.region ?_)
 refine WL.q (oq_move rfl) rfl rfl rfl ?_
 refine WL.q (oq_len_rd hr Tryz.underlying176 rfl) rfl rfl rfl ?_
 refine WL.make0 Tryz.underlying176 ty151 rfl rfl (by omega) (by unfold maxLen; omega) rfl rfl fun v1_2 A1_2 ho1_2 hne1_2 => ?_
 refine WL.q (oq_assign rfl) rfl rfl rfl ?_
 refine WL.nil (WE.then_normal (WC.sub (fr' := [(0, _), (3, _)]) ?_ ⟨rfl, rfl, trivial⟩))
 refine WC.seq (WC.seq (WC.region ?_))
 refine WL.q (oq_move rfl) rfl rfl rfl ?_
 refine WL.q (oq_len_rd hr Tryz.underlying176 rfl) rfl rfl rfl ?_
 refine WL.q (oq_move rfl) rfl rfl rfl ?_
 refine WL.nil (WE.then_normal (WC.sub (fr' := [(3, _), (11, _), (12, _), (13, _)]) ?_ ⟨rfl, rfl, rfl, rfl, trivial⟩))
 refine WC.block ?_
 refine WC.loop (ι := Nat × Value × Hp) (fun i_ => (fun (i : Nat) (u : Value) (B : Hp) => [(3, u), (11, v), (12, I (ws.length : Int)), (13, I (i : Int))]) i_.1 i_.2.1 i_.2.2) (fun i_ => (fun (i : Nat) (u : Value) (B : Hp) => [B, L]) i_.1 i_.2.1 i_.2.2) (fun i_ => (fun (i : Nat) (u : Value) (B : Hp) => i ≤ ws.length ∧ OwS w0.heap.size 151 1 u B i ((ws.map wval).take i)) i_.1 i_.2.1 i_.2.2) (fun i_ => (fun (i : Nat) (u : Value) (B : Hp) => ws.length - i) i_.1 i_.2.1 i_.2.2) ((0, _, _)) ?_ ⟨rfl, rfl, rfl, rfl, trivial⟩ (List.Perm.refl _) ?_
 ·try dsimp only
  exact ⟨by omega, by assumption⟩
 ·rintro ⟨i, u, B⟩ hp
  try dsimp only at hp
  obtain ⟨hi, ho⟩ := hp
  show WC _ _ _ _ _ _ ([(3, u), (11, v), (12, I (ws.length : Int)), (13, I (i : Int))]) ([B, L])
  refine WC.seq (WC.region ?_)
  refine WL.q (oq_lss rfl rfl) rfl rfl rfl ?_
  refine WL.nil (WE.then_normal (WC.sub (fr' := [(3, _), (11, _), (12, _), (13, _), (14, _)]) ?_ ⟨rfl, rfl, rfl, rfl, rfl, trivial⟩))
  refine WC.seq ?_
  refine WC.cond rfl (fun q3 => ?_) (fun q3 => ?_)
  ·
   try simp only [Z1, Z2, Z3, Z4, Z5, Z6, Z7, Z8, Z9, Z0] at q3
   refine WC.skip (WE.then_normal (WC.sub (fr' := [(3, _), (11, _), (12, _), (13, _)]) ?_ ⟨rfl, rfl, rfl, rfl, trivial⟩))
   refine WC.seq (WC.block (WC.seq ?_))
   have hlt : i < ws.length := by omega
   refine WC.region ?_
   refine WL.q (oq_ixaddr hr Tryz.underlying176 ty151 rfl rfl (by (first | omega | (simp only [List.length_cons, List.length_nil, List.length_append, List.length_drop, List.length_take]; omega)))) rfl rfl rfl ?_
   refine WL.q (oq_load_el hr (by repeat (first | exact .head _ | apply List.Mem.tail)) flat151 rfl (by omega) (u := wval ws[i]) (by rw [Int.toNat_natCast, List.getElem?_map, List.getElem?_eq_getElem hlt]; rfl)) rfl rfl rfl ?_
   refine WL.q (oq_assign rfl) rfl rfl rfl ?_
   refine WL.nil (WE.then_normal (WC.sub (fr' := [(3, _), (5, _), (11, _), (12, _), (13, _)]) ?_ ⟨rfl, rfl, rfl, rfl, rfl, trivial⟩))
   refine WC.seq (WC.region ?_)
   refine WL.q (oq_move rfl) rfl rfl rfl ?_
   refine WL.q (oq_askG conc177 ty177 rfl) rfl rfl rfl ?_
   refine WL.q (oq_move rfl) rfl rfl rfl ?_
   refine WL.q (oq_extract rfl rfl) rfl rfl rfl ?_
   refine WL.q (oq_extract rfl rfl) rfl rfl rfl ?_
   refine WL.q (oq_assign rfl) rfl rfl rfl ?_
   refine WL.q (oq_assign rfl) rfl rfl rfl ?_
   refine WL.nil (WE.then_normal (WC.sub (fr' := [(3, _), (5, _), (6, _), (7, _), (11, _), (12, _), (13, _)]) ?_ ⟨rfl, rfl, rfl, rfl, rfl, rfl, rfl, trivial⟩))
   refine WC.seq (WC.region ?_)
   refine WL.q (oq_move rfl) rfl rfl rfl ?_
   refine WL.nil (WE.then_normal (WC.sub (fr' := [(3, _), (5, _), (6, _), (11, _), (12, _), (13, _), (22, _)]) ?_ ⟨rfl, rfl, rfl, rfl, rfl, rfl, rfl, trivial⟩))
   refine WC.cond rfl (fun q6 => ?_) (fun q6 => ?_)
   ·
    try simp only [Z1, Z2, Z3, Z4, Z5, Z6, Z7, Z8, Z9, Z0] at q6
    exact absurd q6 (hk _ (List.getElem_mem hlt))
   ·
    try simp only [Z1, Z2, Z3, Z4, Z5, Z6, Z7, Z8, Z9, Z0] at q6
    refine WC.region ?_
    refine WL.q (oq_move rfl) rfl rfl rfl ?_
    refine WL.q (oq_move rfl) rfl rfl rfl ?_
    refine WL.append1 ho Tryz.underlying176 ty151 rfl (by decide) (fun _ => rfl) rfl rfl (by unfold maxLen; omega) (by omega) rfl rfl (fun _ => rfl) rfl fun v8 A8 u8 ho8 hne8 => ?_
    refine WL.q (oq_assign rfl) rfl rfl rfl ?_
    refine WL.nil (WE.block_normal (WE.then_normal (WC.sub (fr' := [(3, _), (11, _), (12, _), (13, _)]) ?_ ⟨rfl, rfl, rfl, rfl, trivial⟩)))
    refine WC.region ?_
    refine WL.q (oq_add rfl rfl (by rw [i64_lo, i64_hi]; (first | omega | (simp only [List.length_cons, List.length_nil, List.length_append, List.length_drop, List.length_take]; omega)))) rfl rfl rfl ?_
    refine WL.q (oq_move rfl) rfl rfl rfl ?_
    refine WL.nil ?_
    refine WE.again (i + 1, _, _) ?_ ?_ ⟨rfl, rfl, rfl, rfl, trivial⟩ (List.Perm.refl _)
    ·try dsimp only
     exact ⟨by omega, by rw [List.take_add_one, List.getElem?_map, List.getElem?_eq_getElem hlt]; exact ho8⟩
    ·(try dsimp only); omega
  ·
   try simp only [Z1, Z2, Z3, Z4, Z5, Z6, Z7, Z8, Z9, Z0] at q3
   refine WC.exit (WE.then_exit (WE.then_exit (WE.block_same (WE.then_normal (WC.sub (fr' := [(3, _)]) ?_ ⟨rfl, trivial⟩)))))
   refine WC.seq ?_
   obtain ⟨pu, cu, rfl⟩ := ho.rd.shape
   refine WC.region ?_
   refine WL.q (oq_move rfl) rfl rfl rfl ?_
   refine WL.q (oq_build #[_] str180 ty180 rfl rfl) rfl rfl rfl ?_
   refine WL.box rfl rfl rfl fun mb hmb => ?_
   refine WL.q (oq_makeI conc177 rfl) rfl rfl rfl ?_
   refine WL.q (oq_assign rfl) rfl rfl rfl ?_
   refine WL.nil (WE.then_normal (WC.sub (fr' := [(2, _)]) ?_ ⟨rfl, trivial⟩))
   refine WC.ret ?_
   refine WE.cat ?_
   refine WE.endA (.inl rfl) (res1 Tryz.results65 rfl) ?_ (fresh_cat (fresh1 hmb) (ho.fresh))
   obtain rfl : i = ws.length := by omega
   rw [List.take_of_length_le (by simp)] at ho
   exact ⟨_, _, _, rfl, rfl, ho.rd⟩
theorem newEncoder  : FnA Tryz.prog 48 [] [] (fun w N => ∃ eb b1 b2, w = Pt eb 0 ∧ N = ([(eb, .cells #[Pt b1 0, Pt b2 0] 149 (0, 0))] ++ BB b1 (.slice none 0 0) 0) ++ BB b2 (.slice none 0 0) 0) := by
 refine FnA.enter0 (n := 5) Tryz.func48 rfl rfl fun w0 => ?_
 refine WC.sub (fr' := []) ?_ trivial
 refine WC.seq (WC.region ?_)
 refine WL.q (oq_assign rfl) rfl rfl rfl ?_
 refine WL.nil (WE.then_normal (WC.sub (fr' := []) ?_ trivial))
 refine WC.seq (WC.region ?_)
 refine WL.callA0 (newBuf) call62 rfl rfl rfl fun v1_0 N1_0 hR1_0 hN1_0 => ?_
 obtain ⟨b0, rfl, rfl⟩ := hR1_0
 refine WL.callA0 (newBuf) call62 rfl rfl rfl fun v1_1 N1_1 hR1_1 hN1_1 => ?_
 obtain ⟨b1, rfl, rfl⟩ := hR1_1
 refine WL.q (oq_build #[_, _] str149 ty149 rfl rfl) rfl rfl rfl ?_
 refine WL.box rfl rfl rfl fun eb heb => ?_
 refine WL.q (oq_assign rfl) rfl rfl rfl ?_
 refine WL.nil (WE.then_normal (WC.sub (fr' := [(0, _)]) ?_ ⟨rfl, trivial⟩))
 refine WC.ret ?_
 refine WE.f1 ?_
 refine WE.f2 ?_
 refine WE.f2 ?_
 refine WE.cat ?_
 refine WE.cat ?_
 refine WE.endA0 (.inl rfl) (res1 Tryz.results48 rfl) ?_ (fresh_cat (fresh_cat (fresh1 heb) (hN1_0)) (hN1_1))
 exact ⟨_, _, _, rfl, rfl⟩
end EK
end Go.Proofs.YtodlhaghdplclaaGreatDoor
/- Writers of many writers, buffers as groups. -/
namespace Go.Proofs.YtodlhaghdplclaaGreatDoor
open Go Go.RowKit V EA EB EC ED EE EF EG EH EI EJ EK
set_option linter.unusedSimpArgs false
set_option linter.unusedVariables false
namespace EL
theorem fw_perm {P : Program} {f : FuncId} {args : List Value} {base : Nat} {Hs Ks : List Hp} {F : Hp} {R R' : Value → List Hp → Prop} (h : FnW P f args base Hs R) (p : Ks.flatten.Perm (Hs.flatten ++ F)) (hr : ∀ v Hs', R v Hs' → ∃ Ks', R' v Ks' ∧ (Hs'.flatten ++ F).Perm Ks'.flatten) : FnW P f args base Ks R' := by
 intro w0 R0 w hb hw
 have e1 : ∀ (X : List Hp) (Y : Hp), (X ++ [Y]).flatten = X.flatten ++ Y := fun X Y => by simp
 have p1 : (Ks ++ [R0]).flatten.Perm (Hs ++ [F ++ R0]).flatten := by
  rw [e1, e1, ← List.append_assoc]; exact p.append_right _
 refine (h w0 (F ++ R0) w hb (hw.perm p1)).mono ?_
 rintro e w' ⟨v, Hs', he, hR, hst⟩
 obtain ⟨Ks', hR', p2⟩ := hr v Hs' hR
 refine ⟨v, Ks', he, hR', hst.perm ?_⟩
 rw [e1, e1, ← List.append_assoc]; exact p2.append_right _
theorem mid1 (W G F C : Hp) : ((W ++ G ++ F) ++ C).Perm ((G ++ C) ++ (W ++ F)) := by
 have h1 : (W ++ G ++ F ++ C).Perm (G ++ W ++ F ++ C) := ((List.perm_append_comm.append_right F).append_right C)
 have h2 : (G ++ W ++ F ++ C).Perm (G ++ C ++ (W ++ F)) := by
  rw [List.append_assoc G W F, List.append_assoc G (W ++ F) C, List.append_assoc G C]
  exact List.Perm.append_left _ List.perm_append_comm
 exact h1.trans h2
abbrev Hash (hb : Nat) (c : BitVec 32) : Hp := [(hb, .cells #[U32 c] 155 (0, 0))]
theorem midWr (base bb : Nat) (W F : Hp) : Wr base 107 (Pt bb 0) 134 (fun acc X => ∃ Gb, BufG base bb acc Gb ∧ X = (W ++ Gb) ++ F) := by
 refine ⟨invBW, nokBW _, ?_⟩
 rintro acc G s C data ⟨Gb, hG, rfl⟩ hr hl h0
 refine fw_perm (F := W ++ F) ((bufWr base bb).run acc Gb s C data hG hr hl h0) ?_ ?_
 ·simp only [List.flatten_cons, List.flatten_nil, List.append_nil]
  exact mid1 W Gb F C
 ·rintro v Hs ⟨G', rfl, rfl, hG'⟩
  refine ⟨_, ⟨_, rfl, rfl, G', hG', rfl⟩, ?_⟩
  simp only [List.flatten_cons, List.flatten_nil, List.append_nil]
  exact (mid1 W G' F C).symm
/-! ### A writer of two: a buffer and a sum -/
def MwG (base mb : Nat) (u : Value) (Ws : Hp) (bb hb : Nat) (acc : List UInt8) (X : Hp) : Prop := ∃ Gb, BufG base bb acc Gb ∧ X = (([(mb, .cells #[u] 180 (0, 0))] ++ Ws) ++ Gb) ++ Hash hb (crc acc)
def St2 (base bb hb : Nat) (acc data : List UInt8) (i : Nat) (X : Hp) : Prop := ∃ Gb, BufG base bb (if i = 0 then acc else acc ++ data) Gb ∧ X = Gb ++ Hash hb (crc (if i ≤ 1 then acc else acc ++ data))
theorem st_step (base bb hb : Nat) (acc data : List UInt8) (s : Value) (C : Hp) (hr : RdS 1 s C data.length (bytesV data)) (hl : acc.length + data.length ≤ 400000) (h0 : 0 < acc.length + data.length) :
  MwStep base [.iface 107 (Pt bb 0), .iface 153 (Pt hb 0)] s C data.length (St2 base bb hb acc data) := by
 intro i hi
 match i, hi with
 | 0, _ =>
  refine ⟨_, _, _, rfl, invBW, ?_⟩
  rintro G ⟨Gb, hG, rfl⟩
  rw [if_pos rfl] at hG
  refine fw_perm (F := Hash hb (crc acc)) ((bufWr base bb).run acc Gb s C data hG hr hl h0) ?_ ?_
  ·simpa using mid1 [] Gb (Hash hb (crc acc)) C
  ·rintro v Hs ⟨G', rfl, rfl, hG'⟩
   exact ⟨_, ⟨_, rfl, rfl, G', hG', rfl⟩, by simpa using (mid1 [] G' (Hash hb (crc acc)) C).symm⟩
 | 1, _ =>
  refine ⟨_, _, _, rfl, invCW, ?_⟩
  rintro G ⟨Gb, hG, rfl⟩
  rw [if_neg (by decide)] at hG
  have hh : crc (if (1 : Nat) ≤ 1 then acc else acc ++ data) = crc acc := rfl
  rw [hh]
  refine fw_perm (F := Gb) (crcWrite base hb acc s C data hr (by omega)) ?_ ?_
  ·simpa using mid1 Gb (Hash hb (crc acc)) [] C
  ·rintro v Hs ⟨rfl, rfl⟩
   exact ⟨_, ⟨_, rfl, rfl, Gb, hG, rfl⟩, by simpa using (mid1 Gb (Hash hb (crc (acc ++ data))) [] C).symm⟩
theorem mwWr (base mb : Nat) (u : Value) (Ws : Hp) (bb hb : Nat) (hw : RdS 1 u Ws 2 [.iface 107 (Pt bb 0), .iface 153 (Pt hb 0)]) : Wr base 177 (Pt mb 0) 197 (MwG base mb u Ws bb hb) := by
 refine ⟨invMW, nokMW _, ?_⟩
 rintro acc G s C data ⟨Gb, hG, rfl⟩ hr hl h0
 have h := mwWrite base mb u Ws [.iface 107 (Pt bb 0), .iface 153 (Pt hb 0)] hw (by simp) s C data hr (by omega) (St2 base bb hb acc data) (st_step base bb hb acc data s C hr hl h0) (Gb ++ Hash hb (crc acc)) ⟨Gb, hG, rfl⟩
 refine fw_perm (F := []) h ?_ ?_
 ·simp
 ·rintro v Hs ⟨G2, rfl, rfl, G', hG', rfl⟩
  exact ⟨_, ⟨_, rfl, rfl, G', hG', rfl⟩, by simp⟩
theorem mwSum (base mb : Nat) (u : Value) (Ws : Hp) (bb hb : Nat) (acc : List UInt8) (G : Hp) (h : MwG base mb u Ws bb hb acc G) : FnR Tryz.prog 69 [Pt hb 0] G (U32 (crc acc)) := by
 obtain ⟨Gb, _, rfl⟩ := h
 exact (sum32 hb (crc acc)).wide (List.perm_append_comm)
/-! ### Buffers as groups -/
theorem bufReset (base bb : Nat) (acc : List UInt8) (G : Hp) (h : BufG base bb acc G) : FnW Tryz.prog 63 [Pt bb 0] base [G] (fun w Hs => ∃ G', w = .tuple #[] ∧ Hs = [G'] ∧ BufG base bb [] G') := by
 obtain ⟨v, lr, A, rfl, hb⟩ := h
 rcases hb with ⟨rfl, rfl, rfl⟩ | ⟨B, cap, L, rfl, rfl, hB, hL, hc, hc0, hm, ht⟩
 ·refine fw_perm (F := []) (reset0 base bb lr 0) (by simp) ?_
  rintro v Hs ⟨rfl, rfl⟩
  exact ⟨_, ⟨_, rfl, rfl, _, 0, [], rfl, .inl ⟨rfl, rfl, rfl⟩⟩, by simp⟩
 ·refine fw_perm (F := Bf B 5 L) (reset1 base bb lr 0 B acc.length cap hc hc0) (by simp) ?_
  rintro v Hs ⟨rfl, rfl⟩
  exact ⟨_, ⟨_, rfl, rfl, _, 0, _, rfl, .inr ⟨B, cap, L, rfl, rfl, hB, hL, Nat.zero_le _, hc0, hm, rfl⟩⟩, by simp⟩
theorem bufLenG (base bb : Nat) (acc : List UInt8) (G : Hp) (h : BufG base bb acc G) (hl : acc.length ≤ 1000000) : FnR Tryz.prog 66 [Pt bb 0] G (I (acc.length : Int)) := by
 obtain ⟨v, lr, A, rfl, hb⟩ := h
 rcases hb with ⟨rfl, rfl, rfl⟩ | ⟨B, cap, L, rfl, rfl, hB, hL, hc, hc0, hm, ht⟩
 ·exact (bufLen bb 0 0 none lr (by omega)).wide (List.Perm.refl _)
 ·exact (bufLen bb acc.length cap (some ⟨B, 0, none⟩) lr (by omega)).wide (List.Perm.refl _)
theorem bytesG (base bb : Nat) (acc : List UInt8) (G : Hp) (h : BufG base bb acc G) : ∃ v, FnR Tryz.prog 47 [Pt bb 0] G v ∧ RdS 1 v G acc.length (bytesV acc) := by
 obtain ⟨v, lr, A, rfl, hb⟩ := h
 rcases hb with ⟨rfl, rfl, rfl⟩ | ⟨B, cap, L, rfl, rfl, hB, hL, hc, hc0, hm, ht⟩
 ·exact ⟨_, (bufBytes0 bb lr).wide (List.Perm.refl _), rfl, .inl ⟨rfl, _, _, rfl⟩⟩
 ·refine ⟨_, (bufBytes bb B acc.length cap lr hc hc0).wide (List.Perm.refl _), ?_⟩
  have h1 : RdS 1 (Sl B 0 acc.length cap) (Bf B 5 L) acc.length (bytesV acc) := by have := Sl.rd (b := B) (off := 0) (n := acc.length) (c := cap) (e := 5) (l := L) (by omega) hc; rw [List.drop_zero, ht] at this; exact this
  exact h1.weaken fun x hx => List.mem_append_right _ hx
theorem copyG (base : Nat) (k : TypeId) (r : Value) (f : FuncId) (Wt : List UInt8 → Hp → Prop) (hW : Wr base k r f Wt) (acc0 : List UInt8) (G : Hp) (hG : Wt acc0 G) (bb : Nat) (acc : List UInt8) (B : Hp) (hB : BufG base bb acc B) (ha : 0 < acc.length) (hal : acc0.length + acc.length ≤ 400000) :
  FnW Tryz.prog 68 [.iface k r, .iface 107 (Pt bb 0)] base [B, G] (fun w Hs => ∃ B' G', w = .tuple #[I (acc.length : Int), .nilIface] ∧ Hs = [B', G'] ∧ BufG base bb [] B' ∧ Wt (acc0 ++ acc) G') := by
 obtain ⟨v, lr, A, rfl, hb⟩ := hB
 rcases hb with ⟨rfl, rfl, rfl⟩ | ⟨B, cap, L, rfl, rfl, hB, hL, hc, hc0, hm, ht⟩
 ·cases ha
 ·refine fw_perm (F := []) (copy_ base k r f Wt hW acc0 G hG bb B cap lr L acc hB hL hc hc0 hm ht ha hal) (by simp) ?_
  rintro v Hs ⟨G2, rfl, rfl, hG2⟩
  exact ⟨_, ⟨_, _, rfl, rfl, ⟨_, 0, _, rfl, .inr ⟨B, cap, L, rfl, rfl, hB, hL, Nat.zero_le _, hc0, hm, rfl⟩⟩, hG2⟩, by simp⟩
end EL
end Go.Proofs.YtodlhaghdplclaaGreatDoor
/- The engine, part 28: arguments that come in: slices whose elements hold slices, structs. Over any program. -/
namespace Go.Proofs.YtodlhaghdplclaaGreatDoor.V
open Go Go.RowKit Go.ChangeShapes Go.WideShapes
set_option linter.unusedSimpArgs false
set_option linter.unusedVariables false
theorem has_list {W : World} : ∀ (As : List Hp), (∀ A ∈ As, Has A W) → ∃ C, Has C W ∧ ∀ A ∈ As, ∀ x ∈ A, x ∈ C
 | [], _ => ⟨[], Has.nil W, fun _ h => nomatch h⟩
 | A :: r, h => by
  obtain ⟨C, hC, h1⟩ := has_list r fun B hB => h B (List.mem_cons_of_mem _ hB)
  obtain ⟨D, hD, h2, h3⟩ := has_two (h A List.mem_cons_self) hC
  refine ⟨D, hD, fun B hB x hx => ?_⟩
  rcases List.mem_cons.1 hB with rfl | hB
  ·exact h2 x hx
  ·exact h3 x (h1 B hB x hx)
section
variable {H : Type} {enc : TypeId × Value → H} {P : Program} {w : World}
theorem trod_sl {α : Type} (f : α → List Value) (R : α → Hp → Prop) {sz : Nat} (hR : ∀ x A C, R x A → (∀ y ∈ A, y ∈ C) → R x C) (hf : ∀ x, (f x).length = sz) (hsz : 0 < sz) {t e : TypeId} {cs : List Value} {fuel : Nat} {y : DataW H × List MemPlace} (ht : P.underlying t = some (.slice e)) (hc : P.cellsOf e = sz)
  (hel : ∀ (n : Nat) (cs : List Value) (y : DataW H × List MemPlace), DataW.trod enc P w 0 (fun _ => true) true n e cs = some y → cs.length = sz → ∃ x A, cs = f x ∧ Has A w ∧ R x A)
  (h : DataW.trod enc P w 0 (fun _ => true) true fuel t cs = some y) :
  ∃ (v : Value) (l : List α) (A : Hp), cs = [v] ∧ Has A w ∧ RdS sz v A l.length (recsV f l) ∧ l.length ≤ maxLen ∧ ∀ x ∈ l, R x A := by
 rcases DataW.trod_slice ht h with ⟨rfl, _⟩ | ⟨x, len, cap, elems, rest, n, _, rfl, _, _, hl, hm, hlen, hels, _, _⟩
 ·exact ⟨_, [], [], rfl, Has.nil w, ⟨by simp [recsV], .inl ⟨rfl, _, _, rfl⟩⟩, by simp, fun _ h => nomatch h⟩
 ·have each : ∀ i : Fin len, ∃ y : α × Hp, (∀ j, j < sz → w.cell? (x.add (i.1 * sz + j)) = (f y.1)[j]?) ∧ Has y.2 w ∧ R y.1 y.2 := by
   intro i
   have h1 := hels i.1 i.2
   rw [List.getElem?_eq_getElem (by omega), hc] at h1
   obtain ⟨cs, h2, h3⟩ := Option.bind_eq_some_iff.1 h1
   obtain ⟨_, h4, h5⟩ := World.cells?_some h2
   obtain ⟨y, A, rfl, hA, hr⟩ := hel n cs _ h3 h4
   exact ⟨(y, A), fun j hj => by rw [← Addr.add_add]; exact h5 j hj, hA, hr⟩
  let g : Fin len → α × Hp := fun i => Classical.choose (each i)
  have hg : ∀ i : Fin len, (∀ j, j < sz → w.cell? (x.add (i.1 * sz + j)) = (f (g i).1)[j]?) ∧ Has (g i).2 w ∧ R (g i).1 (g i).2 := fun i => Classical.choose_spec (each i)
  obtain ⟨l, hl'⟩ : ∃ l, l = List.ofFn (fun i => (g i).1) := ⟨_, rfl⟩
  have hll : l.length = len := by rw [hl']; simp
  obtain ⟨A, hA, hr⟩ := rd_of_cellsN (w := w) (a := x) (sz := sz) (len := len) (cap := cap) (xs := recsV f l) hsz (by rw [recs_len hf, hll]) hl (fun i hi => by
   have hdiv : i / sz < len := Nat.div_lt_of_lt_mul (by rw [Nat.mul_comm]; exact hi)
   have hmod : i % sz < sz := Nat.mod_lt _ hsz
   have hi2 : i / sz * sz + i % sz = i := by rw [Nat.mul_comm]; exact Nat.div_add_mod i sz
   have h1 := (hg ⟨i / sz, hdiv⟩).1 (i % sz) hmod
   have h2 := recs_get hf (g ⟨i / sz, hdiv⟩).1 l (i / sz) (i % sz) (by rw [hll]; exact hdiv) hmod
   rw [hi2] at h1 h2
   rw [h1, h2]
   congr 2
   rw [List.getD_eq_getElem?_getD, List.getElem?_eq_getElem (by rw [hll]; exact hdiv)]
   simp [hl'])
  obtain ⟨C, hC, hin⟩ := has_list (W := w) (List.ofFn fun i => (g i).2) (by
   intro B hB
   obtain ⟨i, rfl⟩ := List.mem_ofFn.1 hB
   exact (hg i).2.1)
  obtain ⟨D, hD, h2, h3⟩ := has_two hA hC
  refine ⟨_, l, D, rfl, hD, by rw [hll]; exact hr.weaken h2, by omega, fun z hz => ?_⟩
  rw [hl'] at hz
  obtain ⟨i, rfl⟩ := List.mem_ofFn.1 hz
  exact hR _ _ _ (hg i).2.2 fun y hy => h3 y (hin _ (List.mem_ofFn.2 ⟨i, rfl⟩) y hy)
end
end Go.Proofs.YtodlhaghdplclaaGreatDoor.V
/- The engine, part 29: sentinels that are told apart, fields of own elements, told worlds at a function's begin. Over any program. -/
namespace Go.Proofs.YtodlhaghdplclaaGreatDoor.V
open Go Go.RowKit
set_option linter.unusedSimpArgs false
set_option linter.unusedVariables false
section
variable {P : Program} {n : Nat} {w0 : World} {ds : List Deferred} {fr : Fr} {H : List Hp} {dst : Option Tmp} {ty : TypeId} {pos : String} {aft : Array Edge} {g : Option (Nat × Bool)} {ops : Array Oper} {Q : Post} {rest : List Oper}
theorem WL.storeOwF {t e : TypeId} {x y : Operand} {m i off sz : Nat} {v u z : Value} {A : Hp} {xs : List Value} {bytes : Nat} (ho : OwS w0.heap.size e sz v A m xs) (hty : Ty P t z 1 bytes) (hx : ev fr x = some (adOff (elAddr sz v (i : Int)) off)) (hy : ev fr y = some u) (h1 : u.oneCell' = true) (hi : i < m) (hoff : off < sz)
  (hg : gd ops fr ⟨none, .store t x y, ty, pos, aft, g⟩ = some true) (hk : ∀ A', OwS w0.heap.size e sz v A' m (xs.set (i * sz + off) u) → WL P n w0 ops Q rest ds fr (A' :: H)) : WL P n w0 ops Q (⟨none, .store t x y, ty, pos, aft, g⟩ :: rest) ds fr (A :: H) := by
 have hlt : i * sz + off < m * sz := by
  have : (i + 1) * sz ≤ m * sz := Nat.mul_le_mul_right _ hi
  rw [Nat.succ_mul] at this; omega
 rcases ho.2 with ⟨_, _, rfl⟩ | ⟨b, cap, cur, rfl, rfl, hb, hmc, hcm, hcs, hct⟩
 ·omega
 ·have hms : m * sz ≤ cap * sz := Nat.mul_le_mul_right _ hmc
  have hxa : ev fr x = some (Pt b (i * sz + off)) := by rw [hx]; simp [elAddr, adOff, Addr.add]
  refine WL.store hty hxa hy h1 (by rw [hcs]; omega) (by simp) hg (hk _ ⟨by rw [List.length_set]; exact ho.1, .inr ⟨b, cap, _, rfl, rfl, hb, hmc, hcm, by simp [hcs], ?_⟩⟩)
  rw [Array.toList_setIfInBounds, listSet_take _ _ _ _ (by omega), hct]
end
end Go.Proofs.YtodlhaghdplclaaGreatDoor.V
/- Readers of bytes. -/
namespace Go.Proofs.YtodlhaghdplclaaGreatDoor
open Go Go.RowKit V EA EB EC ED EL
set_option linter.unusedSimpArgs false
set_option linter.unusedVariables false
set_option maxRecDepth 10000
namespace DC
theorem flat2 : Flat Tryz.prog 2 := ⟨_, Tryz.underlying2, by simp⟩
theorem flat28 : Flat Tryz.prog 28 := ⟨_, Tryz.underlying28, by simp⟩
theorem ty2 : Ty Tryz.prog 2 (.int .i64 0) 1 8 := ty_of (by kernel_rfl)
theorem ty3 : Ty Tryz.prog 3 (.int .i64 0) 1 8 := ty_of (by kernel_rfl)
theorem ty5 : Ty Tryz.prog 5 (.int .u8 0) 1 1 := ty_of (by kernel_rfl)
theorem ty28 : Ty Tryz.prog 28 (.slice none 0 0) 1 24 := ty_of (by kernel_rfl)
section
variable {n : Nat} {w0 : World} {ds : List Deferred} {fr : Fr} {H : List Hp} {dst : Option Tmp} {ty : TypeId} {pos : String} {aft : Array Edge} {g : Option (Nat × Bool)} {E : Hp} {kE : TypeId} {pE pU : Addr} {ob c : Nat} {t t' : TypeId} {ms : Array (String × TypeId)} {x y : Operand}
end
end DC
end Go.Proofs.YtodlhaghdplclaaGreatDoor
/- Readers with a sum, limited ones, reading in full. -/
namespace Go.Proofs.YtodlhaghdplclaaGreatDoor
open Go Go.RowKit V EA EB EC ED EL DC
set_option linter.unusedSimpArgs false
set_option linter.unusedVariables false
set_option maxRecDepth 10000
namespace DD
theorem flat2 : Flat Tryz.prog 2 := ⟨_, Tryz.underlying2, by simp⟩
theorem flat151 : Flat Tryz.prog 151 := ⟨_, Tryz.underlying151, by simp⟩
theorem ty2 : Ty Tryz.prog 2 (.int .i64 0) 1 8 := ty_of (by kernel_rfl)
theorem ty5 : Ty Tryz.prog 5 (.int .u8 0) 1 1 := ty_of (by kernel_rfl)
theorem ty151 : Ty Tryz.prog 151 .nilIface 1 16 := ty_of (by kernel_rfl)
end DD
end Go.Proofs.YtodlhaghdplclaaGreatDoor
/- The encoder. -/
namespace Go.Proofs.YtodlhaghdplclaaGreatDoor
open Go Go.RowKit V EA EB EC ED EE EF EG EH EI EJ EK EL
set_option linter.unusedSimpArgs false
set_option linter.unusedVariables false
set_option maxRecDepth 10000
namespace EM
theorem call63 : Callable Tryz.prog 63 := ⟨_, Tryz.func63, rfl, by kernel_rfl⟩
theorem call64 : Callable Tryz.prog 64 := ⟨_, Tryz.func64, rfl, by kernel_rfl⟩
theorem call65 : Callable Tryz.prog 65 := ⟨_, Tryz.func65, rfl, by kernel_rfl⟩
theorem call66 : Callable Tryz.prog 66 := ⟨_, Tryz.func66, rfl, by kernel_rfl⟩
theorem call67 : Callable Tryz.prog 67 := ⟨_, Tryz.func67, rfl, by kernel_rfl⟩
theorem call68 : Callable Tryz.prog 68 := ⟨_, Tryz.func68, rfl, by kernel_rfl⟩
theorem call69 : Callable Tryz.prog 69 := ⟨_, Tryz.func69, rfl, by kernel_rfl⟩
theorem call70 : Callable Tryz.prog 70 := ⟨_, Tryz.func70, rfl, by kernel_rfl⟩
theorem flat28 : Flat Tryz.prog 28 := ⟨_, Tryz.underlying28, by simp⟩
theorem flat62 : Flat Tryz.prog 62 := ⟨_, Tryz.underlying62, by simp⟩
theorem flat107 : Flat Tryz.prog 107 := ⟨_, Tryz.underlying107, by simp⟩
theorem ty20 : Ty Tryz.prog 20 .nilIface 1 16 := ty_of (by kernel_rfl)
theorem ty28 : Ty Tryz.prog 28 (.slice none 0 0) 1 24 := ty_of (by kernel_rfl)
theorem ty62 : Ty Tryz.prog 62 (.slice none 0 0) 1 24 := ty_of (by kernel_rfl)
theorem ty107 : Ty Tryz.prog 107 (.pointer none) 1 8 := ty_of (by kernel_rfl)
theorem ty151 : Ty Tryz.prog 151 .nilIface 1 16 := ty_of (by kernel_rfl)
theorem ty155 : Ty Tryz.prog 155 (.agg #[(.int .u32 0)]) 1 4 := ty_of (by kernel_rfl)
theorem conc74 : Conc Tryz.prog 74 := ⟨_, Tryz.underlying74, by simp⟩
theorem conc107 : Conc Tryz.prog 107 := ⟨_, Tryz.underlying107, by simp⟩
theorem conc153 : Conc Tryz.prog 153 := ⟨_, Tryz.underlying153, by simp⟩
theorem str155 : Str Tryz.prog 155 #[(0, 1)] := ⟨_, Tryz.underlying155, fun w => by kernel_rfl⟩
theorem fld109_0 : Fld Tryz.prog 109 0 0 62 := fld_of Tryz.underlying109 rfl rfl rfl ty62 (by decide)
theorem fld109_1 : Fld Tryz.prog 109 1 1 28 := fld_of Tryz.underlying109 rfl rfl rfl ty28 (by decide)
theorem fld149_0 : Fld Tryz.prog 149 0 0 107 := fld_of Tryz.underlying149 rfl rfl rfl ty107 (by decide)
theorem fld149_1 : Fld Tryz.prog 149 1 1 107 := fld_of Tryz.underlying149 rfl rfl rfl ty107 (by decide)
theorem hdR_split {base bb : Nat} {l : List HV} {acc : List UInt8} {M Z : Hp} {w : Value} {Hs : List Hp} (h : HdR base bb l acc M Z w Hs) : ∃ G' acc', Hs = [G', M, Z] ∧ BufG base bb acc' G' ∧ (w = .nilIface ∨ ∃ k u, w = .iface k u) ∧ (nilI w = true → l.any badH = false ∧ BufG base bb (acc ++ hdrs l) G') ∧ (nilI w = false → l.any badH = true ∧ ∃ k e, w = .iface k e) := by
 obtain ⟨G', acc', rfl, hB, h⟩ := h
 refine ⟨G', acc', rfl, hB, ?_⟩
 cases hb : l.any badH with
 | true => rw [hb] at h; obtain ⟨k, e, rfl⟩ := h; exact ⟨(.inr ⟨_, _, rfl⟩), (fun h => nomatch h), (fun _ => ⟨rfl, _, _, rfl⟩)⟩
 | false => rw [hb] at h; obtain ⟨rfl, rfl⟩ := h; exact ⟨(.inl rfl), (fun _ => ⟨rfl, hB⟩), (fun h => nomatch h)⟩
theorem app_nil {a b : List UInt8} (h : b = []) : a ++ b = a := by rw [h, List.append_nil]
theorem mid2 (W G F : Hp) : ((W ++ G) ++ F).Perm (G ++ (W ++ F)) := by simpa using mid1 W G F []
def pre12 (hl pl : Nat) : List UInt8 := pre8 hl pl ++ crcB (pre8 hl pl)
theorem pre12_len (hl pl : Nat) : (pre12 hl pl).length = 12 := by unfold pre12 pre8 crcB; simp [be_len]
def msg0 (l : List HV) (data : List UInt8) : List UInt8 := pre12 (hdrs l).length data.length ++ hdrs l ++ data
def msgB (l : List HV) (data : List UInt8) : List UInt8 := msg0 l data ++ crcB (msg0 l data)
abbrev EncB (eb b1 b2 : Nat) : Hp := [(eb, .cells #[Pt b1 0, Pt b2 0] 149 (0, 0))]
def MsgR (base eb b1 b2 ob : Nat) (l : List HV) (data acc : List UInt8) (M Z Pg : Hp) (w : Value) (Hs : List Hp) : Prop :=
 ∃ B1 B2 O c1 c2 c3, Hs = [EncB eb b1 b2, B1, B2, O, M, Z, Pg] ∧ BufG base b1 c1 B1 ∧ BufG base b2 c2 B2 ∧ BufG base ob c3 O ∧ if l.any badH then ∃ k e, w = .iface k e else w = .nilIface ∧ c3 = acc ++ msgB l data
theorem encode (base eb b1 b2 ob : Nat) (a1 a2 acc0 : List UInt8) (B1 B2 O : Hp) (h1 : BufG base b1 a1 B1) (h2 : BufG base b2 a2 B2) (hO : BufG base ob acc0 O) (vh : Value) (M Z : Hp) (l : List HV) (ps : List PV) (hr : RdS 2 vh M ps.length (recsV PV.row ps)) (hp : Pair l ps Z) (hok : okH l) (hn : l.length ≤ 1000) (hsz : szL l ≤ 100000) (vp : Value) (Pg : Hp) (data : List UInt8) (hrp : RdS 1 vp Pg data.length (bytesV data)) (hpl : data.length ≤ 50000) (hal : acc0.length ≤ 100000) : FnW Tryz.prog 49 [Pt eb 0, .iface 107 (Pt ob 0), .agg #[vh, vp]] base [EncB eb b1 b2, B1, B2, O, M, Z, Pg] (MsgR base eb b1 b2 ob l data acc0 M Z Pg) := by
 have hdl : (hdrs l).length ≤ szL l := by have := hdrs_len hok l.length (Nat.le_refl _); rw [List.take_length] at this; exact this
 have h12 := pre12_len (hdrs l).length data.length
 refine FnW.enter (n := 113) Tryz.func49 rfl rfl fun w0 R0 hbase => ?_
 subst hbase
 show WC _ _ _ _ _ _ _ ([EncB eb b1 b2, B1, B2, O, M, Z, Pg, R0])
 refine WC.sub (fr' := [(0, _), (1, _), (2, _)]) ?_ ⟨rfl, rfl, rfl, trivial⟩
 refine WC.seq (WC.region ?_)
 refine WL.box rfl rfl rfl fun xb hxb => ?_
 refine WL.q (oq_assign rfl) rfl rfl rfl ?_
 refine WL.nil (WE.then_normal (WC.sub (fr' := [(0, _), (1, _), (5, _)]) ?_ ⟨rfl, rfl, rfl, trivial⟩))
 refine WC.seq (WC.region ?_)
 refine WL.q (oq_move rfl) rfl rfl rfl ?_
 refine WL.q (oq_nilCheck rfl) rfl rfl rfl ?_
 refine WL.q (oq_fieldAddr fld149_0 rfl) rfl rfl rfl ?_
 refine WL.q (oq_load flat107 rfl (.tail _ (.head _)) (List.mem_singleton.2 rfl) rfl) rfl rfl rfl ?_
 refine WL.f2 ?_
 refine WL.callW1 (bufReset _ b1 a1 B1 h1) call63 rfl rfl rfl fun v1_4 Hs1_4 hR1_4 => ?_
 obtain ⟨B1_, rfl, rfl, h1_⟩ := hR1_4
 refine WL.to1 ?_
 refine WL.nil (WE.then_normal (WC.sub (fr' := [(0, _), (1, _), (5, _)]) ?_ ⟨rfl, rfl, rfl, trivial⟩))
 refine WC.seq (WC.region ?_)
 refine WL.q (oq_move rfl) rfl rfl rfl ?_
 refine WL.q (oq_nilCheck rfl) rfl rfl rfl ?_
 refine WL.q (oq_fieldAddr fld149_1 rfl) rfl rfl rfl ?_
 refine WL.q (oq_load flat107 rfl (.tail _ (.tail _ (.head _))) (List.mem_singleton.2 rfl) rfl) rfl rfl rfl ?_
 refine WL.f3 ?_
 refine WL.callW1 (bufReset _ b2 a2 B2 h2) call63 rfl rfl rfl fun v2_4 Hs2_4 hR2_4 => ?_
 obtain ⟨B2_, rfl, rfl, h2_⟩ := hR2_4
 refine WL.to1 ?_
 refine WL.nil (WE.then_normal (WC.sub (fr' := [(0, _), (1, _), (5, _)]) ?_ ⟨rfl, rfl, rfl, trivial⟩))
 refine WC.seq (WC.region ?_)
 refine WL.q (oq_move rfl) rfl rfl rfl ?_
 refine WL.q (oq_nilCheck rfl) rfl rfl rfl ?_
 refine WL.q (oq_fieldAddr fld149_1 rfl) rfl rfl rfl ?_
 refine WL.q (oq_load flat107 rfl (.tail _ (.tail _ (.tail _ (.head _)))) (List.mem_singleton.2 rfl) rfl) rfl rfl rfl ?_
 refine WL.q (oq_makeI conc107 rfl) rfl rfl rfl ?_
 refine WL.q (oq_assign rfl) rfl rfl rfl ?_
 refine WL.nil (WE.then_normal (WC.sub (fr' := [(0, _), (1, _), (5, _), (7, _)]) ?_ ⟨rfl, rfl, rfl, rfl, trivial⟩))
 refine WC.seq (WC.seq ?_)
 refine WC.tailM (pl := []) (ql := [_, _, _, _, _, _, _]) (tl := [_, _]) [] [0, 1, 2, 3, 4, 5, 6] 7 [8] (by kernel_rfl) (by kernel_rfl) (by kernel_rfl) (by kernel_rfl) (by kernel_rfl) (by kernel_rfl) (by decide) rfl rfl rfl (by decide) (by repeat (first | with_reducible exact QOk.body | with_reducible apply QOk.then | with_reducible apply QOk.block | exact QOk.body | apply QOk.then | apply QOk.block)) ?_
 refine WM.nil ?_
 refine WY.q (oq_move rfl) rfl rfl rfl ?_
 refine WY.q (oq_nilCheck rfl) rfl rfl rfl ?_
 refine WY.q (oq_fieldAddr fld149_0 rfl) rfl rfl rfl ?_
 refine WY.q (oq_load flat107 rfl (.tail _ (.tail _ (.tail _ (.head _)))) (List.mem_singleton.2 rfl) rfl) rfl rfl rfl ?_
 refine WY.q (oq_makeI conc107 rfl) rfl rfl rfl ?_
 refine WY.q (oq_fieldAddr fld109_0 rfl) rfl rfl rfl ?_
 refine WY.q (oq_load flat62 rfl (.tail _ (.tail _ (.head _))) (List.mem_singleton.2 rfl) rfl) rfl rfl rfl ?_
 refine WY.nil ?_
 refine WL.f6 ?_
 refine WL.f6 ?_
 refine WL.f3 ?_
 refine WL.callW3 (encHeaders _ b1 [] B1_ h1_ vh M Z l ps hr hp hok hn (by rw [List.length_nil]; omega)) call64 rfl rfl rfl fun v4_7 Hs4_7 hR4_7 => ?_
 obtain ⟨X1, c1, rfl, hc1, hei, he0, he1⟩ := hdR_split hR4_7
 refine WL.to3 ?_
 refine WL.q (oq_assign rfl) rfl rfl rfl ?_
 refine WL.nil (WE.then_normal (WC.sub (fr' := [(0, _), (1, _), (5, _), (6, _), (7, _)]) ?_ ⟨rfl, rfl, rfl, rfl, rfl, trivial⟩))
 refine WC.seq (WC.region ?_)
 refine WL.q (oq_move rfl) rfl rfl rfl ?_
 refine WL.q (oq_ineq Tryz.underlying99 rfl (hei)) rfl rfl rfl ?_
 refine WL.nil (WE.then_normal (WC.sub (fr' := [(0, _), (1, _), (5, _), (6, _), (7, _), (38, _)]) ?_ ⟨rfl, rfl, rfl, rfl, rfl, rfl, trivial⟩))
 refine WC.cond rfl (fun q5 => ?_) (fun q5 => ?_)
 ·
  try simp only [Z1, Z2, Z3, Z4, Z5, Z6, Z7, Z8, Z9, Z0] at q5
  refine WC.seq (WC.region ?_)
  refine WL.q (oq_move rfl) rfl rfl rfl ?_
  refine WL.q (oq_assign rfl) rfl rfl rfl ?_
  refine WL.nil (WE.then_normal (WC.sub (fr' := [(6, _)]) ?_ ⟨rfl, trivial⟩))
  refine WC.ret (WE.then_ret ?_)
  refine WE.f4 ?_
  refine WE.lose hxb ?_
  refine WE.f7 ?_
  refine WE.f7 ?_
  refine WE.f4 ?_
  refine WE.f4 ?_
  refine WE.f7 ?_
  refine WE.f6 ?_
  refine WE.f6 ?_
  refine WE.f7 ?_
  refine WE.endW7 (.inl rfl) (res1 Tryz.results49 rfl) ?_
  obtain ⟨hb, k9, e9, hv⟩ := he1 (by simpa using q5)
  exact ⟨_, _, _, _, _, _, rfl, hc1, h2_, hO, by rw [if_pos hb]; exact ⟨_, _, hv⟩⟩
 ·
  try simp only [Z1, Z2, Z3, Z4, Z5, Z6, Z7, Z8, Z9, Z0] at q5
  refine WC.skip (WE.then_normal (WC.sub (fr' := [(0, _), (1, _), (5, _), (7, _)]) ?_ ⟨rfl, rfl, rfl, rfl, trivial⟩))
  refine WC.seq ?_
  obtain ⟨hnb, hX1⟩ := he0 (by simpa using q5)
  rw [List.nil_append] at hX1
  refine WC.region ?_
  refine WL.q (oq_build #[_] str155 ty155 rfl rfl) rfl rfl rfl ?_
  refine WL.box rfl rfl rfl fun hb hhb => ?_
  refine WL.q (oq_assign rfl) rfl rfl rfl ?_
  refine WL.nil (WE.then_normal (WC.sub (fr' := [(0, _), (1, _), (5, _), (7, _), (8, _)]) ?_ ⟨rfl, rfl, rfl, rfl, rfl, trivial⟩))
  refine WC.seq (WC.region ?_)
  refine WL.q (oq_move rfl) rfl rfl rfl ?_
  refine WL.q (oq_move rfl) rfl rfl rfl ?_
  refine WL.q (oq_makeI conc153 rfl) rfl rfl rfl ?_
  refine WL.buildL Tryz.underlying176 ty151 rfl rfl (by decide) (by decide) rfl rfl rfl fun v8 A8 ho8 hne8 => ?_
  refine WL.callA (multiWriter v8 A8 [(107, Pt b2 0), (153, Pt hb 0)] ho8.rd (by simp) (by simp)) call65 rfl rfl rfl fun v8_4 N8_4 hR8_4 hN8_4 => ?_
  obtain ⟨mb, u, Ws, rfl, rfl, hwr⟩ := hR8_4
  refine WL.q (oq_assign rfl) rfl rfl rfl ?_
  refine WL.nil (WE.then_normal (WC.sub (fr' := [(0, _), (1, _), (5, _), (7, _), (8, _), (9, _)]) ?_ ⟨rfl, rfl, rfl, rfl, rfl, rfl, trivial⟩))
  refine WC.seq ?_
  refine WC.f2 ?_
  refine WC.f6 ?_
  refine WC.f2 ?_
  have hMw : MwG w0.heap.size mb u Ws b2 hb [] ((([(mb, .cells #[u] 180 (0, 0))] ++ Ws) ++ B2_) ++ Hash hb (crc [])) := ⟨_, h2_, rfl⟩
  refine WC.cat (WC.cat ?_)
  refine WC.region ?_
  refine WL.q (oq_move rfl) rfl rfl rfl ?_
  refine WL.q (oq_nilCheck rfl) rfl rfl rfl ?_
  refine WL.q (oq_fieldAddr fld149_0 rfl) rfl rfl rfl ?_
  refine WL.q (oq_load flat107 rfl (.tail _ (.tail _ (.tail _ (.tail _ (.tail _ (.tail _ (.head _))))))) (List.mem_singleton.2 rfl) rfl) rfl rfl rfl ?_
  refine WL.qc (oq_callRm (bufLenG _ b1 (hdrs l) X1 hX1 (by omega)) (.tail _ (.tail _ (.head _))) call66 rfl) rfl rfl rfl ?_
  refine WL.q (oq_conv Tryz.underlying3 Tryz.underlying74 rfl (by rw [u32_lo, u32_hi]; (first | omega | (simp only [List.length_cons, List.length_nil, List.length_append, List.length_drop, List.length_take]; omega)))) rfl rfl rfl ?_
  refine WL.q (oq_assign rfl) rfl rfl rfl ?_
  refine WL.nil (WE.then_normal (WC.sub (fr' := [(0, _), (1, _), (5, _), (7, _), (8, _), (9, _), (10, _)]) ?_ ⟨rfl, rfl, rfl, rfl, rfl, rfl, rfl, trivial⟩))
  refine WC.seq (WC.region ?_)
  refine WL.q (oq_fieldAddr fld109_1 rfl) rfl rfl rfl ?_
  refine WL.q (oq_load flat28 rfl (.tail _ (.tail _ (.tail _ (.tail _ (.tail _ (.head _)))))) (List.mem_singleton.2 rfl) rfl) rfl rfl rfl ?_
  refine WL.q (oq_len_rd hrp Tryz.underlying28 rfl) rfl rfl rfl ?_
  refine WL.q (oq_conv Tryz.underlying3 Tryz.underlying74 rfl (by rw [u32_lo, u32_hi]; (first | omega | (simp only [List.length_cons, List.length_nil, List.length_append, List.length_drop, List.length_take]; omega)))) rfl rfl rfl ?_
  refine WL.q (oq_assign rfl) rfl rfl rfl ?_
  refine WL.nil (WE.then_normal (WC.sub (fr' := [(0, _), (1, _), (5, _), (7, _), (8, _), (9, _), (10, _), (11, _)]) ?_ ⟨rfl, rfl, rfl, rfl, rfl, rfl, rfl, rfl, trivial⟩))
  refine WC.seq (WC.seq (WC.region ?_))
  refine WL.q (oq_move rfl) rfl rfl rfl ?_
  refine WL.q (oq_move rfl) rfl rfl rfl ?_
  refine WL.q (oq_move rfl) rfl rfl rfl ?_
  refine WL.q (oq_move rfl) rfl rfl rfl ?_
  refine WL.callW1 (encPrelude _ hb _ _ _ _ (mwWr _ mb u Ws b2 hb hwr) [] _ hMw (mwSum _ mb u Ws b2 hb) (hdrs l).length data.length (by omega) (by omega) (by simp)) call67 rfl rfl rfl fun v11_4 Hs11_4 hR11_4 => ?_
  obtain ⟨g2, rfl, rfl, hg2⟩ := hR11_4
  have hg2 : MwG w0.heap.size mb u Ws b2 hb (pre12 (hdrs l).length data.length) g2 := hg2
  refine WL.to1 ?_
  refine WL.q (oq_assign rfl) rfl rfl rfl ?_
  refine WL.nil (WE.then_normal (WC.sub (fr' := [(0, _), (1, _), (5, _), (6, _), (7, _), (8, _), (9, _), (10, _), (11, _)]) ?_ ⟨rfl, rfl, rfl, rfl, rfl, rfl, rfl, rfl, rfl, trivial⟩))
  refine WC.seq (WC.region ?_)
  refine WL.q (oq_move rfl) rfl rfl rfl ?_
  refine WL.q (oq_ineq Tryz.underlying99 rfl (.inl rfl)) rfl rfl rfl ?_
  refine WL.nil (WE.then_normal (WC.sub (fr' := [(0, _), (1, _), (5, _), (6, _), (7, _), (8, _), (9, _), (10, _), (11, _), (63, _)]) ?_ ⟨rfl, rfl, rfl, rfl, rfl, rfl, rfl, rfl, rfl, rfl, trivial⟩))
  refine WC.cond rfl (fun q12 => ?_) (fun q12 => ?_)
  ·
   try simp only [Z1, Z2, Z3, Z4, Z5, Z6, Z7, Z8, Z9, Z0] at q12
   first | contradiction | (exfalso; omega) | (exfalso; simp_all; done)
  ·
   try simp only [Z1, Z2, Z3, Z4, Z5, Z6, Z7, Z8, Z9, Z0] at q12
   refine WC.skip (WE.then_normal (WC.sub (fr' := [(0, _), (1, _), (5, _), (7, _), (8, _), (9, _), (10, _), (11, _)]) ?_ ⟨rfl, rfl, rfl, rfl, rfl, rfl, rfl, rfl, trivial⟩))
   refine WC.cut (ι := Hp × Hp) (fun i_ => (fun (X1 : Hp) (g : Hp) => [(0, Pt eb 0), (1, .iface 107 (Pt ob 0)), (5, Pt xb 0), (7, .iface 107 (Pt b2 0)), (8, Pt hb 0), (9, .iface 177 (Pt mb 0)), (11, .int .u32 (data.length : Int))]) i_.1 i_.2) (fun i_ => (fun (X1 : Hp) (g : Hp) => [EncB eb b1 b2, [(xb, .cells #[vh, vp] 109 (0, 0))], X1, g, O, M, Z, Pg, R0]) i_.1 i_.2) (fun i_ => (fun (X1 : Hp) (g : Hp) => BufG w0.heap.size b1 [] X1 ∧ MwG w0.heap.size mb u Ws b2 hb (pre12 (hdrs l).length data.length ++ hdrs l) g) i_.1 i_.2) ?_ ?_
   ·
    refine WC.seq (WC.region ?_)
    refine WL.q (oq_move rfl) rfl rfl rfl ?_
    refine WL.q (oq_gtr rfl rfl) rfl rfl rfl ?_
    refine WL.nil (WE.then_normal (WC.sub (fr' := [(0, _), (1, _), (5, _), (7, _), (8, _), (9, _), (11, _), (66, _)]) ?_ ⟨rfl, rfl, rfl, rfl, rfl, rfl, rfl, rfl, trivial⟩))
    refine WC.cond rfl (fun q14 => ?_) (fun q14 => ?_)
    ·
     try simp only [Z1, Z2, Z3, Z4, Z5, Z6, Z7, Z8, Z9, Z0] at q14
     refine WC.seq (WC.region ?_)
     refine WL.q (oq_move rfl) rfl rfl rfl ?_
     refine WL.q (oq_move rfl) rfl rfl rfl ?_
     refine WL.q (oq_nilCheck rfl) rfl rfl rfl ?_
     refine WL.q (oq_fieldAddr fld149_0 rfl) rfl rfl rfl ?_
     refine WL.q (oq_load flat107 rfl (.tail _ (.tail _ (.tail _ (.tail _ (.tail _ (.tail _ (.head _))))))) (List.mem_singleton.2 rfl) rfl) rfl rfl rfl ?_
     refine WL.q (oq_makeI conc107 rfl) rfl rfl rfl ?_
     refine WL.f2 ?_
     refine WL.callW2 (copyG _ _ _ _ _ (mwWr _ mb u Ws b2 hb hwr) _ g2 hg2 b1 (hdrs l) X1 hX1 (by omega) (by omega)) call68 rfl rfl rfl fun v15_6 Hs15_6 hR15_6 => ?_
     obtain ⟨X2, g3, rfl, rfl, hX2, hg3⟩ := hR15_6
     refine WL.to2 ?_
     refine WL.q (oq_move rfl) rfl rfl rfl ?_
     refine WL.q (oq_extract rfl rfl) rfl rfl rfl ?_
     refine WL.q (oq_extract rfl rfl) rfl rfl rfl ?_
     refine WL.q (oq_assign rfl) rfl rfl rfl ?_
     refine WL.nil (WE.then_normal (WC.sub (fr' := [(0, _), (1, _), (5, _), (6, _), (7, _), (8, _), (9, _), (11, _)]) ?_ ⟨rfl, rfl, rfl, rfl, rfl, rfl, rfl, rfl, trivial⟩))
     refine WC.seq (WC.region ?_)
     refine WL.q (oq_move rfl) rfl rfl rfl ?_
     refine WL.q (oq_ineq Tryz.underlying99 rfl (.inl rfl)) rfl rfl rfl ?_
     refine WL.nil (WE.then_normal (WC.sub (fr' := [(0, _), (1, _), (5, _), (6, _), (7, _), (8, _), (9, _), (11, _), (78, _)]) ?_ ⟨rfl, rfl, rfl, rfl, rfl, rfl, rfl, rfl, rfl, trivial⟩))
     refine WC.cond rfl (fun q16 => ?_) (fun q16 => ?_)
     ·
      try simp only [Z1, Z2, Z3, Z4, Z5, Z6, Z7, Z8, Z9, Z0] at q16
      first | contradiction | (exfalso; omega) | (exfalso; simp_all; done)
     ·
      try simp only [Z1, Z2, Z3, Z4, Z5, Z6, Z7, Z8, Z9, Z0] at q16
      refine WC.skip ?_
      refine WE.f2 ?_
      refine WE.forget ho8.fresh ?_
      refine WE.f8 ?_
      refine WE.f8 ?_
      refine WE.f5 ?_
      refine WE.f5 ?_
      refine WE.f8 ?_
      refine WE.f6 ?_
      refine WE.f6 ?_
      refine WE.f7 ?_
      refine WE.f8 ?_
      refine WE.meet (X2, g3) ?_ ⟨rfl, rfl, rfl, rfl, rfl, rfl, rfl, trivial⟩ (List.Perm.refl _)
      try dsimp only
      exact ⟨hX2, hg3⟩
    ·
     try simp only [Z1, Z2, Z3, Z4, Z5, Z6, Z7, Z8, Z9, Z0] at q14
     refine WC.skip ?_
     have h0 : hdrs l = [] := List.eq_nil_of_length_eq_zero (by omega)
     have hX1b : BufG w0.heap.size b1 [] X1 := by rw [h0] at hX1; exact hX1
     have hg2b : MwG w0.heap.size mb u Ws b2 hb (pre12 (hdrs l).length data.length ++ hdrs l) g2 := by rw [app_nil h0]; exact hg2
     refine WE.f1 ?_
     refine WE.forget ho8.fresh ?_
     refine WE.f8 ?_
     refine WE.f8 ?_
     refine WE.f5 ?_
     refine WE.f5 ?_
     refine WE.f8 ?_
     refine WE.f5 ?_
     refine WE.f6 ?_
     refine WE.f7 ?_
     refine WE.f8 ?_
     refine WE.meet (X1, g2) ?_ ⟨rfl, rfl, rfl, rfl, rfl, rfl, rfl, trivial⟩ (List.Perm.refl _)
     try dsimp only
     exact ⟨hX1b, hg2b⟩
   ·rintro ⟨X1, g⟩ hp
    try dsimp only at hp
    obtain ⟨hX1, hg⟩ := hp
    show WC _ _ _ _ _ _ ([(0, Pt eb 0), (1, .iface 107 (Pt ob 0)), (5, Pt xb 0), (7, .iface 107 (Pt b2 0)), (8, Pt hb 0), (9, .iface 177 (Pt mb 0)), (11, .int .u32 (data.length : Int))]) ([EncB eb b1 b2, [(xb, .cells #[vh, vp] 109 (0, 0))], X1, g, O, M, Z, Pg, R0])
    refine WC.cut (ι := Hp × Hp) (fun i_ => (fun (X1 : Hp) (g : Hp) => [(0, Pt eb 0), (1, .iface 107 (Pt ob 0)), (7, .iface 107 (Pt b2 0)), (8, Pt hb 0)]) i_.1 i_.2) (fun i_ => (fun (X1 : Hp) (g : Hp) => [EncB eb b1 b2, [(xb, .cells #[vh, vp] 109 (0, 0))], X1, g, O, M, Z, Pg, R0]) i_.1 i_.2) (fun i_ => (fun (X1 : Hp) (g : Hp) => BufG w0.heap.size b1 [] X1 ∧ MwG w0.heap.size mb u Ws b2 hb (msg0 l data) g) i_.1 i_.2) ?_ ?_
    ·
     refine WC.seq (WC.region ?_)
     refine WL.q (oq_move rfl) rfl rfl rfl ?_
     refine WL.q (oq_gtr rfl rfl) rfl rfl rfl ?_
     refine WL.nil (WE.then_normal (WC.sub (fr' := [(0, _), (1, _), (5, _), (7, _), (8, _), (9, _), (81, _)]) ?_ ⟨rfl, rfl, rfl, rfl, rfl, rfl, rfl, trivial⟩))
     refine WC.cond rfl (fun q18 => ?_) (fun q18 => ?_)
     ·
      try simp only [Z1, Z2, Z3, Z4, Z5, Z6, Z7, Z8, Z9, Z0] at q18
      refine WC.seq (WC.region ?_)
      refine WL.q (oq_move rfl) rfl rfl rfl ?_
      refine WL.q (oq_fieldAddr fld109_1 rfl) rfl rfl rfl ?_
      refine WL.q (oq_load flat28 rfl (.tail _ (.head _)) (List.mem_singleton.2 rfl) rfl) rfl rfl rfl ?_
      refine WL.f7 ?_
      refine WL.f4 ?_
      refine WL.callWE (fun a w hf => ent_inv1 invMW rfl rfl hf w) ((mwWr _ mb u Ws b2 hb hwr).run _ g vp Pg data hg hrp (by rw [List.length_append, h12]; omega) (by rw [List.length_append, h12]; omega)) rfl rfl rfl rfl fun v19_3 Hs19_3 hR19_3 => ?_
      obtain ⟨g4, rfl, rfl, hg4⟩ := hR19_3
      refine WL.app2 ?_
      refine WL.q (oq_move rfl) rfl rfl rfl ?_
      refine WL.q (oq_extract rfl rfl) rfl rfl rfl ?_
      refine WL.q (oq_extract rfl rfl) rfl rfl rfl ?_
      refine WL.q (oq_assign rfl) rfl rfl rfl ?_
      refine WL.nil (WE.then_normal (WC.sub (fr' := [(0, _), (1, _), (6, _), (7, _), (8, _)]) ?_ ⟨rfl, rfl, rfl, rfl, rfl, trivial⟩))
      refine WC.seq (WC.region ?_)
      refine WL.q (oq_move rfl) rfl rfl rfl ?_
      refine WL.q (oq_ineq Tryz.underlying99 rfl (.inl rfl)) rfl rfl rfl ?_
      refine WL.nil (WE.then_normal (WC.sub (fr' := [(0, _), (1, _), (6, _), (7, _), (8, _), (90, _)]) ?_ ⟨rfl, rfl, rfl, rfl, rfl, rfl, trivial⟩))
      refine WC.cond rfl (fun q20 => ?_) (fun q20 => ?_)
      ·
       try simp only [Z1, Z2, Z3, Z4, Z5, Z6, Z7, Z8, Z9, Z0] at q20
       first | contradiction | (exfalso; omega) | (exfalso; simp_all; done)
      ·
       try simp only [Z1, Z2, Z3, Z4, Z5, Z6, Z7, Z8, Z9, Z0] at q20
       refine WC.skip ?_
       refine WE.f8 ?_
       refine WE.f2 ?_
       refine WE.f8 ?_
       refine WE.f8 ?_
       refine WE.f8 ?_
       refine WE.f5 ?_
       refine WE.f8 ?_
       refine WE.f8 ?_
       refine WE.f8 ?_
       refine WE.meet (X1, g4) ?_ ⟨rfl, rfl, rfl, rfl, trivial⟩ (List.Perm.refl _)
       try dsimp only
       exact ⟨hX1, hg4⟩
     ·
      try simp only [Z1, Z2, Z3, Z4, Z5, Z6, Z7, Z8, Z9, Z0] at q18
      refine WC.skip ?_
      have h0 : data = [] := List.eq_nil_of_length_eq_zero (by omega)
      have hgb : MwG w0.heap.size mb u Ws b2 hb (msg0 l data) g := by unfold msg0; rw [app_nil h0]; exact hg
      refine WE.meet (X1, g) ?_ ⟨rfl, rfl, rfl, rfl, trivial⟩ (List.Perm.refl _)
      try dsimp only
      exact ⟨hX1, hgb⟩
    ·rintro ⟨X1, g⟩ hp
     try dsimp only at hp
     obtain ⟨hX1, hg⟩ := hp
     show WC _ _ _ _ _ _ ([(0, Pt eb 0), (1, .iface 107 (Pt ob 0)), (7, .iface 107 (Pt b2 0)), (8, Pt hb 0)]) ([EncB eb b1 b2, [(xb, .cells #[vh, vp] 109 (0, 0))], X1, g, O, M, Z, Pg, R0])
     refine WC.seq ?_
     have hm0 : (msg0 l data).length = 12 + (hdrs l).length + data.length := by unfold msg0; rw [List.length_append, List.length_append, h12]
     have hml : (msgB l data).length = 16 + (hdrs l).length + data.length := by unfold msgB crcB; rw [List.length_append, be_len, hm0]; omega
     refine WC.region ?_
     refine WL.q (oq_move rfl) rfl rfl rfl ?_
     refine WL.qc (oq_callRm (mwSum _ mb u Ws b2 hb (msg0 l data) g hg) (.tail _ (.tail _ (.tail _ (.head _)))) call69 rfl) rfl rfl rfl ?_
     refine WL.q (oq_assign rfl) rfl rfl rfl ?_
     refine WL.nil (WE.then_normal (WC.sub (fr' := [(0, _), (1, _), (7, _), (12, _)]) ?_ ⟨rfl, rfl, rfl, rfl, trivial⟩))
     refine WC.seq (WC.seq (WC.region ?_))
     refine WL.q (oq_move rfl) rfl rfl rfl ?_
     refine WL.q (oq_move rfl) rfl rfl rfl ?_
     refine WL.q (oq_makeI conc74 rfl) rfl rfl rfl ?_
     refine WL.buildL Tryz.underlying184 ty20 rfl rfl (by decide) (by decide) rfl rfl rfl fun v23 A23 ho23 hne23 => ?_
     refine WL.f4 ?_
     refine WL.f1 ?_
     refine WL.callW2 (zzWrite _ _ _ _ _ (midWr _ b2 ([(mb, Obj.cells #[u] 180 (0, 0))] ++ Ws) (Hash hb (crc (msg0 l data)))) (msg0 l data) g hg v23 A23 [⟨74, .u32, 4, ((crc (msg0 l data)).toNat : Int)⟩] ho23.rd (ok1 (okU _)) (by simp) (by rw [hm0]; simp; omega)) call70 rfl rfl rfl fun v23_4 Hs23_4 hR23_4 => ?_
     obtain ⟨g5, rfl, rfl, Gb, hGb, rfl⟩ := hR23_4
     rw [bytesN_1] at hGb
     have hGb : BufG w0.heap.size b2 (msgB l data) Gb := hGb
     refine WL.to2 ?_
     refine WL.q (oq_assign rfl) rfl rfl rfl ?_
     refine WL.nil (WE.then_normal (WC.sub (fr' := [(0, _), (1, _), (13, _)]) ?_ ⟨rfl, rfl, rfl, trivial⟩))
     refine WC.seq (WC.region ?_)
     refine WL.q (oq_move rfl) rfl rfl rfl ?_
     refine WL.q (oq_ineq Tryz.underlying99 rfl (.inl rfl)) rfl rfl rfl ?_
     refine WL.nil (WE.then_normal (WC.sub (fr' := [(0, _), (1, _), (13, _), (100, _)]) ?_ ⟨rfl, rfl, rfl, rfl, trivial⟩))
     refine WC.cond rfl (fun q24 => ?_) (fun q24 => ?_)
     ·
      try simp only [Z1, Z2, Z3, Z4, Z5, Z6, Z7, Z8, Z9, Z0] at q24
      first | contradiction | (exfalso; omega) | (exfalso; simp_all; done)
     ·
      try simp only [Z1, Z2, Z3, Z4, Z5, Z6, Z7, Z8, Z9, Z0] at q24
      refine WC.skip (WE.then_normal (WC.sub (fr' := [(0, _), (1, _)]) ?_ ⟨rfl, rfl, trivial⟩))
      refine WC.seq ?_
      refine WC.f1 ?_
      refine WC.reg (reg_out (mid2 _ Gb _)) ?_
      refine WC.region ?_
      refine WL.q (oq_move rfl) rfl rfl rfl ?_
      refine WL.q (oq_move rfl) rfl rfl rfl ?_
      refine WL.q (oq_nilCheck rfl) rfl rfl rfl ?_
      refine WL.q (oq_fieldAddr fld149_1 rfl) rfl rfl rfl ?_
      refine WL.q (oq_load flat107 rfl (.tail _ (.tail _ (.tail _ (.head _)))) (List.mem_singleton.2 rfl) rfl) rfl rfl rfl ?_
      refine WL.q (oq_makeI conc107 rfl) rfl rfl rfl ?_
      refine WL.f6 ?_
      refine WL.f1 ?_
      refine WL.callW2 (copyG _ _ _ _ _ (bufWr _ ob) acc0 O hO b2 (msgB l data) Gb hGb (by rw [hml]; omega) (by rw [hml]; omega)) call68 rfl rfl rfl fun v26_6 Hs26_6 hR26_6 => ?_
      obtain ⟨Y2, O2, rfl, rfl, hY2, hO2⟩ := hR26_6
      refine WL.to2 ?_
      refine WL.q (oq_move rfl) rfl rfl rfl ?_
      refine WL.q (oq_extract rfl rfl) rfl rfl rfl ?_
      refine WL.q (oq_extract rfl rfl) rfl rfl rfl ?_
      refine WL.q (oq_assign rfl) rfl rfl rfl ?_
      refine WL.nil (WE.then_normal (WC.sub (fr' := [(6, _)]) ?_ ⟨rfl, trivial⟩))
      refine WC.seq (WC.region ?_)
      refine WL.q (oq_move rfl) rfl rfl rfl ?_
      refine WL.q (oq_assign rfl) rfl rfl rfl ?_
      refine WL.nil (WE.then_normal (WC.sub (fr' := [(6, _)]) ?_ ⟨rfl, trivial⟩))
      refine WC.ret ?_
      refine WE.f2 ?_
      refine WE.forget (fresh_cat hN8_4 (fresh1 hhb)) ?_
      refine WE.f2 ?_
      refine WE.forget ho23.fresh ?_
      refine WE.f3 ?_
      refine WE.lose hxb ?_
      refine WE.f7 ?_
      refine WE.f7 ?_
      refine WE.f7 ?_
      refine WE.f7 ?_
      refine WE.f5 ?_
      refine WE.f5 ?_
      refine WE.f7 ?_
      refine WE.f7 ?_
      refine WE.endW7 (.inl rfl) (res1 Tryz.results49 rfl) ?_
      exact ⟨_, _, _, _, _, _, rfl, hX1, hY2, hO2, by rw [if_neg (by rw [hnb]; simp)]; exact ⟨rfl, rfl⟩⟩
end EM
end Go.Proofs.YtodlhaghdplclaaGreatDoor
/- Plain words on messages that are read: what bytes say. -/
namespace Go.Proofs.YtodlhaghdplclaaGreatDoor
open Go V EI EJ EK EM
set_option linter.unusedSimpArgs false
set_option linter.unusedVariables false
namespace DA
def nm (l : List UInt8) : Nat := l.foldl (fun n b => n * 256 + b.toNat) 0
inductive VR where
 | short
 | other
 | ok (kind width int : Int) (text rest : List UInt8)
def vInt (w : Nat) (ik : IntKind) (r : List UInt8) : VR := if r.length < w then .short else .ok 1 (8 * w) (ik.wrap (nm (r.take w))) [] (r.drop w)
def vTxt (k : Int) (r : List UInt8) : VR := if r.length < 2 then .short else if (r.drop 2).length < nm (r.take 2) then .short else .ok k 0 0 ((r.drop 2).take (nm (r.take 2))) ((r.drop 2).drop (nm (r.take 2)))
def val (k : UInt8) (r : List UInt8) : VR :=
 if k = 0 then .ok 0 0 1 [] r
 else if k = 1 then .ok 0 0 0 [] r
 else if k = 2 then vInt 1 .i8 r
 else if k = 3 then vInt 2 .i16 r
 else if k = 4 then vInt 4 .i32 r
 else if k = 5 then vInt 8 .i64 r
 else if k = 6 then vTxt 2 r
 else if k = 7 then vTxt 3 r
 else if k = 8 then (if r.length < 8 then .short else .ok 4 0 (IntKind.i64.wrap (nm (r.take 8))) [] (r.drop 8))
 else if k = 9 then (if r.length < 16 then .short else .ok 5 0 0 (r.take 16) (r.drop 16))
 else .other
def put : List HV → HV → List HV
 | [], h => [h]
 | x :: l, h => if x.name = h.name then h :: l else x :: put l h
def head (b : List UInt8) : Nat := nm ((b.drop 4).take 4)
end DA
end Go.Proofs.YtodlhaghdplclaaGreatDoor
/- Numbers that are read. -/
namespace Go.Proofs.YtodlhaghdplclaaGreatDoor
open Go Go.RowKit V EA EB EC ED EL DC DD DA
set_option linter.unusedSimpArgs false
set_option linter.unusedVariables false
set_option maxRecDepth 10000
namespace DE
theorem flat5 : Flat Tryz.prog 5 := ⟨_, Tryz.underlying5, by simp⟩
theorem ty5 : Ty Tryz.prog 5 (.int .u8 0) 1 1 := ty_of (by kernel_rfl)
end DE
end Go.Proofs.YtodlhaghdplclaaGreatDoor
/- Values that are read. -/
namespace Go.Proofs.YtodlhaghdplclaaGreatDoor
open Go Go.RowKit V EA EB EC ED EL DC DD DA DE EE EH EI EJ
set_option linter.unusedSimpArgs false
set_option linter.unusedVariables false
set_option maxRecDepth 10000
namespace DF
theorem call60 : Callable Tryz.prog 60 := ⟨_, Tryz.func60, rfl, by kernel_rfl⟩
theorem flat186 : Flat Tryz.prog 186 := ⟨_, Tryz.underlying186, by simp⟩
theorem ty3 : Ty Tryz.prog 3 (.int .i64 0) 1 8 := ty_of (by kernel_rfl)
theorem ty5 : Ty Tryz.prog 5 (.int .u8 0) 1 1 := ty_of (by kernel_rfl)
theorem ty9 : Ty Tryz.prog 9 (S []) 1 16 := ty_of (by kernel_rfl)
theorem ty89 : Ty Tryz.prog 89 (.agg #[(.int .i64 0), (.int .i32 0), (S []), (.int .i64 0)]) 4 40 := ty_of (by kernel_rfl)
theorem ty127 : Ty Tryz.prog 127 (.int .i8 0) 1 1 := ty_of (by kernel_rfl)
theorem ty129 : Ty Tryz.prog 129 (.int .i16 0) 1 2 := ty_of (by kernel_rfl)
theorem ty130 : Ty Tryz.prog 130 (.int .i32 0) 1 4 := ty_of (by kernel_rfl)
theorem ty131 : Ty Tryz.prog 131 (.int .i64 0) 1 8 := ty_of (by kernel_rfl)
theorem ty132 : Ty Tryz.prog 132 (.slice none 0 0) 1 24 := ty_of (by kernel_rfl)
theorem ty133 : Ty Tryz.prog 133 (S []) 1 16 := ty_of (by kernel_rfl)
theorem ty134 : Ty Tryz.prog 134 (.agg #[(.int .i64 0), (.int .i32 0), (S []), (.int .i64 0)]) 4 40 := ty_of (by kernel_rfl)
theorem ty186 : Ty Tryz.prog 186 (.int .u16 0) 1 2 := ty_of (by kernel_rfl)
theorem ty224 : Ty Tryz.prog 224 (.agg #[(.int .u8 0), (.int .u16 0), (.slice none 0 0)]) 3 32 := ty_of (by kernel_rfl)
theorem agg89 : Agg Tryz.prog 89 := agg_of Tryz.underlying89
theorem str89 : Str Tryz.prog 89 #[(0, 1), (1, 1), (2, 1), (3, 1)] := ⟨_, Tryz.underlying89, fun w => by kernel_rfl⟩
theorem fld224_1 : Fld Tryz.prog 224 1 1 186 := fld_of Tryz.underlying224 rfl rfl rfl ty186 (by decide)
def VBk (h : HV) (v : Value) (N : Hp) : Prop :=
 (h.kind = 0 ∧ h.width = 0 ∧ h.text = [] ∧ (h.int = 0 ∨ h.int = 1) ∧ v = .iface 126 (.bool (decide (h.int = 1)))) ∨
 (h.kind = 1 ∧ h.text = [] ∧ h.width = 8 ∧ (-128 ≤ h.int ∧ h.int ≤ 127) ∧ v = .iface 127 (.int .i8 h.int)) ∨
 (h.kind = 1 ∧ h.text = [] ∧ h.width = 16 ∧ (-32768 ≤ h.int ∧ h.int ≤ 32767) ∧ v = .iface 129 (.int .i16 h.int)) ∨
 (h.kind = 1 ∧ h.text = [] ∧ h.width = 32 ∧ (-2147483648 ≤ h.int ∧ h.int ≤ 2147483647) ∧ v = .iface 130 (.int .i32 h.int)) ∨
 (h.kind = 1 ∧ h.text = [] ∧ h.width = 64 ∧ (-9223372036854775808 ≤ h.int ∧ h.int ≤ 9223372036854775807) ∧ v = .iface 131 (.int .i64 h.int)) ∨
 (h.kind = 2 ∧ h.width = 0 ∧ h.int = 0 ∧ ∃ s, v = .iface 132 s ∧ RdS 1 s N h.text.length (bytesV h.text)) ∨
 (h.kind = 3 ∧ h.width = 0 ∧ h.int = 0 ∧ v = .iface 133 (S h.text)) ∨
 (h.kind = 4 ∧ h.width = 0 ∧ h.text = [] ∧ (-9223372036854775808 ≤ h.int ∧ h.int ≤ 9223372036854775807) ∧ v = .iface 134 (msV h.int)) ∨
 (h.kind = 5 ∧ h.width = 0 ∧ h.int = 0 ∧ h.text.length = 16 ∧ v = .iface 137 (.agg (bytesV h.text).toArray))
theorem VBk.weaken {h : HV} {v : Value} {A C : Hp} (hv : VBk h v A) (hs : ∀ x ∈ A, x ∈ C) : VBk h v C := by
 rcases hv with h | h | h | h | h | ⟨h1, h2, h3, s, h4, h5⟩ | h | h | h
 ·exact .inl h
 ·exact .inr (.inl h)
 ·exact .inr (.inr (.inl h))
 ·exact .inr (.inr (.inr (.inl h)))
 ·exact .inr (.inr (.inr (.inr (.inl h))))
 ·exact .inr (.inr (.inr (.inr (.inr (.inl ⟨h1, h2, h3, s, h4, h5.weaken hs⟩)))))
 ·exact .inr (.inr (.inr (.inr (.inr (.inr (.inl h))))))
 ·exact .inr (.inr (.inr (.inr (.inr (.inr (.inr (.inl h)))))))
 ·exact .inr (.inr (.inr (.inr (.inr (.inr (.inr (.inr h)))))))
def hval (rs : List UInt8) : VR := if rs = [] then .short else val (rs.getD 0 0) (rs.drop 1)
end DF
end Go.Proofs.YtodlhaghdplclaaGreatDoor
/- Headers that are read. -/
namespace Go.Proofs.YtodlhaghdplclaaGreatDoor
open Go Go.RowKit V EA EB EC ED EL DC DD DA DE EE EH EI EJ DF
set_option linter.unusedSimpArgs false
set_option linter.unusedVariables false
set_option maxRecDepth 10000
namespace DG
theorem flat5 : Flat Tryz.prog 5 := ⟨_, Tryz.underlying5, by simp⟩
theorem flat185 : Flat Tryz.prog 185 := ⟨_, Tryz.underlying185, by simp⟩
theorem ty5 : Ty Tryz.prog 5 (.int .u8 0) 1 1 := ty_of (by kernel_rfl)
theorem ty127 : Ty Tryz.prog 127 (.int .i8 0) 1 1 := ty_of (by kernel_rfl)
theorem ty129 : Ty Tryz.prog 129 (.int .i16 0) 1 2 := ty_of (by kernel_rfl)
theorem ty130 : Ty Tryz.prog 130 (.int .i32 0) 1 4 := ty_of (by kernel_rfl)
theorem ty131 : Ty Tryz.prog 131 (.int .i64 0) 1 8 := ty_of (by kernel_rfl)
theorem ty132 : Ty Tryz.prog 132 (.slice none 0 0) 1 24 := ty_of (by kernel_rfl)
theorem ty133 : Ty Tryz.prog 133 (S []) 1 16 := ty_of (by kernel_rfl)
theorem ty134 : Ty Tryz.prog 134 (.agg #[(.int .i64 0), (.int .i32 0), (S []), (.int .i64 0)]) 4 40 := ty_of (by kernel_rfl)
theorem ty137 : Ty Tryz.prog 137 (.agg #[(.int .u8 0), (.int .u8 0), (.int .u8 0), (.int .u8 0), (.int .u8 0), (.int .u8 0), (.int .u8 0), (.int .u8 0), (.int .u8 0), (.int .u8 0), (.int .u8 0), (.int .u8 0), (.int .u8 0), (.int .u8 0), (.int .u8 0), (.int .u8 0)]) 16 16 := ty_of (by kernel_rfl)
theorem ty172 : Ty Tryz.prog 172 (.agg #[(.int .u8 0), (.int .u8 0), (.int .u8 0), (.int .u8 0), (.int .u8 0), (.int .u8 0), (.int .u8 0), (.int .u8 0), (.int .u8 0), (.int .u8 0), (.int .u8 0), (.int .u8 0), (.int .u8 0), (.int .u8 0), (.int .u8 0), (.int .u8 0), (.int .u8 0), (.int .u8 0), (.int .u8 0), (.int .u8 0), (.int .u8 0), (.int .u8 0), (.int .u8 0), (.int .u8 0), (.int .u8 0), (.int .u8 0), (.int .u8 0), (.int .u8 0), (.int .u8 0), (.int .u8 0), (.int .u8 0), (.int .u8 0), (.int .u8 0), (.int .u8 0), (.int .u8 0), (.int .u8 0), (.int .u8 0), (.int .u8 0), (.int .u8 0), (.int .u8 0), (.int .u8 0), (.int .u8 0), (.int .u8 0), (.int .u8 0), (.int .u8 0), (.int .u8 0), (.int .u8 0), (.int .u8 0), (.int .u8 0), (.int .u8 0), (.int .u8 0), (.int .u8 0), (.int .u8 0), (.int .u8 0), (.int .u8 0), (.int .u8 0), (.int .u8 0), (.int .u8 0), (.int .u8 0), (.int .u8 0), (.int .u8 0), (.int .u8 0), (.int .u8 0), (.int .u8 0), (.int .u8 0), (.int .u8 0), (.int .u8 0), (.int .u8 0), (.int .u8 0), (.int .u8 0), (.int .u8 0), (.int .u8 0), (.int .u8 0), (.int .u8 0), (.int .u8 0), (.int .u8 0), (.int .u8 0), (.int .u8 0), (.int .u8 0), (.int .u8 0), (.int .u8 0), (.int .u8 0), (.int .u8 0), (.int .u8 0), (.int .u8 0), (.int .u8 0), (.int .u8 0), (.int .u8 0), (.int .u8 0), (.int .u8 0), (.int .u8 0), (.int .u8 0), (.int .u8 0), (.int .u8 0), (.int .u8 0), (.int .u8 0), (.int .u8 0), (.int .u8 0), (.int .u8 0), (.int .u8 0), (.int .u8 0), (.int .u8 0), (.int .u8 0), (.int .u8 0), (.int .u8 0), (.int .u8 0), (.int .u8 0), (.int .u8 0), (.int .u8 0), (.int .u8 0), (.int .u8 0), (.int .u8 0), (.int .u8 0), (.int .u8 0), (.int .u8 0), (.int .u8 0), (.int .u8 0), (.int .u8 0), (.int .u8 0), (.int .u8 0), (.int .u8 0), (.int .u8 0), (.int .u8 0), (.int .u8 0), (.int .u8 0), (.int .u8 0), (.int .u8 0), (.int .u8 0), (.int .u8 0), (.int .u8 0), (.int .u8 0), (.int .u8 0), (.int .u8 0), (.int .u8 0), (.int .u8 0), (.int .u8 0), (.int .u8 0), (.int .u8 0), (.int .u8 0), (.int .u8 0), (.int .u8 0), (.int .u8 0), (.int .u8 0), (.int .u8 0), (.int .u8 0), (.int .u8 0), (.int .u8 0), (.int .u8 0), (.int .u8 0), (.int .u8 0), (.int .u8 0), (.int .u8 0), (.int .u8 0), (.int .u8 0), (.int .u8 0), (.int .u8 0), (.int .u8 0), (.int .u8 0), (.int .u8 0), (.int .u8 0), (.int .u8 0), (.int .u8 0), (.int .u8 0), (.int .u8 0), (.int .u8 0), (.int .u8 0), (.int .u8 0), (.int .u8 0), (.int .u8 0), (.int .u8 0), (.int .u8 0), (.int .u8 0), (.int .u8 0), (.int .u8 0), (.int .u8 0), (.int .u8 0), (.int .u8 0), (.int .u8 0), (.int .u8 0), (.int .u8 0), (.int .u8 0), (.int .u8 0), (.int .u8 0), (.int .u8 0), (.int .u8 0), (.int .u8 0), (.int .u8 0), (.int .u8 0), (.int .u8 0), (.int .u8 0), (.int .u8 0), (.int .u8 0), (.int .u8 0), (.int .u8 0), (.int .u8 0), (.int .u8 0), (.int .u8 0), (.int .u8 0), (.int .u8 0), (.int .u8 0), (.int .u8 0), (.int .u8 0), (.int .u8 0), (.int .u8 0), (.int .u8 0), (.int .u8 0), (.int .u8 0), (.int .u8 0), (.int .u8 0), (.int .u8 0), (.int .u8 0), (.int .u8 0), (.int .u8 0), (.int .u8 0), (.int .u8 0), (.int .u8 0), (.int .u8 0), (.int .u8 0), (.int .u8 0), (.int .u8 0), (.int .u8 0), (.int .u8 0), (.int .u8 0), (.int .u8 0), (.int .u8 0), (.int .u8 0), (.int .u8 0), (.int .u8 0), (.int .u8 0), (.int .u8 0), (.int .u8 0), (.int .u8 0), (.int .u8 0), (.int .u8 0), (.int .u8 0), (.int .u8 0), (.int .u8 0), (.int .u8 0), (.int .u8 0), (.int .u8 0), (.int .u8 0), (.int .u8 0), (.int .u8 0), (.int .u8 0), (.int .u8 0), (.int .u8 0), (.int .u8 0), (.int .u8 0), (.int .u8 0), (.int .u8 0), (.int .u8 0), (.int .u8 0), (.int .u8 0), (.int .u8 0), (.int .u8 0)]) 255 255 := ty_of (by kernel_rfl)
theorem ty174 : Ty Tryz.prog 174 (.agg #[(.int .u8 0), (.int .u8 0), (.int .u8 0), (.int .u8 0), (.int .u8 0), (.int .u8 0), (.int .u8 0), (.int .u8 0), (.int .u8 0), (.int .u8 0), (.int .u8 0), (.int .u8 0), (.int .u8 0), (.int .u8 0), (.int .u8 0), (.int .u8 0), (.int .u8 0), (.int .u8 0), (.int .u8 0), (.int .u8 0), (.int .u8 0), (.int .u8 0), (.int .u8 0), (.int .u8 0), (.int .u8 0), (.int .u8 0), (.int .u8 0), (.int .u8 0), (.int .u8 0), (.int .u8 0), (.int .u8 0), (.int .u8 0), (.int .u8 0), (.int .u8 0), (.int .u8 0), (.int .u8 0), (.int .u8 0), (.int .u8 0), (.int .u8 0), (.int .u8 0), (.int .u8 0), (.int .u8 0), (.int .u8 0), (.int .u8 0), (.int .u8 0), (.int .u8 0), (.int .u8 0), (.int .u8 0), (.int .u8 0), (.int .u8 0), (.int .u8 0), (.int .u8 0), (.int .u8 0), (.int .u8 0), (.int .u8 0), (.int .u8 0), (.int .u8 0), (.int .u8 0), (.int .u8 0), (.int .u8 0), (.int .u8 0), (.int .u8 0), (.int .u8 0), (.int .u8 0), (.int .u8 0), (.int .u8 0), (.int .u8 0), (.int .u8 0), (.int .u8 0), (.int .u8 0), (.int .u8 0), (.int .u8 0), (.int .u8 0), (.int .u8 0), (.int .u8 0), (.int .u8 0), (.int .u8 0), (.int .u8 0), (.int .u8 0), (.int .u8 0), (.int .u8 0), (.int .u8 0), (.int .u8 0), (.int .u8 0), (.int .u8 0), (.int .u8 0), (.int .u8 0), (.int .u8 0), (.int .u8 0), (.int .u8 0), (.int .u8 0), (.int .u8 0), (.int .u8 0), (.int .u8 0), (.int .u8 0), (.int .u8 0), (.int .u8 0), (.int .u8 0), (.int .u8 0), (.int .u8 0), (.int .u8 0), (.int .u8 0), (.int .u8 0), (.int .u8 0), (.int .u8 0), (.int .u8 0), (.int .u8 0), (.int .u8 0), (.int .u8 0), (.int .u8 0), (.int .u8 0), (.int .u8 0), (.int .u8 0), (.int .u8 0), (.int .u8 0), (.int .u8 0), (.int .u8 0), (.int .u8 0), (.int .u8 0), (.int .u8 0), (.int .u8 0), (.int .u8 0), (.int .u8 0), (.int .u8 0), (.int .u8 0), (.int .u8 0), (.int .u8 0), (.int .u8 0), (.int .u8 0), (.int .u8 0), (.int .u8 0), (.int .u8 0), (.int .u8 0), (.int .u8 0), (.int .u8 0), (.int .u8 0), (.int .u8 0), (.int .u8 0), (.int .u8 0), (.int .u8 0), (.int .u8 0), (.int .u8 0), (.int .u8 0), (.int .u8 0), (.int .u8 0), (.int .u8 0), (.int .u8 0), (.int .u8 0), (.int .u8 0), (.int .u8 0), (.int .u8 0), (.int .u8 0), (.int .u8 0), (.int .u8 0), (.int .u8 0), (.int .u8 0), (.int .u8 0), (.int .u8 0), (.int .u8 0), (.int .u8 0), (.int .u8 0), (.int .u8 0), (.int .u8 0), (.int .u8 0), (.int .u8 0), (.int .u8 0), (.int .u8 0), (.int .u8 0), (.int .u8 0), (.int .u8 0), (.int .u8 0), (.int .u8 0), (.int .u8 0), (.int .u8 0), (.int .u8 0), (.int .u8 0), (.int .u8 0), (.int .u8 0), (.int .u8 0), (.int .u8 0), (.int .u8 0), (.int .u8 0), (.int .u8 0), (.int .u8 0), (.int .u8 0), (.int .u8 0), (.int .u8 0), (.int .u8 0), (.int .u8 0), (.int .u8 0), (.int .u8 0), (.int .u8 0), (.int .u8 0), (.int .u8 0), (.int .u8 0), (.int .u8 0), (.int .u8 0), (.int .u8 0), (.int .u8 0), (.int .u8 0), (.int .u8 0), (.int .u8 0), (.int .u8 0), (.int .u8 0), (.int .u8 0), (.int .u8 0), (.int .u8 0), (.int .u8 0), (.int .u8 0), (.int .u8 0), (.int .u8 0), (.int .u8 0), (.int .u8 0), (.int .u8 0), (.int .u8 0), (.int .u8 0), (.int .u8 0), (.int .u8 0), (.int .u8 0), (.int .u8 0), (.int .u8 0), (.int .u8 0), (.int .u8 0), (.int .u8 0), (.int .u8 0), (.int .u8 0), (.int .u8 0), (.int .u8 0), (.int .u8 0), (.int .u8 0), (.int .u8 0), (.int .u8 0), (.int .u8 0), (.int .u8 0), (.int .u8 0), (.int .u8 0), (.int .u8 0), (.int .u8 0), (.int .u8 0), (.int .u8 0), (.int .u8 0), (.int .u8 0), (.int .u8 0), (.int .u8 0), (.int .u8 0), (.int .u8 0), (.int .u8 0), (.int .u8 0), (.int .u8 0), (.int .u8 0), (.int .u8 0), (.int .u8 0), (.int .u8 0), (.int .u8 0), (.int .u8 0), (.int .u8 0)]) 256 256 := ty_of (by kernel_rfl)
theorem ty185 : Ty Tryz.prog 185 (.int .u8 0) 1 1 := ty_of (by kernel_rfl)
theorem ty224 : Ty Tryz.prog 224 (.agg #[(.int .u8 0), (.int .u16 0), (.slice none 0 0)]) 3 32 := ty_of (by kernel_rfl)
theorem conc126 : Conc Tryz.prog 126 := ⟨_, Tryz.underlying126, by simp⟩
theorem conc127 : Conc Tryz.prog 127 := ⟨_, Tryz.underlying127, by simp⟩
theorem conc129 : Conc Tryz.prog 129 := ⟨_, Tryz.underlying129, by simp⟩
theorem conc130 : Conc Tryz.prog 130 := ⟨_, Tryz.underlying130, by simp⟩
theorem conc131 : Conc Tryz.prog 131 := ⟨_, Tryz.underlying131, by simp⟩
theorem conc132 : Conc Tryz.prog 132 := ⟨_, Tryz.underlying132, by simp⟩
theorem conc133 : Conc Tryz.prog 133 := ⟨_, Tryz.underlying133, by simp⟩
theorem conc134 : Conc Tryz.prog 134 := ⟨_, Tryz.underlying134, by simp⟩
theorem conc137 : Conc Tryz.prog 137 := ⟨_, Tryz.underlying137, by simp⟩
theorem agg134 : Agg Tryz.prog 134 := agg_of Tryz.underlying134
theorem agg137 : Agg Tryz.prog 137 := agg_arr Tryz.underlying137
theorem fld174_0 : Fld Tryz.prog 174 0 0 5 := fld_of Tryz.underlying174 rfl rfl rfl ty5 (by decide)
theorem fld174_1 : Fld Tryz.prog 174 1 1 172 := fld_of Tryz.underlying174 rfl rfl rfl ty172 (by decide)
theorem fld224_0 : Fld Tryz.prog 224 0 0 185 := fld_of Tryz.underlying224 rfl rfl rfl ty185 (by decide)
def putP : List PV → PV → List PV
 | [], p => [p]
 | x :: l, p => if x.name = p.name then p :: l else x :: putP l p
def PB : List HV → List PV → Hp → Prop
 | [], [], _ => True
 | h :: l, p :: ps, Z => p.name = h.name ∧ VBk h (.iface p.k p.r) Z ∧ PB l ps Z
 | [], _ :: _, _ => False
 | _ :: _, [], _ => False
theorem PB.len : ∀ {l : List HV} {ps : List PV} {Z : Hp}, PB l ps Z → ps.length = l.length
 | [], [], _, _ => rfl
 | _ :: l, _ :: ps, _, h => by simp [PB.len h.2.2]
 | [], _ :: _, _, h => h.elim
 | _ :: _, [], _, h => h.elim
theorem PB.weaken : ∀ {l : List HV} {ps : List PV} {A C : Hp}, PB l ps A → (∀ x ∈ A, x ∈ C) → PB l ps C
 | [], [], _, _, _, _ => trivial
 | _ :: l, _ :: ps, _, _, h, hs => ⟨h.1, h.2.1.weaken hs, PB.weaken h.2.2 hs⟩
 | [], _ :: _, _, _, h, _ => h.elim
 | _ :: _, [], _, _, h, _ => h.elim
theorem PB.put : ∀ {l : List HV} {ps : List PV} {Z : Hp} {h : HV} {p : PV}, PB l ps Z → p.name = h.name → VBk h (.iface p.k p.r) Z → PB (put l h) (putP ps p) Z
 | [], [], _, _, _, _, hn, hv => ⟨hn, hv, trivial⟩
 | x :: l, q :: ps, Z, h, p, hp, hn, hv => by
  unfold DA.put putP
  by_cases e : x.name = h.name
  ·rw [if_pos e, if_pos (by rw [hp.1, e, hn])]; exact ⟨hn, hv, hp.2.2⟩
  ·rw [if_neg e, if_neg (by rw [hp.1, hn]; exact e)]; exact ⟨hp.1, hp.2.1, PB.put hp.2.2 hn hv⟩
 | [], _ :: _, _, _, _, h, _, _ => h.elim
 | _ :: _, [], _, _, _, h, _, _ => h.elim
theorem PB.get : ∀ {l : List HV} {ps : List PV} {Z : Hp}, PB l ps Z → ∀ i, i < l.length → (ps.getD i PV0).name = (l.getD i HV0).name ∧ VBk (l.getD i HV0) (.iface (ps.getD i PV0).k (ps.getD i PV0).r) Z
 | h :: l, p :: ps, Z, hp, 0, _ => ⟨hp.1, hp.2.1⟩
 | h :: l, p :: ps, Z, hp, i + 1, hi => by
  have := PB.get hp.2.2 i (by simpa using hi)
  simpa [List.getD_eq_getElem?_getD] using this
 | [], _ :: _, _, h, _, _ => h.elim
 | _ :: _, [], _, h, _, _ => h.elim
theorem putP_app : ∀ {ps : List PV} {p : PV}, (∀ j, j < ps.length → (ps.getD j PV0).name ≠ p.name) → putP ps p = ps ++ [p]
 | [], _, _ => rfl
 | x :: l, p, h => by
  have h0 : x.name ≠ p.name := by simpa using h 0 (by simp)
  unfold putP
  rw [if_neg h0, putP_app fun j hj => by simpa [List.getD_eq_getElem?_getD] using h (j + 1) (by simpa using hj)]; rfl
theorem putP_set : ∀ {ps : List PV} {p : PV} {i : Nat}, i < ps.length → (∀ j, j < i → (ps.getD j PV0).name ≠ p.name) → (ps.getD i PV0).name = p.name → putP ps p = ps.set i p
 | [], _, _, h, _, _ => nomatch h
 | x :: l, p, 0, _, _, h => by
  have h0 : x.name = p.name := by simpa using h
  unfold putP; rw [if_pos h0]; rfl
 | x :: l, p, i + 1, hi, hj, h => by
  have h0 : x.name ≠ p.name := by simpa using hj 0 (by omega)
  unfold putP
  rw [if_neg h0, putP_set (i := i) (by simpa using hi) (fun j h2 => by simpa [List.getD_eq_getElem?_getD] using hj (j + 1) (by omega)) (by simpa [List.getD_eq_getElem?_getD] using h)]; rfl
theorem recs_set : ∀ {ps : List PV} {i : Nat} {k : TypeId} {r : Value}, i < ps.length → (recsV PV.row ps).set (i * 2 + 1) (.iface k r) = recsV PV.row (ps.set i ⟨(ps.getD i PV0).name, k, r⟩)
 | [], _, _, _, h => nomatch h
 | x :: l, 0, k, r, _ => rfl
 | x :: l, i + 1, k, r, hi => by
  have h1 := recs_set (ps := l) (i := i) (k := k) (r := r) (by simpa using hi)
  have e : recsV PV.row (x :: l) = S x.name :: .iface x.k x.r :: recsV PV.row l := rfl
  have e2 : recsV PV.row (x :: l.set i ⟨(l.getD i PV0).name, k, r⟩) = S x.name :: .iface x.k x.r :: recsV PV.row (l.set i ⟨(l.getD i PV0).name, k, r⟩) := rfl
  rw [e, show (i + 1) * 2 + 1 = i * 2 + 1 + 1 + 1 by omega, List.set_cons_succ, List.set_cons_succ, h1, List.set_cons_succ]
  have e3 : (x :: l).getD (i + 1) PV0 = l.getD i PV0 := by simp [List.getD_eq_getElem?_getD]
  rw [e3, e2]
end DG
end Go.Proofs.YtodlhaghdplclaaGreatDoor
/- A header set; all headers read. -/
namespace Go.Proofs.YtodlhaghdplclaaGreatDoor
open Go Go.RowKit V EA EB EC ED EL DC DD DA DE EE EH EI EJ DF DG
set_option linter.unusedSimpArgs false
set_option linter.unusedVariables false
set_option maxRecDepth 10000
namespace DH
theorem call34 : Callable Tryz.prog 34 := ⟨_, Tryz.func34, rfl, by kernel_rfl⟩
theorem flat9 : Flat Tryz.prog 9 := ⟨_, Tryz.underlying9, by simp⟩
theorem flat62 : Flat Tryz.prog 62 := ⟨_, Tryz.underlying62, by simp⟩
theorem ty9 : Ty Tryz.prog 9 (S []) 1 16 := ty_of (by kernel_rfl)
theorem ty60 : Ty Tryz.prog 60 .nilIface 1 16 := ty_of (by kernel_rfl)
theorem ty62 : Ty Tryz.prog 62 (.slice none 0 0) 1 24 := ty_of (by kernel_rfl)
theorem ty125 : Ty Tryz.prog 125 (.agg #[(S []), .nilIface]) 2 32 := ty_of (by kernel_rfl)
theorem str125 : Str Tryz.prog 125 #[(0, 1), (1, 1)] := ⟨_, Tryz.underlying125, fun w => by kernel_rfl⟩
theorem fld125_0 : Fld Tryz.prog 125 0 0 9 := fld_of Tryz.underlying125 rfl rfl rfl ty9 (by decide)
theorem fld125_1 : Fld Tryz.prog 125 1 1 60 := fld_of Tryz.underlying125 rfl rfl rfl ty60 (by decide)
theorem names_step {ps : List PV} {i : Nat} {nm : List UInt8} (h : ∀ j, j < i → (ps.getD j PV0).name ≠ nm) (hi : (ps.getD i PV0).name ≠ nm) : ∀ j, j < i + 1 → (ps.getD j PV0).name ≠ nm := fun j hj => by
 rcases Nat.lt_or_ge j i with h1 | h1
 ·exact h j h1
 ·rw [show j = i by omega]; exact hi
theorem own_put {base : Nat} {u : Value} {B : Hp} {ps : List PV} {p : PV} {m : Nat} {xs : List Value} (h : OwS base 125 2 u B m xs) (hm : m = (putP ps p).length) (hx : xs = recsV PV.row (putP ps p)) : OwS base 125 2 u B (putP ps p).length (recsV PV.row (putP ps p)) := by subst hm hx; exact h
theorem setH (base hb : Nat) (u : Value) (B : Hp) (ps : List PV) (ho : OwS base 125 2 u B ps.length (recsV PV.row ps)) (hn : ps.length ≤ 1000000) (nm : List UInt8) (k : TypeId) (r : Value) : FnW Tryz.prog 34 [Pt hb 0, S nm, .iface k r] base [[(hb, .cells #[u] 62 (0, 0))], B] (fun w Hs => ∃ u2 B2, w = .tuple #[] ∧ Hs = [[(hb, .cells #[u2] 62 (0, 0))], B2] ∧ OwS base 125 2 u2 B2 (putP ps ⟨nm, k, r⟩).length (recsV PV.row (putP ps ⟨nm, k, r⟩))) := by
 refine FnW.enter (n := 41) Tryz.func34 rfl rfl fun w0 R0 hbase => ?_
 subst hbase
 show WC _ _ _ _ _ _ _ ([[(hb, .cells #[u] 62 (0, 0))], B, R0])
 refine WC.sub (fr' := [(0, _), (1, _), (2, _)]) ?_ ⟨rfl, rfl, rfl, trivial⟩
 refine WC.seq (WC.region ?_)
 refine WL.q (oq_assign rfl) rfl rfl rfl ?_
 refine WL.nil (WE.then_normal (WC.sub (fr' := [(0, _), (1, _), (2, _), (6, _)]) ?_ ⟨rfl, rfl, rfl, rfl, trivial⟩))
 refine WC.seq (WC.block ?_)
 refine WC.loop (ι := Nat) (fun (i : Nat) => [(0, Pt hb 0), (1, S nm), (2, .iface k r), (6, I (i : Int))]) (fun (i : Nat) => [[(hb, .cells #[u] 62 (0, 0))], B, R0]) (fun (i : Nat) => i ≤ ps.length ∧ ∀ j, j < i → (ps.getD j PV0).name ≠ nm) (fun (i : Nat) => ps.length - i) (0) ?_ ⟨rfl, rfl, rfl, rfl, trivial⟩ (List.Perm.refl _) ?_
 ·try dsimp only
  exact ⟨by omega, fun j h => (by omega)⟩
 ·rintro i hp
  try dsimp only at hp
  obtain ⟨hi, hnm⟩ := hp
  show WC _ _ _ _ _ _ ([(0, Pt hb 0), (1, S nm), (2, .iface k r), (6, I (i : Int))]) ([[(hb, .cells #[u] 62 (0, 0))], B, R0])
  refine WC.seq (WC.seq (WC.region ?_))
  refine WL.q (oq_move rfl) rfl rfl rfl ?_
  refine WL.q (oq_move rfl) rfl rfl rfl ?_
  refine WL.q (oq_nilCheck rfl) rfl rfl rfl ?_
  refine WL.q (oq_load flat62 rfl (.head _) (List.mem_singleton.2 rfl) rfl) rfl rfl rfl ?_
  refine WL.q (oq_len_rd ho.rd Tryz.underlying62 rfl) rfl rfl rfl ?_
  refine WL.q (oq_lss rfl rfl) rfl rfl rfl ?_
  refine WL.nil (WE.then_normal (WC.sub (fr' := [(0, _), (1, _), (2, _), (6, _), (12, _)]) ?_ ⟨rfl, rfl, rfl, rfl, rfl, trivial⟩))
  refine WC.cond rfl (fun q1 => ?_) (fun q1 => ?_)
  ·
   try simp only [Z1, Z2, Z3, Z4, Z5, Z6, Z7, Z8, Z9, Z0] at q1
   refine WC.skip (WE.then_normal (WC.sub (fr' := [(0, _), (1, _), (2, _), (6, _)]) ?_ ⟨rfl, rfl, rfl, rfl, trivial⟩))
   refine WC.seq (WC.block (WC.seq ?_))
   have hlt : i < ps.length := by omega
   refine WC.region ?_
   refine WL.q (oq_move rfl) rfl rfl rfl ?_
   refine WL.q (oq_nilCheck rfl) rfl rfl rfl ?_
   refine WL.q (oq_load flat62 rfl (.head _) (List.mem_singleton.2 rfl) rfl) rfl rfl rfl ?_
   refine WL.q (oq_move rfl) rfl rfl rfl ?_
   refine WL.q (oq_ixaddr ho.rd Tryz.underlying62 ty125 rfl rfl (by (first | omega | (simp only [List.length_cons, List.length_nil, List.length_append, List.length_drop, List.length_take]; omega)))) rfl rfl rfl ?_
   refine WL.q (oq_fldEl fld125_0 ho.rd rfl (by (first | omega | (simp only [List.length_cons, List.length_nil, List.length_append, List.length_drop, List.length_take]; omega)))) rfl rfl rfl ?_
   refine WL.q (oq_loadF (f := PV.row) PV0 (fun _ => rfl) flat9 ho.rd (.tail _ (.head _)) rfl (by (first | omega | (simp only [List.length_cons, List.length_nil, List.length_append, List.length_drop, List.length_take]; omega))) (by first | exact Int.toNat_natCast _ | exact rfl) (by decide) rfl) rfl rfl rfl ?_
   refine WL.q (oq_move rfl) rfl rfl rfl ?_
   refine WL.q (oq_seql rfl rfl) rfl rfl rfl ?_
   refine WL.nil (WE.then_normal (WC.sub (fr' := [(0, _), (1, _), (2, _), (6, _), (23, _)]) ?_ ⟨rfl, rfl, rfl, rfl, rfl, trivial⟩))
   refine WC.cond rfl (fun q3 => ?_) (fun q3 => ?_)
   ·
    try simp only [Z1, Z2, Z3, Z4, Z5, Z6, Z7, Z8, Z9, Z0] at q3
    refine WC.seq (WC.region ?_)
    refine WL.q (oq_move rfl) rfl rfl rfl ?_
    refine WL.q (oq_nilCheck rfl) rfl rfl rfl ?_
    refine WL.q (oq_load flat62 rfl (.head _) (List.mem_singleton.2 rfl) rfl) rfl rfl rfl ?_
    refine WL.q (oq_move rfl) rfl rfl rfl ?_
    refine WL.q (oq_move rfl) rfl rfl rfl ?_
    refine WL.q (oq_ixaddr ho.rd Tryz.underlying62 ty125 rfl rfl (by (first | omega | (simp only [List.length_cons, List.length_nil, List.length_append, List.length_drop, List.length_take]; omega)))) rfl rfl rfl ?_
    refine WL.q (oq_fldEl fld125_1 ho.rd rfl (by (first | omega | (simp only [List.length_cons, List.length_nil, List.length_append, List.length_drop, List.length_take]; omega)))) rfl rfl rfl ?_
    refine WL.f1 ?_
    refine WL.storeOwF (i := i) ho ty60 rfl rfl (by rfl) (by (first | omega | (simp only [List.length_cons, List.length_nil, List.length_append, List.length_drop, List.length_take]; omega))) (by decide) rfl fun A4_7 ho4_7 => ?_
    refine WL.nil (WE.then_normal (WC.sub (fr' := []) ?_ trivial))
    refine WC.ret (WE.block_ret (WE.then_ret (WE.then_ret (WE.block_ret (WE.then_ret ?_)))))
    refine WE.f2 ?_
    refine WE.f1 ?_
    refine WE.f2 ?_
    refine WE.endW2 (.inl rfl) (res0 Tryz.results34) ?_
    have h1 : putP ps ⟨nm, k, r⟩ = ps.set i ⟨nm, k, r⟩ := putP_set hlt hnm q3
    rw [recs_set hlt, q3] at ho4_7
    exact ⟨_, _, rfl, rfl, own_put ho4_7 (by rw [h1, List.length_set]) (by rw [h1])⟩
   ·
    try simp only [Z1, Z2, Z3, Z4, Z5, Z6, Z7, Z8, Z9, Z0] at q3
    refine WC.skip (WE.block_normal (WE.then_normal (WC.sub (fr' := [(0, _), (1, _), (2, _), (6, _)]) ?_ ⟨rfl, rfl, rfl, rfl, trivial⟩)))
    refine WC.region ?_
    refine WL.q (oq_move rfl) rfl rfl rfl ?_
    refine WL.q (oq_add rfl rfl (by rw [i64_lo, i64_hi]; (first | omega | (simp only [List.length_cons, List.length_nil, List.length_append, List.length_drop, List.length_take]; omega)))) rfl rfl rfl ?_
    refine WL.q (oq_assign rfl) rfl rfl rfl ?_
    refine WL.nil ?_
    refine WE.again (i + 1) ?_ ?_ ⟨rfl, rfl, rfl, rfl, trivial⟩ (List.Perm.refl _)
    ·try dsimp only
     exact ⟨by omega, names_step hnm q3⟩
    ·(try dsimp only); omega
  ·
   try simp only [Z1, Z2, Z3, Z4, Z5, Z6, Z7, Z8, Z9, Z0] at q1
   refine WC.exit (WE.then_exit (WE.then_exit (WE.block_same (WE.then_normal (WC.sub (fr' := [(0, _), (1, _), (2, _)]) ?_ ⟨rfl, rfl, rfl, trivial⟩)))))
   refine WC.region ?_
   refine WL.q (oq_move rfl) rfl rfl rfl ?_
   refine WL.q (oq_move rfl) rfl rfl rfl ?_
   refine WL.q (oq_nilCheck rfl) rfl rfl rfl ?_
   refine WL.q (oq_load flat62 rfl (.head _) (List.mem_singleton.2 rfl) rfl) rfl rfl rfl ?_
   refine WL.q (oq_move rfl) rfl rfl rfl ?_
   refine WL.q (oq_move rfl) rfl rfl rfl ?_
   refine WL.q (oq_build #[_, _] str125 ty125 rfl rfl) rfl rfl rfl ?_
   refine WL.buildSS (#[S nm, .iface k r]) Tryz.underlying62 ty125 rfl (by decide) (by decide) (by kernel_rfl) (by kernel_rfl) rfl rfl fun v5_7 A5_7 ho5_7 hne5_7 => ?_
   refine WL.f2 ?_
   refine WL.appendS ho Tryz.underlying62 ty125 rfl (by decide) rfl rfl ho5_7.rd (.head _) (onePV _ _ _) (by unfold maxLen; omega) (by omega) rfl rfl fun v5b A5b ho5b hne5b => ?_
   refine WL.q (oq_nilCheck rfl) rfl rfl rfl ?_
   refine WL.f2 ?_
   refine WL.store ty62 rfl rfl (by exact OwS.one ho5b) (by exact Nat.zero_lt_one) (by simp) rfl ?_
   refine WL.nil ?_
   refine WE.f2 ?_
   refine WE.forget ho5_7.fresh ?_
   refine WE.endW2 (.inr rfl) (res0 Tryz.results34) ?_
   have h1 : putP ps ⟨nm, k, r⟩ = ps ++ [⟨nm, k, r⟩] := putP_app fun j hj => hnm j (by omega)
   exact ⟨_, _, rfl, rfl, own_put ho5b (by rw [h1]; simp) (by rw [h1, ← recsPV_snoc])⟩
theorem putP_len : ∀ (ps : List PV) (p : PV), (putP ps p).length ≤ ps.length + 1
 | [], _ => Nat.le_refl _
 | x :: l, p => by
  have := putP_len l p
  unfold putP; split
  ·simp
  ·rw [List.length_cons, List.length_cons]; omega
end DH
end Go.Proofs.YtodlhaghdplclaaGreatDoor
/- A payload read. -/
namespace Go.Proofs.YtodlhaghdplclaaGreatDoor
open Go Go.RowKit V EA EB EC ED EL DC DD DA DE EE EH EI EJ DF DG DH
set_option linter.unusedSimpArgs false
set_option linter.unusedVariables false
set_option maxRecDepth 10000
namespace DI
theorem call47 : Callable Tryz.prog 47 := ⟨_, Tryz.func47, rfl, by kernel_rfl⟩
theorem call62 : Callable Tryz.prog 62 := ⟨_, Tryz.func62, rfl, by kernel_rfl⟩
theorem call68 : Callable Tryz.prog 68 := ⟨_, Tryz.func68, rfl, by kernel_rfl⟩
theorem call78 : Callable Tryz.prog 78 := ⟨_, Tryz.func78, rfl, by kernel_rfl⟩
theorem call137 : Callable Tryz.prog 137 := ⟨_, Tryz.func137, rfl, by kernel_rfl⟩
theorem flat28 : Flat Tryz.prog 28 := ⟨_, Tryz.underlying28, by simp⟩
theorem ty5 : Ty Tryz.prog 5 (.int .u8 0) 1 1 := ty_of (by kernel_rfl)
theorem ty28 : Ty Tryz.prog 28 (.slice none 0 0) 1 24 := ty_of (by kernel_rfl)
theorem ty77 : Ty Tryz.prog 77 (.int .i8 0) 1 1 := ty_of (by kernel_rfl)
theorem conc107 : Conc Tryz.prog 107 := ⟨_, Tryz.underlying107, by simp⟩
theorem fld79_0 : Fld Tryz.prog 79 0 0 28 := fld_of Tryz.underlying79 rfl rfl rfl ty28 (by decide)
theorem fld79_2 : Fld Tryz.prog 79 2 2 77 := fld_of Tryz.underlying79 rfl rfl rfl ty77 (by decide)
end DI
end Go.Proofs.YtodlhaghdplclaaGreatDoor
/- Preludes, sums, limits. -/
namespace Go.Proofs.YtodlhaghdplclaaGreatDoor
open Go Go.RowKit V EA EB EC ED EL DC DD DA DE EE EH EI EJ DF DG DH DI EM
set_option linter.unusedSimpArgs false
set_option linter.unusedVariables false
set_option maxRecDepth 10000
namespace DJ
theorem call69 : Callable Tryz.prog 69 := ⟨_, Tryz.func69, rfl, by kernel_rfl⟩
theorem call77 : Callable Tryz.prog 77 := ⟨_, Tryz.func77, rfl, by kernel_rfl⟩
theorem flat74 : Flat Tryz.prog 74 := ⟨_, Tryz.underlying74, by simp⟩
theorem ty74 : Ty Tryz.prog 74 (.int .u32 0) 1 4 := ty_of (by kernel_rfl)
theorem ty120 : Ty Tryz.prog 120 (.agg #[(S []), (.int .i64 0), (.int .i64 0), .nilIface]) 4 48 := ty_of (by kernel_rfl)
theorem ty182 : Ty Tryz.prog 182 (.agg #[(.int .u32 0), (.int .u32 0), (.int .u32 0)]) 3 12 := ty_of (by kernel_rfl)
theorem conc120 : Conc Tryz.prog 120 := ⟨_, Tryz.underlying120, by simp⟩
theorem agg182 : Agg Tryz.prog 182 := agg_of Tryz.underlying182
theorem str120 : Str Tryz.prog 120 #[(0, 1), (1, 1), (2, 1), (3, 1)] := ⟨_, Tryz.underlying120, fun w => by kernel_rfl⟩
theorem str182 : Str Tryz.prog 182 #[(0, 1), (1, 1), (2, 1)] := ⟨_, Tryz.underlying182, fun w => by kernel_rfl⟩
theorem fld182_0 : Fld Tryz.prog 182 0 0 74 := fld_of Tryz.underlying182 rfl rfl rfl ty74 (by decide)
theorem fld182_1 : Fld Tryz.prog 182 1 1 74 := fld_of Tryz.underlying182 rfl rfl rfl ty74 (by decide)
theorem fld182_2 : Fld Tryz.prog 182 2 2 74 := fld_of Tryz.underlying182 rfl rfl rfl ty74 (by decide)
end DJ
end Go.Proofs.YtodlhaghdplclaaGreatDoor
/- A message read. -/
namespace Go.Proofs.YtodlhaghdplclaaGreatDoor
open Go Go.RowKit V EA EB EC ED EL DC DD DA DE EE EH EI EJ DF DG DH DI EM DJ
set_option linter.unusedSimpArgs false
set_option linter.unusedVariables false
set_option maxRecDepth 10000
namespace DK
theorem call69 : Callable Tryz.prog 69 := ⟨_, Tryz.func69, rfl, by kernel_rfl⟩
theorem flat74 : Flat Tryz.prog 74 := ⟨_, Tryz.underlying74, by simp⟩
theorem ty28 : Ty Tryz.prog 28 (.slice none 0 0) 1 24 := ty_of (by kernel_rfl)
theorem ty62 : Ty Tryz.prog 62 (.slice none 0 0) 1 24 := ty_of (by kernel_rfl)
theorem ty74 : Ty Tryz.prog 74 (.int .u32 0) 1 4 := ty_of (by kernel_rfl)
theorem ty109 : Ty Tryz.prog 109 (.agg #[(.slice none 0 0), (.slice none 0 0)]) 2 48 := ty_of (by kernel_rfl)
theorem ty155 : Ty Tryz.prog 155 (.agg #[(.int .u32 0)]) 1 4 := ty_of (by kernel_rfl)
theorem ty182 : Ty Tryz.prog 182 (.agg #[(.int .u32 0), (.int .u32 0), (.int .u32 0)]) 3 12 := ty_of (by kernel_rfl)
theorem conc153 : Conc Tryz.prog 153 := ⟨_, Tryz.underlying153, by simp⟩
theorem agg182 : Agg Tryz.prog 182 := agg_of Tryz.underlying182
theorem str109 : Str Tryz.prog 109 #[(0, 1), (1, 1)] := ⟨_, Tryz.underlying109, fun w => by kernel_rfl⟩
theorem str155 : Str Tryz.prog 155 #[(0, 1)] := ⟨_, Tryz.underlying155, fun w => by kernel_rfl⟩
theorem fld109_0 : Fld Tryz.prog 109 0 0 62 := fld_of Tryz.underlying109 rfl rfl rfl ty62 (by decide)
theorem fld109_1 : Fld Tryz.prog 109 1 1 28 := fld_of Tryz.underlying109 rfl rfl rfl ty28 (by decide)
theorem fld182_1 : Fld Tryz.prog 182 1 1 74 := fld_of Tryz.underlying182 rfl rfl rfl ty74 (by decide)
end DK
end Go.Proofs.YtodlhaghdplclaaGreatDoor
