/- The program's words: days. -/
import Derived.Test.YtcfhfdengfcfpaaDoorQ0
namespace Go.Proofs.YtcfhfdengfcfpaaDoor
open Go Go.RowKit V T0 T1 T2
set_option linter.unusedSimpArgs false
set_option linter.unusedVariables false
set_option maxRecDepth 10000
namespace T8
theorem call20 : Callable Tryd.prog 20 := ⟨_, Tryd.func20, rfl, by kernel_rfl⟩
theorem call21 : Callable Tryd.prog 21 := ⟨_, Tryd.func21, rfl, by kernel_rfl⟩
theorem call23 : Callable Tryd.prog 23 := ⟨_, Tryd.func23, rfl, by kernel_rfl⟩
theorem call33 : Callable Tryd.prog 33 := ⟨_, Tryd.func33, rfl, by kernel_rfl⟩
theorem call47 : Callable Tryd.prog 47 := ⟨_, Tryd.func47, rfl, by kernel_rfl⟩
theorem call49 : Callable Tryd.prog 49 := ⟨_, Tryd.func49, rfl, by kernel_rfl⟩
theorem call50 : Callable Tryd.prog 50 := ⟨_, Tryd.func50, rfl, by kernel_rfl⟩
theorem flat2 : Flat Tryd.prog 2 := ⟨_, Tryd.underlying2, by simp⟩
theorem flat21 : Flat Tryd.prog 21 := ⟨_, Tryd.underlying21, by simp⟩
theorem ty2 : Ty Tryd.prog 2 (.int .i64 0) 1 8 := ty_of (by kernel_rfl)
theorem ty3 : Ty Tryd.prog 3 (.int .i64 0) 1 8 := ty_of (by kernel_rfl)
theorem ty9 : Ty Tryd.prog 9 (S []) 1 16 := ty_of (by kernel_rfl)
theorem ty21 : Ty Tryd.prog 21 (.int .i32 0) 1 4 := ty_of (by kernel_rfl)
theorem ty37 : Ty Tryd.prog 37 (.agg #[(.int .i64 0), (.int .i32 0), (S []), (.int .i64 0)]) 4 40 := ty_of (by kernel_rfl)
theorem agg37 : Agg Tryd.prog 37 := agg_of Tryd.underlying37
theorem str37 : Str Tryd.prog 37 #[(0, 1), (1, 1), (2, 1), (3, 1)] := ⟨_, Tryd.underlying37, fun w => by kernel_rfl⟩
theorem fld37_0 : Fld Tryd.prog 37 0 0 2 := fld_of Tryd.underlying37 rfl rfl rfl ty2 (by decide)
theorem fld37_1 : Fld Tryd.prog 37 1 1 21 := fld_of Tryd.underlying37 rfl rfl rfl ty21 (by decide)
theorem fld37_2 : Fld Tryd.prog 37 2 2 9 := fld_of Tryd.underlying37 rfl rfl rfl ty9 (by decide)
theorem fld37_3 : Fld Tryd.prog 37 3 3 3 := fld_of Tryd.underlying37 rfl rfl rfl ty3 (by decide)
abbrev tmZ (s n : Int) (z : List UInt8) (o : Int) : Value := .agg #[I s, .int .i32 n, S z, I o]
abbrev tmV (s : Int) : Value := tmZ s 0 [85, 84, 67] 0
theorem isLeap (y : Nat) (hy : y ≤ 3000) : Fn0 Tryd.prog 47 [I (y : Int)] (.bool (leapN y)) := by
 refine Fn0.enter (n := 11) Tryd.func47 rfl rfl fun w0 => ?_
 refine WC.sub (fr' := [(0, _)]) ?_ ⟨rfl, trivial⟩
 refine WC.seq (WC.region ?_)
 refine WL.q (oq_assign rfl) rfl rfl rfl ?_
 refine WL.nil (WE.then_normal (WC.sub (fr' := [(0, _)]) ?_ ⟨rfl, trivial⟩))
 refine WC.seq (WC.region ?_)
 refine WL.q (oq_assign rfl) rfl rfl rfl ?_
 refine WL.nil (WE.then_normal (WC.sub (fr' := [(0, _), (3, _)]) ?_ ⟨rfl, rfl, trivial⟩))
 refine WC.seq (WC.seq (WC.region ?_))
 refine WL.q (oq_move rfl) rfl rfl rfl ?_
 refine WL.q (oq_rem rfl rfl (by omega)) rfl rfl rfl ?_
 refine WL.q (oq_neq rfl rfl) rfl rfl rfl ?_
 refine WL.nil (WE.then_normal (WC.sub (fr' := [(0, _), (3, _), (6, _)]) ?_ ⟨rfl, rfl, rfl, trivial⟩))
 refine WC.cond rfl (fun q2 => ?_) (fun q2 => ?_)
 ·
  try simp only [Z1, Z2, Z3, Z4, Z5, Z6, Z7, Z8, Z9, Z0] at q2
  refine WC.region ?_
  refine WL.q (oq_assign rfl) rfl rfl rfl ?_
  refine WL.nil (WE.then_normal (WC.sub (fr' := [(0, _), (3, _)]) ?_ ⟨rfl, rfl, trivial⟩))
  refine WC.seq (WC.region ?_)
  refine WL.q (oq_move rfl) rfl rfl rfl ?_
  refine WL.q (oq_move rfl) rfl rfl rfl ?_
  first | refine WL.q (oq_mask 2 4 rfl rfl (by rw [i64_hi]; omega) (by decide) (by decide) (by decide)) rfl rfl rfl ?_ | refine WL.q (oq_mask 4 16 rfl rfl (by rw [i64_hi]; omega) (by decide) (by decide) (by decide)) rfl rfl rfl ?_
  refine WL.q (oq_eql rfl rfl) rfl rfl rfl ?_
  refine WL.q (oq_assign rfl) rfl rfl rfl ?_
  refine WL.nil (WE.then_normal (WC.sub (fr' := [(2, _)]) ?_ ⟨rfl, trivial⟩))
  refine WC.ret ?_
  refine WE.end0 (.inl rfl) (res1 Tryd.results47 rfl) ?_
  refine congrArg Value.bool ?_
  unfold leapN
  rw [Bool.eq_iff_iff]
  simp only [decide_eq_true_eq, Bool.and_eq_true, Bool.or_eq_true, beq_iff_eq, bne_iff_ne]
  omega
 ·
  try simp only [Z1, Z2, Z3, Z4, Z5, Z6, Z7, Z8, Z9, Z0] at q2
  refine WC.skip (WE.then_normal (WC.sub (fr' := [(0, _), (3, _)]) ?_ ⟨rfl, rfl, trivial⟩))
  refine WC.seq (WC.region ?_)
  refine WL.q (oq_move rfl) rfl rfl rfl ?_
  refine WL.q (oq_move rfl) rfl rfl rfl ?_
  first | refine WL.q (oq_mask 2 4 rfl rfl (by rw [i64_hi]; omega) (by decide) (by decide) (by decide)) rfl rfl rfl ?_ | refine WL.q (oq_mask 4 16 rfl rfl (by rw [i64_hi]; omega) (by decide) (by decide) (by decide)) rfl rfl rfl ?_
  refine WL.q (oq_eql rfl rfl) rfl rfl rfl ?_
  refine WL.q (oq_assign rfl) rfl rfl rfl ?_
  refine WL.nil (WE.then_normal (WC.sub (fr' := [(2, _)]) ?_ ⟨rfl, trivial⟩))
  refine WC.ret ?_
  refine WE.end0 (.inl rfl) (res1 Tryd.results47 rfl) ?_
  refine congrArg Value.bool ?_
  unfold leapN
  rw [Bool.eq_iff_iff]
  simp only [decide_eq_true_eq, Bool.and_eq_true, Bool.or_eq_true, beq_iff_eq, bne_iff_ne]
  omega
theorem daysIn (m y : Nat) (hm : m ≤ 12) (hy : y ≤ 3000) : Fn0 Tryd.prog 29 [I (m : Int), I (y : Int)] (I (dimN m y : Int)) := by
 refine Fn0.enter (n := 15) Tryd.func29 rfl rfl fun w0 => ?_
 refine WC.sub (fr' := [(0, _), (1, _)]) ?_ ⟨rfl, rfl, trivial⟩
 refine WC.seq (WC.region ?_)
 refine WL.q (oq_assign rfl) rfl rfl rfl ?_
 refine WL.nil (WE.then_normal (WC.sub (fr' := [(0, _), (1, _)]) ?_ ⟨rfl, rfl, trivial⟩))
 refine WC.seq (WC.seq (WC.region ?_))
 refine WL.q (oq_move rfl) rfl rfl rfl ?_
 refine WL.q (oq_eql rfl rfl) rfl rfl rfl ?_
 refine WL.nil (WE.then_normal (WC.sub (fr' := [(0, _), (1, _), (6, _)]) ?_ ⟨rfl, rfl, rfl, trivial⟩))
 refine WC.cond rfl (fun q1 => ?_) (fun q1 => ?_)
 ·
  try simp only [Z1, Z2, Z3, Z4, Z5, Z6, Z7, Z8, Z9, Z0] at q1
  refine WC.seq (WC.seq (WC.region ?_))
  refine WL.q (oq_move rfl) rfl rfl rfl ?_
  refine WL.qc (oq_call (isLeap y hy) call47 rfl) rfl rfl rfl ?_
  refine WL.nil (WE.then_normal (WC.sub (fr' := [(8, _)]) ?_ ⟨rfl, trivial⟩))
  refine WC.cond rfl (fun q2 => ?_) (fun q2 => ?_)
  ·
   try simp only [Z1, Z2, Z3, Z4, Z5, Z6, Z7, Z8, Z9, Z0] at q2
   refine WC.seq (WC.region ?_)
   refine WL.q (oq_assign rfl) rfl rfl rfl ?_
   refine WL.nil (WE.then_normal (WC.sub (fr' := [(4, _)]) ?_ ⟨rfl, trivial⟩))
   refine WC.ret (WE.then_ret (WE.then_ret ?_))
   refine WE.end0 (.inl rfl) (res1 Tryd.results29 rfl) ?_
   unfold dimN; rw [if_pos (by omega), if_pos q2]; rfl
  ·
   try simp only [Z1, Z2, Z3, Z4, Z5, Z6, Z7, Z8, Z9, Z0] at q2
   refine WC.skip (WE.then_normal (WC.sub (fr' := []) ?_ trivial))
   refine WC.seq (WC.region ?_)
   refine WL.q (oq_assign rfl) rfl rfl rfl ?_
   refine WL.nil (WE.then_normal (WC.sub (fr' := [(4, _)]) ?_ ⟨rfl, trivial⟩))
   refine WC.ret (WE.then_ret ?_)
   refine WE.end0 (.inl rfl) (res1 Tryd.results29 rfl) ?_
   unfold dimN; rw [if_pos (by omega), if_neg (by rw [q2]; simp)]; rfl
 ·
  try simp only [Z1, Z2, Z3, Z4, Z5, Z6, Z7, Z8, Z9, Z0] at q1
  refine WC.skip (WE.then_normal (WC.sub (fr' := [(0, _)]) ?_ ⟨rfl, trivial⟩))
  refine WC.seq (WC.region ?_)
  refine WL.q (oq_move rfl) rfl rfl rfl ?_
  refine WL.q (oq_move rfl) rfl rfl rfl ?_
  refine WL.q (oq_shrl 8 rfl rfl (by decide) (by decide)) rfl rfl rfl ?_
  refine WL.q (oq_add rfl rfl (by rw [i64_lo, i64_hi]; (first | omega | (simp only [List.length_cons, List.length_nil, List.length_append, List.length_drop, List.length_take]; omega)))) rfl rfl rfl ?_
  refine WL.q (oq_mask 1 2 rfl rfl (by rw [i64_hi]; omega) (by decide) (by decide) (by decide)) rfl rfl rfl ?_
  refine WL.q (oq_add rfl rfl (by rw [i64_lo, i64_hi]; (first | omega | (simp only [List.length_cons, List.length_nil, List.length_append, List.length_drop, List.length_take]; omega)))) rfl rfl rfl ?_
  refine WL.q (oq_assign rfl) rfl rfl rfl ?_
  refine WL.nil (WE.then_normal (WC.sub (fr' := [(4, _)]) ?_ ⟨rfl, trivial⟩))
  refine WC.ret ?_
  refine WE.end0 (.inl rfl) (res1 Tryd.results29 rfl) ?_
  unfold dimN; rw [if_neg (by omega)]; exact congrArg I (by omega)
theorem norm (h l b : Int) (h1 : 0 ≤ l) (h2 : l < b) : Fn0 Tryd.prog 49 [I h, I l, I b] (.tuple #[I h, I l]) := by
 refine Fn0.enter (n := 42) Tryd.func49 rfl rfl fun w0 => ?_
 refine WC.sub (fr' := [(0, _), (1, _), (2, _)]) ?_ ⟨rfl, rfl, rfl, trivial⟩
 refine WC.seq (WC.region ?_)
 refine WL.q (oq_assign rfl) rfl rfl rfl ?_
 refine WL.q (oq_assign rfl) rfl rfl rfl ?_
 refine WL.nil (WE.then_normal (WC.sub (fr' := [(0, _), (1, _), (2, _)]) ?_ ⟨rfl, rfl, rfl, trivial⟩))
 refine WC.seq (WC.seq (WC.region ?_))
 refine WL.q (oq_move rfl) rfl rfl rfl ?_
 refine WL.q (oq_lss rfl rfl) rfl rfl rfl ?_
 refine WL.nil (WE.then_normal (WC.sub (fr' := [(0, _), (1, _), (2, _), (11, _)]) ?_ ⟨rfl, rfl, rfl, rfl, trivial⟩))
 refine WC.cond rfl (fun q1 => ?_) (fun q1 => ?_)
 ·
  try simp only [Z1, Z2, Z3, Z4, Z5, Z6, Z7, Z8, Z9, Z0] at q1
  first | contradiction | (exfalso; omega) | (exfalso; simp_all; done)
 ·
  try simp only [Z1, Z2, Z3, Z4, Z5, Z6, Z7, Z8, Z9, Z0] at q1
  refine WC.skip (WE.then_normal (WC.sub (fr' := [(0, _), (1, _), (2, _)]) ?_ ⟨rfl, rfl, rfl, trivial⟩))
  refine WC.seq (WC.seq (WC.region ?_))
  refine WL.q (oq_move rfl) rfl rfl rfl ?_
  refine WL.q (oq_move rfl) rfl rfl rfl ?_
  refine WL.q (oq_geq rfl rfl) rfl rfl rfl ?_
  refine WL.nil (WE.then_normal (WC.sub (fr' := [(0, _), (1, _), (2, _), (28, _)]) ?_ ⟨rfl, rfl, rfl, rfl, trivial⟩))
  refine WC.cond rfl (fun q5 => ?_) (fun q5 => ?_)
  ·
   try simp only [Z1, Z2, Z3, Z4, Z5, Z6, Z7, Z8, Z9, Z0] at q5
   first | contradiction | (exfalso; omega) | (exfalso; simp_all; done)
  ·
   try simp only [Z1, Z2, Z3, Z4, Z5, Z6, Z7, Z8, Z9, Z0] at q5
   refine WC.skip (WE.then_normal (WC.sub (fr' := [(0, _), (1, _)]) ?_ ⟨rfl, rfl, trivial⟩))
   refine WC.seq (WC.region ?_)
   refine WL.q (oq_move rfl) rfl rfl rfl ?_
   refine WL.q (oq_move rfl) rfl rfl rfl ?_
   refine WL.q (oq_assign rfl) rfl rfl rfl ?_
   refine WL.q (oq_assign rfl) rfl rfl rfl ?_
   refine WL.nil (WE.then_normal (WC.sub (fr' := [(6, _), (7, _)]) ?_ ⟨rfl, rfl, trivial⟩))
   refine WC.ret ?_
   refine WE.end0 (.inl rfl) (res2 Tryd.results49 rfl rfl) ?_
   rfl
theorem absDays (y m d : Nat) (hy : 1970 ≤ y ∧ y ≤ 2068) (hm : 1 ≤ m ∧ m ≤ 12) (hd : 1 ≤ d ∧ d ≤ 31) : Fn0 Tryd.prog 50 [I (y : Int), I (m : Int), I (d : Int)] (.int .u64 (absD y m d : Int)) := by
 refine Fn0.enter (n := 54) Tryd.func50 rfl rfl fun w0 => ?_
 refine WC.sub (fr' := [(0, _), (1, _), (2, _)]) ?_ ⟨rfl, rfl, rfl, trivial⟩
 refine WC.seq (WC.region ?_)
 refine WL.q (oq_assign rfl) rfl rfl rfl ?_
 refine WL.nil (WE.then_normal (WC.sub (fr' := [(0, _), (1, _), (2, _)]) ?_ ⟨rfl, rfl, rfl, trivial⟩))
 refine WC.seq (WC.region ?_)
 refine WL.q (oq_move rfl) rfl rfl rfl ?_
 refine WL.q (oq_conv Tryd.underlying56 Tryd.underlying92 rfl (by rw [u32_lo, u32_hi]; omega)) rfl rfl rfl ?_
 refine WL.q (oq_assign rfl) rfl rfl rfl ?_
 refine WL.nil (WE.then_normal (WC.sub (fr' := [(0, _), (2, _), (7, _)]) ?_ ⟨rfl, rfl, rfl, trivial⟩))
 refine WC.seq (WC.region ?_)
 refine WL.q (oq_assign rfl) rfl rfl rfl ?_
 refine WL.nil (WE.then_normal (WC.sub (fr' := [(0, _), (2, _), (7, _), (8, _)]) ?_ ⟨rfl, rfl, rfl, rfl, trivial⟩))
 refine WC.seq (WC.seq (WC.region ?_))
 refine WL.q (oq_move rfl) rfl rfl rfl ?_
 refine WL.q (oq_lss rfl rfl) rfl rfl rfl ?_
 refine WL.nil (WE.then_normal (WC.sub (fr' := [(0, _), (2, _), (7, _), (8, _), (18, _)]) ?_ ⟨rfl, rfl, rfl, rfl, rfl, trivial⟩))
 refine WC.cond rfl (fun q3 => ?_) (fun q3 => ?_)
 ·
  try simp only [Z1, Z2, Z3, Z4, Z5, Z6, Z7, Z8, Z9, Z0] at q3
  refine WC.region ?_
  refine WL.q (oq_assign rfl) rfl rfl rfl ?_
  refine WL.nil (WE.then_normal (WC.sub (fr' := [(0, _), (2, _), (7, _), (8, _)]) ?_ ⟨rfl, rfl, rfl, rfl, trivial⟩))
  refine WC.seq (WC.region ?_)
  refine WL.q (oq_move rfl) rfl rfl rfl ?_
  refine WL.q (oq_move rfl) rfl rfl rfl ?_
  refine WL.q ((oq_mul rfl rfl (by rw [u32_lo, u32_hi]; omega)).to (v' := .int .u32 12) rfl) rfl rfl rfl ?_
  refine WL.q (oq_add rfl rfl (by rw [u32_lo, u32_hi]; omega)) rfl rfl rfl ?_
  refine WL.q (oq_assign rfl) rfl rfl rfl ?_
  refine WL.nil (WE.then_normal (WC.sub (fr' := [(0, _), (2, _), (7, _), (8, _)]) ?_ ⟨rfl, rfl, rfl, rfl, trivial⟩))
  refine WC.seq (WC.region ?_)
  refine WL.q (oq_move rfl) rfl rfl rfl ?_
  refine WL.q (oq_conv Tryd.underlying2 Tryd.underlying81 rfl (by rw [u64_lo, u64_hi]; omega)) rfl rfl rfl ?_
  refine WL.q (oq_move rfl) rfl rfl rfl ?_
  refine WL.q (oq_conv Tryd.underlying92 Tryd.underlying81 rfl (by rw [u64_lo, u64_hi]; omega)) rfl rfl rfl ?_
  refine WL.q (oq_sub rfl rfl (by rw [u64_lo, u64_hi]; omega)) rfl rfl rfl ?_
  refine WL.q (oq_add rfl rfl (by rw [u64_lo, u64_hi]; omega)) rfl rfl rfl ?_
  refine WL.q (oq_assign rfl) rfl rfl rfl ?_
  refine WL.nil (WE.then_normal (WC.sub (fr' := [(2, _), (7, _), (9, _)]) ?_ ⟨rfl, rfl, rfl, trivial⟩))
  refine WC.seq (WC.region ?_)
  refine WL.q (oq_move rfl) rfl rfl rfl ?_
  refine WL.q (oq_mul rfl rfl (by rw [u32_lo, u32_hi]; omega)) rfl rfl rfl ?_
  refine WL.q (oq_sub rfl rfl (by rw [u32_lo, u32_hi]; omega)) rfl rfl rfl ?_
  refine WL.q (oq_shrl 32 rfl rfl (by decide) (by decide)) rfl rfl rfl ?_
  refine WL.q (oq_assign rfl) rfl rfl rfl ?_
  refine WL.nil (WE.then_normal (WC.sub (fr' := [(2, _), (9, _), (10, _)]) ?_ ⟨rfl, rfl, rfl, trivial⟩))
  refine WC.seq (WC.region ?_)
  refine WL.q (oq_move rfl) rfl rfl rfl ?_
  refine WL.q (oq_quo rfl rfl (by rw [u64_hi]; omega)) rfl rfl rfl ?_
  refine WL.q (oq_assign rfl) rfl rfl rfl ?_
  refine WL.nil (WE.then_normal (WC.sub (fr' := [(2, _), (9, _), (10, _), (11, _)]) ?_ ⟨rfl, rfl, rfl, rfl, trivial⟩))
  refine WC.seq (WC.region ?_)
  refine WL.q (oq_move rfl) rfl rfl rfl ?_
  refine WL.q (oq_rem rfl rfl (by omega)) rfl rfl rfl ?_
  refine WL.q (oq_conv Tryd.underlying81 Tryd.underlying92 rfl (by rw [u32_lo, u32_hi]; (first | omega | (simp only [List.length_cons, List.length_nil, List.length_append, List.length_drop, List.length_take]; omega)))) rfl rfl rfl ?_
  refine WL.q (oq_assign rfl) rfl rfl rfl ?_
  refine WL.nil (WE.then_normal (WC.sub (fr' := [(2, _), (10, _), (11, _), (12, _)]) ?_ ⟨rfl, rfl, rfl, rfl, trivial⟩))
  refine WC.seq (WC.region ?_)
  refine WL.q (oq_move rfl) rfl rfl rfl ?_
  refine WL.q (oq_mul rfl rfl (by rw [u32_lo, u32_hi]; (first | omega | (simp only [List.length_cons, List.length_nil, List.length_append, List.length_drop, List.length_take]; omega)))) rfl rfl rfl ?_
  refine WL.q (oq_quo rfl rfl (by rw [u32_hi]; omega)) rfl rfl rfl ?_
  refine WL.q (oq_assign rfl) rfl rfl rfl ?_
  refine WL.nil (WE.then_normal (WC.sub (fr' := [(2, _), (10, _), (11, _), (13, _)]) ?_ ⟨rfl, rfl, rfl, rfl, trivial⟩))
  refine WC.seq (WC.region ?_)
  refine WL.q (oq_move rfl) rfl rfl rfl ?_
  refine WL.q (oq_mul rfl rfl (by rw [u64_lo, u64_hi]; (first | omega | (simp only [List.length_cons, List.length_nil, List.length_append, List.length_drop, List.length_take]; omega)))) rfl rfl rfl ?_
  refine WL.q (oq_quo rfl rfl (by rw [u64_hi]; omega)) rfl rfl rfl ?_
  refine WL.q (oq_assign rfl) rfl rfl rfl ?_
  refine WL.nil (WE.then_normal (WC.sub (fr' := [(2, _), (10, _), (13, _), (14, _)]) ?_ ⟨rfl, rfl, rfl, rfl, trivial⟩))
  refine WC.seq (WC.region ?_)
  refine WL.q (oq_move rfl) rfl rfl rfl ?_
  refine WL.q (oq_move rfl) rfl rfl rfl ?_
  refine WL.q (oq_move rfl) rfl rfl rfl ?_
  refine WL.q (oq_add rfl rfl (by rw [u32_lo, u32_hi]; (first | omega | (simp only [List.length_cons, List.length_nil, List.length_append, List.length_drop, List.length_take]; omega)))) rfl rfl rfl ?_
  refine WL.q (oq_conv Tryd.underlying92 Tryd.underlying2 rfl (by rw [i64_lo, i64_hi]; (first | omega | (simp only [List.length_cons, List.length_nil, List.length_append, List.length_drop, List.length_take]; omega)))) rfl rfl rfl ?_
  refine WL.q (oq_move rfl) rfl rfl rfl ?_
  refine WL.q (oq_add rfl rfl (by rw [i64_lo, i64_hi]; (first | omega | (simp only [List.length_cons, List.length_nil, List.length_append, List.length_drop, List.length_take]; omega)))) rfl rfl rfl ?_
  refine WL.q (oq_sub rfl rfl (by rw [i64_lo, i64_hi]; (first | omega | (simp only [List.length_cons, List.length_nil, List.length_append, List.length_drop, List.length_take]; omega)))) rfl rfl rfl ?_
  refine WL.q (oq_conv Tryd.underlying2 Tryd.underlying81 rfl (by rw [u64_lo, u64_hi]; (first | omega | (simp only [List.length_cons, List.length_nil, List.length_append, List.length_drop, List.length_take]; omega)))) rfl rfl rfl ?_
  refine WL.q (oq_add rfl rfl (by rw [u64_lo, u64_hi]; (first | omega | (simp only [List.length_cons, List.length_nil, List.length_append, List.length_drop, List.length_take]; omega)))) rfl rfl rfl ?_
  refine WL.q (oq_assign rfl) rfl rfl rfl ?_
  refine WL.nil (WE.then_normal (WC.sub (fr' := [(6, _)]) ?_ ⟨rfl, trivial⟩))
  refine WC.ret ?_
  refine WE.end0 (.inl rfl) (res1 Tryd.results50 rfl) ?_
  refine congrArg (Value.int .u64) ?_
  unfold absD absJ
  rw [if_pos (by omega)]
  have eY : (y : Int) - 1 + 292277022400 = ((y - 1 + 292277022400 : Nat) : Int) := by omega
  generalize y - 1 + 292277022400 = Y at *
  rw [eY]
  have ea : (Y : Int) / 100 = ((Y / 100 : Nat) : Int) := by omega
  have eb : (Y : Int) % 100 = ((Y % 100 : Nat) : Int) := by omega
  rw [ea, eb]
  clear ea eb eY
  generalize Y / 100 = a at *
  generalize Y % 100 = b at *
  have e1 : 146097 * (a : Int) / 4 = ((146097 * a / 4 : Nat) : Int) := by omega
  have e2 : 1461 * (b : Int) / 4 = ((1461 * b / 4 : Nat) : Int) := by omega
  have e3 : (979 * ((m : Int) + 12) - 2919) / 32 = (((979 * (m + 12) - 2919) / 32 : Nat) : Int) := by omega
  omega
 ·
  try simp only [Z1, Z2, Z3, Z4, Z5, Z6, Z7, Z8, Z9, Z0] at q3
  refine WC.skip (WE.then_normal (WC.sub (fr' := [(0, _), (2, _), (7, _), (8, _)]) ?_ ⟨rfl, rfl, rfl, rfl, trivial⟩))
  refine WC.seq (WC.region ?_)
  refine WL.q (oq_move rfl) rfl rfl rfl ?_
  refine WL.q (oq_move rfl) rfl rfl rfl ?_
  refine WL.q ((oq_mul rfl rfl (by rw [u32_lo, u32_hi]; omega)).to (v' := .int .u32 0) rfl) rfl rfl rfl ?_
  refine WL.q (oq_add rfl rfl (by rw [u32_lo, u32_hi]; omega)) rfl rfl rfl ?_
  refine WL.q (oq_assign rfl) rfl rfl rfl ?_
  refine WL.nil (WE.then_normal (WC.sub (fr' := [(0, _), (2, _), (7, _), (8, _)]) ?_ ⟨rfl, rfl, rfl, rfl, trivial⟩))
  refine WC.seq (WC.region ?_)
  refine WL.q (oq_move rfl) rfl rfl rfl ?_
  refine WL.q (oq_conv Tryd.underlying2 Tryd.underlying81 rfl (by rw [u64_lo, u64_hi]; omega)) rfl rfl rfl ?_
  refine WL.q (oq_move rfl) rfl rfl rfl ?_
  refine WL.q (oq_conv Tryd.underlying92 Tryd.underlying81 rfl (by rw [u64_lo, u64_hi]; omega)) rfl rfl rfl ?_
  refine WL.q (oq_sub rfl rfl (by rw [u64_lo, u64_hi]; omega)) rfl rfl rfl ?_
  refine WL.q (oq_add rfl rfl (by rw [u64_lo, u64_hi]; omega)) rfl rfl rfl ?_
  refine WL.q (oq_assign rfl) rfl rfl rfl ?_
  refine WL.nil (WE.then_normal (WC.sub (fr' := [(2, _), (7, _), (9, _)]) ?_ ⟨rfl, rfl, rfl, trivial⟩))
  refine WC.seq (WC.region ?_)
  refine WL.q (oq_move rfl) rfl rfl rfl ?_
  refine WL.q (oq_mul rfl rfl (by rw [u32_lo, u32_hi]; omega)) rfl rfl rfl ?_
  refine WL.q (oq_sub rfl rfl (by rw [u32_lo, u32_hi]; (first | omega | (simp only [List.length_cons, List.length_nil, List.length_append, List.length_drop, List.length_take]; omega)))) rfl rfl rfl ?_
  refine WL.q (oq_shrl 32 rfl rfl (by decide) (by decide)) rfl rfl rfl ?_
  refine WL.q (oq_assign rfl) rfl rfl rfl ?_
  refine WL.nil (WE.then_normal (WC.sub (fr' := [(2, _), (9, _), (10, _)]) ?_ ⟨rfl, rfl, rfl, trivial⟩))
  refine WC.seq (WC.region ?_)
  refine WL.q (oq_move rfl) rfl rfl rfl ?_
  refine WL.q (oq_quo rfl rfl (by rw [u64_hi]; omega)) rfl rfl rfl ?_
  refine WL.q (oq_assign rfl) rfl rfl rfl ?_
  refine WL.nil (WE.then_normal (WC.sub (fr' := [(2, _), (9, _), (10, _), (11, _)]) ?_ ⟨rfl, rfl, rfl, rfl, trivial⟩))
  refine WC.seq (WC.region ?_)
  refine WL.q (oq_move rfl) rfl rfl rfl ?_
  refine WL.q (oq_rem rfl rfl (by omega)) rfl rfl rfl ?_
  refine WL.q (oq_conv Tryd.underlying81 Tryd.underlying92 rfl (by rw [u32_lo, u32_hi]; (first | omega | (simp only [List.length_cons, List.length_nil, List.length_append, List.length_drop, List.length_take]; omega)))) rfl rfl rfl ?_
  refine WL.q (oq_assign rfl) rfl rfl rfl ?_
  refine WL.nil (WE.then_normal (WC.sub (fr' := [(2, _), (10, _), (11, _), (12, _)]) ?_ ⟨rfl, rfl, rfl, rfl, trivial⟩))
  refine WC.seq (WC.region ?_)
  refine WL.q (oq_move rfl) rfl rfl rfl ?_
  refine WL.q (oq_mul rfl rfl (by rw [u32_lo, u32_hi]; (first | omega | (simp only [List.length_cons, List.length_nil, List.length_append, List.length_drop, List.length_take]; omega)))) rfl rfl rfl ?_
  refine WL.q (oq_quo rfl rfl (by rw [u32_hi]; omega)) rfl rfl rfl ?_
  refine WL.q (oq_assign rfl) rfl rfl rfl ?_
  refine WL.nil (WE.then_normal (WC.sub (fr' := [(2, _), (10, _), (11, _), (13, _)]) ?_ ⟨rfl, rfl, rfl, rfl, trivial⟩))
  refine WC.seq (WC.region ?_)
  refine WL.q (oq_move rfl) rfl rfl rfl ?_
  refine WL.q (oq_mul rfl rfl (by rw [u64_lo, u64_hi]; (first | omega | (simp only [List.length_cons, List.length_nil, List.length_append, List.length_drop, List.length_take]; omega)))) rfl rfl rfl ?_
  refine WL.q (oq_quo rfl rfl (by rw [u64_hi]; omega)) rfl rfl rfl ?_
  refine WL.q (oq_assign rfl) rfl rfl rfl ?_
  refine WL.nil (WE.then_normal (WC.sub (fr' := [(2, _), (10, _), (13, _), (14, _)]) ?_ ⟨rfl, rfl, rfl, rfl, trivial⟩))
  refine WC.seq (WC.region ?_)
  refine WL.q (oq_move rfl) rfl rfl rfl ?_
  refine WL.q (oq_move rfl) rfl rfl rfl ?_
  refine WL.q (oq_move rfl) rfl rfl rfl ?_
  refine WL.q (oq_add rfl rfl (by rw [u32_lo, u32_hi]; (first | omega | (simp only [List.length_cons, List.length_nil, List.length_append, List.length_drop, List.length_take]; omega)))) rfl rfl rfl ?_
  refine WL.q (oq_conv Tryd.underlying92 Tryd.underlying2 rfl (by rw [i64_lo, i64_hi]; (first | omega | (simp only [List.length_cons, List.length_nil, List.length_append, List.length_drop, List.length_take]; omega)))) rfl rfl rfl ?_
  refine WL.q (oq_move rfl) rfl rfl rfl ?_
  refine WL.q (oq_add rfl rfl (by rw [i64_lo, i64_hi]; (first | omega | (simp only [List.length_cons, List.length_nil, List.length_append, List.length_drop, List.length_take]; omega)))) rfl rfl rfl ?_
  refine WL.q (oq_sub rfl rfl (by rw [i64_lo, i64_hi]; (first | omega | (simp only [List.length_cons, List.length_nil, List.length_append, List.length_drop, List.length_take]; omega)))) rfl rfl rfl ?_
  refine WL.q (oq_conv Tryd.underlying2 Tryd.underlying81 rfl (by rw [u64_lo, u64_hi]; (first | omega | (simp only [List.length_cons, List.length_nil, List.length_append, List.length_drop, List.length_take]; omega)))) rfl rfl rfl ?_
  refine WL.q (oq_add rfl rfl (by rw [u64_lo, u64_hi]; (first | omega | (simp only [List.length_cons, List.length_nil, List.length_append, List.length_drop, List.length_take]; omega)))) rfl rfl rfl ?_
  refine WL.q (oq_assign rfl) rfl rfl rfl ?_
  refine WL.nil (WE.then_normal (WC.sub (fr' := [(6, _)]) ?_ ⟨rfl, trivial⟩))
  refine WC.ret ?_
  refine WE.end0 (.inl rfl) (res1 Tryd.results50 rfl) ?_
  refine congrArg (Value.int .u64) ?_
  unfold absD absJ
  rw [if_neg (by omega)]
  have eY : (y : Int) - 0 + 292277022400 = ((y + 292277022400 : Nat) : Int) := by omega
  generalize y + 292277022400 = Y at *
  rw [eY]
  have ea : (Y : Int) / 100 = ((Y / 100 : Nat) : Int) := by omega
  have eb : (Y : Int) % 100 = ((Y % 100 : Nat) : Int) := by omega
  rw [ea, eb]
  clear ea eb eY
  generalize Y / 100 = a at *
  generalize Y % 100 = b at *
  have e1 : 146097 * (a : Int) / 4 = ((146097 * a / 4 : Nat) : Int) := by omega
  have e2 : 1461 * (b : Int) / 4 = ((1461 * b / 4 : Nat) : Int) := by omega
  have e3 : (979 * ((m : Int) + 0) - 2919) / 32 = (((979 * m - 2919) / 32 : Nat) : Int) := by omega
  omega
theorem unix0 (s : Int) (h : 0 ≤ s ∧ s ≤ 10000000000) : Fn0 Tryd.prog 33 [I s, I 0] (tmV (s + 62135596800)) := by
 refine Fn0.enter (n := 32) Tryd.func33 rfl rfl fun w0 => ?_
 refine WC.sub (fr' := [(0, _), (1, _)]) ?_ ⟨rfl, rfl, trivial⟩
 refine WC.seq (WC.region ?_)
 refine WL.alloc ty37 rfl rfl fun b0_0 hb0_0 => ?_
 refine WL.nil (WE.then_normal (WC.sub (fr' := [(0, _), (1, _), (4, _)]) ?_ ⟨rfl, rfl, rfl, trivial⟩))
 refine WC.seq (WC.seq (WC.region ?_))
 refine WL.q (oq_move rfl) rfl rfl rfl ?_
 refine WL.q ((oq_lss rfl rfl).to (v' := .bool false) (congrArg Value.bool (decide_eq_false (by omega)))) rfl rfl rfl ?_
 refine WL.q (oq_move rfl) rfl rfl rfl ?_
 refine WL.q (oq_move rfl) rfl rfl rfl ?_
 refine WL.q ((oq_geq rfl rfl).to (v' := .bool false) (congrArg Value.bool (decide_eq_false (by omega)))) rfl rfl rfl ?_
 refine WL.q (oq_pick_f rfl rfl) rfl rfl rfl ?_
 refine WL.nil (WE.then_normal (WC.sub (fr' := [(0, _), (1, _), (4, _), (11, _)]) ?_ ⟨rfl, rfl, rfl, rfl, trivial⟩))
 refine WC.cond_f rfl ?_
 refine WC.skip (WE.then_normal (WC.sub (fr' := [(0, _), (1, _), (4, _)]) ?_ ⟨rfl, rfl, rfl, trivial⟩))
 refine WC.seq (WC.region ?_)
 refine WL.q (oq_move rfl) rfl rfl rfl ?_
 refine WL.q (oq_add rfl rfl (by rw [i64_lo, i64_hi]; (first | omega | (simp only [List.length_cons, List.length_nil, List.length_append, List.length_drop, List.length_take]; omega)))) rfl rfl rfl ?_
 refine WL.q (oq_move rfl) rfl rfl rfl ?_
 refine WL.q (oq_conv Tryd.underlying2 Tryd.underlying21 rfl (by rw [i32_lo, i32_hi]; omega)) rfl rfl rfl ?_
 refine WL.q (oq_build #[_, _, _, _] str37 ty37 rfl rfl) rfl rfl rfl ?_
 refine WL.storeS #[_, _, _, _] ty37 rfl rfl rfl rfl (Nat.le_of_ble_eq_true rfl) rfl rfl ?_
 refine WL.nil (WE.then_normal (WC.sub (fr' := [(4, _)]) ?_ ⟨rfl, trivial⟩))
 refine WC.ret ?_
 refine WE.endD0 (.inl rfl) (rs1 Tryd.results33 (rv_cellS [_, _, _, _] agg37 ty37 rfl (.head _) (List.mem_singleton.2 rfl) rfl rfl)) (dr_lose hb0_0 dr_refl) ?_
 rfl
theorem date (y m d hh mi ss dd : Nat) (hy : 1970 ≤ y ∧ y ≤ 2068) (hm : 1 ≤ m ∧ m ≤ 12) (hd : 1 ≤ d ∧ d ≤ 31) (hhh : hh < 24) (hmi : mi < 60) (hss : ss < 60) (hA : absD y m d = dd + 106751991073400) (hdd : dd < 36160) : Fn0 Tryd.prog 32 [I (y : Int), I (m : Int), I (d : Int), I (hh : Int), I (mi : Int), I (ss : Int), I 0] (tmV ((dd * 86400 + hh * 3600 + mi * 60 + ss : Nat) + 62135596800)) := by
 refine Fn0.enter (n := 69) Tryd.func32 rfl rfl fun w0 => ?_
 refine WC.sub (fr' := [(0, _), (1, _), (2, _), (3, _), (4, _), (5, _), (6, _)]) ?_ ⟨rfl, rfl, rfl, rfl, rfl, rfl, rfl, trivial⟩
 refine WC.seq (WC.region ?_)
 refine WL.alloc ty37 rfl rfl fun b0_0 hb0_0 => ?_
 refine WL.nil (WE.then_normal (WC.sub (fr' := [(0, _), (1, _), (2, _), (3, _), (4, _), (5, _), (6, _), (14, _)]) ?_ ⟨rfl, rfl, rfl, rfl, rfl, rfl, rfl, rfl, trivial⟩))
 refine WC.seq (WC.region ?_)
 refine WL.q (oq_move rfl) rfl rfl rfl ?_
 refine WL.q (oq_sub rfl rfl (by rw [i64_lo, i64_hi]; (first | omega | (simp only [List.length_cons, List.length_nil, List.length_append, List.length_drop, List.length_take]; omega)))) rfl rfl rfl ?_
 refine WL.q (oq_assign rfl) rfl rfl rfl ?_
 refine WL.nil (WE.then_normal (WC.sub (fr' := [(0, _), (2, _), (3, _), (4, _), (5, _), (6, _), (14, _), (15, _)]) ?_ ⟨rfl, rfl, rfl, rfl, rfl, rfl, rfl, rfl, trivial⟩))
 refine WC.seq (WC.region ?_)
 refine WL.q (oq_move rfl) rfl rfl rfl ?_
 refine WL.q (oq_move rfl) rfl rfl rfl ?_
 refine WL.qc (oq_call (norm _ _ 12 (by omega) (by omega)) call49 rfl) rfl rfl rfl ?_
 refine WL.q (oq_move rfl) rfl rfl rfl ?_
 refine WL.q (oq_extract rfl rfl) rfl rfl rfl ?_
 refine WL.q (oq_extract rfl rfl) rfl rfl rfl ?_
 refine WL.q (oq_assign rfl) rfl rfl rfl ?_
 refine WL.q (oq_assign rfl) rfl rfl rfl ?_
 refine WL.nil (WE.then_normal (WC.sub (fr' := [(0, _), (2, _), (3, _), (4, _), (5, _), (6, _), (14, _), (15, _)]) ?_ ⟨rfl, rfl, rfl, rfl, rfl, rfl, rfl, rfl, trivial⟩))
 refine WC.seq (WC.region ?_)
 refine WL.q (oq_move rfl) rfl rfl rfl ?_
 refine WL.q ((oq_add rfl rfl (by rw [i64_lo, i64_hi]; omega)).to (v' := I (m : Int)) (congrArg I (by omega))) rfl rfl rfl ?_
 refine WL.q (oq_assign rfl) rfl rfl rfl ?_
 refine WL.nil (WE.then_normal (WC.sub (fr' := [(0, _), (1, _), (2, _), (3, _), (4, _), (5, _), (6, _), (14, _)]) ?_ ⟨rfl, rfl, rfl, rfl, rfl, rfl, rfl, rfl, trivial⟩))
 refine WC.seq (WC.region ?_)
 refine WL.q (oq_move rfl) rfl rfl rfl ?_
 refine WL.q (oq_move rfl) rfl rfl rfl ?_
 refine WL.qc (oq_call (norm _ _ 1000000000 (by omega) (by omega)) call49 rfl) rfl rfl rfl ?_
 refine WL.q (oq_move rfl) rfl rfl rfl ?_
 refine WL.q (oq_extract rfl rfl) rfl rfl rfl ?_
 refine WL.q (oq_extract rfl rfl) rfl rfl rfl ?_
 refine WL.q (oq_assign rfl) rfl rfl rfl ?_
 refine WL.q (oq_assign rfl) rfl rfl rfl ?_
 refine WL.nil (WE.then_normal (WC.sub (fr' := [(0, _), (1, _), (2, _), (3, _), (4, _), (5, _), (6, _), (14, _)]) ?_ ⟨rfl, rfl, rfl, rfl, rfl, rfl, rfl, rfl, trivial⟩))
 refine WC.seq (WC.region ?_)
 refine WL.q (oq_move rfl) rfl rfl rfl ?_
 refine WL.q (oq_move rfl) rfl rfl rfl ?_
 refine WL.qc (oq_call (norm _ _ 60 (by omega) (by omega)) call49 rfl) rfl rfl rfl ?_
 refine WL.q (oq_move rfl) rfl rfl rfl ?_
 refine WL.q (oq_extract rfl rfl) rfl rfl rfl ?_
 refine WL.q (oq_extract rfl rfl) rfl rfl rfl ?_
 refine WL.q (oq_assign rfl) rfl rfl rfl ?_
 refine WL.q (oq_assign rfl) rfl rfl rfl ?_
 refine WL.nil (WE.then_normal (WC.sub (fr' := [(0, _), (1, _), (2, _), (3, _), (4, _), (5, _), (6, _), (14, _)]) ?_ ⟨rfl, rfl, rfl, rfl, rfl, rfl, rfl, rfl, trivial⟩))
 refine WC.seq (WC.region ?_)
 refine WL.q (oq_move rfl) rfl rfl rfl ?_
 refine WL.q (oq_move rfl) rfl rfl rfl ?_
 refine WL.qc (oq_call (norm _ _ 60 (by omega) (by omega)) call49 rfl) rfl rfl rfl ?_
 refine WL.q (oq_move rfl) rfl rfl rfl ?_
 refine WL.q (oq_extract rfl rfl) rfl rfl rfl ?_
 refine WL.q (oq_extract rfl rfl) rfl rfl rfl ?_
 refine WL.q (oq_assign rfl) rfl rfl rfl ?_
 refine WL.q (oq_assign rfl) rfl rfl rfl ?_
 refine WL.nil (WE.then_normal (WC.sub (fr' := [(0, _), (1, _), (2, _), (3, _), (4, _), (5, _), (6, _), (14, _)]) ?_ ⟨rfl, rfl, rfl, rfl, rfl, rfl, rfl, rfl, trivial⟩))
 refine WC.seq (WC.region ?_)
 refine WL.q (oq_move rfl) rfl rfl rfl ?_
 refine WL.q (oq_move rfl) rfl rfl rfl ?_
 refine WL.qc (oq_call (norm _ _ 24 (by omega) (by omega)) call49 rfl) rfl rfl rfl ?_
 refine WL.q (oq_move rfl) rfl rfl rfl ?_
 refine WL.q (oq_extract rfl rfl) rfl rfl rfl ?_
 refine WL.q (oq_extract rfl rfl) rfl rfl rfl ?_
 refine WL.q (oq_assign rfl) rfl rfl rfl ?_
 refine WL.q (oq_assign rfl) rfl rfl rfl ?_
 refine WL.nil (WE.then_normal (WC.sub (fr' := [(0, _), (1, _), (2, _), (3, _), (4, _), (5, _), (6, _), (14, _)]) ?_ ⟨rfl, rfl, rfl, rfl, rfl, rfl, rfl, rfl, trivial⟩))
 refine WC.seq (WC.region ?_)
 refine WL.q (oq_move rfl) rfl rfl rfl ?_
 refine WL.q (oq_move rfl) rfl rfl rfl ?_
 refine WL.q (oq_move rfl) rfl rfl rfl ?_
 refine WL.qc (oq_call (absDays y m d hy hm hd) call50 rfl) rfl rfl rfl ?_
 refine WL.q (oq_conv Tryd.underlying82 Tryd.underlying2 rfl (by rw [i64_lo, i64_hi]; (first | omega | (simp only [List.length_cons, List.length_nil, List.length_append, List.length_drop, List.length_take]; omega)))) rfl rfl rfl ?_
 refine WL.q (oq_mul rfl rfl (by rw [i64_lo, i64_hi]; (first | omega | (simp only [List.length_cons, List.length_nil, List.length_append, List.length_drop, List.length_take]; omega)))) rfl rfl rfl ?_
 refine WL.q (oq_move rfl) rfl rfl rfl ?_
 refine WL.q (oq_mul rfl rfl (by rw [i64_lo, i64_hi]; (first | omega | (simp only [List.length_cons, List.length_nil, List.length_append, List.length_drop, List.length_take]; omega)))) rfl rfl rfl ?_
 refine WL.q (oq_move rfl) rfl rfl rfl ?_
 refine WL.q (oq_mul rfl rfl (by rw [i64_lo, i64_hi]; (first | omega | (simp only [List.length_cons, List.length_nil, List.length_append, List.length_drop, List.length_take]; omega)))) rfl rfl rfl ?_
 refine WL.q (oq_add rfl rfl (by rw [i64_lo, i64_hi]; (first | omega | (simp only [List.length_cons, List.length_nil, List.length_append, List.length_drop, List.length_take]; omega)))) rfl rfl rfl ?_
 refine WL.q (oq_move rfl) rfl rfl rfl ?_
 refine WL.q (oq_add rfl rfl (by rw [i64_lo, i64_hi]; (first | omega | (simp only [List.length_cons, List.length_nil, List.length_append, List.length_drop, List.length_take]; omega)))) rfl rfl rfl ?_
 refine WL.q (oq_add rfl rfl (by rw [i64_lo, i64_hi]; (first | omega | (simp only [List.length_cons, List.length_nil, List.length_append, List.length_drop, List.length_take]; omega)))) rfl rfl rfl ?_
 refine WL.q ((oq_add rfl rfl (by rw [i64_lo, i64_hi]; omega)).to (v' := I ((dd * 86400 + hh * 3600 + mi * 60 + ss : Nat) : Int)) (congrArg I (by omega))) rfl rfl rfl ?_
 refine WL.q (oq_assign rfl) rfl rfl rfl ?_
 refine WL.nil (WE.then_normal (WC.sub (fr' := [(6, _), (14, _), (16, _)]) ?_ ⟨rfl, rfl, rfl, trivial⟩))
 refine WC.seq (WC.region ?_)
 refine WL.q (oq_move rfl) rfl rfl rfl ?_
 refine WL.q (oq_move rfl) rfl rfl rfl ?_
 refine WL.qc (oq_call (unix0 _ (by omega)) call33 rfl) rfl rfl rfl ?_
 refine WL.storeS #[_, _, _, _] ty37 rfl rfl rfl rfl (Nat.le_of_ble_eq_true rfl) rfl rfl ?_
 refine WL.nil (WE.then_normal (WC.sub (fr' := [(14, _)]) ?_ ⟨rfl, trivial⟩))
 refine WC.ret ?_
 refine WE.endD0 (.inl rfl) (rs1 Tryd.results32 (rv_cellS [_, _, _, _] agg37 ty37 rfl (.head _) (List.mem_singleton.2 rfl) rfl rfl)) (dr_lose hb0_0 dr_refl) ?_
 rfl
theorem inZ (s n o o2 : Int) (z z2 : List UInt8) : Fn0 Tryd.prog 34 [tmZ s n z o, S z2, I o2] (tmZ s n z2 o2) := by
 refine Fn0.enter (n := 12) Tryd.func34 rfl rfl fun w0 => ?_
 refine WC.sub (fr' := [(0, _), (1, _), (2, _)]) ?_ ⟨rfl, rfl, rfl, trivial⟩
 refine WC.seq (WC.region ?_)
 refine WL.box rfl rfl rfl fun b0_0 hb0_0 => ?_
 refine WL.alloc ty37 rfl rfl fun b0_1 hb0_1 => ?_
 refine WL.nil (WE.then_normal (WC.sub (fr' := [(1, _), (2, _), (3, _), (6, _)]) ?_ ⟨rfl, rfl, rfl, rfl, trivial⟩))
 refine WC.seq (WC.region ?_)
 refine WL.q (oq_move rfl) rfl rfl rfl ?_
 refine WL.q (oq_move rfl) rfl rfl rfl ?_
 refine WL.q (oq_fieldAddr fld37_2 rfl) rfl rfl rfl ?_
 refine WL.f1 ?_
 refine WL.store1 #[_, _, _, _] ty9 rfl rfl (by rfl) (Nat.lt_of_lt_of_le (Nat.lt_succ_self _) (Nat.le_of_ble_eq_true rfl)) rfl rfl ?_
 refine WL.q (oq_fieldAddr fld37_3 rfl) rfl rfl rfl ?_
 refine WL.store1 #[_, _, _, _] ty3 rfl rfl (by rfl) (Nat.lt_of_lt_of_le (Nat.lt_succ_self _) (Nat.le_of_ble_eq_true rfl)) rfl rfl ?_
 refine WL.nil (WE.then_normal (WC.sub (fr' := [(3, _), (6, _)]) ?_ ⟨rfl, rfl, trivial⟩))
 refine WC.seq (WC.region ?_)
 refine WL.q (oq_loadS [_, _, _, _] agg37 ty37 rfl (.head _) (List.mem_singleton.2 rfl) rfl rfl) rfl rfl rfl ?_
 refine WL.f1 ?_
 refine WL.storeS #[_, _, _, _] ty37 rfl rfl rfl rfl (Nat.le_of_ble_eq_true rfl) rfl rfl ?_
 refine WL.nil (WE.then_normal (WC.sub (fr' := [(6, _)]) ?_ ⟨rfl, trivial⟩))
 refine WC.ret ?_
 refine WE.endD0 (.inl rfl) (rs1 Tryd.results34 (rv_cellS [_, _, _, _] agg37 ty37 rfl (.head _) (List.mem_singleton.2 rfl) rfl rfl)) (dr_lose hb0_1 (dr_lose hb0_0 dr_refl)) ?_
 rfl
theorem sec (s n o : Int) (z : List UInt8) : Fn0 Tryd.prog 23 [tmZ s n z o] (I s) := by
 refine Fn0.enter (n := 5) Tryd.func23 rfl rfl fun w0 => ?_
 refine WC.sub (fr' := [(0, _)]) ?_ ⟨rfl, trivial⟩
 refine WC.seq (WC.region ?_)
 refine WL.box rfl rfl rfl fun b0_0 hb0_0 => ?_
 refine WL.q (oq_assign rfl) rfl rfl rfl ?_
 refine WL.nil (WE.then_normal (WC.sub (fr' := [(1, _)]) ?_ ⟨rfl, trivial⟩))
 refine WC.seq (WC.region ?_)
 refine WL.q (oq_fieldAddr fld37_0 rfl) rfl rfl rfl ?_
 refine WL.q (oq_load flat2 rfl (.head _) (List.mem_singleton.2 rfl) rfl) rfl rfl rfl ?_
 refine WL.q (oq_assign rfl) rfl rfl rfl ?_
 refine WL.nil (WE.then_normal (WC.sub (fr' := [(2, _)]) ?_ ⟨rfl, trivial⟩))
 refine WC.ret ?_
 refine WE.lose hb0_0 ?_
 refine WE.end0 (.inl rfl) (res1 Tryd.results23 rfl) ?_
 rfl
theorem nsec (s n o : Int) (z : List UInt8) : Fn0 Tryd.prog 21 [tmZ s n z o] (.int .i32 n) := by
 refine Fn0.enter (n := 5) Tryd.func21 rfl rfl fun w0 => ?_
 refine WC.sub (fr' := [(0, _)]) ?_ ⟨rfl, trivial⟩
 refine WC.seq (WC.region ?_)
 refine WL.box rfl rfl rfl fun b0_0 hb0_0 => ?_
 refine WL.q (oq_assign rfl) rfl rfl rfl ?_
 refine WL.nil (WE.then_normal (WC.sub (fr' := [(1, _)]) ?_ ⟨rfl, trivial⟩))
 refine WC.seq (WC.region ?_)
 refine WL.q (oq_fieldAddr fld37_1 rfl) rfl rfl rfl ?_
 refine WL.q (oq_load flat21 rfl (.head _) (List.mem_singleton.2 rfl) rfl) rfl rfl rfl ?_
 refine WL.q (oq_assign rfl) rfl rfl rfl ?_
 refine WL.nil (WE.then_normal (WC.sub (fr' := [(2, _)]) ?_ ⟨rfl, trivial⟩))
 refine WC.ret ?_
 refine WE.lose hb0_0 ?_
 refine WE.end0 (.inl rfl) (res1 Tryd.results21 rfl) ?_
 rfl
theorem unixSec (s n o : Int) (z : List UInt8) (h : 0 ≤ s ∧ s ≤ 100000000000) : Fn0 Tryd.prog 20 [tmZ s n z o] (I (s + -62135596800)) := by
 refine Fn0.enter (n := 6) Tryd.func20 rfl rfl fun w0 => ?_
 refine WC.sub (fr' := [(0, _)]) ?_ ⟨rfl, trivial⟩
 refine WC.seq (WC.region ?_)
 refine WL.box rfl rfl rfl fun b0_0 hb0_0 => ?_
 refine WL.q (oq_assign rfl) rfl rfl rfl ?_
 refine WL.nil (WE.then_normal (WC.sub (fr' := [(1, _)]) ?_ ⟨rfl, trivial⟩))
 refine WC.seq (WC.region ?_)
 refine WL.q (oq_loadS [_, _, _, _] agg37 ty37 rfl (.head _) (List.mem_singleton.2 rfl) rfl rfl) rfl rfl rfl ?_
 refine WL.qc (oq_call (sec _ _ _ _) call23 rfl) rfl rfl rfl ?_
 refine WL.q (oq_add rfl rfl (by rw [i64_lo, i64_hi]; (first | omega | (simp only [List.length_cons, List.length_nil, List.length_append, List.length_drop, List.length_take]; omega)))) rfl rfl rfl ?_
 refine WL.q (oq_assign rfl) rfl rfl rfl ?_
 refine WL.nil (WE.then_normal (WC.sub (fr' := [(2, _)]) ?_ ⟨rfl, trivial⟩))
 refine WC.ret ?_
 refine WE.lose hb0_0 ?_
 refine WE.end0 (.inl rfl) (res1 Tryd.results20 rfl) ?_
 rfl
theorem timeUnix (s n o : Int) (z : List UInt8) (h : 0 ≤ s ∧ s ≤ 100000000000) : Fn0 Tryd.prog 16 [tmZ s n z o] (I (s + -62135596800)) := by
 refine Fn0.enter (n := 5) Tryd.func16 rfl rfl fun w0 => ?_
 refine WC.sub (fr' := [(0, _)]) ?_ ⟨rfl, trivial⟩
 refine WC.seq (WC.region ?_)
 refine WL.box rfl rfl rfl fun b0_0 hb0_0 => ?_
 refine WL.q (oq_assign rfl) rfl rfl rfl ?_
 refine WL.nil (WE.then_normal (WC.sub (fr' := [(1, _)]) ?_ ⟨rfl, trivial⟩))
 refine WC.seq (WC.region ?_)
 refine WL.q (oq_loadS [_, _, _, _] agg37 ty37 rfl (.head _) (List.mem_singleton.2 rfl) rfl rfl) rfl rfl rfl ?_
 refine WL.qc (oq_call (unixSec _ _ _ _ h) call20 rfl) rfl rfl rfl ?_
 refine WL.q (oq_assign rfl) rfl rfl rfl ?_
 refine WL.nil (WE.then_normal (WC.sub (fr' := [(2, _)]) ?_ ⟨rfl, trivial⟩))
 refine WC.ret ?_
 refine WE.lose hb0_0 ?_
 refine WE.end0 (.inl rfl) (res1 Tryd.results16 rfl) ?_
 rfl
theorem timeNano (s o : Int) (z : List UInt8) : Fn0 Tryd.prog 17 [tmZ s 0 z o] (I 0) := by
 refine Fn0.enter (n := 6) Tryd.func17 rfl rfl fun w0 => ?_
 refine WC.sub (fr' := [(0, _)]) ?_ ⟨rfl, trivial⟩
 refine WC.seq (WC.region ?_)
 refine WL.box rfl rfl rfl fun b0_0 hb0_0 => ?_
 refine WL.q (oq_assign rfl) rfl rfl rfl ?_
 refine WL.nil (WE.then_normal (WC.sub (fr' := [(1, _)]) ?_ ⟨rfl, trivial⟩))
 refine WC.seq (WC.region ?_)
 refine WL.q (oq_loadS [_, _, _, _] agg37 ty37 rfl (.head _) (List.mem_singleton.2 rfl) rfl rfl) rfl rfl rfl ?_
 refine WL.qc (oq_call (nsec _ _ _ _) call21 rfl) rfl rfl rfl ?_
 refine WL.q (oq_conv Tryd.underlying21 Tryd.underlying3 rfl (by rw [i64_lo, i64_hi]; (first | omega | (simp only [List.length_cons, List.length_nil, List.length_append, List.length_drop, List.length_take]; omega)))) rfl rfl rfl ?_
 refine WL.q (oq_assign rfl) rfl rfl rfl ?_
 refine WL.nil (WE.then_normal (WC.sub (fr' := [(2, _)]) ?_ ⟨rfl, trivial⟩))
 refine WC.ret ?_
 refine WE.lose hb0_0 ?_
 refine WE.end0 (.inl rfl) (res1 Tryd.results17 rfl) ?_
 rfl
end T8
end Go.Proofs.YtcfhfdengfcfpaaDoor
/- The first piece of a layout: what leads to it. -/
namespace Go.Proofs.YtcfhfdengfcfpaaDoor
open Go Go.RowKit V T0
set_option linter.unusedSimpArgs false
set_option linter.unusedVariables false
set_option maxRecDepth 10000
namespace T9
abbrev std0 : Array Value := #[I 260, I 265, I 1038, I 1040, I 1042, I 276]
def Tab0 (G : Hp) : Prop := ∃ t f, (3, .cells std0 t f) ∈ G
theorem Tab0.weaken {G C : Hp} (h : Tab0 G) (hs : ∀ x ∈ G, x ∈ C) : Tab0 C := by obtain ⟨t, f, h⟩ := h; exact ⟨t, f, hs _ h⟩
theorem swlF (c : UInt8) (r : List UInt8) (h : c.toNat < 97) (hr : r.length ≤ 1000) : Fn0 Tryd.prog 51 [S (c :: r)] (.bool false) := by
 refine Fn0.enter (n := 15) Tryd.func51 rfl rfl fun w0 => ?_
 refine WC.sub (fr' := [(0, _)]) ?_ ⟨rfl, trivial⟩
 refine WC.seq (WC.region ?_)
 refine WL.q (oq_assign rfl) rfl rfl rfl ?_
 refine WL.nil (WE.then_normal (WC.sub (fr' := [(0, _)]) ?_ ⟨rfl, trivial⟩))
 refine WC.seq (WC.seq (WC.region ?_))
 refine WL.q (oq_move rfl) rfl rfl rfl ?_
 refine WL.q (oq_len_s Tryd.underlying9 rfl) rfl rfl rfl ?_
 refine WL.q (oq_eql rfl rfl) rfl rfl rfl ?_
 refine WL.nil (WE.then_normal (WC.sub (fr' := [(0, _), (6, _)]) ?_ ⟨rfl, rfl, trivial⟩))
 refine WC.cond rfl (fun q1 => ?_) (fun q1 => ?_)
 ·
  try simp only [Z1, Z2, Z3, Z4, Z5, Z6, Z7, Z8, Z9, Z0] at q1
  (exfalso; simp at q1; omega)
 ·
  try simp only [Z1, Z2, Z3, Z4, Z5, Z6, Z7, Z8, Z9, Z0] at q1
  refine WC.skip (WE.then_normal (WC.sub (fr' := [(0, _)]) ?_ ⟨rfl, trivial⟩))
  refine WC.seq (WC.region ?_)
  refine WL.q (oq_move rfl) rfl rfl rfl ?_
  refine WL.index_s Tryd.underlying9 rfl rfl (by rw [List.length_cons]; omega) rfl rfl fun c3_1 hc3_1 hc3_1l hc3_1u => ?_
  refine WL.q (oq_assign rfl) rfl rfl rfl ?_
  refine WL.nil (WE.then_normal (WC.sub (fr' := [(3, _)]) ?_ ⟨rfl, trivial⟩))
  refine WC.seq ?_
  obtain rfl : c3_1 = (c.toNat : Int) := hc3_1
  refine WC.region ?_
  refine WL.q (oq_move rfl) rfl rfl rfl ?_
  refine WL.q (oq_leq rfl rfl) rfl rfl rfl ?_
  refine WL.q (oq_move rfl) rfl rfl rfl ?_
  refine WL.split 11 rfl (fun s4_2 => ?_) (fun s4_2 => ?_)
  ·
   try simp only [Z1, Z2, Z3, Z4, Z5, Z6, Z7, Z8, Z9, Z0] at s4_2
   refine WL.q (oq_move rfl) rfl rfl rfl ?_
   refine WL.q (oq_leq rfl rfl) rfl rfl rfl ?_
   refine WL.q (oq_pick_t rfl rfl) rfl rfl rfl ?_
   refine WL.q (oq_assign rfl) rfl rfl rfl ?_
   refine WL.nil (WE.then_normal (WC.sub (fr' := [(2, _)]) ?_ ⟨rfl, trivial⟩))
   refine WC.ret ?_
   refine WE.end0 (.inl rfl) (res1 Tryd.results51 rfl) ?_
   first | rfl | (exfalso; omega)
  ·
   try simp only [Z1, Z2, Z3, Z4, Z5, Z6, Z7, Z8, Z9, Z0] at s4_2
   refine WL.skip rfl rfl rfl ?_
   refine WL.skip rfl rfl rfl ?_
   refine WL.q (oq_pick_f rfl rfl) rfl rfl rfl ?_
   refine WL.q (oq_assign rfl) rfl rfl rfl ?_
   refine WL.nil (WE.then_normal (WC.sub (fr' := [(2, _)]) ?_ ⟨rfl, trivial⟩))
   refine WC.ret ?_
   refine WE.end0 (.inl rfl) (res1 Tryd.results51 rfl) ?_
   first | rfl | (exfalso; omega)
end T9
end Go.Proofs.YtcfhfdengfcfpaaDoor
/- Names within texts; what the listed variables hold. -/
namespace Go.Proofs.YtcfhfdengfcfpaaDoor
open Go Go.RowKit V T0 T1 T2 T4 T5 T6 T7 T8 T9
set_option linter.unusedSimpArgs false
set_option linter.unusedVariables false
set_option maxRecDepth 10000
namespace U0
def wb (w i : Nat) : UInt8 := (nameAt week w).getD i 0
def mb (m i : Nat) : UInt8 := (nameAt months m).getD i 0
def ftail (w : Nat) : List UInt8 := (nameAt fulls w).drop 3
theorem week_is : ∀ w, w < 7 → nameAt week w = [wb w 0, wb w 1, wb w 2] := by decide
theorem mon_is : ∀ m, m < 12 → nameAt months m = [mb m 0, mb m 1, mb m 2] := by decide
theorem hi_ne (n : Nat) : ¬ hi n = 32 := fun h => by have := hi_lt n; rw [h] at this; simp at this
theorem lo_ne (n : Nat) : ¬ lo n = 32 := fun h => by have := lo_lt n; rw [h] at this; simp at this
theorem mb_ne : ∀ m, m < 12 → ¬ mb m 0 = 32 := by decide
theorem lt7 {w : Nat} (h : w < 7) : w = 0 ∨ w = 1 ∨ w = 2 ∨ w = 3 ∨ w = 4 ∨ w = 5 ∨ w = 6 := by omega
theorem lt12 {w : Nat} (h : w < 12) : w = 0 ∨ w = 1 ∨ w = 2 ∨ w = 3 ∨ w = 4 ∨ w = 5 ∨ w = 6 ∨ w = 7 ∨ w = 8 ∨ w = 9 ∨ w = 10 ∨ w = 11 := by omega
theorem look_week (w : Nat) (h : w < 7) (r : List UInt8) : lookF 0 week (wb w 0 :: wb w 1 :: wb w 2 :: r) = some (w, r) := by
 rcases lt7 h with rfl | rfl | rfl | rfl | rfl | rfl | rfl <;> simp +decide [lookF, matchM, eqc, wb, nameAt, week]
theorem look_mon (w : Nat) (h : w < 12) (r : List UInt8) : lookF 0 months (mb w 0 :: mb w 1 :: mb w 2 :: r) = some (w, r) := by
 rcases lt12 h with rfl | rfl | rfl | rfl | rfl | rfl | rfl | rfl | rfl | rfl | rfl | rfl <;> simp +decide [lookF, matchM, eqc, mb, nameAt, months]
theorem look_short (w : Nat) (h : w < 7) (r : List UInt8) : lookF 0 week (nameAt fulls w ++ r) = some (w, ftail w ++ r) := by
 rcases lt7 h with rfl | rfl | rfl | rfl | rfl | rfl | rfl <;> simp +decide [lookF, matchM, eqc, ftail, nameAt, week, fulls]
theorem look_full (w : Nat) (h : w < 7) (r : List UInt8) : lookF 0 fulls (nameAt fulls w ++ r) = some (w, r) := by
 rcases lt7 h with rfl | rfl | rfl | rfl | rfl | rfl | rfl <;> simp +decide [lookF, matchM, eqc, nameAt, fulls]
theorem look_none (w : Nat) (h : w < 7) (r : List UInt8) : lookF 0 fulls (wb w 0 :: wb w 1 :: wb w 2 :: 32 :: r) = none := by
 rcases lt7 h with rfl | rfl | rfl | rfl | rfl | rfl | rfl <;> simp +decide [lookF, matchM, eqc, wb, nameAt, week, fulls]
theorem skip_short (w : Nat) (h : w < 7) (r : List UInt8) : skipM 3 (ftail w ++ r) [44, 32] = (ftail w ++ r, false) := by
 rcases lt7 h with rfl | rfl | rfl | rfl | rfl | rfl | rfl <;> simp +decide [skipM, ftail, nameAt, fulls]
theorem full_len (w : Nat) (h : w < 7) (r : List UInt8) (hr : r.length ≤ 900) : (nameAt fulls w ++ r).length ≤ 1000 := by
 have := fulls_len w h
 rw [List.length_append]; omega
theorem ftail_len (w : Nat) (h : w < 7) (r : List UInt8) (hr : r.length ≤ 900) : (ftail w ++ r).length ≤ 1000 := by
 have := fulls_len w h
 unfold ftail
 rw [List.length_append, List.length_drop]; omega
section
variable {G : Hp} {k0 : TypeId} {u0 : Value}
theorem skipY (hE : Er G k0 u0) (v p r : List UInt8) (hv : v.length ≤ 1000) (hp : p.length ≤ 1000) (h : skipM (p.length + 1) v p = (r, true)) : FnR Tryd.prog 36 [S v, S p] G (.tuple #[S r, .nilIface]) := by
 have := skip G k0 u0 hE v p hv hp
 rw [h] at this; exact this
theorem skipN (hE : Er G k0 u0) (v p r : List UInt8) (hv : v.length ≤ 1000) (hp : p.length ≤ 1000) (h : skipM (p.length + 1) v p = (r, false)) : FnR Tryd.prog 36 [S v, S p] G (.tuple #[S r, .iface k0 u0]) := by
 have := skip G k0 u0 hE v p hv hp
 rw [h] at this; exact this
end
theorem getnumA (n : Nat) (hn : n < 100) (r : List UInt8) (hl : r.length ≤ 900) (b : Bool) : Fn0 Tryd.prog 41 [S (hi n :: lo n :: r), .bool b] (.tuple #[I (n : Int), S r, .nilIface]) := by
 have := getnum2 n r hl b
 rwa [Nat.mod_eq_of_lt hn] at this
theorem getnumB (n : Nat) (hn : n < 10) (r : List UInt8) (hl : r.length ≤ 900) : Fn0 Tryd.prog 41 [S (lo n :: 32 :: r), .bool false] (.tuple #[I (n : Int), S (32 :: r), .nilIface]) := by
 have := getnum1 n r hl
 rwa [Nat.mod_eq_of_lt hn] at this
theorem digT (n : Nat) (r : List UInt8) (hl : r.length ≤ 900) : Fn0 Tryd.prog 30 [S (hi n :: r), I 0] (.bool true) := by
 have := isDigit (hi n :: r) 0 (by omega) (by rw [List.length_cons]; omega)
 rwa [isDg_hi] at this
theorem atoi4 (y : Nat) (hy : y < 10000) : Fn0 Tryd.prog 38 [S [hi (y / 100), lo (y / 100), hi (y % 100), lo (y % 100)]] (.tuple #[I (y : Int), .nilIface]) := by
 have := atoi (four y) (digs_four y) (Nat.le_refl 4) (Nat.succ_pos 3)
 rw [show (four y).length = 4 from rfl, dv_four, Nat.mod_eq_of_lt hy] at this
 exact this
theorem atoi2 (y : Nat) : Fn0 Tryd.prog 38 [S [hi y, lo y]] (.tuple #[I ((y % 100 : Nat) : Int), .nilIface]) := by
 have := atoi (two y) (digs_two y) (show 2 ≤ 4 by decide) (Nat.succ_pos 1)
 rw [show (two y).length = 2 from rfl, dv_two] at this
 exact this
def Lg (G : Hp) : Prop := ∃ sv, (∃ t f, (2, .cells #[sv] t f) ∈ G) ∧ RdS 1 sv G 7 (strsV fulls)
def LT (G : Hp) (k0 : TypeId) (u0 : Value) : Prop := Er G k0 u0 ∧ Tab0 G ∧ Lg G
theorem LT.weaken {G C : Hp} {k0 : TypeId} {u0 : Value} (h : LT G k0 u0) (hs : ∀ x ∈ G, x ∈ C) : LT C k0 u0 := by
 obtain ⟨h1, h2, sv, ⟨t, f, h3⟩, h4⟩ := h
 exact ⟨h1.weaken hs, h2.weaken hs, sv, ⟨t, f, hs _ h3⟩, h4.weaken hs⟩
theorem comma32  : Fn0 Tryd.prog 44 [.int .u8 32] (.bool false) := by
 refine Fn0.enter (n := 9) Tryd.func44 rfl rfl fun w0 => ?_
 refine WC.sub (fr' := [(0, _)]) ?_ ⟨rfl, trivial⟩
 refine WC.seq (WC.region ?_)
 refine WL.q (oq_assign rfl) rfl rfl rfl ?_
 refine WL.nil (WE.then_normal (WC.sub (fr' := [(0, _)]) ?_ ⟨rfl, trivial⟩))
 refine WC.seq (WC.region ?_)
 refine WL.q (oq_move rfl) rfl rfl rfl ?_
 refine WL.q ((oq_eql rfl rfl).to (v' := .bool false) (congrArg Value.bool (decide_eq_false (by omega)))) rfl rfl rfl ?_
 refine WL.q (oq_move rfl) rfl rfl rfl ?_
 refine WL.q (oq_move rfl) rfl rfl rfl ?_
 refine WL.q ((oq_eql rfl rfl).to (v' := .bool false) (congrArg Value.bool (decide_eq_false (by omega)))) rfl rfl rfl ?_
 refine WL.q (oq_pick_f rfl rfl) rfl rfl rfl ?_
 refine WL.q (oq_assign rfl) rfl rfl rfl ?_
 refine WL.nil (WE.then_normal (WC.sub (fr' := [(2, _)]) ?_ ⟨rfl, trivial⟩))
 refine WC.ret ?_
 refine WE.end0 (.inl rfl) (res1 Tryd.results44 rfl) ?_
 rfl
end U0
end Go.Proofs.YtcfhfdengfcfpaaDoor
/- The pieces of the layouts, part 0. -/
namespace Go.Proofs.YtcfhfdengfcfpaaDoor
open Go Go.RowKit V T9
set_option linter.unusedSimpArgs false
set_option linter.unusedVariables false
set_option maxRecDepth 10000
namespace TX0
theorem call51 : Callable Tryd.prog 51 := ⟨_, Tryd.func51, rfl, by kernel_rfl⟩
set_option maxHeartbeats 2000000 in
theorem ch0 (G : Hp) (hT : Tab0 G) : FnR Tryd.prog 35 [S [77, 111, 110, 44, 32, 48, 50, 32, 74, 97, 110, 32, 50, 48, 48, 54, 32, 49, 53, 58, 48, 52, 58, 48, 53, 32, 71, 77, 84]] G (.tuple #[S [], I 262, S [44, 32, 48, 50, 32, 74, 97, 110, 32, 50, 48, 48, 54, 32, 49, 53, 58, 48, 52, 58, 48, 53, 32, 71, 77, 84]]) := by
 obtain ⟨t0, f0, hm⟩ := hT
 refine FnR.enter (n := 654) Tryd.func35 rfl rfl fun w0 => ?_
 refine WC.sub (fr' := [(0, _)]) ?_ ⟨rfl, trivial⟩
 refine WC.seq (WC.region ?_)
 refine WL.q (oq_assign rfl) rfl rfl rfl ?_
 refine WL.q (oq_assign rfl) rfl rfl rfl ?_
 refine WL.q (oq_assign rfl) rfl rfl rfl ?_
 refine WL.nil (WE.then_normal (WC.seq (WC.seq (WC.region ?_))))
 refine WL.q (oq_assign rfl) rfl rfl rfl ?_
 refine WL.nil (WE.then_normal (WC.block ?_))
 refine WC.unroll ?_
 refine WC.seq (WC.seq (WC.region ?_))
 refine WL.q (oq_move rfl) rfl rfl rfl ?_
 refine WL.q (oq_move rfl) rfl rfl rfl ?_
 refine WL.q ((oq_len_s Tryd.underlying9 rfl).to (v' := I 29) rfl) rfl rfl rfl ?_
 refine WL.q ((oq_lss rfl rfl).to (v' := .bool true) (congrArg Value.bool (decide_eq_true (by omega)))) rfl rfl rfl ?_
 refine WL.nil (WE.then_normal ?_)
 refine WC.cond_t rfl ?_
 refine WC.skip (WE.then_normal (WC.seq (WC.block (WC.seq (WC.region ?_)))))
 refine WL.q (oq_move rfl) rfl rfl rfl ?_
 refine WL.q (oq_move rfl) rfl rfl rfl ?_
 refine WL.q ((oq_index_s Tryd.underlying9 rfl rfl (by decide)).to (v' := .int .u8 77) rfl) rfl rfl rfl ?_
 refine WL.q (oq_conv Tryd.underlying5 Tryd.underlying3 rfl (by rw [i64_lo, i64_hi]; omega)) rfl rfl rfl ?_
 refine WL.q (oq_assign rfl) rfl rfl rfl ?_
 refine WL.nil (WE.then_normal (WC.seq (WC.region ?_)))
 refine WL.q (oq_move rfl) rfl rfl rfl ?_
 refine WL.nil (WE.then_normal (WC.block (WC.seq (WC.region ?_))))
 refine WL.q ((oq_eql rfl rfl).to (v' := .bool false) (congrArg Value.bool (decide_eq_false (by omega)))) rfl rfl rfl ?_
 refine WL.q (oq_assign rfl) rfl rfl rfl ?_
 refine WL.nil (WE.then_normal ?_)
 refine WC.cond_f rfl ?_
 refine WC.seq (WC.region ?_)
 refine WL.q ((oq_eql rfl rfl).to (v' := .bool true) (congrArg Value.bool (decide_eq_true (by omega)))) rfl rfl rfl ?_
 refine WL.q (oq_assign rfl) rfl rfl rfl ?_
 refine WL.nil (WE.then_normal ?_)
 refine WC.cond_t rfl ?_
 refine WC.seq (WC.region ?_)
 refine WL.q (oq_move rfl) rfl rfl rfl ?_
 refine WL.q ((oq_len_s Tryd.underlying9 rfl).to (v' := I 29) rfl) rfl rfl rfl ?_
 refine WL.q (oq_move rfl) rfl rfl rfl ?_
 refine WL.q ((oq_add rfl rfl (by rw [i64_lo, i64_hi]; omega)).to (v' := I 3) rfl) rfl rfl rfl ?_
 refine WL.q ((oq_geq rfl rfl).to (v' := .bool true) (congrArg Value.bool (decide_eq_true (by omega)))) rfl rfl rfl ?_
 refine WL.nil (WE.then_normal ?_)
 refine WC.cond_t rfl ?_
 refine WC.seq (WC.seq (WC.region ?_))
 refine WL.q (oq_move rfl) rfl rfl rfl ?_
 refine WL.q (oq_move rfl) rfl rfl rfl ?_
 refine WL.q (oq_move rfl) rfl rfl rfl ?_
 refine WL.q ((oq_add rfl rfl (by rw [i64_lo, i64_hi]; omega)).to (v' := I 3) rfl) rfl rfl rfl ?_
 refine WL.q ((oq_slice_s2 Tryd.underlying9 rfl rfl rfl (by decide)).to (v' := S [77, 111, 110]) rfl) rfl rfl rfl ?_
 refine WL.q ((oq_seql rfl rfl).to (v' := .bool true) (by kernel_rfl)) rfl rfl rfl ?_
 refine WL.nil (WE.then_normal ?_)
 refine WC.cond_t rfl ?_
 refine WC.seq (WC.seq (WC.region ?_))
 refine WL.q (oq_move rfl) rfl rfl rfl ?_
 refine WL.q ((oq_len_s Tryd.underlying9 rfl).to (v' := I 29) rfl) rfl rfl rfl ?_
 refine WL.q (oq_move rfl) rfl rfl rfl ?_
 refine WL.q ((oq_add rfl rfl (by rw [i64_lo, i64_hi]; omega)).to (v' := I 6) rfl) rfl rfl rfl ?_
 refine WL.q ((oq_geq rfl rfl).to (v' := .bool true) (congrArg Value.bool (decide_eq_true (by omega)))) rfl rfl rfl ?_
 refine WL.q (oq_move rfl) rfl rfl rfl ?_
 refine WL.q (oq_move rfl) rfl rfl rfl ?_
 refine WL.q (oq_move rfl) rfl rfl rfl ?_
 refine WL.q (oq_move rfl) rfl rfl rfl ?_
 refine WL.q ((oq_add rfl rfl (by rw [i64_lo, i64_hi]; omega)).to (v' := I 6) rfl) rfl rfl rfl ?_
 refine WL.q ((oq_slice_s2 Tryd.underlying9 rfl rfl rfl (by decide)).to (v' := S [77, 111, 110, 44, 32, 48]) rfl) rfl rfl rfl ?_
 refine WL.q ((oq_seql rfl rfl).to (v' := .bool false) (by kernel_rfl)) rfl rfl rfl ?_
 refine WL.q (oq_pick_t rfl rfl) rfl rfl rfl ?_
 refine WL.nil (WE.then_normal ?_)
 refine WC.cond_f rfl ?_
 refine WC.skip (WE.then_normal (WC.seq (WC.region ?_)))
 refine WL.q (oq_move rfl) rfl rfl rfl ?_
 refine WL.q (oq_move rfl) rfl rfl rfl ?_
 refine WL.q ((oq_add rfl rfl (by rw [i64_lo, i64_hi]; omega)).to (v' := I 3) rfl) rfl rfl rfl ?_
 refine WL.q ((oq_slice_s1 Tryd.underlying9 rfl rfl (by decide)).to (v' := S [44, 32, 48, 50, 32, 74, 97, 110, 32, 50, 48, 48, 54, 32, 49, 53, 58, 48, 52, 58, 48, 53, 32, 71, 77, 84]) rfl) rfl rfl rfl ?_
 refine WL.qc (oq_call (swlF 44 [32, 48, 50, 32, 74, 97, 110, 32, 50, 48, 48, 54, 32, 49, 53, 58, 48, 52, 58, 48, 53, 32, 71, 77, 84] (by decide) (by decide)) call51 rfl) rfl rfl rfl ?_
 refine WL.q ((oq_not rfl).to (v' := .bool true) rfl) rfl rfl rfl ?_
 refine WL.nil (WE.then_normal ?_)
 refine WC.cond_t rfl ?_
 refine WC.seq (WC.quiet (by kernel_rfl) (by kernel_rfl) ?_)
 refine WQ.q (oq_move rfl) rfl rfl rfl ?_
 refine WQ.q (oq_move rfl) rfl rfl rfl ?_
 refine WQ.q ((oq_slice_s2 Tryd.underlying9 rfl rfl rfl (by decide)).to (v' := S []) rfl) rfl rfl rfl ?_
 refine WQ.q (oq_move rfl) rfl rfl rfl ?_
 refine WQ.q (oq_move rfl) rfl rfl rfl ?_
 refine WQ.q ((oq_add rfl rfl (by rw [i64_lo, i64_hi]; omega)).to (v' := I 3) rfl) rfl rfl rfl ?_
 refine WQ.q ((oq_slice_s1 Tryd.underlying9 rfl rfl (by decide)).to (v' := S [44, 32, 48, 50, 32, 74, 97, 110, 32, 50, 48, 48, 54, 32, 49, 53, 58, 48, 52, 58, 48, 53, 32, 71, 77, 84]) rfl) rfl rfl rfl ?_
 refine WQ.q (oq_assign rfl) rfl rfl rfl ?_
 refine WQ.q (oq_assign rfl) rfl rfl rfl ?_
 refine WQ.q (oq_assign rfl) rfl rfl rfl ?_
 refine WQ.nil (WE.then_normal (WC.ret (WE.then_ret (WE.block_ret (WE.block_ret (WE.then_ret (WE.then_ret (WE.block_ret (WE.then_ret ?_)))))))))
 refine WE.endR (.inl rfl) (res3 Tryd.results35 rfl rfl rfl) ?_
 rfl
set_option maxHeartbeats 2000000 in
theorem ch4 (G : Hp) (hT : Tab0 G) : FnR Tryd.prog 35 [S [32, 49, 53, 58, 48, 52, 58, 48, 53, 32, 71, 77, 84]] G (.tuple #[S [32], I 1036, S [58, 48, 52, 58, 48, 53, 32, 71, 77, 84]]) := by
 obtain ⟨t0, f0, hm⟩ := hT
 refine FnR.enter (n := 654) Tryd.func35 rfl rfl fun w0 => ?_
 refine WC.sub (fr' := [(0, _)]) ?_ ⟨rfl, trivial⟩
 refine WC.seq (WC.region ?_)
 refine WL.q (oq_assign rfl) rfl rfl rfl ?_
 refine WL.q (oq_assign rfl) rfl rfl rfl ?_
 refine WL.q (oq_assign rfl) rfl rfl rfl ?_
 refine WL.nil (WE.then_normal (WC.seq (WC.seq (WC.region ?_))))
 refine WL.q (oq_assign rfl) rfl rfl rfl ?_
 refine WL.nil (WE.then_normal (WC.block ?_))
 refine WC.unroll ?_
 refine WC.seq (WC.seq (WC.region ?_))
 refine WL.q (oq_move rfl) rfl rfl rfl ?_
 refine WL.q (oq_move rfl) rfl rfl rfl ?_
 refine WL.q ((oq_len_s Tryd.underlying9 rfl).to (v' := I 13) rfl) rfl rfl rfl ?_
 refine WL.q ((oq_lss rfl rfl).to (v' := .bool true) (congrArg Value.bool (decide_eq_true (by omega)))) rfl rfl rfl ?_
 refine WL.nil (WE.then_normal ?_)
 refine WC.cond_t rfl ?_
 refine WC.skip (WE.then_normal (WC.seq (WC.block (WC.seq (WC.region ?_)))))
 refine WL.q (oq_move rfl) rfl rfl rfl ?_
 refine WL.q (oq_move rfl) rfl rfl rfl ?_
 refine WL.q ((oq_index_s Tryd.underlying9 rfl rfl (by decide)).to (v' := .int .u8 32) rfl) rfl rfl rfl ?_
 refine WL.q (oq_conv Tryd.underlying5 Tryd.underlying3 rfl (by rw [i64_lo, i64_hi]; omega)) rfl rfl rfl ?_
 refine WL.q (oq_assign rfl) rfl rfl rfl ?_
 refine WL.nil (WE.then_normal (WC.seq (WC.region ?_)))
 refine WL.q (oq_move rfl) rfl rfl rfl ?_
 refine WL.nil (WE.then_normal (WC.block (WC.seq (WC.region ?_))))
 refine WL.q ((oq_eql rfl rfl).to (v' := .bool false) (congrArg Value.bool (decide_eq_false (by omega)))) rfl rfl rfl ?_
 refine WL.q (oq_assign rfl) rfl rfl rfl ?_
 refine WL.nil (WE.then_normal ?_)
 refine WC.cond_f rfl ?_
 refine WC.seq (WC.region ?_)
 refine WL.q ((oq_eql rfl rfl).to (v' := .bool false) (congrArg Value.bool (decide_eq_false (by omega)))) rfl rfl rfl ?_
 refine WL.q (oq_assign rfl) rfl rfl rfl ?_
 refine WL.nil (WE.then_normal ?_)
 refine WC.cond_f rfl ?_
 refine WC.seq (WC.region ?_)
 refine WL.q ((oq_eql rfl rfl).to (v' := .bool false) (congrArg Value.bool (decide_eq_false (by omega)))) rfl rfl rfl ?_
 refine WL.q (oq_assign rfl) rfl rfl rfl ?_
 refine WL.nil (WE.then_normal ?_)
 refine WC.cond_f rfl ?_
 refine WC.seq (WC.region ?_)
 refine WL.q ((oq_eql rfl rfl).to (v' := .bool false) (congrArg Value.bool (decide_eq_false (by omega)))) rfl rfl rfl ?_
 refine WL.q (oq_assign rfl) rfl rfl rfl ?_
 refine WL.nil (WE.then_normal ?_)
 refine WC.cond_f rfl ?_
 refine WC.seq (WC.region ?_)
 refine WL.q ((oq_eql rfl rfl).to (v' := .bool false) (congrArg Value.bool (decide_eq_false (by omega)))) rfl rfl rfl ?_
 refine WL.q (oq_assign rfl) rfl rfl rfl ?_
 refine WL.nil (WE.then_normal ?_)
 refine WC.cond_f rfl ?_
 refine WC.seq (WC.region ?_)
 refine WL.q ((oq_eql rfl rfl).to (v' := .bool false) (congrArg Value.bool (decide_eq_false (by omega)))) rfl rfl rfl ?_
 refine WL.q (oq_assign rfl) rfl rfl rfl ?_
 refine WL.nil (WE.then_normal ?_)
 refine WC.cond_f rfl ?_
 refine WC.seq (WC.region ?_)
 refine WL.q ((oq_eql rfl rfl).to (v' := .bool false) (congrArg Value.bool (decide_eq_false (by omega)))) rfl rfl rfl ?_
 refine WL.q (oq_assign rfl) rfl rfl rfl ?_
 refine WL.nil (WE.then_normal ?_)
 refine WC.cond_f rfl ?_
 refine WC.seq (WC.region ?_)
 refine WL.q ((oq_eql rfl rfl).to (v' := .bool false) (congrArg Value.bool (decide_eq_false (by omega)))) rfl rfl rfl ?_
 refine WL.q (oq_assign rfl) rfl rfl rfl ?_
 refine WL.nil (WE.then_normal ?_)
 refine WC.cond_f rfl ?_
 refine WC.seq (WC.region ?_)
 refine WL.q ((oq_eql rfl rfl).to (v' := .bool false) (congrArg Value.bool (decide_eq_false (by omega)))) rfl rfl rfl ?_
 refine WL.q (oq_assign rfl) rfl rfl rfl ?_
 refine WL.nil (WE.then_normal ?_)
 refine WC.cond_f rfl ?_
 refine WC.seq (WC.region ?_)
 refine WL.q ((oq_eql rfl rfl).to (v' := .bool false) (congrArg Value.bool (decide_eq_false (by omega)))) rfl rfl rfl ?_
 refine WL.q (oq_assign rfl) rfl rfl rfl ?_
 refine WL.nil (WE.then_normal ?_)
 refine WC.cond_f rfl ?_
 refine WC.seq (WC.region ?_)
 refine WL.q ((oq_eql rfl rfl).to (v' := .bool false) (congrArg Value.bool (decide_eq_false (by omega)))) rfl rfl rfl ?_
 refine WL.q (oq_assign rfl) rfl rfl rfl ?_
 refine WL.nil (WE.then_normal ?_)
 refine WC.cond_f rfl ?_
 refine WC.seq (WC.region ?_)
 refine WL.q ((oq_eql rfl rfl).to (v' := .bool false) (congrArg Value.bool (decide_eq_false (by omega)))) rfl rfl rfl ?_
 refine WL.q (oq_assign rfl) rfl rfl rfl ?_
 refine WL.nil (WE.then_normal ?_)
 refine WC.cond_f rfl ?_
 refine WC.seq (WC.region ?_)
 refine WL.q ((oq_eql rfl rfl).to (v' := .bool false) (congrArg Value.bool (decide_eq_false (by omega)))) rfl rfl rfl ?_
 refine WL.q (oq_assign rfl) rfl rfl rfl ?_
 refine WL.nil (WE.then_normal ?_)
 refine WC.cond_f rfl ?_
 refine WC.seq (WC.seq (WC.region ?_))
 refine WL.q ((oq_eql rfl rfl).to (v' := .bool false) (congrArg Value.bool (decide_eq_false (by omega)))) rfl rfl rfl ?_
 refine WL.q (oq_assign rfl) rfl rfl rfl ?_
 refine WL.nil (WE.then_normal ?_)
 refine WC.cond_f rfl ?_
 refine WC.region ?_
 refine WL.q ((oq_eql rfl rfl).to (v' := .bool false) (congrArg Value.bool (decide_eq_false (by omega)))) rfl rfl rfl ?_
 refine WL.q (oq_assign rfl) rfl rfl rfl ?_
 refine WL.nil (WE.then_normal ?_)
 refine WC.cond_f rfl ?_
 refine WC.skip (WE.block_normal (WE.block_normal (WE.then_normal (WC.region ?_))))
 refine WL.q (oq_move rfl) rfl rfl rfl ?_
 refine WL.q ((oq_add rfl rfl (by rw [i64_lo, i64_hi]; omega)).to (v' := I 1) rfl) rfl rfl rfl ?_
 refine WL.q (oq_assign rfl) rfl rfl rfl ?_
 refine WL.nil ?_
 refine WE.round ?_
 refine WC.sub (fr' := [(0, _), (5, _)]) ?_ ⟨rfl, rfl, trivial⟩
 refine WC.seq (WC.seq (WC.region ?_))
 refine WL.q (oq_move rfl) rfl rfl rfl ?_
 refine WL.q (oq_move rfl) rfl rfl rfl ?_
 refine WL.q ((oq_len_s Tryd.underlying9 rfl).to (v' := I 13) rfl) rfl rfl rfl ?_
 refine WL.q ((oq_lss rfl rfl).to (v' := .bool true) (congrArg Value.bool (decide_eq_true (by omega)))) rfl rfl rfl ?_
 refine WL.nil (WE.then_normal ?_)
 refine WC.cond_t rfl ?_
 refine WC.skip (WE.then_normal (WC.seq (WC.block (WC.seq (WC.region ?_)))))
 refine WL.q (oq_move rfl) rfl rfl rfl ?_
 refine WL.q (oq_move rfl) rfl rfl rfl ?_
 refine WL.q ((oq_index_s Tryd.underlying9 rfl rfl (by decide)).to (v' := .int .u8 49) rfl) rfl rfl rfl ?_
 refine WL.q (oq_conv Tryd.underlying5 Tryd.underlying3 rfl (by rw [i64_lo, i64_hi]; omega)) rfl rfl rfl ?_
 refine WL.q (oq_assign rfl) rfl rfl rfl ?_
 refine WL.nil (WE.then_normal (WC.seq (WC.region ?_)))
 refine WL.q (oq_move rfl) rfl rfl rfl ?_
 refine WL.nil (WE.then_normal (WC.block (WC.seq (WC.region ?_))))
 refine WL.q ((oq_eql rfl rfl).to (v' := .bool false) (congrArg Value.bool (decide_eq_false (by omega)))) rfl rfl rfl ?_
 refine WL.q (oq_assign rfl) rfl rfl rfl ?_
 refine WL.nil (WE.then_normal ?_)
 refine WC.cond_f rfl ?_
 refine WC.seq (WC.region ?_)
 refine WL.q ((oq_eql rfl rfl).to (v' := .bool false) (congrArg Value.bool (decide_eq_false (by omega)))) rfl rfl rfl ?_
 refine WL.q (oq_assign rfl) rfl rfl rfl ?_
 refine WL.nil (WE.then_normal (WC.sub (fr' := [(0, _), (5, _), (6, _), (21, _), (70, _)]) ?_ ⟨rfl, rfl, rfl, rfl, rfl, trivial⟩))
 refine WC.cond_f rfl ?_
 refine WC.seq (WC.region ?_)
 refine WL.q ((oq_eql rfl rfl).to (v' := .bool false) (congrArg Value.bool (decide_eq_false (by omega)))) rfl rfl rfl ?_
 refine WL.q (oq_assign rfl) rfl rfl rfl ?_
 refine WL.nil (WE.then_normal ?_)
 refine WC.cond_f rfl ?_
 refine WC.seq (WC.region ?_)
 refine WL.q ((oq_eql rfl rfl).to (v' := .bool true) (congrArg Value.bool (decide_eq_true (by omega)))) rfl rfl rfl ?_
 refine WL.q (oq_assign rfl) rfl rfl rfl ?_
 refine WL.nil (WE.then_normal ?_)
 refine WC.cond_t rfl ?_
 refine WC.seq (WC.seq (WC.region ?_))
 refine WL.q (oq_move rfl) rfl rfl rfl ?_
 refine WL.q ((oq_len_s Tryd.underlying9 rfl).to (v' := I 13) rfl) rfl rfl rfl ?_
 refine WL.q (oq_move rfl) rfl rfl rfl ?_
 refine WL.q ((oq_add rfl rfl (by rw [i64_lo, i64_hi]; omega)).to (v' := I 3) rfl) rfl rfl rfl ?_
 refine WL.q ((oq_geq rfl rfl).to (v' := .bool true) (congrArg Value.bool (decide_eq_true (by omega)))) rfl rfl rfl ?_
 refine WL.q (oq_move rfl) rfl rfl rfl ?_
 refine WL.q (oq_move rfl) rfl rfl rfl ?_
 refine WL.q (oq_move rfl) rfl rfl rfl ?_
 refine WL.q ((oq_add rfl rfl (by rw [i64_lo, i64_hi]; omega)).to (v' := I 2) rfl) rfl rfl rfl ?_
 refine WL.q ((oq_index_s Tryd.underlying9 rfl rfl (by decide)).to (v' := .int .u8 53) rfl) rfl rfl rfl ?_
 refine WL.q ((oq_eql rfl rfl).to (v' := .bool true) (congrArg Value.bool (decide_eq_true (by omega)))) rfl rfl rfl ?_
 refine WL.q (oq_pick_t rfl rfl) rfl rfl rfl ?_
 refine WL.nil (WE.then_normal ?_)
 refine WC.cond_t rfl ?_
 refine WC.seq (WC.quiet (by kernel_rfl) (by kernel_rfl) ?_)
 refine WQ.q (oq_move rfl) rfl rfl rfl ?_
 refine WQ.q (oq_move rfl) rfl rfl rfl ?_
 refine WQ.q ((oq_slice_s2 Tryd.underlying9 rfl rfl rfl (by decide)).to (v' := S [32]) rfl) rfl rfl rfl ?_
 refine WQ.q (oq_move rfl) rfl rfl rfl ?_
 refine WQ.q (oq_move rfl) rfl rfl rfl ?_
 refine WQ.q ((oq_add rfl rfl (by rw [i64_lo, i64_hi]; omega)).to (v' := I 3) rfl) rfl rfl rfl ?_
 refine WQ.q ((oq_slice_s1 Tryd.underlying9 rfl rfl (by decide)).to (v' := S [58, 48, 52, 58, 48, 53, 32, 71, 77, 84]) rfl) rfl rfl rfl ?_
 refine WQ.q (oq_assign rfl) rfl rfl rfl ?_
 refine WQ.q (oq_assign rfl) rfl rfl rfl ?_
 refine WQ.q (oq_assign rfl) rfl rfl rfl ?_
 refine WQ.nil (WE.then_normal (WC.ret (WE.then_ret (WE.block_ret (WE.block_ret (WE.then_ret (WE.then_ret (WE.block_ret (WE.then_ret ?_)))))))))
 refine WE.endR (.inl rfl) (res3 Tryd.results35 rfl rfl rfl) ?_
 rfl
set_option maxHeartbeats 2000000 in
theorem ch8 (G : Hp) (hT : Tab0 G) : FnR Tryd.prog 35 [S [77, 111, 110, 100, 97, 121, 44, 32, 48, 50, 45, 74, 97, 110, 45, 48, 54, 32, 49, 53, 58, 48, 52, 58, 48, 53, 32, 77, 83, 84]] G (.tuple #[S [], I 261, S [44, 32, 48, 50, 45, 74, 97, 110, 45, 48, 54, 32, 49, 53, 58, 48, 52, 58, 48, 53, 32, 77, 83, 84]]) := by
 obtain ⟨t0, f0, hm⟩ := hT
 refine FnR.enter (n := 654) Tryd.func35 rfl rfl fun w0 => ?_
 refine WC.sub (fr' := [(0, _)]) ?_ ⟨rfl, trivial⟩
 refine WC.seq (WC.region ?_)
 refine WL.q (oq_assign rfl) rfl rfl rfl ?_
 refine WL.q (oq_assign rfl) rfl rfl rfl ?_
 refine WL.q (oq_assign rfl) rfl rfl rfl ?_
 refine WL.nil (WE.then_normal (WC.seq (WC.seq (WC.region ?_))))
 refine WL.q (oq_assign rfl) rfl rfl rfl ?_
 refine WL.nil (WE.then_normal (WC.block ?_))
 refine WC.unroll ?_
 refine WC.seq (WC.seq (WC.region ?_))
 refine WL.q (oq_move rfl) rfl rfl rfl ?_
 refine WL.q (oq_move rfl) rfl rfl rfl ?_
 refine WL.q ((oq_len_s Tryd.underlying9 rfl).to (v' := I 30) rfl) rfl rfl rfl ?_
 refine WL.q ((oq_lss rfl rfl).to (v' := .bool true) (congrArg Value.bool (decide_eq_true (by omega)))) rfl rfl rfl ?_
 refine WL.nil (WE.then_normal ?_)
 refine WC.cond_t rfl ?_
 refine WC.skip (WE.then_normal (WC.seq (WC.block (WC.seq (WC.region ?_)))))
 refine WL.q (oq_move rfl) rfl rfl rfl ?_
 refine WL.q (oq_move rfl) rfl rfl rfl ?_
 refine WL.q ((oq_index_s Tryd.underlying9 rfl rfl (by decide)).to (v' := .int .u8 77) rfl) rfl rfl rfl ?_
 refine WL.q (oq_conv Tryd.underlying5 Tryd.underlying3 rfl (by rw [i64_lo, i64_hi]; omega)) rfl rfl rfl ?_
 refine WL.q (oq_assign rfl) rfl rfl rfl ?_
 refine WL.nil (WE.then_normal (WC.seq (WC.region ?_)))
 refine WL.q (oq_move rfl) rfl rfl rfl ?_
 refine WL.nil (WE.then_normal (WC.block (WC.seq (WC.region ?_))))
 refine WL.q ((oq_eql rfl rfl).to (v' := .bool false) (congrArg Value.bool (decide_eq_false (by omega)))) rfl rfl rfl ?_
 refine WL.q (oq_assign rfl) rfl rfl rfl ?_
 refine WL.nil (WE.then_normal ?_)
 refine WC.cond_f rfl ?_
 refine WC.seq (WC.region ?_)
 refine WL.q ((oq_eql rfl rfl).to (v' := .bool true) (congrArg Value.bool (decide_eq_true (by omega)))) rfl rfl rfl ?_
 refine WL.q (oq_assign rfl) rfl rfl rfl ?_
 refine WL.nil (WE.then_normal ?_)
 refine WC.cond_t rfl ?_
 refine WC.seq (WC.region ?_)
 refine WL.q (oq_move rfl) rfl rfl rfl ?_
 refine WL.q ((oq_len_s Tryd.underlying9 rfl).to (v' := I 30) rfl) rfl rfl rfl ?_
 refine WL.q (oq_move rfl) rfl rfl rfl ?_
 refine WL.q ((oq_add rfl rfl (by rw [i64_lo, i64_hi]; omega)).to (v' := I 3) rfl) rfl rfl rfl ?_
 refine WL.q ((oq_geq rfl rfl).to (v' := .bool true) (congrArg Value.bool (decide_eq_true (by omega)))) rfl rfl rfl ?_
 refine WL.nil (WE.then_normal ?_)
 refine WC.cond_t rfl ?_
 refine WC.seq (WC.seq (WC.region ?_))
 refine WL.q (oq_move rfl) rfl rfl rfl ?_
 refine WL.q (oq_move rfl) rfl rfl rfl ?_
 refine WL.q (oq_move rfl) rfl rfl rfl ?_
 refine WL.q ((oq_add rfl rfl (by rw [i64_lo, i64_hi]; omega)).to (v' := I 3) rfl) rfl rfl rfl ?_
 refine WL.q ((oq_slice_s2 Tryd.underlying9 rfl rfl rfl (by decide)).to (v' := S [77, 111, 110]) rfl) rfl rfl rfl ?_
 refine WL.q ((oq_seql rfl rfl).to (v' := .bool true) (by kernel_rfl)) rfl rfl rfl ?_
 refine WL.nil (WE.then_normal ?_)
 refine WC.cond_t rfl ?_
 refine WC.seq (WC.seq (WC.region ?_))
 refine WL.q (oq_move rfl) rfl rfl rfl ?_
 refine WL.q ((oq_len_s Tryd.underlying9 rfl).to (v' := I 30) rfl) rfl rfl rfl ?_
 refine WL.q (oq_move rfl) rfl rfl rfl ?_
 refine WL.q ((oq_add rfl rfl (by rw [i64_lo, i64_hi]; omega)).to (v' := I 6) rfl) rfl rfl rfl ?_
 refine WL.q ((oq_geq rfl rfl).to (v' := .bool true) (congrArg Value.bool (decide_eq_true (by omega)))) rfl rfl rfl ?_
 refine WL.q (oq_move rfl) rfl rfl rfl ?_
 refine WL.q (oq_move rfl) rfl rfl rfl ?_
 refine WL.q (oq_move rfl) rfl rfl rfl ?_
 refine WL.q (oq_move rfl) rfl rfl rfl ?_
 refine WL.q ((oq_add rfl rfl (by rw [i64_lo, i64_hi]; omega)).to (v' := I 6) rfl) rfl rfl rfl ?_
 refine WL.q ((oq_slice_s2 Tryd.underlying9 rfl rfl rfl (by decide)).to (v' := S [77, 111, 110, 100, 97, 121]) rfl) rfl rfl rfl ?_
 refine WL.q ((oq_seql rfl rfl).to (v' := .bool true) (by kernel_rfl)) rfl rfl rfl ?_
 refine WL.q (oq_pick_t rfl rfl) rfl rfl rfl ?_
 refine WL.nil (WE.then_normal ?_)
 refine WC.cond_t rfl ?_
 refine WC.seq (WC.quiet (by kernel_rfl) (by kernel_rfl) ?_)
 refine WQ.q (oq_move rfl) rfl rfl rfl ?_
 refine WQ.q (oq_move rfl) rfl rfl rfl ?_
 refine WQ.q ((oq_slice_s2 Tryd.underlying9 rfl rfl rfl (by decide)).to (v' := S []) rfl) rfl rfl rfl ?_
 refine WQ.q (oq_move rfl) rfl rfl rfl ?_
 refine WQ.q (oq_move rfl) rfl rfl rfl ?_
 refine WQ.q ((oq_add rfl rfl (by rw [i64_lo, i64_hi]; omega)).to (v' := I 6) rfl) rfl rfl rfl ?_
 refine WQ.q ((oq_slice_s1 Tryd.underlying9 rfl rfl (by decide)).to (v' := S [44, 32, 48, 50, 45, 74, 97, 110, 45, 48, 54, 32, 49, 53, 58, 48, 52, 58, 48, 53, 32, 77, 83, 84]) rfl) rfl rfl rfl ?_
 refine WQ.q (oq_assign rfl) rfl rfl rfl ?_
 refine WQ.q (oq_assign rfl) rfl rfl rfl ?_
 refine WQ.q (oq_assign rfl) rfl rfl rfl ?_
 refine WQ.nil (WE.then_normal (WC.ret (WE.then_ret (WE.then_ret (WE.block_ret (WE.block_ret (WE.then_ret (WE.then_ret (WE.block_ret (WE.then_ret ?_))))))))))
 refine WE.endR (.inl rfl) (res3 Tryd.results35 rfl rfl rfl) ?_
 rfl
set_option maxHeartbeats 2000000 in
theorem ch12 (G : Hp) (hT : Tab0 G) : FnR Tryd.prog 35 [S [32, 49, 53, 58, 48, 52, 58, 48, 53, 32, 77, 83, 84]] G (.tuple #[S [32], I 1036, S [58, 48, 52, 58, 48, 53, 32, 77, 83, 84]]) := by
 obtain ⟨t0, f0, hm⟩ := hT
 refine FnR.enter (n := 654) Tryd.func35 rfl rfl fun w0 => ?_
 refine WC.sub (fr' := [(0, _)]) ?_ ⟨rfl, trivial⟩
 refine WC.seq (WC.region ?_)
 refine WL.q (oq_assign rfl) rfl rfl rfl ?_
 refine WL.q (oq_assign rfl) rfl rfl rfl ?_
 refine WL.q (oq_assign rfl) rfl rfl rfl ?_
 refine WL.nil (WE.then_normal (WC.seq (WC.seq (WC.region ?_))))
 refine WL.q (oq_assign rfl) rfl rfl rfl ?_
 refine WL.nil (WE.then_normal (WC.block ?_))
 refine WC.unroll ?_
 refine WC.seq (WC.seq (WC.region ?_))
 refine WL.q (oq_move rfl) rfl rfl rfl ?_
 refine WL.q (oq_move rfl) rfl rfl rfl ?_
 refine WL.q ((oq_len_s Tryd.underlying9 rfl).to (v' := I 13) rfl) rfl rfl rfl ?_
 refine WL.q ((oq_lss rfl rfl).to (v' := .bool true) (congrArg Value.bool (decide_eq_true (by omega)))) rfl rfl rfl ?_
 refine WL.nil (WE.then_normal ?_)
 refine WC.cond_t rfl ?_
 refine WC.skip (WE.then_normal (WC.seq (WC.block (WC.seq (WC.region ?_)))))
 refine WL.q (oq_move rfl) rfl rfl rfl ?_
 refine WL.q (oq_move rfl) rfl rfl rfl ?_
 refine WL.q ((oq_index_s Tryd.underlying9 rfl rfl (by decide)).to (v' := .int .u8 32) rfl) rfl rfl rfl ?_
 refine WL.q (oq_conv Tryd.underlying5 Tryd.underlying3 rfl (by rw [i64_lo, i64_hi]; omega)) rfl rfl rfl ?_
 refine WL.q (oq_assign rfl) rfl rfl rfl ?_
 refine WL.nil (WE.then_normal (WC.seq (WC.region ?_)))
 refine WL.q (oq_move rfl) rfl rfl rfl ?_
 refine WL.nil (WE.then_normal (WC.block (WC.seq (WC.region ?_))))
 refine WL.q ((oq_eql rfl rfl).to (v' := .bool false) (congrArg Value.bool (decide_eq_false (by omega)))) rfl rfl rfl ?_
 refine WL.q (oq_assign rfl) rfl rfl rfl ?_
 refine WL.nil (WE.then_normal ?_)
 refine WC.cond_f rfl ?_
 refine WC.seq (WC.region ?_)
 refine WL.q ((oq_eql rfl rfl).to (v' := .bool false) (congrArg Value.bool (decide_eq_false (by omega)))) rfl rfl rfl ?_
 refine WL.q (oq_assign rfl) rfl rfl rfl ?_
 refine WL.nil (WE.then_normal ?_)
 refine WC.cond_f rfl ?_
 refine WC.seq (WC.region ?_)
 refine WL.q ((oq_eql rfl rfl).to (v' := .bool false) (congrArg Value.bool (decide_eq_false (by omega)))) rfl rfl rfl ?_
 refine WL.q (oq_assign rfl) rfl rfl rfl ?_
 refine WL.nil (WE.then_normal ?_)
 refine WC.cond_f rfl ?_
 refine WC.seq (WC.region ?_)
 refine WL.q ((oq_eql rfl rfl).to (v' := .bool false) (congrArg Value.bool (decide_eq_false (by omega)))) rfl rfl rfl ?_
 refine WL.q (oq_assign rfl) rfl rfl rfl ?_
 refine WL.nil (WE.then_normal ?_)
 refine WC.cond_f rfl ?_
 refine WC.seq (WC.region ?_)
 refine WL.q ((oq_eql rfl rfl).to (v' := .bool false) (congrArg Value.bool (decide_eq_false (by omega)))) rfl rfl rfl ?_
 refine WL.q (oq_assign rfl) rfl rfl rfl ?_
 refine WL.nil (WE.then_normal ?_)
 refine WC.cond_f rfl ?_
 refine WC.seq (WC.region ?_)
 refine WL.q ((oq_eql rfl rfl).to (v' := .bool false) (congrArg Value.bool (decide_eq_false (by omega)))) rfl rfl rfl ?_
 refine WL.q (oq_assign rfl) rfl rfl rfl ?_
 refine WL.nil (WE.then_normal ?_)
 refine WC.cond_f rfl ?_
 refine WC.seq (WC.region ?_)
 refine WL.q ((oq_eql rfl rfl).to (v' := .bool false) (congrArg Value.bool (decide_eq_false (by omega)))) rfl rfl rfl ?_
 refine WL.q (oq_assign rfl) rfl rfl rfl ?_
 refine WL.nil (WE.then_normal ?_)
 refine WC.cond_f rfl ?_
 refine WC.seq (WC.region ?_)
 refine WL.q ((oq_eql rfl rfl).to (v' := .bool false) (congrArg Value.bool (decide_eq_false (by omega)))) rfl rfl rfl ?_
 refine WL.q (oq_assign rfl) rfl rfl rfl ?_
 refine WL.nil (WE.then_normal ?_)
 refine WC.cond_f rfl ?_
 refine WC.seq (WC.region ?_)
 refine WL.q ((oq_eql rfl rfl).to (v' := .bool false) (congrArg Value.bool (decide_eq_false (by omega)))) rfl rfl rfl ?_
 refine WL.q (oq_assign rfl) rfl rfl rfl ?_
 refine WL.nil (WE.then_normal ?_)
 refine WC.cond_f rfl ?_
 refine WC.seq (WC.region ?_)
 refine WL.q ((oq_eql rfl rfl).to (v' := .bool false) (congrArg Value.bool (decide_eq_false (by omega)))) rfl rfl rfl ?_
 refine WL.q (oq_assign rfl) rfl rfl rfl ?_
 refine WL.nil (WE.then_normal ?_)
 refine WC.cond_f rfl ?_
 refine WC.seq (WC.region ?_)
 refine WL.q ((oq_eql rfl rfl).to (v' := .bool false) (congrArg Value.bool (decide_eq_false (by omega)))) rfl rfl rfl ?_
 refine WL.q (oq_assign rfl) rfl rfl rfl ?_
 refine WL.nil (WE.then_normal ?_)
 refine WC.cond_f rfl ?_
 refine WC.seq (WC.region ?_)
 refine WL.q ((oq_eql rfl rfl).to (v' := .bool false) (congrArg Value.bool (decide_eq_false (by omega)))) rfl rfl rfl ?_
 refine WL.q (oq_assign rfl) rfl rfl rfl ?_
 refine WL.nil (WE.then_normal ?_)
 refine WC.cond_f rfl ?_
 refine WC.seq (WC.region ?_)
 refine WL.q ((oq_eql rfl rfl).to (v' := .bool false) (congrArg Value.bool (decide_eq_false (by omega)))) rfl rfl rfl ?_
 refine WL.q (oq_assign rfl) rfl rfl rfl ?_
 refine WL.nil (WE.then_normal ?_)
 refine WC.cond_f rfl ?_
 refine WC.seq (WC.seq (WC.region ?_))
 refine WL.q ((oq_eql rfl rfl).to (v' := .bool false) (congrArg Value.bool (decide_eq_false (by omega)))) rfl rfl rfl ?_
 refine WL.q (oq_assign rfl) rfl rfl rfl ?_
 refine WL.nil (WE.then_normal ?_)
 refine WC.cond_f rfl ?_
 refine WC.region ?_
 refine WL.q ((oq_eql rfl rfl).to (v' := .bool false) (congrArg Value.bool (decide_eq_false (by omega)))) rfl rfl rfl ?_
 refine WL.q (oq_assign rfl) rfl rfl rfl ?_
 refine WL.nil (WE.then_normal ?_)
 refine WC.cond_f rfl ?_
 refine WC.skip (WE.block_normal (WE.block_normal (WE.then_normal (WC.region ?_))))
 refine WL.q (oq_move rfl) rfl rfl rfl ?_
 refine WL.q ((oq_add rfl rfl (by rw [i64_lo, i64_hi]; omega)).to (v' := I 1) rfl) rfl rfl rfl ?_
 refine WL.q (oq_assign rfl) rfl rfl rfl ?_
 refine WL.nil ?_
 refine WE.round ?_
 refine WC.sub (fr' := [(0, _), (5, _)]) ?_ ⟨rfl, rfl, trivial⟩
 refine WC.seq (WC.seq (WC.region ?_))
 refine WL.q (oq_move rfl) rfl rfl rfl ?_
 refine WL.q (oq_move rfl) rfl rfl rfl ?_
 refine WL.q ((oq_len_s Tryd.underlying9 rfl).to (v' := I 13) rfl) rfl rfl rfl ?_
 refine WL.q ((oq_lss rfl rfl).to (v' := .bool true) (congrArg Value.bool (decide_eq_true (by omega)))) rfl rfl rfl ?_
 refine WL.nil (WE.then_normal ?_)
 refine WC.cond_t rfl ?_
 refine WC.skip (WE.then_normal (WC.seq (WC.block (WC.seq (WC.region ?_)))))
 refine WL.q (oq_move rfl) rfl rfl rfl ?_
 refine WL.q (oq_move rfl) rfl rfl rfl ?_
 refine WL.q ((oq_index_s Tryd.underlying9 rfl rfl (by decide)).to (v' := .int .u8 49) rfl) rfl rfl rfl ?_
 refine WL.q (oq_conv Tryd.underlying5 Tryd.underlying3 rfl (by rw [i64_lo, i64_hi]; omega)) rfl rfl rfl ?_
 refine WL.q (oq_assign rfl) rfl rfl rfl ?_
 refine WL.nil (WE.then_normal (WC.seq (WC.region ?_)))
 refine WL.q (oq_move rfl) rfl rfl rfl ?_
 refine WL.nil (WE.then_normal (WC.block (WC.seq (WC.region ?_))))
 refine WL.q ((oq_eql rfl rfl).to (v' := .bool false) (congrArg Value.bool (decide_eq_false (by omega)))) rfl rfl rfl ?_
 refine WL.q (oq_assign rfl) rfl rfl rfl ?_
 refine WL.nil (WE.then_normal ?_)
 refine WC.cond_f rfl ?_
 refine WC.seq (WC.region ?_)
 refine WL.q ((oq_eql rfl rfl).to (v' := .bool false) (congrArg Value.bool (decide_eq_false (by omega)))) rfl rfl rfl ?_
 refine WL.q (oq_assign rfl) rfl rfl rfl ?_
 refine WL.nil (WE.then_normal (WC.sub (fr' := [(0, _), (5, _), (6, _), (21, _), (70, _)]) ?_ ⟨rfl, rfl, rfl, rfl, rfl, trivial⟩))
 refine WC.cond_f rfl ?_
 refine WC.seq (WC.region ?_)
 refine WL.q ((oq_eql rfl rfl).to (v' := .bool false) (congrArg Value.bool (decide_eq_false (by omega)))) rfl rfl rfl ?_
 refine WL.q (oq_assign rfl) rfl rfl rfl ?_
 refine WL.nil (WE.then_normal ?_)
 refine WC.cond_f rfl ?_
 refine WC.seq (WC.region ?_)
 refine WL.q ((oq_eql rfl rfl).to (v' := .bool true) (congrArg Value.bool (decide_eq_true (by omega)))) rfl rfl rfl ?_
 refine WL.q (oq_assign rfl) rfl rfl rfl ?_
 refine WL.nil (WE.then_normal ?_)
 refine WC.cond_t rfl ?_
 refine WC.seq (WC.seq (WC.region ?_))
 refine WL.q (oq_move rfl) rfl rfl rfl ?_
 refine WL.q ((oq_len_s Tryd.underlying9 rfl).to (v' := I 13) rfl) rfl rfl rfl ?_
 refine WL.q (oq_move rfl) rfl rfl rfl ?_
 refine WL.q ((oq_add rfl rfl (by rw [i64_lo, i64_hi]; omega)).to (v' := I 3) rfl) rfl rfl rfl ?_
 refine WL.q ((oq_geq rfl rfl).to (v' := .bool true) (congrArg Value.bool (decide_eq_true (by omega)))) rfl rfl rfl ?_
 refine WL.q (oq_move rfl) rfl rfl rfl ?_
 refine WL.q (oq_move rfl) rfl rfl rfl ?_
 refine WL.q (oq_move rfl) rfl rfl rfl ?_
 refine WL.q ((oq_add rfl rfl (by rw [i64_lo, i64_hi]; omega)).to (v' := I 2) rfl) rfl rfl rfl ?_
 refine WL.q ((oq_index_s Tryd.underlying9 rfl rfl (by decide)).to (v' := .int .u8 53) rfl) rfl rfl rfl ?_
 refine WL.q ((oq_eql rfl rfl).to (v' := .bool true) (congrArg Value.bool (decide_eq_true (by omega)))) rfl rfl rfl ?_
 refine WL.q (oq_pick_t rfl rfl) rfl rfl rfl ?_
 refine WL.nil (WE.then_normal ?_)
 refine WC.cond_t rfl ?_
 refine WC.seq (WC.quiet (by kernel_rfl) (by kernel_rfl) ?_)
 refine WQ.q (oq_move rfl) rfl rfl rfl ?_
 refine WQ.q (oq_move rfl) rfl rfl rfl ?_
 refine WQ.q ((oq_slice_s2 Tryd.underlying9 rfl rfl rfl (by decide)).to (v' := S [32]) rfl) rfl rfl rfl ?_
 refine WQ.q (oq_move rfl) rfl rfl rfl ?_
 refine WQ.q (oq_move rfl) rfl rfl rfl ?_
 refine WQ.q ((oq_add rfl rfl (by rw [i64_lo, i64_hi]; omega)).to (v' := I 3) rfl) rfl rfl rfl ?_
 refine WQ.q ((oq_slice_s1 Tryd.underlying9 rfl rfl (by decide)).to (v' := S [58, 48, 52, 58, 48, 53, 32, 77, 83, 84]) rfl) rfl rfl rfl ?_
 refine WQ.q (oq_assign rfl) rfl rfl rfl ?_
 refine WQ.q (oq_assign rfl) rfl rfl rfl ?_
 refine WQ.q (oq_assign rfl) rfl rfl rfl ?_
 refine WQ.nil (WE.then_normal (WC.ret (WE.then_ret (WE.block_ret (WE.block_ret (WE.then_ret (WE.then_ret (WE.block_ret (WE.then_ret ?_)))))))))
 refine WE.endR (.inl rfl) (res3 Tryd.results35 rfl rfl rfl) ?_
 rfl
set_option maxHeartbeats 2000000 in
theorem ch16 (G : Hp) (hT : Tab0 G) : FnR Tryd.prog 35 [S []] G (.tuple #[S [], I 0, S []]) := by
 obtain ⟨t0, f0, hm⟩ := hT
 refine FnR.enter (n := 654) Tryd.func35 rfl rfl fun w0 => ?_
 refine WC.sub (fr' := [(0, _)]) ?_ ⟨rfl, trivial⟩
 refine WC.seq (WC.region ?_)
 refine WL.q (oq_assign rfl) rfl rfl rfl ?_
 refine WL.q (oq_assign rfl) rfl rfl rfl ?_
 refine WL.q (oq_assign rfl) rfl rfl rfl ?_
 refine WL.nil (WE.then_normal (WC.seq (WC.seq (WC.region ?_))))
 refine WL.q (oq_assign rfl) rfl rfl rfl ?_
 refine WL.nil (WE.then_normal (WC.block ?_))
 refine WC.unroll ?_
 refine WC.seq (WC.seq (WC.region ?_))
 refine WL.q (oq_move rfl) rfl rfl rfl ?_
 refine WL.q (oq_move rfl) rfl rfl rfl ?_
 refine WL.q ((oq_len_s Tryd.underlying9 rfl).to (v' := I 0) rfl) rfl rfl rfl ?_
 refine WL.q ((oq_lss rfl rfl).to (v' := .bool false) (congrArg Value.bool (decide_eq_false (by omega)))) rfl rfl rfl ?_
 refine WL.nil (WE.then_normal ?_)
 refine WC.cond_f rfl ?_
 refine WC.exit (WE.then_exit (WE.then_exit (WE.block_same (WE.then_normal (WC.seq (WC.region ?_))))))
 refine WL.q (oq_move rfl) rfl rfl rfl ?_
 refine WL.q (oq_assign rfl) rfl rfl rfl ?_
 refine WL.q (oq_assign rfl) rfl rfl rfl ?_
 refine WL.q (oq_assign rfl) rfl rfl rfl ?_
 refine WL.nil (WE.then_normal (WC.ret ?_))
 refine WE.endR (.inl rfl) (res3 Tryd.results35 rfl rfl rfl) ?_
 rfl
set_option maxHeartbeats 2000000 in
theorem ch20 (G : Hp) (hT : Tab0 G) : FnR Tryd.prog 35 [S [32, 49, 53, 58, 48, 52, 58, 48, 53, 32, 50, 48, 48, 54]] G (.tuple #[S [32], I 1036, S [58, 48, 52, 58, 48, 53, 32, 50, 48, 48, 54]]) := by
 obtain ⟨t0, f0, hm⟩ := hT
 refine FnR.enter (n := 654) Tryd.func35 rfl rfl fun w0 => ?_
 refine WC.sub (fr' := [(0, _)]) ?_ ⟨rfl, trivial⟩
 refine WC.seq (WC.region ?_)
 refine WL.q (oq_assign rfl) rfl rfl rfl ?_
 refine WL.q (oq_assign rfl) rfl rfl rfl ?_
 refine WL.q (oq_assign rfl) rfl rfl rfl ?_
 refine WL.nil (WE.then_normal (WC.seq (WC.seq (WC.region ?_))))
 refine WL.q (oq_assign rfl) rfl rfl rfl ?_
 refine WL.nil (WE.then_normal (WC.block ?_))
 refine WC.unroll ?_
 refine WC.seq (WC.seq (WC.region ?_))
 refine WL.q (oq_move rfl) rfl rfl rfl ?_
 refine WL.q (oq_move rfl) rfl rfl rfl ?_
 refine WL.q ((oq_len_s Tryd.underlying9 rfl).to (v' := I 14) rfl) rfl rfl rfl ?_
 refine WL.q ((oq_lss rfl rfl).to (v' := .bool true) (congrArg Value.bool (decide_eq_true (by omega)))) rfl rfl rfl ?_
 refine WL.nil (WE.then_normal ?_)
 refine WC.cond_t rfl ?_
 refine WC.skip (WE.then_normal (WC.seq (WC.block (WC.seq (WC.region ?_)))))
 refine WL.q (oq_move rfl) rfl rfl rfl ?_
 refine WL.q (oq_move rfl) rfl rfl rfl ?_
 refine WL.q ((oq_index_s Tryd.underlying9 rfl rfl (by decide)).to (v' := .int .u8 32) rfl) rfl rfl rfl ?_
 refine WL.q (oq_conv Tryd.underlying5 Tryd.underlying3 rfl (by rw [i64_lo, i64_hi]; omega)) rfl rfl rfl ?_
 refine WL.q (oq_assign rfl) rfl rfl rfl ?_
 refine WL.nil (WE.then_normal (WC.seq (WC.region ?_)))
 refine WL.q (oq_move rfl) rfl rfl rfl ?_
 refine WL.nil (WE.then_normal (WC.block (WC.seq (WC.region ?_))))
 refine WL.q ((oq_eql rfl rfl).to (v' := .bool false) (congrArg Value.bool (decide_eq_false (by omega)))) rfl rfl rfl ?_
 refine WL.q (oq_assign rfl) rfl rfl rfl ?_
 refine WL.nil (WE.then_normal ?_)
 refine WC.cond_f rfl ?_
 refine WC.seq (WC.region ?_)
 refine WL.q ((oq_eql rfl rfl).to (v' := .bool false) (congrArg Value.bool (decide_eq_false (by omega)))) rfl rfl rfl ?_
 refine WL.q (oq_assign rfl) rfl rfl rfl ?_
 refine WL.nil (WE.then_normal ?_)
 refine WC.cond_f rfl ?_
 refine WC.seq (WC.region ?_)
 refine WL.q ((oq_eql rfl rfl).to (v' := .bool false) (congrArg Value.bool (decide_eq_false (by omega)))) rfl rfl rfl ?_
 refine WL.q (oq_assign rfl) rfl rfl rfl ?_
 refine WL.nil (WE.then_normal ?_)
 refine WC.cond_f rfl ?_
 refine WC.seq (WC.region ?_)
 refine WL.q ((oq_eql rfl rfl).to (v' := .bool false) (congrArg Value.bool (decide_eq_false (by omega)))) rfl rfl rfl ?_
 refine WL.q (oq_assign rfl) rfl rfl rfl ?_
 refine WL.nil (WE.then_normal ?_)
 refine WC.cond_f rfl ?_
 refine WC.seq (WC.region ?_)
 refine WL.q ((oq_eql rfl rfl).to (v' := .bool false) (congrArg Value.bool (decide_eq_false (by omega)))) rfl rfl rfl ?_
 refine WL.q (oq_assign rfl) rfl rfl rfl ?_
 refine WL.nil (WE.then_normal ?_)
 refine WC.cond_f rfl ?_
 refine WC.seq (WC.region ?_)
 refine WL.q ((oq_eql rfl rfl).to (v' := .bool false) (congrArg Value.bool (decide_eq_false (by omega)))) rfl rfl rfl ?_
 refine WL.q (oq_assign rfl) rfl rfl rfl ?_
 refine WL.nil (WE.then_normal ?_)
 refine WC.cond_f rfl ?_
 refine WC.seq (WC.region ?_)
 refine WL.q ((oq_eql rfl rfl).to (v' := .bool false) (congrArg Value.bool (decide_eq_false (by omega)))) rfl rfl rfl ?_
 refine WL.q (oq_assign rfl) rfl rfl rfl ?_
 refine WL.nil (WE.then_normal ?_)
 refine WC.cond_f rfl ?_
 refine WC.seq (WC.region ?_)
 refine WL.q ((oq_eql rfl rfl).to (v' := .bool false) (congrArg Value.bool (decide_eq_false (by omega)))) rfl rfl rfl ?_
 refine WL.q (oq_assign rfl) rfl rfl rfl ?_
 refine WL.nil (WE.then_normal ?_)
 refine WC.cond_f rfl ?_
 refine WC.seq (WC.region ?_)
 refine WL.q ((oq_eql rfl rfl).to (v' := .bool false) (congrArg Value.bool (decide_eq_false (by omega)))) rfl rfl rfl ?_
 refine WL.q (oq_assign rfl) rfl rfl rfl ?_
 refine WL.nil (WE.then_normal ?_)
 refine WC.cond_f rfl ?_
 refine WC.seq (WC.region ?_)
 refine WL.q ((oq_eql rfl rfl).to (v' := .bool false) (congrArg Value.bool (decide_eq_false (by omega)))) rfl rfl rfl ?_
 refine WL.q (oq_assign rfl) rfl rfl rfl ?_
 refine WL.nil (WE.then_normal ?_)
 refine WC.cond_f rfl ?_
 refine WC.seq (WC.region ?_)
 refine WL.q ((oq_eql rfl rfl).to (v' := .bool false) (congrArg Value.bool (decide_eq_false (by omega)))) rfl rfl rfl ?_
 refine WL.q (oq_assign rfl) rfl rfl rfl ?_
 refine WL.nil (WE.then_normal ?_)
 refine WC.cond_f rfl ?_
 refine WC.seq (WC.region ?_)
 refine WL.q ((oq_eql rfl rfl).to (v' := .bool false) (congrArg Value.bool (decide_eq_false (by omega)))) rfl rfl rfl ?_
 refine WL.q (oq_assign rfl) rfl rfl rfl ?_
 refine WL.nil (WE.then_normal ?_)
 refine WC.cond_f rfl ?_
 refine WC.seq (WC.region ?_)
 refine WL.q ((oq_eql rfl rfl).to (v' := .bool false) (congrArg Value.bool (decide_eq_false (by omega)))) rfl rfl rfl ?_
 refine WL.q (oq_assign rfl) rfl rfl rfl ?_
 refine WL.nil (WE.then_normal ?_)
 refine WC.cond_f rfl ?_
 refine WC.seq (WC.seq (WC.region ?_))
 refine WL.q ((oq_eql rfl rfl).to (v' := .bool false) (congrArg Value.bool (decide_eq_false (by omega)))) rfl rfl rfl ?_
 refine WL.q (oq_assign rfl) rfl rfl rfl ?_
 refine WL.nil (WE.then_normal ?_)
 refine WC.cond_f rfl ?_
 refine WC.region ?_
 refine WL.q ((oq_eql rfl rfl).to (v' := .bool false) (congrArg Value.bool (decide_eq_false (by omega)))) rfl rfl rfl ?_
 refine WL.q (oq_assign rfl) rfl rfl rfl ?_
 refine WL.nil (WE.then_normal ?_)
 refine WC.cond_f rfl ?_
 refine WC.skip (WE.block_normal (WE.block_normal (WE.then_normal (WC.region ?_))))
 refine WL.q (oq_move rfl) rfl rfl rfl ?_
 refine WL.q ((oq_add rfl rfl (by rw [i64_lo, i64_hi]; omega)).to (v' := I 1) rfl) rfl rfl rfl ?_
 refine WL.q (oq_assign rfl) rfl rfl rfl ?_
 refine WL.nil ?_
 refine WE.round ?_
 refine WC.sub (fr' := [(0, _), (5, _)]) ?_ ⟨rfl, rfl, trivial⟩
 refine WC.seq (WC.seq (WC.region ?_))
 refine WL.q (oq_move rfl) rfl rfl rfl ?_
 refine WL.q (oq_move rfl) rfl rfl rfl ?_
 refine WL.q ((oq_len_s Tryd.underlying9 rfl).to (v' := I 14) rfl) rfl rfl rfl ?_
 refine WL.q ((oq_lss rfl rfl).to (v' := .bool true) (congrArg Value.bool (decide_eq_true (by omega)))) rfl rfl rfl ?_
 refine WL.nil (WE.then_normal ?_)
 refine WC.cond_t rfl ?_
 refine WC.skip (WE.then_normal (WC.seq (WC.block (WC.seq (WC.region ?_)))))
 refine WL.q (oq_move rfl) rfl rfl rfl ?_
 refine WL.q (oq_move rfl) rfl rfl rfl ?_
 refine WL.q ((oq_index_s Tryd.underlying9 rfl rfl (by decide)).to (v' := .int .u8 49) rfl) rfl rfl rfl ?_
 refine WL.q (oq_conv Tryd.underlying5 Tryd.underlying3 rfl (by rw [i64_lo, i64_hi]; omega)) rfl rfl rfl ?_
 refine WL.q (oq_assign rfl) rfl rfl rfl ?_
 refine WL.nil (WE.then_normal (WC.seq (WC.region ?_)))
 refine WL.q (oq_move rfl) rfl rfl rfl ?_
 refine WL.nil (WE.then_normal (WC.block (WC.seq (WC.region ?_))))
 refine WL.q ((oq_eql rfl rfl).to (v' := .bool false) (congrArg Value.bool (decide_eq_false (by omega)))) rfl rfl rfl ?_
 refine WL.q (oq_assign rfl) rfl rfl rfl ?_
 refine WL.nil (WE.then_normal ?_)
 refine WC.cond_f rfl ?_
 refine WC.seq (WC.region ?_)
 refine WL.q ((oq_eql rfl rfl).to (v' := .bool false) (congrArg Value.bool (decide_eq_false (by omega)))) rfl rfl rfl ?_
 refine WL.q (oq_assign rfl) rfl rfl rfl ?_
 refine WL.nil (WE.then_normal (WC.sub (fr' := [(0, _), (5, _), (6, _), (21, _), (70, _)]) ?_ ⟨rfl, rfl, rfl, rfl, rfl, trivial⟩))
 refine WC.cond_f rfl ?_
 refine WC.seq (WC.region ?_)
 refine WL.q ((oq_eql rfl rfl).to (v' := .bool false) (congrArg Value.bool (decide_eq_false (by omega)))) rfl rfl rfl ?_
 refine WL.q (oq_assign rfl) rfl rfl rfl ?_
 refine WL.nil (WE.then_normal ?_)
 refine WC.cond_f rfl ?_
 refine WC.seq (WC.region ?_)
 refine WL.q ((oq_eql rfl rfl).to (v' := .bool true) (congrArg Value.bool (decide_eq_true (by omega)))) rfl rfl rfl ?_
 refine WL.q (oq_assign rfl) rfl rfl rfl ?_
 refine WL.nil (WE.then_normal ?_)
 refine WC.cond_t rfl ?_
 refine WC.seq (WC.seq (WC.region ?_))
 refine WL.q (oq_move rfl) rfl rfl rfl ?_
 refine WL.q ((oq_len_s Tryd.underlying9 rfl).to (v' := I 14) rfl) rfl rfl rfl ?_
 refine WL.q (oq_move rfl) rfl rfl rfl ?_
 refine WL.q ((oq_add rfl rfl (by rw [i64_lo, i64_hi]; omega)).to (v' := I 3) rfl) rfl rfl rfl ?_
 refine WL.q ((oq_geq rfl rfl).to (v' := .bool true) (congrArg Value.bool (decide_eq_true (by omega)))) rfl rfl rfl ?_
 refine WL.q (oq_move rfl) rfl rfl rfl ?_
 refine WL.q (oq_move rfl) rfl rfl rfl ?_
 refine WL.q (oq_move rfl) rfl rfl rfl ?_
 refine WL.q ((oq_add rfl rfl (by rw [i64_lo, i64_hi]; omega)).to (v' := I 2) rfl) rfl rfl rfl ?_
 refine WL.q ((oq_index_s Tryd.underlying9 rfl rfl (by decide)).to (v' := .int .u8 53) rfl) rfl rfl rfl ?_
 refine WL.q ((oq_eql rfl rfl).to (v' := .bool true) (congrArg Value.bool (decide_eq_true (by omega)))) rfl rfl rfl ?_
 refine WL.q (oq_pick_t rfl rfl) rfl rfl rfl ?_
 refine WL.nil (WE.then_normal ?_)
 refine WC.cond_t rfl ?_
 refine WC.seq (WC.quiet (by kernel_rfl) (by kernel_rfl) ?_)
 refine WQ.q (oq_move rfl) rfl rfl rfl ?_
 refine WQ.q (oq_move rfl) rfl rfl rfl ?_
 refine WQ.q ((oq_slice_s2 Tryd.underlying9 rfl rfl rfl (by decide)).to (v' := S [32]) rfl) rfl rfl rfl ?_
 refine WQ.q (oq_move rfl) rfl rfl rfl ?_
 refine WQ.q (oq_move rfl) rfl rfl rfl ?_
 refine WQ.q ((oq_add rfl rfl (by rw [i64_lo, i64_hi]; omega)).to (v' := I 3) rfl) rfl rfl rfl ?_
 refine WQ.q ((oq_slice_s1 Tryd.underlying9 rfl rfl (by decide)).to (v' := S [58, 48, 52, 58, 48, 53, 32, 50, 48, 48, 54]) rfl) rfl rfl rfl ?_
 refine WQ.q (oq_assign rfl) rfl rfl rfl ?_
 refine WQ.q (oq_assign rfl) rfl rfl rfl ?_
 refine WQ.q (oq_assign rfl) rfl rfl rfl ?_
 refine WQ.nil (WE.then_normal (WC.ret (WE.then_ret (WE.block_ret (WE.block_ret (WE.then_ret (WE.then_ret (WE.block_ret (WE.then_ret ?_)))))))))
 refine WE.endR (.inl rfl) (res3 Tryd.results35 rfl rfl rfl) ?_
 rfl
set_option maxHeartbeats 2000000 in
theorem ch24 (G : Hp) (hT : Tab0 G) : FnR Tryd.prog 35 [S [77, 111, 110, 44, 32, 95, 50, 32, 74, 97, 110, 32, 50, 48, 48, 54, 32, 49, 53, 58, 48, 52, 58, 48, 53, 32, 71, 77, 84]] G (.tuple #[S [], I 262, S [44, 32, 95, 50, 32, 74, 97, 110, 32, 50, 48, 48, 54, 32, 49, 53, 58, 48, 52, 58, 48, 53, 32, 71, 77, 84]]) := by
 obtain ⟨t0, f0, hm⟩ := hT
 refine FnR.enter (n := 654) Tryd.func35 rfl rfl fun w0 => ?_
 refine WC.sub (fr' := [(0, _)]) ?_ ⟨rfl, trivial⟩
 refine WC.seq (WC.region ?_)
 refine WL.q (oq_assign rfl) rfl rfl rfl ?_
 refine WL.q (oq_assign rfl) rfl rfl rfl ?_
 refine WL.q (oq_assign rfl) rfl rfl rfl ?_
 refine WL.nil (WE.then_normal (WC.seq (WC.seq (WC.region ?_))))
 refine WL.q (oq_assign rfl) rfl rfl rfl ?_
 refine WL.nil (WE.then_normal (WC.block ?_))
 refine WC.unroll ?_
 refine WC.seq (WC.seq (WC.region ?_))
 refine WL.q (oq_move rfl) rfl rfl rfl ?_
 refine WL.q (oq_move rfl) rfl rfl rfl ?_
 refine WL.q ((oq_len_s Tryd.underlying9 rfl).to (v' := I 29) rfl) rfl rfl rfl ?_
 refine WL.q ((oq_lss rfl rfl).to (v' := .bool true) (congrArg Value.bool (decide_eq_true (by omega)))) rfl rfl rfl ?_
 refine WL.nil (WE.then_normal ?_)
 refine WC.cond_t rfl ?_
 refine WC.skip (WE.then_normal (WC.seq (WC.block (WC.seq (WC.region ?_)))))
 refine WL.q (oq_move rfl) rfl rfl rfl ?_
 refine WL.q (oq_move rfl) rfl rfl rfl ?_
 refine WL.q ((oq_index_s Tryd.underlying9 rfl rfl (by decide)).to (v' := .int .u8 77) rfl) rfl rfl rfl ?_
 refine WL.q (oq_conv Tryd.underlying5 Tryd.underlying3 rfl (by rw [i64_lo, i64_hi]; omega)) rfl rfl rfl ?_
 refine WL.q (oq_assign rfl) rfl rfl rfl ?_
 refine WL.nil (WE.then_normal (WC.seq (WC.region ?_)))
 refine WL.q (oq_move rfl) rfl rfl rfl ?_
 refine WL.nil (WE.then_normal (WC.block (WC.seq (WC.region ?_))))
 refine WL.q ((oq_eql rfl rfl).to (v' := .bool false) (congrArg Value.bool (decide_eq_false (by omega)))) rfl rfl rfl ?_
 refine WL.q (oq_assign rfl) rfl rfl rfl ?_
 refine WL.nil (WE.then_normal ?_)
 refine WC.cond_f rfl ?_
 refine WC.seq (WC.region ?_)
 refine WL.q ((oq_eql rfl rfl).to (v' := .bool true) (congrArg Value.bool (decide_eq_true (by omega)))) rfl rfl rfl ?_
 refine WL.q (oq_assign rfl) rfl rfl rfl ?_
 refine WL.nil (WE.then_normal ?_)
 refine WC.cond_t rfl ?_
 refine WC.seq (WC.region ?_)
 refine WL.q (oq_move rfl) rfl rfl rfl ?_
 refine WL.q ((oq_len_s Tryd.underlying9 rfl).to (v' := I 29) rfl) rfl rfl rfl ?_
 refine WL.q (oq_move rfl) rfl rfl rfl ?_
 refine WL.q ((oq_add rfl rfl (by rw [i64_lo, i64_hi]; omega)).to (v' := I 3) rfl) rfl rfl rfl ?_
 refine WL.q ((oq_geq rfl rfl).to (v' := .bool true) (congrArg Value.bool (decide_eq_true (by omega)))) rfl rfl rfl ?_
 refine WL.nil (WE.then_normal ?_)
 refine WC.cond_t rfl ?_
 refine WC.seq (WC.seq (WC.region ?_))
 refine WL.q (oq_move rfl) rfl rfl rfl ?_
 refine WL.q (oq_move rfl) rfl rfl rfl ?_
 refine WL.q (oq_move rfl) rfl rfl rfl ?_
 refine WL.q ((oq_add rfl rfl (by rw [i64_lo, i64_hi]; omega)).to (v' := I 3) rfl) rfl rfl rfl ?_
 refine WL.q ((oq_slice_s2 Tryd.underlying9 rfl rfl rfl (by decide)).to (v' := S [77, 111, 110]) rfl) rfl rfl rfl ?_
 refine WL.q ((oq_seql rfl rfl).to (v' := .bool true) (by kernel_rfl)) rfl rfl rfl ?_
 refine WL.nil (WE.then_normal ?_)
 refine WC.cond_t rfl ?_
 refine WC.seq (WC.seq (WC.region ?_))
 refine WL.q (oq_move rfl) rfl rfl rfl ?_
 refine WL.q ((oq_len_s Tryd.underlying9 rfl).to (v' := I 29) rfl) rfl rfl rfl ?_
 refine WL.q (oq_move rfl) rfl rfl rfl ?_
 refine WL.q ((oq_add rfl rfl (by rw [i64_lo, i64_hi]; omega)).to (v' := I 6) rfl) rfl rfl rfl ?_
 refine WL.q ((oq_geq rfl rfl).to (v' := .bool true) (congrArg Value.bool (decide_eq_true (by omega)))) rfl rfl rfl ?_
 refine WL.q (oq_move rfl) rfl rfl rfl ?_
 refine WL.q (oq_move rfl) rfl rfl rfl ?_
 refine WL.q (oq_move rfl) rfl rfl rfl ?_
 refine WL.q (oq_move rfl) rfl rfl rfl ?_
 refine WL.q ((oq_add rfl rfl (by rw [i64_lo, i64_hi]; omega)).to (v' := I 6) rfl) rfl rfl rfl ?_
 refine WL.q ((oq_slice_s2 Tryd.underlying9 rfl rfl rfl (by decide)).to (v' := S [77, 111, 110, 44, 32, 95]) rfl) rfl rfl rfl ?_
 refine WL.q ((oq_seql rfl rfl).to (v' := .bool false) (by kernel_rfl)) rfl rfl rfl ?_
 refine WL.q (oq_pick_t rfl rfl) rfl rfl rfl ?_
 refine WL.nil (WE.then_normal ?_)
 refine WC.cond_f rfl ?_
 refine WC.skip (WE.then_normal (WC.seq (WC.region ?_)))
 refine WL.q (oq_move rfl) rfl rfl rfl ?_
 refine WL.q (oq_move rfl) rfl rfl rfl ?_
 refine WL.q ((oq_add rfl rfl (by rw [i64_lo, i64_hi]; omega)).to (v' := I 3) rfl) rfl rfl rfl ?_
 refine WL.q ((oq_slice_s1 Tryd.underlying9 rfl rfl (by decide)).to (v' := S [44, 32, 95, 50, 32, 74, 97, 110, 32, 50, 48, 48, 54, 32, 49, 53, 58, 48, 52, 58, 48, 53, 32, 71, 77, 84]) rfl) rfl rfl rfl ?_
 refine WL.qc (oq_call (swlF 44 [32, 95, 50, 32, 74, 97, 110, 32, 50, 48, 48, 54, 32, 49, 53, 58, 48, 52, 58, 48, 53, 32, 71, 77, 84] (by decide) (by decide)) call51 rfl) rfl rfl rfl ?_
 refine WL.q ((oq_not rfl).to (v' := .bool true) rfl) rfl rfl rfl ?_
 refine WL.nil (WE.then_normal ?_)
 refine WC.cond_t rfl ?_
 refine WC.seq (WC.quiet (by kernel_rfl) (by kernel_rfl) ?_)
 refine WQ.q (oq_move rfl) rfl rfl rfl ?_
 refine WQ.q (oq_move rfl) rfl rfl rfl ?_
 refine WQ.q ((oq_slice_s2 Tryd.underlying9 rfl rfl rfl (by decide)).to (v' := S []) rfl) rfl rfl rfl ?_
 refine WQ.q (oq_move rfl) rfl rfl rfl ?_
 refine WQ.q (oq_move rfl) rfl rfl rfl ?_
 refine WQ.q ((oq_add rfl rfl (by rw [i64_lo, i64_hi]; omega)).to (v' := I 3) rfl) rfl rfl rfl ?_
 refine WQ.q ((oq_slice_s1 Tryd.underlying9 rfl rfl (by decide)).to (v' := S [44, 32, 95, 50, 32, 74, 97, 110, 32, 50, 48, 48, 54, 32, 49, 53, 58, 48, 52, 58, 48, 53, 32, 71, 77, 84]) rfl) rfl rfl rfl ?_
 refine WQ.q (oq_assign rfl) rfl rfl rfl ?_
 refine WQ.q (oq_assign rfl) rfl rfl rfl ?_
 refine WQ.q (oq_assign rfl) rfl rfl rfl ?_
 refine WQ.nil (WE.then_normal (WC.ret (WE.then_ret (WE.block_ret (WE.block_ret (WE.then_ret (WE.then_ret (WE.block_ret (WE.then_ret ?_)))))))))
 refine WE.endR (.inl rfl) (res3 Tryd.results35 rfl rfl rfl) ?_
 rfl
end TX0
end Go.Proofs.YtcfhfdengfcfpaaDoor
/- The pieces of the layouts, part 1. -/
namespace Go.Proofs.YtcfhfdengfcfpaaDoor
open Go Go.RowKit V T9
set_option linter.unusedSimpArgs false
set_option linter.unusedVariables false
set_option maxRecDepth 10000
namespace TX1
theorem call51 : Callable Tryd.prog 51 := ⟨_, Tryd.func51, rfl, by kernel_rfl⟩
theorem flat3 : Flat Tryd.prog 3 := ⟨_, Tryd.underlying3, by simp⟩
theorem ty3 : Ty Tryd.prog 3 (.int .i64 0) 1 8 := ty_of (by kernel_rfl)
set_option maxHeartbeats 2000000 in
theorem ch1 (G : Hp) (hT : Tab0 G) : FnR Tryd.prog 35 [S [44, 32, 48, 50, 32, 74, 97, 110, 32, 50, 48, 48, 54, 32, 49, 53, 58, 48, 52, 58, 48, 53, 32, 71, 77, 84]] G (.tuple #[S [44, 32], I 265, S [32, 74, 97, 110, 32, 50, 48, 48, 54, 32, 49, 53, 58, 48, 52, 58, 48, 53, 32, 71, 77, 84]]) := by
 obtain ⟨t0, f0, hm⟩ := hT
 refine FnR.enter (n := 654) Tryd.func35 rfl rfl fun w0 => ?_
 refine WC.sub (fr' := [(0, _)]) ?_ ⟨rfl, trivial⟩
 refine WC.seq (WC.region ?_)
 refine WL.q (oq_assign rfl) rfl rfl rfl ?_
 refine WL.q (oq_assign rfl) rfl rfl rfl ?_
 refine WL.q (oq_assign rfl) rfl rfl rfl ?_
 refine WL.nil (WE.then_normal (WC.seq (WC.seq (WC.region ?_))))
 refine WL.q (oq_assign rfl) rfl rfl rfl ?_
 refine WL.nil (WE.then_normal (WC.block ?_))
 refine WC.unroll ?_
 refine WC.seq (WC.seq (WC.region ?_))
 refine WL.q (oq_move rfl) rfl rfl rfl ?_
 refine WL.q (oq_move rfl) rfl rfl rfl ?_
 refine WL.q ((oq_len_s Tryd.underlying9 rfl).to (v' := I 26) rfl) rfl rfl rfl ?_
 refine WL.q ((oq_lss rfl rfl).to (v' := .bool true) (congrArg Value.bool (decide_eq_true (by omega)))) rfl rfl rfl ?_
 refine WL.nil (WE.then_normal ?_)
 refine WC.cond_t rfl ?_
 refine WC.skip (WE.then_normal (WC.seq (WC.block (WC.seq (WC.region ?_)))))
 refine WL.q (oq_move rfl) rfl rfl rfl ?_
 refine WL.q (oq_move rfl) rfl rfl rfl ?_
 refine WL.q ((oq_index_s Tryd.underlying9 rfl rfl (by decide)).to (v' := .int .u8 44) rfl) rfl rfl rfl ?_
 refine WL.q (oq_conv Tryd.underlying5 Tryd.underlying3 rfl (by rw [i64_lo, i64_hi]; omega)) rfl rfl rfl ?_
 refine WL.q (oq_assign rfl) rfl rfl rfl ?_
 refine WL.nil (WE.then_normal (WC.seq (WC.region ?_)))
 refine WL.q (oq_move rfl) rfl rfl rfl ?_
 refine WL.nil (WE.then_normal (WC.block (WC.seq (WC.region ?_))))
 refine WL.q ((oq_eql rfl rfl).to (v' := .bool false) (congrArg Value.bool (decide_eq_false (by omega)))) rfl rfl rfl ?_
 refine WL.q (oq_assign rfl) rfl rfl rfl ?_
 refine WL.nil (WE.then_normal ?_)
 refine WC.cond_f rfl ?_
 refine WC.seq (WC.region ?_)
 refine WL.q ((oq_eql rfl rfl).to (v' := .bool false) (congrArg Value.bool (decide_eq_false (by omega)))) rfl rfl rfl ?_
 refine WL.q (oq_assign rfl) rfl rfl rfl ?_
 refine WL.nil (WE.then_normal ?_)
 refine WC.cond_f rfl ?_
 refine WC.seq (WC.region ?_)
 refine WL.q ((oq_eql rfl rfl).to (v' := .bool false) (congrArg Value.bool (decide_eq_false (by omega)))) rfl rfl rfl ?_
 refine WL.q (oq_assign rfl) rfl rfl rfl ?_
 refine WL.nil (WE.then_normal ?_)
 refine WC.cond_f rfl ?_
 refine WC.seq (WC.region ?_)
 refine WL.q ((oq_eql rfl rfl).to (v' := .bool false) (congrArg Value.bool (decide_eq_false (by omega)))) rfl rfl rfl ?_
 refine WL.q (oq_assign rfl) rfl rfl rfl ?_
 refine WL.nil (WE.then_normal ?_)
 refine WC.cond_f rfl ?_
 refine WC.seq (WC.region ?_)
 refine WL.q ((oq_eql rfl rfl).to (v' := .bool false) (congrArg Value.bool (decide_eq_false (by omega)))) rfl rfl rfl ?_
 refine WL.q (oq_assign rfl) rfl rfl rfl ?_
 refine WL.nil (WE.then_normal ?_)
 refine WC.cond_f rfl ?_
 refine WC.seq (WC.region ?_)
 refine WL.q ((oq_eql rfl rfl).to (v' := .bool false) (congrArg Value.bool (decide_eq_false (by omega)))) rfl rfl rfl ?_
 refine WL.q (oq_assign rfl) rfl rfl rfl ?_
 refine WL.nil (WE.then_normal ?_)
 refine WC.cond_f rfl ?_
 refine WC.seq (WC.region ?_)
 refine WL.q ((oq_eql rfl rfl).to (v' := .bool false) (congrArg Value.bool (decide_eq_false (by omega)))) rfl rfl rfl ?_
 refine WL.q (oq_assign rfl) rfl rfl rfl ?_
 refine WL.nil (WE.then_normal ?_)
 refine WC.cond_f rfl ?_
 refine WC.seq (WC.region ?_)
 refine WL.q ((oq_eql rfl rfl).to (v' := .bool false) (congrArg Value.bool (decide_eq_false (by omega)))) rfl rfl rfl ?_
 refine WL.q (oq_assign rfl) rfl rfl rfl ?_
 refine WL.nil (WE.then_normal ?_)
 refine WC.cond_f rfl ?_
 refine WC.seq (WC.region ?_)
 refine WL.q ((oq_eql rfl rfl).to (v' := .bool false) (congrArg Value.bool (decide_eq_false (by omega)))) rfl rfl rfl ?_
 refine WL.q (oq_assign rfl) rfl rfl rfl ?_
 refine WL.nil (WE.then_normal ?_)
 refine WC.cond_f rfl ?_
 refine WC.seq (WC.region ?_)
 refine WL.q ((oq_eql rfl rfl).to (v' := .bool false) (congrArg Value.bool (decide_eq_false (by omega)))) rfl rfl rfl ?_
 refine WL.q (oq_assign rfl) rfl rfl rfl ?_
 refine WL.nil (WE.then_normal ?_)
 refine WC.cond_f rfl ?_
 refine WC.seq (WC.region ?_)
 refine WL.q ((oq_eql rfl rfl).to (v' := .bool false) (congrArg Value.bool (decide_eq_false (by omega)))) rfl rfl rfl ?_
 refine WL.q (oq_assign rfl) rfl rfl rfl ?_
 refine WL.nil (WE.then_normal ?_)
 refine WC.cond_f rfl ?_
 refine WC.seq (WC.region ?_)
 refine WL.q ((oq_eql rfl rfl).to (v' := .bool false) (congrArg Value.bool (decide_eq_false (by omega)))) rfl rfl rfl ?_
 refine WL.q (oq_assign rfl) rfl rfl rfl ?_
 refine WL.nil (WE.then_normal ?_)
 refine WC.cond_f rfl ?_
 refine WC.seq (WC.region ?_)
 refine WL.q ((oq_eql rfl rfl).to (v' := .bool false) (congrArg Value.bool (decide_eq_false (by omega)))) rfl rfl rfl ?_
 refine WL.q (oq_assign rfl) rfl rfl rfl ?_
 refine WL.nil (WE.then_normal ?_)
 refine WC.cond_f rfl ?_
 refine WC.seq (WC.seq (WC.region ?_))
 refine WL.q ((oq_eql rfl rfl).to (v' := .bool false) (congrArg Value.bool (decide_eq_false (by omega)))) rfl rfl rfl ?_
 refine WL.q (oq_assign rfl) rfl rfl rfl ?_
 refine WL.nil (WE.then_normal ?_)
 refine WC.cond_f rfl ?_
 refine WC.region ?_
 refine WL.q ((oq_eql rfl rfl).to (v' := .bool true) (congrArg Value.bool (decide_eq_true (by omega)))) rfl rfl rfl ?_
 refine WL.q (oq_assign rfl) rfl rfl rfl ?_
 refine WL.nil (WE.then_normal ?_)
 refine WC.cond_t rfl ?_
 refine WC.seq (WC.region ?_)
 refine WL.q (oq_move rfl) rfl rfl rfl ?_
 refine WL.q ((oq_add rfl rfl (by rw [i64_lo, i64_hi]; omega)).to (v' := I 1) rfl) rfl rfl rfl ?_
 refine WL.q (oq_move rfl) rfl rfl rfl ?_
 refine WL.q ((oq_len_s Tryd.underlying9 rfl).to (v' := I 26) rfl) rfl rfl rfl ?_
 refine WL.q ((oq_lss rfl rfl).to (v' := .bool true) (congrArg Value.bool (decide_eq_true (by omega)))) rfl rfl rfl ?_
 refine WL.q (oq_move rfl) rfl rfl rfl ?_
 refine WL.q (oq_move rfl) rfl rfl rfl ?_
 refine WL.q (oq_move rfl) rfl rfl rfl ?_
 refine WL.q ((oq_add rfl rfl (by rw [i64_lo, i64_hi]; omega)).to (v' := I 1) rfl) rfl rfl rfl ?_
 refine WL.q ((oq_index_s Tryd.underlying9 rfl rfl (by decide)).to (v' := .int .u8 32) rfl) rfl rfl rfl ?_
 refine WL.q ((oq_eql rfl rfl).to (v' := .bool false) (congrArg Value.bool (decide_eq_false (by omega)))) rfl rfl rfl ?_
 refine WL.q (oq_move rfl) rfl rfl rfl ?_
 refine WL.q (oq_move rfl) rfl rfl rfl ?_
 refine WL.q (oq_move rfl) rfl rfl rfl ?_
 refine WL.q ((oq_add rfl rfl (by rw [i64_lo, i64_hi]; omega)).to (v' := I 1) rfl) rfl rfl rfl ?_
 refine WL.q ((oq_index_s Tryd.underlying9 rfl rfl (by decide)).to (v' := .int .u8 32) rfl) rfl rfl rfl ?_
 refine WL.q ((oq_eql rfl rfl).to (v' := .bool false) (congrArg Value.bool (decide_eq_false (by omega)))) rfl rfl rfl ?_
 refine WL.q (oq_pick_f rfl rfl) rfl rfl rfl ?_
 refine WL.q (oq_pick_t rfl rfl) rfl rfl rfl ?_
 refine WL.nil (WE.then_normal (WC.sub (fr' := [(0, _), (5, _), (6, _), (610, _)]) ?_ ⟨rfl, rfl, rfl, rfl, trivial⟩))
 refine WC.cond_f rfl ?_
 refine WC.skip (WE.block_normal (WE.block_normal (WE.then_normal (WC.region ?_))))
 refine WL.q (oq_move rfl) rfl rfl rfl ?_
 refine WL.q ((oq_add rfl rfl (by rw [i64_lo, i64_hi]; omega)).to (v' := I 1) rfl) rfl rfl rfl ?_
 refine WL.q (oq_assign rfl) rfl rfl rfl ?_
 refine WL.nil ?_
 refine WE.round ?_
 refine WC.sub (fr' := [(0, _), (5, _)]) ?_ ⟨rfl, rfl, trivial⟩
 refine WC.seq (WC.seq (WC.region ?_))
 refine WL.q (oq_move rfl) rfl rfl rfl ?_
 refine WL.q (oq_move rfl) rfl rfl rfl ?_
 refine WL.q ((oq_len_s Tryd.underlying9 rfl).to (v' := I 26) rfl) rfl rfl rfl ?_
 refine WL.q ((oq_lss rfl rfl).to (v' := .bool true) (congrArg Value.bool (decide_eq_true (by omega)))) rfl rfl rfl ?_
 refine WL.nil (WE.then_normal ?_)
 refine WC.cond_t rfl ?_
 refine WC.skip (WE.then_normal (WC.seq (WC.block (WC.seq (WC.region ?_)))))
 refine WL.q (oq_move rfl) rfl rfl rfl ?_
 refine WL.q (oq_move rfl) rfl rfl rfl ?_
 refine WL.q ((oq_index_s Tryd.underlying9 rfl rfl (by decide)).to (v' := .int .u8 32) rfl) rfl rfl rfl ?_
 refine WL.q (oq_conv Tryd.underlying5 Tryd.underlying3 rfl (by rw [i64_lo, i64_hi]; omega)) rfl rfl rfl ?_
 refine WL.q (oq_assign rfl) rfl rfl rfl ?_
 refine WL.nil (WE.then_normal (WC.seq (WC.region ?_)))
 refine WL.q (oq_move rfl) rfl rfl rfl ?_
 refine WL.nil (WE.then_normal (WC.block (WC.seq (WC.region ?_))))
 refine WL.q ((oq_eql rfl rfl).to (v' := .bool false) (congrArg Value.bool (decide_eq_false (by omega)))) rfl rfl rfl ?_
 refine WL.q (oq_assign rfl) rfl rfl rfl ?_
 refine WL.nil (WE.then_normal ?_)
 refine WC.cond_f rfl ?_
 refine WC.seq (WC.region ?_)
 refine WL.q ((oq_eql rfl rfl).to (v' := .bool false) (congrArg Value.bool (decide_eq_false (by omega)))) rfl rfl rfl ?_
 refine WL.q (oq_assign rfl) rfl rfl rfl ?_
 refine WL.nil (WE.then_normal ?_)
 refine WC.cond_f rfl ?_
 refine WC.seq (WC.region ?_)
 refine WL.q ((oq_eql rfl rfl).to (v' := .bool false) (congrArg Value.bool (decide_eq_false (by omega)))) rfl rfl rfl ?_
 refine WL.q (oq_assign rfl) rfl rfl rfl ?_
 refine WL.nil (WE.then_normal ?_)
 refine WC.cond_f rfl ?_
 refine WC.seq (WC.region ?_)
 refine WL.q ((oq_eql rfl rfl).to (v' := .bool false) (congrArg Value.bool (decide_eq_false (by omega)))) rfl rfl rfl ?_
 refine WL.q (oq_assign rfl) rfl rfl rfl ?_
 refine WL.nil (WE.then_normal ?_)
 refine WC.cond_f rfl ?_
 refine WC.seq (WC.region ?_)
 refine WL.q ((oq_eql rfl rfl).to (v' := .bool false) (congrArg Value.bool (decide_eq_false (by omega)))) rfl rfl rfl ?_
 refine WL.q (oq_assign rfl) rfl rfl rfl ?_
 refine WL.nil (WE.then_normal ?_)
 refine WC.cond_f rfl ?_
 refine WC.seq (WC.region ?_)
 refine WL.q ((oq_eql rfl rfl).to (v' := .bool false) (congrArg Value.bool (decide_eq_false (by omega)))) rfl rfl rfl ?_
 refine WL.q (oq_assign rfl) rfl rfl rfl ?_
 refine WL.nil (WE.then_normal ?_)
 refine WC.cond_f rfl ?_
 refine WC.seq (WC.region ?_)
 refine WL.q ((oq_eql rfl rfl).to (v' := .bool false) (congrArg Value.bool (decide_eq_false (by omega)))) rfl rfl rfl ?_
 refine WL.q (oq_assign rfl) rfl rfl rfl ?_
 refine WL.nil (WE.then_normal ?_)
 refine WC.cond_f rfl ?_
 refine WC.seq (WC.region ?_)
 refine WL.q ((oq_eql rfl rfl).to (v' := .bool false) (congrArg Value.bool (decide_eq_false (by omega)))) rfl rfl rfl ?_
 refine WL.q (oq_assign rfl) rfl rfl rfl ?_
 refine WL.nil (WE.then_normal ?_)
 refine WC.cond_f rfl ?_
 refine WC.seq (WC.region ?_)
 refine WL.q ((oq_eql rfl rfl).to (v' := .bool false) (congrArg Value.bool (decide_eq_false (by omega)))) rfl rfl rfl ?_
 refine WL.q (oq_assign rfl) rfl rfl rfl ?_
 refine WL.nil (WE.then_normal ?_)
 refine WC.cond_f rfl ?_
 refine WC.seq (WC.region ?_)
 refine WL.q ((oq_eql rfl rfl).to (v' := .bool false) (congrArg Value.bool (decide_eq_false (by omega)))) rfl rfl rfl ?_
 refine WL.q (oq_assign rfl) rfl rfl rfl ?_
 refine WL.nil (WE.then_normal ?_)
 refine WC.cond_f rfl ?_
 refine WC.seq (WC.region ?_)
 refine WL.q ((oq_eql rfl rfl).to (v' := .bool false) (congrArg Value.bool (decide_eq_false (by omega)))) rfl rfl rfl ?_
 refine WL.q (oq_assign rfl) rfl rfl rfl ?_
 refine WL.nil (WE.then_normal ?_)
 refine WC.cond_f rfl ?_
 refine WC.seq (WC.region ?_)
 refine WL.q ((oq_eql rfl rfl).to (v' := .bool false) (congrArg Value.bool (decide_eq_false (by omega)))) rfl rfl rfl ?_
 refine WL.q (oq_assign rfl) rfl rfl rfl ?_
 refine WL.nil (WE.then_normal ?_)
 refine WC.cond_f rfl ?_
 refine WC.seq (WC.region ?_)
 refine WL.q ((oq_eql rfl rfl).to (v' := .bool false) (congrArg Value.bool (decide_eq_false (by omega)))) rfl rfl rfl ?_
 refine WL.q (oq_assign rfl) rfl rfl rfl ?_
 refine WL.nil (WE.then_normal ?_)
 refine WC.cond_f rfl ?_
 refine WC.seq (WC.seq (WC.region ?_))
 refine WL.q ((oq_eql rfl rfl).to (v' := .bool false) (congrArg Value.bool (decide_eq_false (by omega)))) rfl rfl rfl ?_
 refine WL.q (oq_assign rfl) rfl rfl rfl ?_
 refine WL.nil (WE.then_normal ?_)
 refine WC.cond_f rfl ?_
 refine WC.region ?_
 refine WL.q ((oq_eql rfl rfl).to (v' := .bool false) (congrArg Value.bool (decide_eq_false (by omega)))) rfl rfl rfl ?_
 refine WL.q (oq_assign rfl) rfl rfl rfl ?_
 refine WL.nil (WE.then_normal ?_)
 refine WC.cond_f rfl ?_
 refine WC.skip (WE.block_normal (WE.block_normal (WE.then_normal (WC.region ?_))))
 refine WL.q (oq_move rfl) rfl rfl rfl ?_
 refine WL.q ((oq_add rfl rfl (by rw [i64_lo, i64_hi]; omega)).to (v' := I 2) rfl) rfl rfl rfl ?_
 refine WL.q (oq_assign rfl) rfl rfl rfl ?_
 refine WL.nil ?_
 refine WE.round ?_
 refine WC.sub (fr' := [(0, _), (5, _)]) ?_ ⟨rfl, rfl, trivial⟩
 refine WC.seq (WC.seq (WC.region ?_))
 refine WL.q (oq_move rfl) rfl rfl rfl ?_
 refine WL.q (oq_move rfl) rfl rfl rfl ?_
 refine WL.q ((oq_len_s Tryd.underlying9 rfl).to (v' := I 26) rfl) rfl rfl rfl ?_
 refine WL.q ((oq_lss rfl rfl).to (v' := .bool true) (congrArg Value.bool (decide_eq_true (by omega)))) rfl rfl rfl ?_
 refine WL.nil (WE.then_normal ?_)
 refine WC.cond_t rfl ?_
 refine WC.skip (WE.then_normal (WC.seq (WC.block (WC.seq (WC.region ?_)))))
 refine WL.q (oq_move rfl) rfl rfl rfl ?_
 refine WL.q (oq_move rfl) rfl rfl rfl ?_
 refine WL.q ((oq_index_s Tryd.underlying9 rfl rfl (by decide)).to (v' := .int .u8 48) rfl) rfl rfl rfl ?_
 refine WL.q (oq_conv Tryd.underlying5 Tryd.underlying3 rfl (by rw [i64_lo, i64_hi]; omega)) rfl rfl rfl ?_
 refine WL.q (oq_assign rfl) rfl rfl rfl ?_
 refine WL.nil (WE.then_normal (WC.seq (WC.region ?_)))
 refine WL.q (oq_move rfl) rfl rfl rfl ?_
 refine WL.nil (WE.then_normal (WC.block (WC.seq (WC.region ?_))))
 refine WL.q ((oq_eql rfl rfl).to (v' := .bool false) (congrArg Value.bool (decide_eq_false (by omega)))) rfl rfl rfl ?_
 refine WL.q (oq_assign rfl) rfl rfl rfl ?_
 refine WL.nil (WE.then_normal ?_)
 refine WC.cond_f rfl ?_
 refine WC.seq (WC.region ?_)
 refine WL.q ((oq_eql rfl rfl).to (v' := .bool false) (congrArg Value.bool (decide_eq_false (by omega)))) rfl rfl rfl ?_
 refine WL.q (oq_assign rfl) rfl rfl rfl ?_
 refine WL.nil (WE.then_normal (WC.sub (fr' := [(0, _), (5, _), (6, _), (21, _), (70, _)]) ?_ ⟨rfl, rfl, rfl, rfl, rfl, trivial⟩))
 refine WC.cond_f rfl ?_
 refine WC.seq (WC.region ?_)
 refine WL.q ((oq_eql rfl rfl).to (v' := .bool true) (congrArg Value.bool (decide_eq_true (by omega)))) rfl rfl rfl ?_
 refine WL.q (oq_assign rfl) rfl rfl rfl ?_
 refine WL.nil (WE.then_normal ?_)
 refine WC.cond_t rfl ?_
 refine WC.seq (WC.seq (WC.region ?_))
 refine WL.q (oq_move rfl) rfl rfl rfl ?_
 refine WL.q ((oq_len_s Tryd.underlying9 rfl).to (v' := I 26) rfl) rfl rfl rfl ?_
 refine WL.q (oq_move rfl) rfl rfl rfl ?_
 refine WL.q ((oq_add rfl rfl (by rw [i64_lo, i64_hi]; omega)).to (v' := I 4) rfl) rfl rfl rfl ?_
 refine WL.q ((oq_geq rfl rfl).to (v' := .bool true) (congrArg Value.bool (decide_eq_true (by omega)))) rfl rfl rfl ?_
 refine WL.q (oq_move rfl) rfl rfl rfl ?_
 refine WL.q (oq_move rfl) rfl rfl rfl ?_
 refine WL.q (oq_move rfl) rfl rfl rfl ?_
 refine WL.q ((oq_add rfl rfl (by rw [i64_lo, i64_hi]; omega)).to (v' := I 3) rfl) rfl rfl rfl ?_
 refine WL.q ((oq_index_s Tryd.underlying9 rfl rfl (by decide)).to (v' := .int .u8 50) rfl) rfl rfl rfl ?_
 refine WL.q ((oq_leq rfl rfl).to (v' := .bool true) (congrArg Value.bool (decide_eq_true (by omega)))) rfl rfl rfl ?_
 refine WL.q (oq_pick_t rfl rfl) rfl rfl rfl ?_
 refine WL.q (oq_move rfl) rfl rfl rfl ?_
 refine WL.q (oq_move rfl) rfl rfl rfl ?_
 refine WL.q (oq_move rfl) rfl rfl rfl ?_
 refine WL.q ((oq_add rfl rfl (by rw [i64_lo, i64_hi]; omega)).to (v' := I 3) rfl) rfl rfl rfl ?_
 refine WL.q ((oq_index_s Tryd.underlying9 rfl rfl (by decide)).to (v' := .int .u8 50) rfl) rfl rfl rfl ?_
 refine WL.q ((oq_leq rfl rfl).to (v' := .bool true) (congrArg Value.bool (decide_eq_true (by omega)))) rfl rfl rfl ?_
 refine WL.q (oq_pick_t rfl rfl) rfl rfl rfl ?_
 refine WL.nil (WE.then_normal ?_)
 refine WC.cond_t rfl ?_
 refine WC.seq (WC.quiet (by kernel_rfl) (by kernel_rfl) ?_)
 refine WQ.q (oq_move rfl) rfl rfl rfl ?_
 refine WQ.q (oq_move rfl) rfl rfl rfl ?_
 refine WQ.q ((oq_slice_s2 Tryd.underlying9 rfl rfl rfl (by decide)).to (v' := S [44, 32]) rfl) rfl rfl rfl ?_
 refine WQ.q (oq_move rfl) rfl rfl rfl ?_
 refine WQ.q (oq_move rfl) rfl rfl rfl ?_
 refine WQ.q ((oq_add rfl rfl (by rw [i64_lo, i64_hi]; omega)).to (v' := I 3) rfl) rfl rfl rfl ?_
 refine WQ.q ((oq_index_s Tryd.underlying9 rfl rfl (by decide)).to (v' := .int .u8 50) rfl) rfl rfl rfl ?_
 refine WQ.q ((oq_sub rfl rfl (by rw [u8_lo, u8_hi]; omega)).to (v' := .int .u8 1) rfl) rfl rfl rfl ?_
 refine WQ.q (oq_ixArr (i := 1) (b := 3) (off := 0) Tryd.underlying85 ty3 rfl rfl (by decide)) rfl rfl rfl ?_
 refine WQ.q ((oq_load flat3 rfl (.head _) hm rfl).to (v' := I 265) rfl) rfl rfl rfl ?_
 refine WQ.q (oq_move rfl) rfl rfl rfl ?_
 refine WQ.q (oq_move rfl) rfl rfl rfl ?_
 refine WQ.q ((oq_add rfl rfl (by rw [i64_lo, i64_hi]; omega)).to (v' := I 4) rfl) rfl rfl rfl ?_
 refine WQ.q ((oq_slice_s1 Tryd.underlying9 rfl rfl (by decide)).to (v' := S [32, 74, 97, 110, 32, 50, 48, 48, 54, 32, 49, 53, 58, 48, 52, 58, 48, 53, 32, 71, 77, 84]) rfl) rfl rfl rfl ?_
 refine WQ.q (oq_assign rfl) rfl rfl rfl ?_
 refine WQ.q (oq_assign rfl) rfl rfl rfl ?_
 refine WQ.q (oq_assign rfl) rfl rfl rfl ?_
 refine WQ.nil (WE.then_normal (WC.ret (WE.then_ret (WE.block_ret (WE.block_ret (WE.then_ret (WE.then_ret (WE.block_ret (WE.then_ret ?_)))))))))
 refine WE.endR (.inl rfl) (res3 Tryd.results35 rfl rfl rfl) ?_
 rfl
set_option maxHeartbeats 2000000 in
theorem ch5 (G : Hp) (hT : Tab0 G) : FnR Tryd.prog 35 [S [58, 48, 52, 58, 48, 53, 32, 71, 77, 84]] G (.tuple #[S [58], I 1040, S [58, 48, 53, 32, 71, 77, 84]]) := by
 obtain ⟨t0, f0, hm⟩ := hT
 refine FnR.enter (n := 654) Tryd.func35 rfl rfl fun w0 => ?_
 refine WC.sub (fr' := [(0, _)]) ?_ ⟨rfl, trivial⟩
 refine WC.seq (WC.region ?_)
 refine WL.q (oq_assign rfl) rfl rfl rfl ?_
 refine WL.q (oq_assign rfl) rfl rfl rfl ?_
 refine WL.q (oq_assign rfl) rfl rfl rfl ?_
 refine WL.nil (WE.then_normal (WC.seq (WC.seq (WC.region ?_))))
 refine WL.q (oq_assign rfl) rfl rfl rfl ?_
 refine WL.nil (WE.then_normal (WC.block ?_))
 refine WC.unroll ?_
 refine WC.seq (WC.seq (WC.region ?_))
 refine WL.q (oq_move rfl) rfl rfl rfl ?_
 refine WL.q (oq_move rfl) rfl rfl rfl ?_
 refine WL.q ((oq_len_s Tryd.underlying9 rfl).to (v' := I 10) rfl) rfl rfl rfl ?_
 refine WL.q ((oq_lss rfl rfl).to (v' := .bool true) (congrArg Value.bool (decide_eq_true (by omega)))) rfl rfl rfl ?_
 refine WL.nil (WE.then_normal ?_)
 refine WC.cond_t rfl ?_
 refine WC.skip (WE.then_normal (WC.seq (WC.block (WC.seq (WC.region ?_)))))
 refine WL.q (oq_move rfl) rfl rfl rfl ?_
 refine WL.q (oq_move rfl) rfl rfl rfl ?_
 refine WL.q ((oq_index_s Tryd.underlying9 rfl rfl (by decide)).to (v' := .int .u8 58) rfl) rfl rfl rfl ?_
 refine WL.q (oq_conv Tryd.underlying5 Tryd.underlying3 rfl (by rw [i64_lo, i64_hi]; omega)) rfl rfl rfl ?_
 refine WL.q (oq_assign rfl) rfl rfl rfl ?_
 refine WL.nil (WE.then_normal (WC.seq (WC.region ?_)))
 refine WL.q (oq_move rfl) rfl rfl rfl ?_
 refine WL.nil (WE.then_normal (WC.block (WC.seq (WC.region ?_))))
 refine WL.q ((oq_eql rfl rfl).to (v' := .bool false) (congrArg Value.bool (decide_eq_false (by omega)))) rfl rfl rfl ?_
 refine WL.q (oq_assign rfl) rfl rfl rfl ?_
 refine WL.nil (WE.then_normal ?_)
 refine WC.cond_f rfl ?_
 refine WC.seq (WC.region ?_)
 refine WL.q ((oq_eql rfl rfl).to (v' := .bool false) (congrArg Value.bool (decide_eq_false (by omega)))) rfl rfl rfl ?_
 refine WL.q (oq_assign rfl) rfl rfl rfl ?_
 refine WL.nil (WE.then_normal ?_)
 refine WC.cond_f rfl ?_
 refine WC.seq (WC.region ?_)
 refine WL.q ((oq_eql rfl rfl).to (v' := .bool false) (congrArg Value.bool (decide_eq_false (by omega)))) rfl rfl rfl ?_
 refine WL.q (oq_assign rfl) rfl rfl rfl ?_
 refine WL.nil (WE.then_normal ?_)
 refine WC.cond_f rfl ?_
 refine WC.seq (WC.region ?_)
 refine WL.q ((oq_eql rfl rfl).to (v' := .bool false) (congrArg Value.bool (decide_eq_false (by omega)))) rfl rfl rfl ?_
 refine WL.q (oq_assign rfl) rfl rfl rfl ?_
 refine WL.nil (WE.then_normal ?_)
 refine WC.cond_f rfl ?_
 refine WC.seq (WC.region ?_)
 refine WL.q ((oq_eql rfl rfl).to (v' := .bool false) (congrArg Value.bool (decide_eq_false (by omega)))) rfl rfl rfl ?_
 refine WL.q (oq_assign rfl) rfl rfl rfl ?_
 refine WL.nil (WE.then_normal ?_)
 refine WC.cond_f rfl ?_
 refine WC.seq (WC.region ?_)
 refine WL.q ((oq_eql rfl rfl).to (v' := .bool false) (congrArg Value.bool (decide_eq_false (by omega)))) rfl rfl rfl ?_
 refine WL.q (oq_assign rfl) rfl rfl rfl ?_
 refine WL.nil (WE.then_normal ?_)
 refine WC.cond_f rfl ?_
 refine WC.seq (WC.region ?_)
 refine WL.q ((oq_eql rfl rfl).to (v' := .bool false) (congrArg Value.bool (decide_eq_false (by omega)))) rfl rfl rfl ?_
 refine WL.q (oq_assign rfl) rfl rfl rfl ?_
 refine WL.nil (WE.then_normal ?_)
 refine WC.cond_f rfl ?_
 refine WC.seq (WC.region ?_)
 refine WL.q ((oq_eql rfl rfl).to (v' := .bool false) (congrArg Value.bool (decide_eq_false (by omega)))) rfl rfl rfl ?_
 refine WL.q (oq_assign rfl) rfl rfl rfl ?_
 refine WL.nil (WE.then_normal ?_)
 refine WC.cond_f rfl ?_
 refine WC.seq (WC.region ?_)
 refine WL.q ((oq_eql rfl rfl).to (v' := .bool false) (congrArg Value.bool (decide_eq_false (by omega)))) rfl rfl rfl ?_
 refine WL.q (oq_assign rfl) rfl rfl rfl ?_
 refine WL.nil (WE.then_normal ?_)
 refine WC.cond_f rfl ?_
 refine WC.seq (WC.region ?_)
 refine WL.q ((oq_eql rfl rfl).to (v' := .bool false) (congrArg Value.bool (decide_eq_false (by omega)))) rfl rfl rfl ?_
 refine WL.q (oq_assign rfl) rfl rfl rfl ?_
 refine WL.nil (WE.then_normal ?_)
 refine WC.cond_f rfl ?_
 refine WC.seq (WC.region ?_)
 refine WL.q ((oq_eql rfl rfl).to (v' := .bool false) (congrArg Value.bool (decide_eq_false (by omega)))) rfl rfl rfl ?_
 refine WL.q (oq_assign rfl) rfl rfl rfl ?_
 refine WL.nil (WE.then_normal ?_)
 refine WC.cond_f rfl ?_
 refine WC.seq (WC.region ?_)
 refine WL.q ((oq_eql rfl rfl).to (v' := .bool false) (congrArg Value.bool (decide_eq_false (by omega)))) rfl rfl rfl ?_
 refine WL.q (oq_assign rfl) rfl rfl rfl ?_
 refine WL.nil (WE.then_normal ?_)
 refine WC.cond_f rfl ?_
 refine WC.seq (WC.region ?_)
 refine WL.q ((oq_eql rfl rfl).to (v' := .bool false) (congrArg Value.bool (decide_eq_false (by omega)))) rfl rfl rfl ?_
 refine WL.q (oq_assign rfl) rfl rfl rfl ?_
 refine WL.nil (WE.then_normal ?_)
 refine WC.cond_f rfl ?_
 refine WC.seq (WC.seq (WC.region ?_))
 refine WL.q ((oq_eql rfl rfl).to (v' := .bool false) (congrArg Value.bool (decide_eq_false (by omega)))) rfl rfl rfl ?_
 refine WL.q (oq_assign rfl) rfl rfl rfl ?_
 refine WL.nil (WE.then_normal ?_)
 refine WC.cond_f rfl ?_
 refine WC.region ?_
 refine WL.q ((oq_eql rfl rfl).to (v' := .bool false) (congrArg Value.bool (decide_eq_false (by omega)))) rfl rfl rfl ?_
 refine WL.q (oq_assign rfl) rfl rfl rfl ?_
 refine WL.nil (WE.then_normal ?_)
 refine WC.cond_f rfl ?_
 refine WC.skip (WE.block_normal (WE.block_normal (WE.then_normal (WC.region ?_))))
 refine WL.q (oq_move rfl) rfl rfl rfl ?_
 refine WL.q ((oq_add rfl rfl (by rw [i64_lo, i64_hi]; omega)).to (v' := I 1) rfl) rfl rfl rfl ?_
 refine WL.q (oq_assign rfl) rfl rfl rfl ?_
 refine WL.nil ?_
 refine WE.round ?_
 refine WC.sub (fr' := [(0, _), (5, _)]) ?_ ⟨rfl, rfl, trivial⟩
 refine WC.seq (WC.seq (WC.region ?_))
 refine WL.q (oq_move rfl) rfl rfl rfl ?_
 refine WL.q (oq_move rfl) rfl rfl rfl ?_
 refine WL.q ((oq_len_s Tryd.underlying9 rfl).to (v' := I 10) rfl) rfl rfl rfl ?_
 refine WL.q ((oq_lss rfl rfl).to (v' := .bool true) (congrArg Value.bool (decide_eq_true (by omega)))) rfl rfl rfl ?_
 refine WL.nil (WE.then_normal ?_)
 refine WC.cond_t rfl ?_
 refine WC.skip (WE.then_normal (WC.seq (WC.block (WC.seq (WC.region ?_)))))
 refine WL.q (oq_move rfl) rfl rfl rfl ?_
 refine WL.q (oq_move rfl) rfl rfl rfl ?_
 refine WL.q ((oq_index_s Tryd.underlying9 rfl rfl (by decide)).to (v' := .int .u8 48) rfl) rfl rfl rfl ?_
 refine WL.q (oq_conv Tryd.underlying5 Tryd.underlying3 rfl (by rw [i64_lo, i64_hi]; omega)) rfl rfl rfl ?_
 refine WL.q (oq_assign rfl) rfl rfl rfl ?_
 refine WL.nil (WE.then_normal (WC.seq (WC.region ?_)))
 refine WL.q (oq_move rfl) rfl rfl rfl ?_
 refine WL.nil (WE.then_normal (WC.block (WC.seq (WC.region ?_))))
 refine WL.q ((oq_eql rfl rfl).to (v' := .bool false) (congrArg Value.bool (decide_eq_false (by omega)))) rfl rfl rfl ?_
 refine WL.q (oq_assign rfl) rfl rfl rfl ?_
 refine WL.nil (WE.then_normal ?_)
 refine WC.cond_f rfl ?_
 refine WC.seq (WC.region ?_)
 refine WL.q ((oq_eql rfl rfl).to (v' := .bool false) (congrArg Value.bool (decide_eq_false (by omega)))) rfl rfl rfl ?_
 refine WL.q (oq_assign rfl) rfl rfl rfl ?_
 refine WL.nil (WE.then_normal (WC.sub (fr' := [(0, _), (5, _), (6, _), (21, _), (70, _)]) ?_ ⟨rfl, rfl, rfl, rfl, rfl, trivial⟩))
 refine WC.cond_f rfl ?_
 refine WC.seq (WC.region ?_)
 refine WL.q ((oq_eql rfl rfl).to (v' := .bool true) (congrArg Value.bool (decide_eq_true (by omega)))) rfl rfl rfl ?_
 refine WL.q (oq_assign rfl) rfl rfl rfl ?_
 refine WL.nil (WE.then_normal ?_)
 refine WC.cond_t rfl ?_
 refine WC.seq (WC.seq (WC.region ?_))
 refine WL.q (oq_move rfl) rfl rfl rfl ?_
 refine WL.q ((oq_len_s Tryd.underlying9 rfl).to (v' := I 10) rfl) rfl rfl rfl ?_
 refine WL.q (oq_move rfl) rfl rfl rfl ?_
 refine WL.q ((oq_add rfl rfl (by rw [i64_lo, i64_hi]; omega)).to (v' := I 3) rfl) rfl rfl rfl ?_
 refine WL.q ((oq_geq rfl rfl).to (v' := .bool true) (congrArg Value.bool (decide_eq_true (by omega)))) rfl rfl rfl ?_
 refine WL.q (oq_move rfl) rfl rfl rfl ?_
 refine WL.q (oq_move rfl) rfl rfl rfl ?_
 refine WL.q (oq_move rfl) rfl rfl rfl ?_
 refine WL.q ((oq_add rfl rfl (by rw [i64_lo, i64_hi]; omega)).to (v' := I 2) rfl) rfl rfl rfl ?_
 refine WL.q ((oq_index_s Tryd.underlying9 rfl rfl (by decide)).to (v' := .int .u8 52) rfl) rfl rfl rfl ?_
 refine WL.q ((oq_leq rfl rfl).to (v' := .bool true) (congrArg Value.bool (decide_eq_true (by omega)))) rfl rfl rfl ?_
 refine WL.q (oq_pick_t rfl rfl) rfl rfl rfl ?_
 refine WL.q (oq_move rfl) rfl rfl rfl ?_
 refine WL.q (oq_move rfl) rfl rfl rfl ?_
 refine WL.q (oq_move rfl) rfl rfl rfl ?_
 refine WL.q ((oq_add rfl rfl (by rw [i64_lo, i64_hi]; omega)).to (v' := I 2) rfl) rfl rfl rfl ?_
 refine WL.q ((oq_index_s Tryd.underlying9 rfl rfl (by decide)).to (v' := .int .u8 52) rfl) rfl rfl rfl ?_
 refine WL.q ((oq_leq rfl rfl).to (v' := .bool true) (congrArg Value.bool (decide_eq_true (by omega)))) rfl rfl rfl ?_
 refine WL.q (oq_pick_t rfl rfl) rfl rfl rfl ?_
 refine WL.nil (WE.then_normal ?_)
 refine WC.cond_t rfl ?_
 refine WC.seq (WC.quiet (by kernel_rfl) (by kernel_rfl) ?_)
 refine WQ.q (oq_move rfl) rfl rfl rfl ?_
 refine WQ.q (oq_move rfl) rfl rfl rfl ?_
 refine WQ.q ((oq_slice_s2 Tryd.underlying9 rfl rfl rfl (by decide)).to (v' := S [58]) rfl) rfl rfl rfl ?_
 refine WQ.q (oq_move rfl) rfl rfl rfl ?_
 refine WQ.q (oq_move rfl) rfl rfl rfl ?_
 refine WQ.q ((oq_add rfl rfl (by rw [i64_lo, i64_hi]; omega)).to (v' := I 2) rfl) rfl rfl rfl ?_
 refine WQ.q ((oq_index_s Tryd.underlying9 rfl rfl (by decide)).to (v' := .int .u8 52) rfl) rfl rfl rfl ?_
 refine WQ.q ((oq_sub rfl rfl (by rw [u8_lo, u8_hi]; omega)).to (v' := .int .u8 3) rfl) rfl rfl rfl ?_
 refine WQ.q (oq_ixArr (i := 3) (b := 3) (off := 0) Tryd.underlying85 ty3 rfl rfl (by decide)) rfl rfl rfl ?_
 refine WQ.q ((oq_load flat3 rfl (.head _) hm rfl).to (v' := I 1040) rfl) rfl rfl rfl ?_
 refine WQ.q (oq_move rfl) rfl rfl rfl ?_
 refine WQ.q (oq_move rfl) rfl rfl rfl ?_
 refine WQ.q ((oq_add rfl rfl (by rw [i64_lo, i64_hi]; omega)).to (v' := I 3) rfl) rfl rfl rfl ?_
 refine WQ.q ((oq_slice_s1 Tryd.underlying9 rfl rfl (by decide)).to (v' := S [58, 48, 53, 32, 71, 77, 84]) rfl) rfl rfl rfl ?_
 refine WQ.q (oq_assign rfl) rfl rfl rfl ?_
 refine WQ.q (oq_assign rfl) rfl rfl rfl ?_
 refine WQ.q (oq_assign rfl) rfl rfl rfl ?_
 refine WQ.nil (WE.then_normal (WC.ret (WE.then_ret (WE.block_ret (WE.block_ret (WE.then_ret (WE.then_ret (WE.block_ret (WE.then_ret ?_)))))))))
 refine WE.endR (.inl rfl) (res3 Tryd.results35 rfl rfl rfl) ?_
 rfl
set_option maxHeartbeats 2000000 in
theorem ch9 (G : Hp) (hT : Tab0 G) : FnR Tryd.prog 35 [S [44, 32, 48, 50, 45, 74, 97, 110, 45, 48, 54, 32, 49, 53, 58, 48, 52, 58, 48, 53, 32, 77, 83, 84]] G (.tuple #[S [44, 32], I 265, S [45, 74, 97, 110, 45, 48, 54, 32, 49, 53, 58, 48, 52, 58, 48, 53, 32, 77, 83, 84]]) := by
 obtain ⟨t0, f0, hm⟩ := hT
 refine FnR.enter (n := 654) Tryd.func35 rfl rfl fun w0 => ?_
 refine WC.sub (fr' := [(0, _)]) ?_ ⟨rfl, trivial⟩
 refine WC.seq (WC.region ?_)
 refine WL.q (oq_assign rfl) rfl rfl rfl ?_
 refine WL.q (oq_assign rfl) rfl rfl rfl ?_
 refine WL.q (oq_assign rfl) rfl rfl rfl ?_
 refine WL.nil (WE.then_normal (WC.seq (WC.seq (WC.region ?_))))
 refine WL.q (oq_assign rfl) rfl rfl rfl ?_
 refine WL.nil (WE.then_normal (WC.block ?_))
 refine WC.unroll ?_
 refine WC.seq (WC.seq (WC.region ?_))
 refine WL.q (oq_move rfl) rfl rfl rfl ?_
 refine WL.q (oq_move rfl) rfl rfl rfl ?_
 refine WL.q ((oq_len_s Tryd.underlying9 rfl).to (v' := I 24) rfl) rfl rfl rfl ?_
 refine WL.q ((oq_lss rfl rfl).to (v' := .bool true) (congrArg Value.bool (decide_eq_true (by omega)))) rfl rfl rfl ?_
 refine WL.nil (WE.then_normal ?_)
 refine WC.cond_t rfl ?_
 refine WC.skip (WE.then_normal (WC.seq (WC.block (WC.seq (WC.region ?_)))))
 refine WL.q (oq_move rfl) rfl rfl rfl ?_
 refine WL.q (oq_move rfl) rfl rfl rfl ?_
 refine WL.q ((oq_index_s Tryd.underlying9 rfl rfl (by decide)).to (v' := .int .u8 44) rfl) rfl rfl rfl ?_
 refine WL.q (oq_conv Tryd.underlying5 Tryd.underlying3 rfl (by rw [i64_lo, i64_hi]; omega)) rfl rfl rfl ?_
 refine WL.q (oq_assign rfl) rfl rfl rfl ?_
 refine WL.nil (WE.then_normal (WC.seq (WC.region ?_)))
 refine WL.q (oq_move rfl) rfl rfl rfl ?_
 refine WL.nil (WE.then_normal (WC.block (WC.seq (WC.region ?_))))
 refine WL.q ((oq_eql rfl rfl).to (v' := .bool false) (congrArg Value.bool (decide_eq_false (by omega)))) rfl rfl rfl ?_
 refine WL.q (oq_assign rfl) rfl rfl rfl ?_
 refine WL.nil (WE.then_normal ?_)
 refine WC.cond_f rfl ?_
 refine WC.seq (WC.region ?_)
 refine WL.q ((oq_eql rfl rfl).to (v' := .bool false) (congrArg Value.bool (decide_eq_false (by omega)))) rfl rfl rfl ?_
 refine WL.q (oq_assign rfl) rfl rfl rfl ?_
 refine WL.nil (WE.then_normal ?_)
 refine WC.cond_f rfl ?_
 refine WC.seq (WC.region ?_)
 refine WL.q ((oq_eql rfl rfl).to (v' := .bool false) (congrArg Value.bool (decide_eq_false (by omega)))) rfl rfl rfl ?_
 refine WL.q (oq_assign rfl) rfl rfl rfl ?_
 refine WL.nil (WE.then_normal ?_)
 refine WC.cond_f rfl ?_
 refine WC.seq (WC.region ?_)
 refine WL.q ((oq_eql rfl rfl).to (v' := .bool false) (congrArg Value.bool (decide_eq_false (by omega)))) rfl rfl rfl ?_
 refine WL.q (oq_assign rfl) rfl rfl rfl ?_
 refine WL.nil (WE.then_normal ?_)
 refine WC.cond_f rfl ?_
 refine WC.seq (WC.region ?_)
 refine WL.q ((oq_eql rfl rfl).to (v' := .bool false) (congrArg Value.bool (decide_eq_false (by omega)))) rfl rfl rfl ?_
 refine WL.q (oq_assign rfl) rfl rfl rfl ?_
 refine WL.nil (WE.then_normal ?_)
 refine WC.cond_f rfl ?_
 refine WC.seq (WC.region ?_)
 refine WL.q ((oq_eql rfl rfl).to (v' := .bool false) (congrArg Value.bool (decide_eq_false (by omega)))) rfl rfl rfl ?_
 refine WL.q (oq_assign rfl) rfl rfl rfl ?_
 refine WL.nil (WE.then_normal ?_)
 refine WC.cond_f rfl ?_
 refine WC.seq (WC.region ?_)
 refine WL.q ((oq_eql rfl rfl).to (v' := .bool false) (congrArg Value.bool (decide_eq_false (by omega)))) rfl rfl rfl ?_
 refine WL.q (oq_assign rfl) rfl rfl rfl ?_
 refine WL.nil (WE.then_normal ?_)
 refine WC.cond_f rfl ?_
 refine WC.seq (WC.region ?_)
 refine WL.q ((oq_eql rfl rfl).to (v' := .bool false) (congrArg Value.bool (decide_eq_false (by omega)))) rfl rfl rfl ?_
 refine WL.q (oq_assign rfl) rfl rfl rfl ?_
 refine WL.nil (WE.then_normal ?_)
 refine WC.cond_f rfl ?_
 refine WC.seq (WC.region ?_)
 refine WL.q ((oq_eql rfl rfl).to (v' := .bool false) (congrArg Value.bool (decide_eq_false (by omega)))) rfl rfl rfl ?_
 refine WL.q (oq_assign rfl) rfl rfl rfl ?_
 refine WL.nil (WE.then_normal ?_)
 refine WC.cond_f rfl ?_
 refine WC.seq (WC.region ?_)
 refine WL.q ((oq_eql rfl rfl).to (v' := .bool false) (congrArg Value.bool (decide_eq_false (by omega)))) rfl rfl rfl ?_
 refine WL.q (oq_assign rfl) rfl rfl rfl ?_
 refine WL.nil (WE.then_normal ?_)
 refine WC.cond_f rfl ?_
 refine WC.seq (WC.region ?_)
 refine WL.q ((oq_eql rfl rfl).to (v' := .bool false) (congrArg Value.bool (decide_eq_false (by omega)))) rfl rfl rfl ?_
 refine WL.q (oq_assign rfl) rfl rfl rfl ?_
 refine WL.nil (WE.then_normal ?_)
 refine WC.cond_f rfl ?_
 refine WC.seq (WC.region ?_)
 refine WL.q ((oq_eql rfl rfl).to (v' := .bool false) (congrArg Value.bool (decide_eq_false (by omega)))) rfl rfl rfl ?_
 refine WL.q (oq_assign rfl) rfl rfl rfl ?_
 refine WL.nil (WE.then_normal ?_)
 refine WC.cond_f rfl ?_
 refine WC.seq (WC.region ?_)
 refine WL.q ((oq_eql rfl rfl).to (v' := .bool false) (congrArg Value.bool (decide_eq_false (by omega)))) rfl rfl rfl ?_
 refine WL.q (oq_assign rfl) rfl rfl rfl ?_
 refine WL.nil (WE.then_normal ?_)
 refine WC.cond_f rfl ?_
 refine WC.seq (WC.seq (WC.region ?_))
 refine WL.q ((oq_eql rfl rfl).to (v' := .bool false) (congrArg Value.bool (decide_eq_false (by omega)))) rfl rfl rfl ?_
 refine WL.q (oq_assign rfl) rfl rfl rfl ?_
 refine WL.nil (WE.then_normal ?_)
 refine WC.cond_f rfl ?_
 refine WC.region ?_
 refine WL.q ((oq_eql rfl rfl).to (v' := .bool true) (congrArg Value.bool (decide_eq_true (by omega)))) rfl rfl rfl ?_
 refine WL.q (oq_assign rfl) rfl rfl rfl ?_
 refine WL.nil (WE.then_normal ?_)
 refine WC.cond_t rfl ?_
 refine WC.seq (WC.region ?_)
 refine WL.q (oq_move rfl) rfl rfl rfl ?_
 refine WL.q ((oq_add rfl rfl (by rw [i64_lo, i64_hi]; omega)).to (v' := I 1) rfl) rfl rfl rfl ?_
 refine WL.q (oq_move rfl) rfl rfl rfl ?_
 refine WL.q ((oq_len_s Tryd.underlying9 rfl).to (v' := I 24) rfl) rfl rfl rfl ?_
 refine WL.q ((oq_lss rfl rfl).to (v' := .bool true) (congrArg Value.bool (decide_eq_true (by omega)))) rfl rfl rfl ?_
 refine WL.q (oq_move rfl) rfl rfl rfl ?_
 refine WL.q (oq_move rfl) rfl rfl rfl ?_
 refine WL.q (oq_move rfl) rfl rfl rfl ?_
 refine WL.q ((oq_add rfl rfl (by rw [i64_lo, i64_hi]; omega)).to (v' := I 1) rfl) rfl rfl rfl ?_
 refine WL.q ((oq_index_s Tryd.underlying9 rfl rfl (by decide)).to (v' := .int .u8 32) rfl) rfl rfl rfl ?_
 refine WL.q ((oq_eql rfl rfl).to (v' := .bool false) (congrArg Value.bool (decide_eq_false (by omega)))) rfl rfl rfl ?_
 refine WL.q (oq_move rfl) rfl rfl rfl ?_
 refine WL.q (oq_move rfl) rfl rfl rfl ?_
 refine WL.q (oq_move rfl) rfl rfl rfl ?_
 refine WL.q ((oq_add rfl rfl (by rw [i64_lo, i64_hi]; omega)).to (v' := I 1) rfl) rfl rfl rfl ?_
 refine WL.q ((oq_index_s Tryd.underlying9 rfl rfl (by decide)).to (v' := .int .u8 32) rfl) rfl rfl rfl ?_
 refine WL.q ((oq_eql rfl rfl).to (v' := .bool false) (congrArg Value.bool (decide_eq_false (by omega)))) rfl rfl rfl ?_
 refine WL.q (oq_pick_f rfl rfl) rfl rfl rfl ?_
 refine WL.q (oq_pick_t rfl rfl) rfl rfl rfl ?_
 refine WL.nil (WE.then_normal (WC.sub (fr' := [(0, _), (5, _), (6, _), (610, _)]) ?_ ⟨rfl, rfl, rfl, rfl, trivial⟩))
 refine WC.cond_f rfl ?_
 refine WC.skip (WE.block_normal (WE.block_normal (WE.then_normal (WC.region ?_))))
 refine WL.q (oq_move rfl) rfl rfl rfl ?_
 refine WL.q ((oq_add rfl rfl (by rw [i64_lo, i64_hi]; omega)).to (v' := I 1) rfl) rfl rfl rfl ?_
 refine WL.q (oq_assign rfl) rfl rfl rfl ?_
 refine WL.nil ?_
 refine WE.round ?_
 refine WC.sub (fr' := [(0, _), (5, _)]) ?_ ⟨rfl, rfl, trivial⟩
 refine WC.seq (WC.seq (WC.region ?_))
 refine WL.q (oq_move rfl) rfl rfl rfl ?_
 refine WL.q (oq_move rfl) rfl rfl rfl ?_
 refine WL.q ((oq_len_s Tryd.underlying9 rfl).to (v' := I 24) rfl) rfl rfl rfl ?_
 refine WL.q ((oq_lss rfl rfl).to (v' := .bool true) (congrArg Value.bool (decide_eq_true (by omega)))) rfl rfl rfl ?_
 refine WL.nil (WE.then_normal ?_)
 refine WC.cond_t rfl ?_
 refine WC.skip (WE.then_normal (WC.seq (WC.block (WC.seq (WC.region ?_)))))
 refine WL.q (oq_move rfl) rfl rfl rfl ?_
 refine WL.q (oq_move rfl) rfl rfl rfl ?_
 refine WL.q ((oq_index_s Tryd.underlying9 rfl rfl (by decide)).to (v' := .int .u8 32) rfl) rfl rfl rfl ?_
 refine WL.q (oq_conv Tryd.underlying5 Tryd.underlying3 rfl (by rw [i64_lo, i64_hi]; omega)) rfl rfl rfl ?_
 refine WL.q (oq_assign rfl) rfl rfl rfl ?_
 refine WL.nil (WE.then_normal (WC.seq (WC.region ?_)))
 refine WL.q (oq_move rfl) rfl rfl rfl ?_
 refine WL.nil (WE.then_normal (WC.block (WC.seq (WC.region ?_))))
 refine WL.q ((oq_eql rfl rfl).to (v' := .bool false) (congrArg Value.bool (decide_eq_false (by omega)))) rfl rfl rfl ?_
 refine WL.q (oq_assign rfl) rfl rfl rfl ?_
 refine WL.nil (WE.then_normal ?_)
 refine WC.cond_f rfl ?_
 refine WC.seq (WC.region ?_)
 refine WL.q ((oq_eql rfl rfl).to (v' := .bool false) (congrArg Value.bool (decide_eq_false (by omega)))) rfl rfl rfl ?_
 refine WL.q (oq_assign rfl) rfl rfl rfl ?_
 refine WL.nil (WE.then_normal ?_)
 refine WC.cond_f rfl ?_
 refine WC.seq (WC.region ?_)
 refine WL.q ((oq_eql rfl rfl).to (v' := .bool false) (congrArg Value.bool (decide_eq_false (by omega)))) rfl rfl rfl ?_
 refine WL.q (oq_assign rfl) rfl rfl rfl ?_
 refine WL.nil (WE.then_normal ?_)
 refine WC.cond_f rfl ?_
 refine WC.seq (WC.region ?_)
 refine WL.q ((oq_eql rfl rfl).to (v' := .bool false) (congrArg Value.bool (decide_eq_false (by omega)))) rfl rfl rfl ?_
 refine WL.q (oq_assign rfl) rfl rfl rfl ?_
 refine WL.nil (WE.then_normal ?_)
 refine WC.cond_f rfl ?_
 refine WC.seq (WC.region ?_)
 refine WL.q ((oq_eql rfl rfl).to (v' := .bool false) (congrArg Value.bool (decide_eq_false (by omega)))) rfl rfl rfl ?_
 refine WL.q (oq_assign rfl) rfl rfl rfl ?_
 refine WL.nil (WE.then_normal ?_)
 refine WC.cond_f rfl ?_
 refine WC.seq (WC.region ?_)
 refine WL.q ((oq_eql rfl rfl).to (v' := .bool false) (congrArg Value.bool (decide_eq_false (by omega)))) rfl rfl rfl ?_
 refine WL.q (oq_assign rfl) rfl rfl rfl ?_
 refine WL.nil (WE.then_normal ?_)
 refine WC.cond_f rfl ?_
 refine WC.seq (WC.region ?_)
 refine WL.q ((oq_eql rfl rfl).to (v' := .bool false) (congrArg Value.bool (decide_eq_false (by omega)))) rfl rfl rfl ?_
 refine WL.q (oq_assign rfl) rfl rfl rfl ?_
 refine WL.nil (WE.then_normal ?_)
 refine WC.cond_f rfl ?_
 refine WC.seq (WC.region ?_)
 refine WL.q ((oq_eql rfl rfl).to (v' := .bool false) (congrArg Value.bool (decide_eq_false (by omega)))) rfl rfl rfl ?_
 refine WL.q (oq_assign rfl) rfl rfl rfl ?_
 refine WL.nil (WE.then_normal ?_)
 refine WC.cond_f rfl ?_
 refine WC.seq (WC.region ?_)
 refine WL.q ((oq_eql rfl rfl).to (v' := .bool false) (congrArg Value.bool (decide_eq_false (by omega)))) rfl rfl rfl ?_
 refine WL.q (oq_assign rfl) rfl rfl rfl ?_
 refine WL.nil (WE.then_normal ?_)
 refine WC.cond_f rfl ?_
 refine WC.seq (WC.region ?_)
 refine WL.q ((oq_eql rfl rfl).to (v' := .bool false) (congrArg Value.bool (decide_eq_false (by omega)))) rfl rfl rfl ?_
 refine WL.q (oq_assign rfl) rfl rfl rfl ?_
 refine WL.nil (WE.then_normal ?_)
 refine WC.cond_f rfl ?_
 refine WC.seq (WC.region ?_)
 refine WL.q ((oq_eql rfl rfl).to (v' := .bool false) (congrArg Value.bool (decide_eq_false (by omega)))) rfl rfl rfl ?_
 refine WL.q (oq_assign rfl) rfl rfl rfl ?_
 refine WL.nil (WE.then_normal ?_)
 refine WC.cond_f rfl ?_
 refine WC.seq (WC.region ?_)
 refine WL.q ((oq_eql rfl rfl).to (v' := .bool false) (congrArg Value.bool (decide_eq_false (by omega)))) rfl rfl rfl ?_
 refine WL.q (oq_assign rfl) rfl rfl rfl ?_
 refine WL.nil (WE.then_normal ?_)
 refine WC.cond_f rfl ?_
 refine WC.seq (WC.region ?_)
 refine WL.q ((oq_eql rfl rfl).to (v' := .bool false) (congrArg Value.bool (decide_eq_false (by omega)))) rfl rfl rfl ?_
 refine WL.q (oq_assign rfl) rfl rfl rfl ?_
 refine WL.nil (WE.then_normal ?_)
 refine WC.cond_f rfl ?_
 refine WC.seq (WC.seq (WC.region ?_))
 refine WL.q ((oq_eql rfl rfl).to (v' := .bool false) (congrArg Value.bool (decide_eq_false (by omega)))) rfl rfl rfl ?_
 refine WL.q (oq_assign rfl) rfl rfl rfl ?_
 refine WL.nil (WE.then_normal ?_)
 refine WC.cond_f rfl ?_
 refine WC.region ?_
 refine WL.q ((oq_eql rfl rfl).to (v' := .bool false) (congrArg Value.bool (decide_eq_false (by omega)))) rfl rfl rfl ?_
 refine WL.q (oq_assign rfl) rfl rfl rfl ?_
 refine WL.nil (WE.then_normal ?_)
 refine WC.cond_f rfl ?_
 refine WC.skip (WE.block_normal (WE.block_normal (WE.then_normal (WC.region ?_))))
 refine WL.q (oq_move rfl) rfl rfl rfl ?_
 refine WL.q ((oq_add rfl rfl (by rw [i64_lo, i64_hi]; omega)).to (v' := I 2) rfl) rfl rfl rfl ?_
 refine WL.q (oq_assign rfl) rfl rfl rfl ?_
 refine WL.nil ?_
 refine WE.round ?_
 refine WC.sub (fr' := [(0, _), (5, _)]) ?_ ⟨rfl, rfl, trivial⟩
 refine WC.seq (WC.seq (WC.region ?_))
 refine WL.q (oq_move rfl) rfl rfl rfl ?_
 refine WL.q (oq_move rfl) rfl rfl rfl ?_
 refine WL.q ((oq_len_s Tryd.underlying9 rfl).to (v' := I 24) rfl) rfl rfl rfl ?_
 refine WL.q ((oq_lss rfl rfl).to (v' := .bool true) (congrArg Value.bool (decide_eq_true (by omega)))) rfl rfl rfl ?_
 refine WL.nil (WE.then_normal ?_)
 refine WC.cond_t rfl ?_
 refine WC.skip (WE.then_normal (WC.seq (WC.block (WC.seq (WC.region ?_)))))
 refine WL.q (oq_move rfl) rfl rfl rfl ?_
 refine WL.q (oq_move rfl) rfl rfl rfl ?_
 refine WL.q ((oq_index_s Tryd.underlying9 rfl rfl (by decide)).to (v' := .int .u8 48) rfl) rfl rfl rfl ?_
 refine WL.q (oq_conv Tryd.underlying5 Tryd.underlying3 rfl (by rw [i64_lo, i64_hi]; omega)) rfl rfl rfl ?_
 refine WL.q (oq_assign rfl) rfl rfl rfl ?_
 refine WL.nil (WE.then_normal (WC.seq (WC.region ?_)))
 refine WL.q (oq_move rfl) rfl rfl rfl ?_
 refine WL.nil (WE.then_normal (WC.block (WC.seq (WC.region ?_))))
 refine WL.q ((oq_eql rfl rfl).to (v' := .bool false) (congrArg Value.bool (decide_eq_false (by omega)))) rfl rfl rfl ?_
 refine WL.q (oq_assign rfl) rfl rfl rfl ?_
 refine WL.nil (WE.then_normal ?_)
 refine WC.cond_f rfl ?_
 refine WC.seq (WC.region ?_)
 refine WL.q ((oq_eql rfl rfl).to (v' := .bool false) (congrArg Value.bool (decide_eq_false (by omega)))) rfl rfl rfl ?_
 refine WL.q (oq_assign rfl) rfl rfl rfl ?_
 refine WL.nil (WE.then_normal (WC.sub (fr' := [(0, _), (5, _), (6, _), (21, _), (70, _)]) ?_ ⟨rfl, rfl, rfl, rfl, rfl, trivial⟩))
 refine WC.cond_f rfl ?_
 refine WC.seq (WC.region ?_)
 refine WL.q ((oq_eql rfl rfl).to (v' := .bool true) (congrArg Value.bool (decide_eq_true (by omega)))) rfl rfl rfl ?_
 refine WL.q (oq_assign rfl) rfl rfl rfl ?_
 refine WL.nil (WE.then_normal ?_)
 refine WC.cond_t rfl ?_
 refine WC.seq (WC.seq (WC.region ?_))
 refine WL.q (oq_move rfl) rfl rfl rfl ?_
 refine WL.q ((oq_len_s Tryd.underlying9 rfl).to (v' := I 24) rfl) rfl rfl rfl ?_
 refine WL.q (oq_move rfl) rfl rfl rfl ?_
 refine WL.q ((oq_add rfl rfl (by rw [i64_lo, i64_hi]; omega)).to (v' := I 4) rfl) rfl rfl rfl ?_
 refine WL.q ((oq_geq rfl rfl).to (v' := .bool true) (congrArg Value.bool (decide_eq_true (by omega)))) rfl rfl rfl ?_
 refine WL.q (oq_move rfl) rfl rfl rfl ?_
 refine WL.q (oq_move rfl) rfl rfl rfl ?_
 refine WL.q (oq_move rfl) rfl rfl rfl ?_
 refine WL.q ((oq_add rfl rfl (by rw [i64_lo, i64_hi]; omega)).to (v' := I 3) rfl) rfl rfl rfl ?_
 refine WL.q ((oq_index_s Tryd.underlying9 rfl rfl (by decide)).to (v' := .int .u8 50) rfl) rfl rfl rfl ?_
 refine WL.q ((oq_leq rfl rfl).to (v' := .bool true) (congrArg Value.bool (decide_eq_true (by omega)))) rfl rfl rfl ?_
 refine WL.q (oq_pick_t rfl rfl) rfl rfl rfl ?_
 refine WL.q (oq_move rfl) rfl rfl rfl ?_
 refine WL.q (oq_move rfl) rfl rfl rfl ?_
 refine WL.q (oq_move rfl) rfl rfl rfl ?_
 refine WL.q ((oq_add rfl rfl (by rw [i64_lo, i64_hi]; omega)).to (v' := I 3) rfl) rfl rfl rfl ?_
 refine WL.q ((oq_index_s Tryd.underlying9 rfl rfl (by decide)).to (v' := .int .u8 50) rfl) rfl rfl rfl ?_
 refine WL.q ((oq_leq rfl rfl).to (v' := .bool true) (congrArg Value.bool (decide_eq_true (by omega)))) rfl rfl rfl ?_
 refine WL.q (oq_pick_t rfl rfl) rfl rfl rfl ?_
 refine WL.nil (WE.then_normal ?_)
 refine WC.cond_t rfl ?_
 refine WC.seq (WC.quiet (by kernel_rfl) (by kernel_rfl) ?_)
 refine WQ.q (oq_move rfl) rfl rfl rfl ?_
 refine WQ.q (oq_move rfl) rfl rfl rfl ?_
 refine WQ.q ((oq_slice_s2 Tryd.underlying9 rfl rfl rfl (by decide)).to (v' := S [44, 32]) rfl) rfl rfl rfl ?_
 refine WQ.q (oq_move rfl) rfl rfl rfl ?_
 refine WQ.q (oq_move rfl) rfl rfl rfl ?_
 refine WQ.q ((oq_add rfl rfl (by rw [i64_lo, i64_hi]; omega)).to (v' := I 3) rfl) rfl rfl rfl ?_
 refine WQ.q ((oq_index_s Tryd.underlying9 rfl rfl (by decide)).to (v' := .int .u8 50) rfl) rfl rfl rfl ?_
 refine WQ.q ((oq_sub rfl rfl (by rw [u8_lo, u8_hi]; omega)).to (v' := .int .u8 1) rfl) rfl rfl rfl ?_
 refine WQ.q (oq_ixArr (i := 1) (b := 3) (off := 0) Tryd.underlying85 ty3 rfl rfl (by decide)) rfl rfl rfl ?_
 refine WQ.q ((oq_load flat3 rfl (.head _) hm rfl).to (v' := I 265) rfl) rfl rfl rfl ?_
 refine WQ.q (oq_move rfl) rfl rfl rfl ?_
 refine WQ.q (oq_move rfl) rfl rfl rfl ?_
 refine WQ.q ((oq_add rfl rfl (by rw [i64_lo, i64_hi]; omega)).to (v' := I 4) rfl) rfl rfl rfl ?_
 refine WQ.q ((oq_slice_s1 Tryd.underlying9 rfl rfl (by decide)).to (v' := S [45, 74, 97, 110, 45, 48, 54, 32, 49, 53, 58, 48, 52, 58, 48, 53, 32, 77, 83, 84]) rfl) rfl rfl rfl ?_
 refine WQ.q (oq_assign rfl) rfl rfl rfl ?_
 refine WQ.q (oq_assign rfl) rfl rfl rfl ?_
 refine WQ.q (oq_assign rfl) rfl rfl rfl ?_
 refine WQ.nil (WE.then_normal (WC.ret (WE.then_ret (WE.block_ret (WE.block_ret (WE.then_ret (WE.then_ret (WE.block_ret (WE.then_ret ?_)))))))))
 refine WE.endR (.inl rfl) (res3 Tryd.results35 rfl rfl rfl) ?_
 rfl
set_option maxHeartbeats 2000000 in
theorem ch13 (G : Hp) (hT : Tab0 G) : FnR Tryd.prog 35 [S [58, 48, 52, 58, 48, 53, 32, 77, 83, 84]] G (.tuple #[S [58], I 1040, S [58, 48, 53, 32, 77, 83, 84]]) := by
 obtain ⟨t0, f0, hm⟩ := hT
 refine FnR.enter (n := 654) Tryd.func35 rfl rfl fun w0 => ?_
 refine WC.sub (fr' := [(0, _)]) ?_ ⟨rfl, trivial⟩
 refine WC.seq (WC.region ?_)
 refine WL.q (oq_assign rfl) rfl rfl rfl ?_
 refine WL.q (oq_assign rfl) rfl rfl rfl ?_
 refine WL.q (oq_assign rfl) rfl rfl rfl ?_
 refine WL.nil (WE.then_normal (WC.seq (WC.seq (WC.region ?_))))
 refine WL.q (oq_assign rfl) rfl rfl rfl ?_
 refine WL.nil (WE.then_normal (WC.block ?_))
 refine WC.unroll ?_
 refine WC.seq (WC.seq (WC.region ?_))
 refine WL.q (oq_move rfl) rfl rfl rfl ?_
 refine WL.q (oq_move rfl) rfl rfl rfl ?_
 refine WL.q ((oq_len_s Tryd.underlying9 rfl).to (v' := I 10) rfl) rfl rfl rfl ?_
 refine WL.q ((oq_lss rfl rfl).to (v' := .bool true) (congrArg Value.bool (decide_eq_true (by omega)))) rfl rfl rfl ?_
 refine WL.nil (WE.then_normal ?_)
 refine WC.cond_t rfl ?_
 refine WC.skip (WE.then_normal (WC.seq (WC.block (WC.seq (WC.region ?_)))))
 refine WL.q (oq_move rfl) rfl rfl rfl ?_
 refine WL.q (oq_move rfl) rfl rfl rfl ?_
 refine WL.q ((oq_index_s Tryd.underlying9 rfl rfl (by decide)).to (v' := .int .u8 58) rfl) rfl rfl rfl ?_
 refine WL.q (oq_conv Tryd.underlying5 Tryd.underlying3 rfl (by rw [i64_lo, i64_hi]; omega)) rfl rfl rfl ?_
 refine WL.q (oq_assign rfl) rfl rfl rfl ?_
 refine WL.nil (WE.then_normal (WC.seq (WC.region ?_)))
 refine WL.q (oq_move rfl) rfl rfl rfl ?_
 refine WL.nil (WE.then_normal (WC.block (WC.seq (WC.region ?_))))
 refine WL.q ((oq_eql rfl rfl).to (v' := .bool false) (congrArg Value.bool (decide_eq_false (by omega)))) rfl rfl rfl ?_
 refine WL.q (oq_assign rfl) rfl rfl rfl ?_
 refine WL.nil (WE.then_normal ?_)
 refine WC.cond_f rfl ?_
 refine WC.seq (WC.region ?_)
 refine WL.q ((oq_eql rfl rfl).to (v' := .bool false) (congrArg Value.bool (decide_eq_false (by omega)))) rfl rfl rfl ?_
 refine WL.q (oq_assign rfl) rfl rfl rfl ?_
 refine WL.nil (WE.then_normal ?_)
 refine WC.cond_f rfl ?_
 refine WC.seq (WC.region ?_)
 refine WL.q ((oq_eql rfl rfl).to (v' := .bool false) (congrArg Value.bool (decide_eq_false (by omega)))) rfl rfl rfl ?_
 refine WL.q (oq_assign rfl) rfl rfl rfl ?_
 refine WL.nil (WE.then_normal ?_)
 refine WC.cond_f rfl ?_
 refine WC.seq (WC.region ?_)
 refine WL.q ((oq_eql rfl rfl).to (v' := .bool false) (congrArg Value.bool (decide_eq_false (by omega)))) rfl rfl rfl ?_
 refine WL.q (oq_assign rfl) rfl rfl rfl ?_
 refine WL.nil (WE.then_normal ?_)
 refine WC.cond_f rfl ?_
 refine WC.seq (WC.region ?_)
 refine WL.q ((oq_eql rfl rfl).to (v' := .bool false) (congrArg Value.bool (decide_eq_false (by omega)))) rfl rfl rfl ?_
 refine WL.q (oq_assign rfl) rfl rfl rfl ?_
 refine WL.nil (WE.then_normal ?_)
 refine WC.cond_f rfl ?_
 refine WC.seq (WC.region ?_)
 refine WL.q ((oq_eql rfl rfl).to (v' := .bool false) (congrArg Value.bool (decide_eq_false (by omega)))) rfl rfl rfl ?_
 refine WL.q (oq_assign rfl) rfl rfl rfl ?_
 refine WL.nil (WE.then_normal ?_)
 refine WC.cond_f rfl ?_
 refine WC.seq (WC.region ?_)
 refine WL.q ((oq_eql rfl rfl).to (v' := .bool false) (congrArg Value.bool (decide_eq_false (by omega)))) rfl rfl rfl ?_
 refine WL.q (oq_assign rfl) rfl rfl rfl ?_
 refine WL.nil (WE.then_normal ?_)
 refine WC.cond_f rfl ?_
 refine WC.seq (WC.region ?_)
 refine WL.q ((oq_eql rfl rfl).to (v' := .bool false) (congrArg Value.bool (decide_eq_false (by omega)))) rfl rfl rfl ?_
 refine WL.q (oq_assign rfl) rfl rfl rfl ?_
 refine WL.nil (WE.then_normal ?_)
 refine WC.cond_f rfl ?_
 refine WC.seq (WC.region ?_)
 refine WL.q ((oq_eql rfl rfl).to (v' := .bool false) (congrArg Value.bool (decide_eq_false (by omega)))) rfl rfl rfl ?_
 refine WL.q (oq_assign rfl) rfl rfl rfl ?_
 refine WL.nil (WE.then_normal ?_)
 refine WC.cond_f rfl ?_
 refine WC.seq (WC.region ?_)
 refine WL.q ((oq_eql rfl rfl).to (v' := .bool false) (congrArg Value.bool (decide_eq_false (by omega)))) rfl rfl rfl ?_
 refine WL.q (oq_assign rfl) rfl rfl rfl ?_
 refine WL.nil (WE.then_normal ?_)
 refine WC.cond_f rfl ?_
 refine WC.seq (WC.region ?_)
 refine WL.q ((oq_eql rfl rfl).to (v' := .bool false) (congrArg Value.bool (decide_eq_false (by omega)))) rfl rfl rfl ?_
 refine WL.q (oq_assign rfl) rfl rfl rfl ?_
 refine WL.nil (WE.then_normal ?_)
 refine WC.cond_f rfl ?_
 refine WC.seq (WC.region ?_)
 refine WL.q ((oq_eql rfl rfl).to (v' := .bool false) (congrArg Value.bool (decide_eq_false (by omega)))) rfl rfl rfl ?_
 refine WL.q (oq_assign rfl) rfl rfl rfl ?_
 refine WL.nil (WE.then_normal ?_)
 refine WC.cond_f rfl ?_
 refine WC.seq (WC.region ?_)
 refine WL.q ((oq_eql rfl rfl).to (v' := .bool false) (congrArg Value.bool (decide_eq_false (by omega)))) rfl rfl rfl ?_
 refine WL.q (oq_assign rfl) rfl rfl rfl ?_
 refine WL.nil (WE.then_normal ?_)
 refine WC.cond_f rfl ?_
 refine WC.seq (WC.seq (WC.region ?_))
 refine WL.q ((oq_eql rfl rfl).to (v' := .bool false) (congrArg Value.bool (decide_eq_false (by omega)))) rfl rfl rfl ?_
 refine WL.q (oq_assign rfl) rfl rfl rfl ?_
 refine WL.nil (WE.then_normal ?_)
 refine WC.cond_f rfl ?_
 refine WC.region ?_
 refine WL.q ((oq_eql rfl rfl).to (v' := .bool false) (congrArg Value.bool (decide_eq_false (by omega)))) rfl rfl rfl ?_
 refine WL.q (oq_assign rfl) rfl rfl rfl ?_
 refine WL.nil (WE.then_normal ?_)
 refine WC.cond_f rfl ?_
 refine WC.skip (WE.block_normal (WE.block_normal (WE.then_normal (WC.region ?_))))
 refine WL.q (oq_move rfl) rfl rfl rfl ?_
 refine WL.q ((oq_add rfl rfl (by rw [i64_lo, i64_hi]; omega)).to (v' := I 1) rfl) rfl rfl rfl ?_
 refine WL.q (oq_assign rfl) rfl rfl rfl ?_
 refine WL.nil ?_
 refine WE.round ?_
 refine WC.sub (fr' := [(0, _), (5, _)]) ?_ ⟨rfl, rfl, trivial⟩
 refine WC.seq (WC.seq (WC.region ?_))
 refine WL.q (oq_move rfl) rfl rfl rfl ?_
 refine WL.q (oq_move rfl) rfl rfl rfl ?_
 refine WL.q ((oq_len_s Tryd.underlying9 rfl).to (v' := I 10) rfl) rfl rfl rfl ?_
 refine WL.q ((oq_lss rfl rfl).to (v' := .bool true) (congrArg Value.bool (decide_eq_true (by omega)))) rfl rfl rfl ?_
 refine WL.nil (WE.then_normal ?_)
 refine WC.cond_t rfl ?_
 refine WC.skip (WE.then_normal (WC.seq (WC.block (WC.seq (WC.region ?_)))))
 refine WL.q (oq_move rfl) rfl rfl rfl ?_
 refine WL.q (oq_move rfl) rfl rfl rfl ?_
 refine WL.q ((oq_index_s Tryd.underlying9 rfl rfl (by decide)).to (v' := .int .u8 48) rfl) rfl rfl rfl ?_
 refine WL.q (oq_conv Tryd.underlying5 Tryd.underlying3 rfl (by rw [i64_lo, i64_hi]; omega)) rfl rfl rfl ?_
 refine WL.q (oq_assign rfl) rfl rfl rfl ?_
 refine WL.nil (WE.then_normal (WC.seq (WC.region ?_)))
 refine WL.q (oq_move rfl) rfl rfl rfl ?_
 refine WL.nil (WE.then_normal (WC.block (WC.seq (WC.region ?_))))
 refine WL.q ((oq_eql rfl rfl).to (v' := .bool false) (congrArg Value.bool (decide_eq_false (by omega)))) rfl rfl rfl ?_
 refine WL.q (oq_assign rfl) rfl rfl rfl ?_
 refine WL.nil (WE.then_normal ?_)
 refine WC.cond_f rfl ?_
 refine WC.seq (WC.region ?_)
 refine WL.q ((oq_eql rfl rfl).to (v' := .bool false) (congrArg Value.bool (decide_eq_false (by omega)))) rfl rfl rfl ?_
 refine WL.q (oq_assign rfl) rfl rfl rfl ?_
 refine WL.nil (WE.then_normal (WC.sub (fr' := [(0, _), (5, _), (6, _), (21, _), (70, _)]) ?_ ⟨rfl, rfl, rfl, rfl, rfl, trivial⟩))
 refine WC.cond_f rfl ?_
 refine WC.seq (WC.region ?_)
 refine WL.q ((oq_eql rfl rfl).to (v' := .bool true) (congrArg Value.bool (decide_eq_true (by omega)))) rfl rfl rfl ?_
 refine WL.q (oq_assign rfl) rfl rfl rfl ?_
 refine WL.nil (WE.then_normal ?_)
 refine WC.cond_t rfl ?_
 refine WC.seq (WC.seq (WC.region ?_))
 refine WL.q (oq_move rfl) rfl rfl rfl ?_
 refine WL.q ((oq_len_s Tryd.underlying9 rfl).to (v' := I 10) rfl) rfl rfl rfl ?_
 refine WL.q (oq_move rfl) rfl rfl rfl ?_
 refine WL.q ((oq_add rfl rfl (by rw [i64_lo, i64_hi]; omega)).to (v' := I 3) rfl) rfl rfl rfl ?_
 refine WL.q ((oq_geq rfl rfl).to (v' := .bool true) (congrArg Value.bool (decide_eq_true (by omega)))) rfl rfl rfl ?_
 refine WL.q (oq_move rfl) rfl rfl rfl ?_
 refine WL.q (oq_move rfl) rfl rfl rfl ?_
 refine WL.q (oq_move rfl) rfl rfl rfl ?_
 refine WL.q ((oq_add rfl rfl (by rw [i64_lo, i64_hi]; omega)).to (v' := I 2) rfl) rfl rfl rfl ?_
 refine WL.q ((oq_index_s Tryd.underlying9 rfl rfl (by decide)).to (v' := .int .u8 52) rfl) rfl rfl rfl ?_
 refine WL.q ((oq_leq rfl rfl).to (v' := .bool true) (congrArg Value.bool (decide_eq_true (by omega)))) rfl rfl rfl ?_
 refine WL.q (oq_pick_t rfl rfl) rfl rfl rfl ?_
 refine WL.q (oq_move rfl) rfl rfl rfl ?_
 refine WL.q (oq_move rfl) rfl rfl rfl ?_
 refine WL.q (oq_move rfl) rfl rfl rfl ?_
 refine WL.q ((oq_add rfl rfl (by rw [i64_lo, i64_hi]; omega)).to (v' := I 2) rfl) rfl rfl rfl ?_
 refine WL.q ((oq_index_s Tryd.underlying9 rfl rfl (by decide)).to (v' := .int .u8 52) rfl) rfl rfl rfl ?_
 refine WL.q ((oq_leq rfl rfl).to (v' := .bool true) (congrArg Value.bool (decide_eq_true (by omega)))) rfl rfl rfl ?_
 refine WL.q (oq_pick_t rfl rfl) rfl rfl rfl ?_
 refine WL.nil (WE.then_normal ?_)
 refine WC.cond_t rfl ?_
 refine WC.seq (WC.quiet (by kernel_rfl) (by kernel_rfl) ?_)
 refine WQ.q (oq_move rfl) rfl rfl rfl ?_
 refine WQ.q (oq_move rfl) rfl rfl rfl ?_
 refine WQ.q ((oq_slice_s2 Tryd.underlying9 rfl rfl rfl (by decide)).to (v' := S [58]) rfl) rfl rfl rfl ?_
 refine WQ.q (oq_move rfl) rfl rfl rfl ?_
 refine WQ.q (oq_move rfl) rfl rfl rfl ?_
 refine WQ.q ((oq_add rfl rfl (by rw [i64_lo, i64_hi]; omega)).to (v' := I 2) rfl) rfl rfl rfl ?_
 refine WQ.q ((oq_index_s Tryd.underlying9 rfl rfl (by decide)).to (v' := .int .u8 52) rfl) rfl rfl rfl ?_
 refine WQ.q ((oq_sub rfl rfl (by rw [u8_lo, u8_hi]; omega)).to (v' := .int .u8 3) rfl) rfl rfl rfl ?_
 refine WQ.q (oq_ixArr (i := 3) (b := 3) (off := 0) Tryd.underlying85 ty3 rfl rfl (by decide)) rfl rfl rfl ?_
 refine WQ.q ((oq_load flat3 rfl (.head _) hm rfl).to (v' := I 1040) rfl) rfl rfl rfl ?_
 refine WQ.q (oq_move rfl) rfl rfl rfl ?_
 refine WQ.q (oq_move rfl) rfl rfl rfl ?_
 refine WQ.q ((oq_add rfl rfl (by rw [i64_lo, i64_hi]; omega)).to (v' := I 3) rfl) rfl rfl rfl ?_
 refine WQ.q ((oq_slice_s1 Tryd.underlying9 rfl rfl (by decide)).to (v' := S [58, 48, 53, 32, 77, 83, 84]) rfl) rfl rfl rfl ?_
 refine WQ.q (oq_assign rfl) rfl rfl rfl ?_
 refine WQ.q (oq_assign rfl) rfl rfl rfl ?_
 refine WQ.q (oq_assign rfl) rfl rfl rfl ?_
 refine WQ.nil (WE.then_normal (WC.ret (WE.then_ret (WE.block_ret (WE.block_ret (WE.then_ret (WE.then_ret (WE.block_ret (WE.then_ret ?_)))))))))
 refine WE.endR (.inl rfl) (res3 Tryd.results35 rfl rfl rfl) ?_
 rfl
set_option maxHeartbeats 2000000 in
theorem ch17 (G : Hp) (hT : Tab0 G) : FnR Tryd.prog 35 [S [77, 111, 110, 32, 74, 97, 110, 32, 95, 50, 32, 49, 53, 58, 48, 52, 58, 48, 53, 32, 50, 48, 48, 54]] G (.tuple #[S [], I 262, S [32, 74, 97, 110, 32, 95, 50, 32, 49, 53, 58, 48, 52, 58, 48, 53, 32, 50, 48, 48, 54]]) := by
 obtain ⟨t0, f0, hm⟩ := hT
 refine FnR.enter (n := 654) Tryd.func35 rfl rfl fun w0 => ?_
 refine WC.sub (fr' := [(0, _)]) ?_ ⟨rfl, trivial⟩
 refine WC.seq (WC.region ?_)
 refine WL.q (oq_assign rfl) rfl rfl rfl ?_
 refine WL.q (oq_assign rfl) rfl rfl rfl ?_
 refine WL.q (oq_assign rfl) rfl rfl rfl ?_
 refine WL.nil (WE.then_normal (WC.seq (WC.seq (WC.region ?_))))
 refine WL.q (oq_assign rfl) rfl rfl rfl ?_
 refine WL.nil (WE.then_normal (WC.block ?_))
 refine WC.unroll ?_
 refine WC.seq (WC.seq (WC.region ?_))
 refine WL.q (oq_move rfl) rfl rfl rfl ?_
 refine WL.q (oq_move rfl) rfl rfl rfl ?_
 refine WL.q ((oq_len_s Tryd.underlying9 rfl).to (v' := I 24) rfl) rfl rfl rfl ?_
 refine WL.q ((oq_lss rfl rfl).to (v' := .bool true) (congrArg Value.bool (decide_eq_true (by omega)))) rfl rfl rfl ?_
 refine WL.nil (WE.then_normal ?_)
 refine WC.cond_t rfl ?_
 refine WC.skip (WE.then_normal (WC.seq (WC.block (WC.seq (WC.region ?_)))))
 refine WL.q (oq_move rfl) rfl rfl rfl ?_
 refine WL.q (oq_move rfl) rfl rfl rfl ?_
 refine WL.q ((oq_index_s Tryd.underlying9 rfl rfl (by decide)).to (v' := .int .u8 77) rfl) rfl rfl rfl ?_
 refine WL.q (oq_conv Tryd.underlying5 Tryd.underlying3 rfl (by rw [i64_lo, i64_hi]; omega)) rfl rfl rfl ?_
 refine WL.q (oq_assign rfl) rfl rfl rfl ?_
 refine WL.nil (WE.then_normal (WC.seq (WC.region ?_)))
 refine WL.q (oq_move rfl) rfl rfl rfl ?_
 refine WL.nil (WE.then_normal (WC.block (WC.seq (WC.region ?_))))
 refine WL.q ((oq_eql rfl rfl).to (v' := .bool false) (congrArg Value.bool (decide_eq_false (by omega)))) rfl rfl rfl ?_
 refine WL.q (oq_assign rfl) rfl rfl rfl ?_
 refine WL.nil (WE.then_normal ?_)
 refine WC.cond_f rfl ?_
 refine WC.seq (WC.region ?_)
 refine WL.q ((oq_eql rfl rfl).to (v' := .bool true) (congrArg Value.bool (decide_eq_true (by omega)))) rfl rfl rfl ?_
 refine WL.q (oq_assign rfl) rfl rfl rfl ?_
 refine WL.nil (WE.then_normal ?_)
 refine WC.cond_t rfl ?_
 refine WC.seq (WC.region ?_)
 refine WL.q (oq_move rfl) rfl rfl rfl ?_
 refine WL.q ((oq_len_s Tryd.underlying9 rfl).to (v' := I 24) rfl) rfl rfl rfl ?_
 refine WL.q (oq_move rfl) rfl rfl rfl ?_
 refine WL.q ((oq_add rfl rfl (by rw [i64_lo, i64_hi]; omega)).to (v' := I 3) rfl) rfl rfl rfl ?_
 refine WL.q ((oq_geq rfl rfl).to (v' := .bool true) (congrArg Value.bool (decide_eq_true (by omega)))) rfl rfl rfl ?_
 refine WL.nil (WE.then_normal ?_)
 refine WC.cond_t rfl ?_
 refine WC.seq (WC.seq (WC.region ?_))
 refine WL.q (oq_move rfl) rfl rfl rfl ?_
 refine WL.q (oq_move rfl) rfl rfl rfl ?_
 refine WL.q (oq_move rfl) rfl rfl rfl ?_
 refine WL.q ((oq_add rfl rfl (by rw [i64_lo, i64_hi]; omega)).to (v' := I 3) rfl) rfl rfl rfl ?_
 refine WL.q ((oq_slice_s2 Tryd.underlying9 rfl rfl rfl (by decide)).to (v' := S [77, 111, 110]) rfl) rfl rfl rfl ?_
 refine WL.q ((oq_seql rfl rfl).to (v' := .bool true) (by kernel_rfl)) rfl rfl rfl ?_
 refine WL.nil (WE.then_normal ?_)
 refine WC.cond_t rfl ?_
 refine WC.seq (WC.seq (WC.region ?_))
 refine WL.q (oq_move rfl) rfl rfl rfl ?_
 refine WL.q ((oq_len_s Tryd.underlying9 rfl).to (v' := I 24) rfl) rfl rfl rfl ?_
 refine WL.q (oq_move rfl) rfl rfl rfl ?_
 refine WL.q ((oq_add rfl rfl (by rw [i64_lo, i64_hi]; omega)).to (v' := I 6) rfl) rfl rfl rfl ?_
 refine WL.q ((oq_geq rfl rfl).to (v' := .bool true) (congrArg Value.bool (decide_eq_true (by omega)))) rfl rfl rfl ?_
 refine WL.q (oq_move rfl) rfl rfl rfl ?_
 refine WL.q (oq_move rfl) rfl rfl rfl ?_
 refine WL.q (oq_move rfl) rfl rfl rfl ?_
 refine WL.q (oq_move rfl) rfl rfl rfl ?_
 refine WL.q ((oq_add rfl rfl (by rw [i64_lo, i64_hi]; omega)).to (v' := I 6) rfl) rfl rfl rfl ?_
 refine WL.q ((oq_slice_s2 Tryd.underlying9 rfl rfl rfl (by decide)).to (v' := S [77, 111, 110, 32, 74, 97]) rfl) rfl rfl rfl ?_
 refine WL.q ((oq_seql rfl rfl).to (v' := .bool false) (by kernel_rfl)) rfl rfl rfl ?_
 refine WL.q (oq_pick_t rfl rfl) rfl rfl rfl ?_
 refine WL.nil (WE.then_normal ?_)
 refine WC.cond_f rfl ?_
 refine WC.skip (WE.then_normal (WC.seq (WC.region ?_)))
 refine WL.q (oq_move rfl) rfl rfl rfl ?_
 refine WL.q (oq_move rfl) rfl rfl rfl ?_
 refine WL.q ((oq_add rfl rfl (by rw [i64_lo, i64_hi]; omega)).to (v' := I 3) rfl) rfl rfl rfl ?_
 refine WL.q ((oq_slice_s1 Tryd.underlying9 rfl rfl (by decide)).to (v' := S [32, 74, 97, 110, 32, 95, 50, 32, 49, 53, 58, 48, 52, 58, 48, 53, 32, 50, 48, 48, 54]) rfl) rfl rfl rfl ?_
 refine WL.qc (oq_call (swlF 32 [74, 97, 110, 32, 95, 50, 32, 49, 53, 58, 48, 52, 58, 48, 53, 32, 50, 48, 48, 54] (by decide) (by decide)) call51 rfl) rfl rfl rfl ?_
 refine WL.q ((oq_not rfl).to (v' := .bool true) rfl) rfl rfl rfl ?_
 refine WL.nil (WE.then_normal ?_)
 refine WC.cond_t rfl ?_
 refine WC.seq (WC.quiet (by kernel_rfl) (by kernel_rfl) ?_)
 refine WQ.q (oq_move rfl) rfl rfl rfl ?_
 refine WQ.q (oq_move rfl) rfl rfl rfl ?_
 refine WQ.q ((oq_slice_s2 Tryd.underlying9 rfl rfl rfl (by decide)).to (v' := S []) rfl) rfl rfl rfl ?_
 refine WQ.q (oq_move rfl) rfl rfl rfl ?_
 refine WQ.q (oq_move rfl) rfl rfl rfl ?_
 refine WQ.q ((oq_add rfl rfl (by rw [i64_lo, i64_hi]; omega)).to (v' := I 3) rfl) rfl rfl rfl ?_
 refine WQ.q ((oq_slice_s1 Tryd.underlying9 rfl rfl (by decide)).to (v' := S [32, 74, 97, 110, 32, 95, 50, 32, 49, 53, 58, 48, 52, 58, 48, 53, 32, 50, 48, 48, 54]) rfl) rfl rfl rfl ?_
 refine WQ.q (oq_assign rfl) rfl rfl rfl ?_
 refine WQ.q (oq_assign rfl) rfl rfl rfl ?_
 refine WQ.q (oq_assign rfl) rfl rfl rfl ?_
 refine WQ.nil (WE.then_normal (WC.ret (WE.then_ret (WE.block_ret (WE.block_ret (WE.then_ret (WE.then_ret (WE.block_ret (WE.then_ret ?_)))))))))
 refine WE.endR (.inl rfl) (res3 Tryd.results35 rfl rfl rfl) ?_
 rfl
set_option maxHeartbeats 2000000 in
theorem ch21 (G : Hp) (hT : Tab0 G) : FnR Tryd.prog 35 [S [58, 48, 52, 58, 48, 53, 32, 50, 48, 48, 54]] G (.tuple #[S [58], I 1040, S [58, 48, 53, 32, 50, 48, 48, 54]]) := by
 obtain ⟨t0, f0, hm⟩ := hT
 refine FnR.enter (n := 654) Tryd.func35 rfl rfl fun w0 => ?_
 refine WC.sub (fr' := [(0, _)]) ?_ ⟨rfl, trivial⟩
 refine WC.seq (WC.region ?_)
 refine WL.q (oq_assign rfl) rfl rfl rfl ?_
 refine WL.q (oq_assign rfl) rfl rfl rfl ?_
 refine WL.q (oq_assign rfl) rfl rfl rfl ?_
 refine WL.nil (WE.then_normal (WC.seq (WC.seq (WC.region ?_))))
 refine WL.q (oq_assign rfl) rfl rfl rfl ?_
 refine WL.nil (WE.then_normal (WC.block ?_))
 refine WC.unroll ?_
 refine WC.seq (WC.seq (WC.region ?_))
 refine WL.q (oq_move rfl) rfl rfl rfl ?_
 refine WL.q (oq_move rfl) rfl rfl rfl ?_
 refine WL.q ((oq_len_s Tryd.underlying9 rfl).to (v' := I 11) rfl) rfl rfl rfl ?_
 refine WL.q ((oq_lss rfl rfl).to (v' := .bool true) (congrArg Value.bool (decide_eq_true (by omega)))) rfl rfl rfl ?_
 refine WL.nil (WE.then_normal ?_)
 refine WC.cond_t rfl ?_
 refine WC.skip (WE.then_normal (WC.seq (WC.block (WC.seq (WC.region ?_)))))
 refine WL.q (oq_move rfl) rfl rfl rfl ?_
 refine WL.q (oq_move rfl) rfl rfl rfl ?_
 refine WL.q ((oq_index_s Tryd.underlying9 rfl rfl (by decide)).to (v' := .int .u8 58) rfl) rfl rfl rfl ?_
 refine WL.q (oq_conv Tryd.underlying5 Tryd.underlying3 rfl (by rw [i64_lo, i64_hi]; omega)) rfl rfl rfl ?_
 refine WL.q (oq_assign rfl) rfl rfl rfl ?_
 refine WL.nil (WE.then_normal (WC.seq (WC.region ?_)))
 refine WL.q (oq_move rfl) rfl rfl rfl ?_
 refine WL.nil (WE.then_normal (WC.block (WC.seq (WC.region ?_))))
 refine WL.q ((oq_eql rfl rfl).to (v' := .bool false) (congrArg Value.bool (decide_eq_false (by omega)))) rfl rfl rfl ?_
 refine WL.q (oq_assign rfl) rfl rfl rfl ?_
 refine WL.nil (WE.then_normal ?_)
 refine WC.cond_f rfl ?_
 refine WC.seq (WC.region ?_)
 refine WL.q ((oq_eql rfl rfl).to (v' := .bool false) (congrArg Value.bool (decide_eq_false (by omega)))) rfl rfl rfl ?_
 refine WL.q (oq_assign rfl) rfl rfl rfl ?_
 refine WL.nil (WE.then_normal ?_)
 refine WC.cond_f rfl ?_
 refine WC.seq (WC.region ?_)
 refine WL.q ((oq_eql rfl rfl).to (v' := .bool false) (congrArg Value.bool (decide_eq_false (by omega)))) rfl rfl rfl ?_
 refine WL.q (oq_assign rfl) rfl rfl rfl ?_
 refine WL.nil (WE.then_normal ?_)
 refine WC.cond_f rfl ?_
 refine WC.seq (WC.region ?_)
 refine WL.q ((oq_eql rfl rfl).to (v' := .bool false) (congrArg Value.bool (decide_eq_false (by omega)))) rfl rfl rfl ?_
 refine WL.q (oq_assign rfl) rfl rfl rfl ?_
 refine WL.nil (WE.then_normal ?_)
 refine WC.cond_f rfl ?_
 refine WC.seq (WC.region ?_)
 refine WL.q ((oq_eql rfl rfl).to (v' := .bool false) (congrArg Value.bool (decide_eq_false (by omega)))) rfl rfl rfl ?_
 refine WL.q (oq_assign rfl) rfl rfl rfl ?_
 refine WL.nil (WE.then_normal ?_)
 refine WC.cond_f rfl ?_
 refine WC.seq (WC.region ?_)
 refine WL.q ((oq_eql rfl rfl).to (v' := .bool false) (congrArg Value.bool (decide_eq_false (by omega)))) rfl rfl rfl ?_
 refine WL.q (oq_assign rfl) rfl rfl rfl ?_
 refine WL.nil (WE.then_normal ?_)
 refine WC.cond_f rfl ?_
 refine WC.seq (WC.region ?_)
 refine WL.q ((oq_eql rfl rfl).to (v' := .bool false) (congrArg Value.bool (decide_eq_false (by omega)))) rfl rfl rfl ?_
 refine WL.q (oq_assign rfl) rfl rfl rfl ?_
 refine WL.nil (WE.then_normal ?_)
 refine WC.cond_f rfl ?_
 refine WC.seq (WC.region ?_)
 refine WL.q ((oq_eql rfl rfl).to (v' := .bool false) (congrArg Value.bool (decide_eq_false (by omega)))) rfl rfl rfl ?_
 refine WL.q (oq_assign rfl) rfl rfl rfl ?_
 refine WL.nil (WE.then_normal ?_)
 refine WC.cond_f rfl ?_
 refine WC.seq (WC.region ?_)
 refine WL.q ((oq_eql rfl rfl).to (v' := .bool false) (congrArg Value.bool (decide_eq_false (by omega)))) rfl rfl rfl ?_
 refine WL.q (oq_assign rfl) rfl rfl rfl ?_
 refine WL.nil (WE.then_normal ?_)
 refine WC.cond_f rfl ?_
 refine WC.seq (WC.region ?_)
 refine WL.q ((oq_eql rfl rfl).to (v' := .bool false) (congrArg Value.bool (decide_eq_false (by omega)))) rfl rfl rfl ?_
 refine WL.q (oq_assign rfl) rfl rfl rfl ?_
 refine WL.nil (WE.then_normal ?_)
 refine WC.cond_f rfl ?_
 refine WC.seq (WC.region ?_)
 refine WL.q ((oq_eql rfl rfl).to (v' := .bool false) (congrArg Value.bool (decide_eq_false (by omega)))) rfl rfl rfl ?_
 refine WL.q (oq_assign rfl) rfl rfl rfl ?_
 refine WL.nil (WE.then_normal ?_)
 refine WC.cond_f rfl ?_
 refine WC.seq (WC.region ?_)
 refine WL.q ((oq_eql rfl rfl).to (v' := .bool false) (congrArg Value.bool (decide_eq_false (by omega)))) rfl rfl rfl ?_
 refine WL.q (oq_assign rfl) rfl rfl rfl ?_
 refine WL.nil (WE.then_normal ?_)
 refine WC.cond_f rfl ?_
 refine WC.seq (WC.region ?_)
 refine WL.q ((oq_eql rfl rfl).to (v' := .bool false) (congrArg Value.bool (decide_eq_false (by omega)))) rfl rfl rfl ?_
 refine WL.q (oq_assign rfl) rfl rfl rfl ?_
 refine WL.nil (WE.then_normal ?_)
 refine WC.cond_f rfl ?_
 refine WC.seq (WC.seq (WC.region ?_))
 refine WL.q ((oq_eql rfl rfl).to (v' := .bool false) (congrArg Value.bool (decide_eq_false (by omega)))) rfl rfl rfl ?_
 refine WL.q (oq_assign rfl) rfl rfl rfl ?_
 refine WL.nil (WE.then_normal ?_)
 refine WC.cond_f rfl ?_
 refine WC.region ?_
 refine WL.q ((oq_eql rfl rfl).to (v' := .bool false) (congrArg Value.bool (decide_eq_false (by omega)))) rfl rfl rfl ?_
 refine WL.q (oq_assign rfl) rfl rfl rfl ?_
 refine WL.nil (WE.then_normal ?_)
 refine WC.cond_f rfl ?_
 refine WC.skip (WE.block_normal (WE.block_normal (WE.then_normal (WC.region ?_))))
 refine WL.q (oq_move rfl) rfl rfl rfl ?_
 refine WL.q ((oq_add rfl rfl (by rw [i64_lo, i64_hi]; omega)).to (v' := I 1) rfl) rfl rfl rfl ?_
 refine WL.q (oq_assign rfl) rfl rfl rfl ?_
 refine WL.nil ?_
 refine WE.round ?_
 refine WC.sub (fr' := [(0, _), (5, _)]) ?_ ⟨rfl, rfl, trivial⟩
 refine WC.seq (WC.seq (WC.region ?_))
 refine WL.q (oq_move rfl) rfl rfl rfl ?_
 refine WL.q (oq_move rfl) rfl rfl rfl ?_
 refine WL.q ((oq_len_s Tryd.underlying9 rfl).to (v' := I 11) rfl) rfl rfl rfl ?_
 refine WL.q ((oq_lss rfl rfl).to (v' := .bool true) (congrArg Value.bool (decide_eq_true (by omega)))) rfl rfl rfl ?_
 refine WL.nil (WE.then_normal ?_)
 refine WC.cond_t rfl ?_
 refine WC.skip (WE.then_normal (WC.seq (WC.block (WC.seq (WC.region ?_)))))
 refine WL.q (oq_move rfl) rfl rfl rfl ?_
 refine WL.q (oq_move rfl) rfl rfl rfl ?_
 refine WL.q ((oq_index_s Tryd.underlying9 rfl rfl (by decide)).to (v' := .int .u8 48) rfl) rfl rfl rfl ?_
 refine WL.q (oq_conv Tryd.underlying5 Tryd.underlying3 rfl (by rw [i64_lo, i64_hi]; omega)) rfl rfl rfl ?_
 refine WL.q (oq_assign rfl) rfl rfl rfl ?_
 refine WL.nil (WE.then_normal (WC.seq (WC.region ?_)))
 refine WL.q (oq_move rfl) rfl rfl rfl ?_
 refine WL.nil (WE.then_normal (WC.block (WC.seq (WC.region ?_))))
 refine WL.q ((oq_eql rfl rfl).to (v' := .bool false) (congrArg Value.bool (decide_eq_false (by omega)))) rfl rfl rfl ?_
 refine WL.q (oq_assign rfl) rfl rfl rfl ?_
 refine WL.nil (WE.then_normal ?_)
 refine WC.cond_f rfl ?_
 refine WC.seq (WC.region ?_)
 refine WL.q ((oq_eql rfl rfl).to (v' := .bool false) (congrArg Value.bool (decide_eq_false (by omega)))) rfl rfl rfl ?_
 refine WL.q (oq_assign rfl) rfl rfl rfl ?_
 refine WL.nil (WE.then_normal (WC.sub (fr' := [(0, _), (5, _), (6, _), (21, _), (70, _)]) ?_ ⟨rfl, rfl, rfl, rfl, rfl, trivial⟩))
 refine WC.cond_f rfl ?_
 refine WC.seq (WC.region ?_)
 refine WL.q ((oq_eql rfl rfl).to (v' := .bool true) (congrArg Value.bool (decide_eq_true (by omega)))) rfl rfl rfl ?_
 refine WL.q (oq_assign rfl) rfl rfl rfl ?_
 refine WL.nil (WE.then_normal ?_)
 refine WC.cond_t rfl ?_
 refine WC.seq (WC.seq (WC.region ?_))
 refine WL.q (oq_move rfl) rfl rfl rfl ?_
 refine WL.q ((oq_len_s Tryd.underlying9 rfl).to (v' := I 11) rfl) rfl rfl rfl ?_
 refine WL.q (oq_move rfl) rfl rfl rfl ?_
 refine WL.q ((oq_add rfl rfl (by rw [i64_lo, i64_hi]; omega)).to (v' := I 3) rfl) rfl rfl rfl ?_
 refine WL.q ((oq_geq rfl rfl).to (v' := .bool true) (congrArg Value.bool (decide_eq_true (by omega)))) rfl rfl rfl ?_
 refine WL.q (oq_move rfl) rfl rfl rfl ?_
 refine WL.q (oq_move rfl) rfl rfl rfl ?_
 refine WL.q (oq_move rfl) rfl rfl rfl ?_
 refine WL.q ((oq_add rfl rfl (by rw [i64_lo, i64_hi]; omega)).to (v' := I 2) rfl) rfl rfl rfl ?_
 refine WL.q ((oq_index_s Tryd.underlying9 rfl rfl (by decide)).to (v' := .int .u8 52) rfl) rfl rfl rfl ?_
 refine WL.q ((oq_leq rfl rfl).to (v' := .bool true) (congrArg Value.bool (decide_eq_true (by omega)))) rfl rfl rfl ?_
 refine WL.q (oq_pick_t rfl rfl) rfl rfl rfl ?_
 refine WL.q (oq_move rfl) rfl rfl rfl ?_
 refine WL.q (oq_move rfl) rfl rfl rfl ?_
 refine WL.q (oq_move rfl) rfl rfl rfl ?_
 refine WL.q ((oq_add rfl rfl (by rw [i64_lo, i64_hi]; omega)).to (v' := I 2) rfl) rfl rfl rfl ?_
 refine WL.q ((oq_index_s Tryd.underlying9 rfl rfl (by decide)).to (v' := .int .u8 52) rfl) rfl rfl rfl ?_
 refine WL.q ((oq_leq rfl rfl).to (v' := .bool true) (congrArg Value.bool (decide_eq_true (by omega)))) rfl rfl rfl ?_
 refine WL.q (oq_pick_t rfl rfl) rfl rfl rfl ?_
 refine WL.nil (WE.then_normal ?_)
 refine WC.cond_t rfl ?_
 refine WC.seq (WC.quiet (by kernel_rfl) (by kernel_rfl) ?_)
 refine WQ.q (oq_move rfl) rfl rfl rfl ?_
 refine WQ.q (oq_move rfl) rfl rfl rfl ?_
 refine WQ.q ((oq_slice_s2 Tryd.underlying9 rfl rfl rfl (by decide)).to (v' := S [58]) rfl) rfl rfl rfl ?_
 refine WQ.q (oq_move rfl) rfl rfl rfl ?_
 refine WQ.q (oq_move rfl) rfl rfl rfl ?_
 refine WQ.q ((oq_add rfl rfl (by rw [i64_lo, i64_hi]; omega)).to (v' := I 2) rfl) rfl rfl rfl ?_
 refine WQ.q ((oq_index_s Tryd.underlying9 rfl rfl (by decide)).to (v' := .int .u8 52) rfl) rfl rfl rfl ?_
 refine WQ.q ((oq_sub rfl rfl (by rw [u8_lo, u8_hi]; omega)).to (v' := .int .u8 3) rfl) rfl rfl rfl ?_
 refine WQ.q (oq_ixArr (i := 3) (b := 3) (off := 0) Tryd.underlying85 ty3 rfl rfl (by decide)) rfl rfl rfl ?_
 refine WQ.q ((oq_load flat3 rfl (.head _) hm rfl).to (v' := I 1040) rfl) rfl rfl rfl ?_
 refine WQ.q (oq_move rfl) rfl rfl rfl ?_
 refine WQ.q (oq_move rfl) rfl rfl rfl ?_
 refine WQ.q ((oq_add rfl rfl (by rw [i64_lo, i64_hi]; omega)).to (v' := I 3) rfl) rfl rfl rfl ?_
 refine WQ.q ((oq_slice_s1 Tryd.underlying9 rfl rfl (by decide)).to (v' := S [58, 48, 53, 32, 50, 48, 48, 54]) rfl) rfl rfl rfl ?_
 refine WQ.q (oq_assign rfl) rfl rfl rfl ?_
 refine WQ.q (oq_assign rfl) rfl rfl rfl ?_
 refine WQ.q (oq_assign rfl) rfl rfl rfl ?_
 refine WQ.nil (WE.then_normal (WC.ret (WE.then_ret (WE.block_ret (WE.block_ret (WE.then_ret (WE.then_ret (WE.block_ret (WE.then_ret ?_)))))))))
 refine WE.endR (.inl rfl) (res3 Tryd.results35 rfl rfl rfl) ?_
 rfl
set_option maxHeartbeats 2000000 in
theorem ch25 (G : Hp) (hT : Tab0 G) : FnR Tryd.prog 35 [S [44, 32, 95, 50, 32, 74, 97, 110, 32, 50, 48, 48, 54, 32, 49, 53, 58, 48, 52, 58, 48, 53, 32, 71, 77, 84]] G (.tuple #[S [44, 32], I 264, S [32, 74, 97, 110, 32, 50, 48, 48, 54, 32, 49, 53, 58, 48, 52, 58, 48, 53, 32, 71, 77, 84]]) := by
 obtain ⟨t0, f0, hm⟩ := hT
 refine FnR.enter (n := 654) Tryd.func35 rfl rfl fun w0 => ?_
 refine WC.sub (fr' := [(0, _)]) ?_ ⟨rfl, trivial⟩
 refine WC.seq (WC.region ?_)
 refine WL.q (oq_assign rfl) rfl rfl rfl ?_
 refine WL.q (oq_assign rfl) rfl rfl rfl ?_
 refine WL.q (oq_assign rfl) rfl rfl rfl ?_
 refine WL.nil (WE.then_normal (WC.seq (WC.seq (WC.region ?_))))
 refine WL.q (oq_assign rfl) rfl rfl rfl ?_
 refine WL.nil (WE.then_normal (WC.block ?_))
 refine WC.unroll ?_
 refine WC.seq (WC.seq (WC.region ?_))
 refine WL.q (oq_move rfl) rfl rfl rfl ?_
 refine WL.q (oq_move rfl) rfl rfl rfl ?_
 refine WL.q ((oq_len_s Tryd.underlying9 rfl).to (v' := I 26) rfl) rfl rfl rfl ?_
 refine WL.q ((oq_lss rfl rfl).to (v' := .bool true) (congrArg Value.bool (decide_eq_true (by omega)))) rfl rfl rfl ?_
 refine WL.nil (WE.then_normal ?_)
 refine WC.cond_t rfl ?_
 refine WC.skip (WE.then_normal (WC.seq (WC.block (WC.seq (WC.region ?_)))))
 refine WL.q (oq_move rfl) rfl rfl rfl ?_
 refine WL.q (oq_move rfl) rfl rfl rfl ?_
 refine WL.q ((oq_index_s Tryd.underlying9 rfl rfl (by decide)).to (v' := .int .u8 44) rfl) rfl rfl rfl ?_
 refine WL.q (oq_conv Tryd.underlying5 Tryd.underlying3 rfl (by rw [i64_lo, i64_hi]; omega)) rfl rfl rfl ?_
 refine WL.q (oq_assign rfl) rfl rfl rfl ?_
 refine WL.nil (WE.then_normal (WC.seq (WC.region ?_)))
 refine WL.q (oq_move rfl) rfl rfl rfl ?_
 refine WL.nil (WE.then_normal (WC.block (WC.seq (WC.region ?_))))
 refine WL.q ((oq_eql rfl rfl).to (v' := .bool false) (congrArg Value.bool (decide_eq_false (by omega)))) rfl rfl rfl ?_
 refine WL.q (oq_assign rfl) rfl rfl rfl ?_
 refine WL.nil (WE.then_normal ?_)
 refine WC.cond_f rfl ?_
 refine WC.seq (WC.region ?_)
 refine WL.q ((oq_eql rfl rfl).to (v' := .bool false) (congrArg Value.bool (decide_eq_false (by omega)))) rfl rfl rfl ?_
 refine WL.q (oq_assign rfl) rfl rfl rfl ?_
 refine WL.nil (WE.then_normal ?_)
 refine WC.cond_f rfl ?_
 refine WC.seq (WC.region ?_)
 refine WL.q ((oq_eql rfl rfl).to (v' := .bool false) (congrArg Value.bool (decide_eq_false (by omega)))) rfl rfl rfl ?_
 refine WL.q (oq_assign rfl) rfl rfl rfl ?_
 refine WL.nil (WE.then_normal ?_)
 refine WC.cond_f rfl ?_
 refine WC.seq (WC.region ?_)
 refine WL.q ((oq_eql rfl rfl).to (v' := .bool false) (congrArg Value.bool (decide_eq_false (by omega)))) rfl rfl rfl ?_
 refine WL.q (oq_assign rfl) rfl rfl rfl ?_
 refine WL.nil (WE.then_normal ?_)
 refine WC.cond_f rfl ?_
 refine WC.seq (WC.region ?_)
 refine WL.q ((oq_eql rfl rfl).to (v' := .bool false) (congrArg Value.bool (decide_eq_false (by omega)))) rfl rfl rfl ?_
 refine WL.q (oq_assign rfl) rfl rfl rfl ?_
 refine WL.nil (WE.then_normal ?_)
 refine WC.cond_f rfl ?_
 refine WC.seq (WC.region ?_)
 refine WL.q ((oq_eql rfl rfl).to (v' := .bool false) (congrArg Value.bool (decide_eq_false (by omega)))) rfl rfl rfl ?_
 refine WL.q (oq_assign rfl) rfl rfl rfl ?_
 refine WL.nil (WE.then_normal ?_)
 refine WC.cond_f rfl ?_
 refine WC.seq (WC.region ?_)
 refine WL.q ((oq_eql rfl rfl).to (v' := .bool false) (congrArg Value.bool (decide_eq_false (by omega)))) rfl rfl rfl ?_
 refine WL.q (oq_assign rfl) rfl rfl rfl ?_
 refine WL.nil (WE.then_normal ?_)
 refine WC.cond_f rfl ?_
 refine WC.seq (WC.region ?_)
 refine WL.q ((oq_eql rfl rfl).to (v' := .bool false) (congrArg Value.bool (decide_eq_false (by omega)))) rfl rfl rfl ?_
 refine WL.q (oq_assign rfl) rfl rfl rfl ?_
 refine WL.nil (WE.then_normal ?_)
 refine WC.cond_f rfl ?_
 refine WC.seq (WC.region ?_)
 refine WL.q ((oq_eql rfl rfl).to (v' := .bool false) (congrArg Value.bool (decide_eq_false (by omega)))) rfl rfl rfl ?_
 refine WL.q (oq_assign rfl) rfl rfl rfl ?_
 refine WL.nil (WE.then_normal ?_)
 refine WC.cond_f rfl ?_
 refine WC.seq (WC.region ?_)
 refine WL.q ((oq_eql rfl rfl).to (v' := .bool false) (congrArg Value.bool (decide_eq_false (by omega)))) rfl rfl rfl ?_
 refine WL.q (oq_assign rfl) rfl rfl rfl ?_
 refine WL.nil (WE.then_normal ?_)
 refine WC.cond_f rfl ?_
 refine WC.seq (WC.region ?_)
 refine WL.q ((oq_eql rfl rfl).to (v' := .bool false) (congrArg Value.bool (decide_eq_false (by omega)))) rfl rfl rfl ?_
 refine WL.q (oq_assign rfl) rfl rfl rfl ?_
 refine WL.nil (WE.then_normal ?_)
 refine WC.cond_f rfl ?_
 refine WC.seq (WC.region ?_)
 refine WL.q ((oq_eql rfl rfl).to (v' := .bool false) (congrArg Value.bool (decide_eq_false (by omega)))) rfl rfl rfl ?_
 refine WL.q (oq_assign rfl) rfl rfl rfl ?_
 refine WL.nil (WE.then_normal ?_)
 refine WC.cond_f rfl ?_
 refine WC.seq (WC.region ?_)
 refine WL.q ((oq_eql rfl rfl).to (v' := .bool false) (congrArg Value.bool (decide_eq_false (by omega)))) rfl rfl rfl ?_
 refine WL.q (oq_assign rfl) rfl rfl rfl ?_
 refine WL.nil (WE.then_normal ?_)
 refine WC.cond_f rfl ?_
 refine WC.seq (WC.seq (WC.region ?_))
 refine WL.q ((oq_eql rfl rfl).to (v' := .bool false) (congrArg Value.bool (decide_eq_false (by omega)))) rfl rfl rfl ?_
 refine WL.q (oq_assign rfl) rfl rfl rfl ?_
 refine WL.nil (WE.then_normal ?_)
 refine WC.cond_f rfl ?_
 refine WC.region ?_
 refine WL.q ((oq_eql rfl rfl).to (v' := .bool true) (congrArg Value.bool (decide_eq_true (by omega)))) rfl rfl rfl ?_
 refine WL.q (oq_assign rfl) rfl rfl rfl ?_
 refine WL.nil (WE.then_normal ?_)
 refine WC.cond_t rfl ?_
 refine WC.seq (WC.region ?_)
 refine WL.q (oq_move rfl) rfl rfl rfl ?_
 refine WL.q ((oq_add rfl rfl (by rw [i64_lo, i64_hi]; omega)).to (v' := I 1) rfl) rfl rfl rfl ?_
 refine WL.q (oq_move rfl) rfl rfl rfl ?_
 refine WL.q ((oq_len_s Tryd.underlying9 rfl).to (v' := I 26) rfl) rfl rfl rfl ?_
 refine WL.q ((oq_lss rfl rfl).to (v' := .bool true) (congrArg Value.bool (decide_eq_true (by omega)))) rfl rfl rfl ?_
 refine WL.q (oq_move rfl) rfl rfl rfl ?_
 refine WL.q (oq_move rfl) rfl rfl rfl ?_
 refine WL.q (oq_move rfl) rfl rfl rfl ?_
 refine WL.q ((oq_add rfl rfl (by rw [i64_lo, i64_hi]; omega)).to (v' := I 1) rfl) rfl rfl rfl ?_
 refine WL.q ((oq_index_s Tryd.underlying9 rfl rfl (by decide)).to (v' := .int .u8 32) rfl) rfl rfl rfl ?_
 refine WL.q ((oq_eql rfl rfl).to (v' := .bool false) (congrArg Value.bool (decide_eq_false (by omega)))) rfl rfl rfl ?_
 refine WL.q (oq_move rfl) rfl rfl rfl ?_
 refine WL.q (oq_move rfl) rfl rfl rfl ?_
 refine WL.q (oq_move rfl) rfl rfl rfl ?_
 refine WL.q ((oq_add rfl rfl (by rw [i64_lo, i64_hi]; omega)).to (v' := I 1) rfl) rfl rfl rfl ?_
 refine WL.q ((oq_index_s Tryd.underlying9 rfl rfl (by decide)).to (v' := .int .u8 32) rfl) rfl rfl rfl ?_
 refine WL.q ((oq_eql rfl rfl).to (v' := .bool false) (congrArg Value.bool (decide_eq_false (by omega)))) rfl rfl rfl ?_
 refine WL.q (oq_pick_f rfl rfl) rfl rfl rfl ?_
 refine WL.q (oq_pick_t rfl rfl) rfl rfl rfl ?_
 refine WL.nil (WE.then_normal (WC.sub (fr' := [(0, _), (5, _), (6, _), (610, _)]) ?_ ⟨rfl, rfl, rfl, rfl, trivial⟩))
 refine WC.cond_f rfl ?_
 refine WC.skip (WE.block_normal (WE.block_normal (WE.then_normal (WC.region ?_))))
 refine WL.q (oq_move rfl) rfl rfl rfl ?_
 refine WL.q ((oq_add rfl rfl (by rw [i64_lo, i64_hi]; omega)).to (v' := I 1) rfl) rfl rfl rfl ?_
 refine WL.q (oq_assign rfl) rfl rfl rfl ?_
 refine WL.nil ?_
 refine WE.round ?_
 refine WC.sub (fr' := [(0, _), (5, _)]) ?_ ⟨rfl, rfl, trivial⟩
 refine WC.seq (WC.seq (WC.region ?_))
 refine WL.q (oq_move rfl) rfl rfl rfl ?_
 refine WL.q (oq_move rfl) rfl rfl rfl ?_
 refine WL.q ((oq_len_s Tryd.underlying9 rfl).to (v' := I 26) rfl) rfl rfl rfl ?_
 refine WL.q ((oq_lss rfl rfl).to (v' := .bool true) (congrArg Value.bool (decide_eq_true (by omega)))) rfl rfl rfl ?_
 refine WL.nil (WE.then_normal ?_)
 refine WC.cond_t rfl ?_
 refine WC.skip (WE.then_normal (WC.seq (WC.block (WC.seq (WC.region ?_)))))
 refine WL.q (oq_move rfl) rfl rfl rfl ?_
 refine WL.q (oq_move rfl) rfl rfl rfl ?_
 refine WL.q ((oq_index_s Tryd.underlying9 rfl rfl (by decide)).to (v' := .int .u8 32) rfl) rfl rfl rfl ?_
 refine WL.q (oq_conv Tryd.underlying5 Tryd.underlying3 rfl (by rw [i64_lo, i64_hi]; omega)) rfl rfl rfl ?_
 refine WL.q (oq_assign rfl) rfl rfl rfl ?_
 refine WL.nil (WE.then_normal (WC.seq (WC.region ?_)))
 refine WL.q (oq_move rfl) rfl rfl rfl ?_
 refine WL.nil (WE.then_normal (WC.block (WC.seq (WC.region ?_))))
 refine WL.q ((oq_eql rfl rfl).to (v' := .bool false) (congrArg Value.bool (decide_eq_false (by omega)))) rfl rfl rfl ?_
 refine WL.q (oq_assign rfl) rfl rfl rfl ?_
 refine WL.nil (WE.then_normal ?_)
 refine WC.cond_f rfl ?_
 refine WC.seq (WC.region ?_)
 refine WL.q ((oq_eql rfl rfl).to (v' := .bool false) (congrArg Value.bool (decide_eq_false (by omega)))) rfl rfl rfl ?_
 refine WL.q (oq_assign rfl) rfl rfl rfl ?_
 refine WL.nil (WE.then_normal ?_)
 refine WC.cond_f rfl ?_
 refine WC.seq (WC.region ?_)
 refine WL.q ((oq_eql rfl rfl).to (v' := .bool false) (congrArg Value.bool (decide_eq_false (by omega)))) rfl rfl rfl ?_
 refine WL.q (oq_assign rfl) rfl rfl rfl ?_
 refine WL.nil (WE.then_normal ?_)
 refine WC.cond_f rfl ?_
 refine WC.seq (WC.region ?_)
 refine WL.q ((oq_eql rfl rfl).to (v' := .bool false) (congrArg Value.bool (decide_eq_false (by omega)))) rfl rfl rfl ?_
 refine WL.q (oq_assign rfl) rfl rfl rfl ?_
 refine WL.nil (WE.then_normal ?_)
 refine WC.cond_f rfl ?_
 refine WC.seq (WC.region ?_)
 refine WL.q ((oq_eql rfl rfl).to (v' := .bool false) (congrArg Value.bool (decide_eq_false (by omega)))) rfl rfl rfl ?_
 refine WL.q (oq_assign rfl) rfl rfl rfl ?_
 refine WL.nil (WE.then_normal ?_)
 refine WC.cond_f rfl ?_
 refine WC.seq (WC.region ?_)
 refine WL.q ((oq_eql rfl rfl).to (v' := .bool false) (congrArg Value.bool (decide_eq_false (by omega)))) rfl rfl rfl ?_
 refine WL.q (oq_assign rfl) rfl rfl rfl ?_
 refine WL.nil (WE.then_normal ?_)
 refine WC.cond_f rfl ?_
 refine WC.seq (WC.region ?_)
 refine WL.q ((oq_eql rfl rfl).to (v' := .bool false) (congrArg Value.bool (decide_eq_false (by omega)))) rfl rfl rfl ?_
 refine WL.q (oq_assign rfl) rfl rfl rfl ?_
 refine WL.nil (WE.then_normal ?_)
 refine WC.cond_f rfl ?_
 refine WC.seq (WC.region ?_)
 refine WL.q ((oq_eql rfl rfl).to (v' := .bool false) (congrArg Value.bool (decide_eq_false (by omega)))) rfl rfl rfl ?_
 refine WL.q (oq_assign rfl) rfl rfl rfl ?_
 refine WL.nil (WE.then_normal ?_)
 refine WC.cond_f rfl ?_
 refine WC.seq (WC.region ?_)
 refine WL.q ((oq_eql rfl rfl).to (v' := .bool false) (congrArg Value.bool (decide_eq_false (by omega)))) rfl rfl rfl ?_
 refine WL.q (oq_assign rfl) rfl rfl rfl ?_
 refine WL.nil (WE.then_normal ?_)
 refine WC.cond_f rfl ?_
 refine WC.seq (WC.region ?_)
 refine WL.q ((oq_eql rfl rfl).to (v' := .bool false) (congrArg Value.bool (decide_eq_false (by omega)))) rfl rfl rfl ?_
 refine WL.q (oq_assign rfl) rfl rfl rfl ?_
 refine WL.nil (WE.then_normal ?_)
 refine WC.cond_f rfl ?_
 refine WC.seq (WC.region ?_)
 refine WL.q ((oq_eql rfl rfl).to (v' := .bool false) (congrArg Value.bool (decide_eq_false (by omega)))) rfl rfl rfl ?_
 refine WL.q (oq_assign rfl) rfl rfl rfl ?_
 refine WL.nil (WE.then_normal ?_)
 refine WC.cond_f rfl ?_
 refine WC.seq (WC.region ?_)
 refine WL.q ((oq_eql rfl rfl).to (v' := .bool false) (congrArg Value.bool (decide_eq_false (by omega)))) rfl rfl rfl ?_
 refine WL.q (oq_assign rfl) rfl rfl rfl ?_
 refine WL.nil (WE.then_normal ?_)
 refine WC.cond_f rfl ?_
 refine WC.seq (WC.region ?_)
 refine WL.q ((oq_eql rfl rfl).to (v' := .bool false) (congrArg Value.bool (decide_eq_false (by omega)))) rfl rfl rfl ?_
 refine WL.q (oq_assign rfl) rfl rfl rfl ?_
 refine WL.nil (WE.then_normal ?_)
 refine WC.cond_f rfl ?_
 refine WC.seq (WC.seq (WC.region ?_))
 refine WL.q ((oq_eql rfl rfl).to (v' := .bool false) (congrArg Value.bool (decide_eq_false (by omega)))) rfl rfl rfl ?_
 refine WL.q (oq_assign rfl) rfl rfl rfl ?_
 refine WL.nil (WE.then_normal ?_)
 refine WC.cond_f rfl ?_
 refine WC.region ?_
 refine WL.q ((oq_eql rfl rfl).to (v' := .bool false) (congrArg Value.bool (decide_eq_false (by omega)))) rfl rfl rfl ?_
 refine WL.q (oq_assign rfl) rfl rfl rfl ?_
 refine WL.nil (WE.then_normal ?_)
 refine WC.cond_f rfl ?_
 refine WC.skip (WE.block_normal (WE.block_normal (WE.then_normal (WC.region ?_))))
 refine WL.q (oq_move rfl) rfl rfl rfl ?_
 refine WL.q ((oq_add rfl rfl (by rw [i64_lo, i64_hi]; omega)).to (v' := I 2) rfl) rfl rfl rfl ?_
 refine WL.q (oq_assign rfl) rfl rfl rfl ?_
 refine WL.nil ?_
 refine WE.round ?_
 refine WC.sub (fr' := [(0, _), (5, _)]) ?_ ⟨rfl, rfl, trivial⟩
 refine WC.seq (WC.seq (WC.region ?_))
 refine WL.q (oq_move rfl) rfl rfl rfl ?_
 refine WL.q (oq_move rfl) rfl rfl rfl ?_
 refine WL.q ((oq_len_s Tryd.underlying9 rfl).to (v' := I 26) rfl) rfl rfl rfl ?_
 refine WL.q ((oq_lss rfl rfl).to (v' := .bool true) (congrArg Value.bool (decide_eq_true (by omega)))) rfl rfl rfl ?_
 refine WL.nil (WE.then_normal ?_)
 refine WC.cond_t rfl ?_
 refine WC.skip (WE.then_normal (WC.seq (WC.block (WC.seq (WC.region ?_)))))
 refine WL.q (oq_move rfl) rfl rfl rfl ?_
 refine WL.q (oq_move rfl) rfl rfl rfl ?_
 refine WL.q ((oq_index_s Tryd.underlying9 rfl rfl (by decide)).to (v' := .int .u8 95) rfl) rfl rfl rfl ?_
 refine WL.q (oq_conv Tryd.underlying5 Tryd.underlying3 rfl (by rw [i64_lo, i64_hi]; omega)) rfl rfl rfl ?_
 refine WL.q (oq_assign rfl) rfl rfl rfl ?_
 refine WL.nil (WE.then_normal (WC.seq (WC.region ?_)))
 refine WL.q (oq_move rfl) rfl rfl rfl ?_
 refine WL.nil (WE.then_normal (WC.block (WC.seq (WC.region ?_))))
 refine WL.q ((oq_eql rfl rfl).to (v' := .bool false) (congrArg Value.bool (decide_eq_false (by omega)))) rfl rfl rfl ?_
 refine WL.q (oq_assign rfl) rfl rfl rfl ?_
 refine WL.nil (WE.then_normal ?_)
 refine WC.cond_f rfl ?_
 refine WC.seq (WC.region ?_)
 refine WL.q ((oq_eql rfl rfl).to (v' := .bool false) (congrArg Value.bool (decide_eq_false (by omega)))) rfl rfl rfl ?_
 refine WL.q (oq_assign rfl) rfl rfl rfl ?_
 refine WL.nil (WE.then_normal (WC.sub (fr' := [(0, _), (5, _), (6, _), (21, _), (70, _)]) ?_ ⟨rfl, rfl, rfl, rfl, rfl, trivial⟩))
 refine WC.cond_f rfl ?_
 refine WC.seq (WC.region ?_)
 refine WL.q ((oq_eql rfl rfl).to (v' := .bool false) (congrArg Value.bool (decide_eq_false (by omega)))) rfl rfl rfl ?_
 refine WL.q (oq_assign rfl) rfl rfl rfl ?_
 refine WL.nil (WE.then_normal ?_)
 refine WC.cond_f rfl ?_
 refine WC.seq (WC.region ?_)
 refine WL.q ((oq_eql rfl rfl).to (v' := .bool false) (congrArg Value.bool (decide_eq_false (by omega)))) rfl rfl rfl ?_
 refine WL.q (oq_assign rfl) rfl rfl rfl ?_
 refine WL.nil (WE.then_normal ?_)
 refine WC.cond_f rfl ?_
 refine WC.seq (WC.region ?_)
 refine WL.q ((oq_eql rfl rfl).to (v' := .bool false) (congrArg Value.bool (decide_eq_false (by omega)))) rfl rfl rfl ?_
 refine WL.q (oq_assign rfl) rfl rfl rfl ?_
 refine WL.nil (WE.then_normal ?_)
 refine WC.cond_f rfl ?_
 refine WC.seq (WC.region ?_)
 refine WL.q ((oq_eql rfl rfl).to (v' := .bool true) (congrArg Value.bool (decide_eq_true (by omega)))) rfl rfl rfl ?_
 refine WL.q (oq_assign rfl) rfl rfl rfl ?_
 refine WL.nil (WE.then_normal ?_)
 refine WC.cond_t rfl ?_
 refine WC.seq (WC.seq (WC.region ?_))
 refine WL.q (oq_move rfl) rfl rfl rfl ?_
 refine WL.q ((oq_len_s Tryd.underlying9 rfl).to (v' := I 26) rfl) rfl rfl rfl ?_
 refine WL.q (oq_move rfl) rfl rfl rfl ?_
 refine WL.q ((oq_add rfl rfl (by rw [i64_lo, i64_hi]; omega)).to (v' := I 4) rfl) rfl rfl rfl ?_
 refine WL.q ((oq_geq rfl rfl).to (v' := .bool true) (congrArg Value.bool (decide_eq_true (by omega)))) rfl rfl rfl ?_
 refine WL.q (oq_move rfl) rfl rfl rfl ?_
 refine WL.q (oq_move rfl) rfl rfl rfl ?_
 refine WL.q (oq_move rfl) rfl rfl rfl ?_
 refine WL.q ((oq_add rfl rfl (by rw [i64_lo, i64_hi]; omega)).to (v' := I 3) rfl) rfl rfl rfl ?_
 refine WL.q ((oq_index_s Tryd.underlying9 rfl rfl (by decide)).to (v' := .int .u8 50) rfl) rfl rfl rfl ?_
 refine WL.q ((oq_eql rfl rfl).to (v' := .bool true) (congrArg Value.bool (decide_eq_true (by omega)))) rfl rfl rfl ?_
 refine WL.q (oq_pick_t rfl rfl) rfl rfl rfl ?_
 refine WL.nil (WE.then_normal ?_)
 refine WC.cond_t rfl ?_
 refine WC.seq (WC.seq (WC.region ?_))
 refine WL.q (oq_move rfl) rfl rfl rfl ?_
 refine WL.q ((oq_len_s Tryd.underlying9 rfl).to (v' := I 26) rfl) rfl rfl rfl ?_
 refine WL.q (oq_move rfl) rfl rfl rfl ?_
 refine WL.q ((oq_add rfl rfl (by rw [i64_lo, i64_hi]; omega)).to (v' := I 7) rfl) rfl rfl rfl ?_
 refine WL.q ((oq_geq rfl rfl).to (v' := .bool true) (congrArg Value.bool (decide_eq_true (by omega)))) rfl rfl rfl ?_
 refine WL.q (oq_move rfl) rfl rfl rfl ?_
 refine WL.q (oq_move rfl) rfl rfl rfl ?_
 refine WL.q (oq_move rfl) rfl rfl rfl ?_
 refine WL.q ((oq_add rfl rfl (by rw [i64_lo, i64_hi]; omega)).to (v' := I 3) rfl) rfl rfl rfl ?_
 refine WL.q (oq_move rfl) rfl rfl rfl ?_
 refine WL.q ((oq_add rfl rfl (by rw [i64_lo, i64_hi]; omega)).to (v' := I 7) rfl) rfl rfl rfl ?_
 refine WL.q ((oq_slice_s2 Tryd.underlying9 rfl rfl rfl (by decide)).to (v' := S [50, 32, 74, 97]) rfl) rfl rfl rfl ?_
 refine WL.q ((oq_seql rfl rfl).to (v' := .bool false) (by kernel_rfl)) rfl rfl rfl ?_
 refine WL.q (oq_pick_t rfl rfl) rfl rfl rfl ?_
 refine WL.nil (WE.then_normal ?_)
 refine WC.cond_f rfl ?_
 refine WC.skip (WE.then_normal (WC.seq (WC.quiet (by kernel_rfl) (by kernel_rfl) ?_)))
 refine WQ.q (oq_move rfl) rfl rfl rfl ?_
 refine WQ.q (oq_move rfl) rfl rfl rfl ?_
 refine WQ.q ((oq_slice_s2 Tryd.underlying9 rfl rfl rfl (by decide)).to (v' := S [44, 32]) rfl) rfl rfl rfl ?_
 refine WQ.q (oq_move rfl) rfl rfl rfl ?_
 refine WQ.q (oq_move rfl) rfl rfl rfl ?_
 refine WQ.q ((oq_add rfl rfl (by rw [i64_lo, i64_hi]; omega)).to (v' := I 4) rfl) rfl rfl rfl ?_
 refine WQ.q ((oq_slice_s1 Tryd.underlying9 rfl rfl (by decide)).to (v' := S [32, 74, 97, 110, 32, 50, 48, 48, 54, 32, 49, 53, 58, 48, 52, 58, 48, 53, 32, 71, 77, 84]) rfl) rfl rfl rfl ?_
 refine WQ.q (oq_assign rfl) rfl rfl rfl ?_
 refine WQ.q (oq_assign rfl) rfl rfl rfl ?_
 refine WQ.q (oq_assign rfl) rfl rfl rfl ?_
 refine WQ.nil (WE.then_normal (WC.ret (WE.then_ret (WE.block_ret (WE.block_ret (WE.then_ret (WE.then_ret (WE.block_ret (WE.then_ret ?_)))))))))
 refine WE.endR (.inl rfl) (res3 Tryd.results35 rfl rfl rfl) ?_
 rfl
end TX1
end Go.Proofs.YtcfhfdengfcfpaaDoor
