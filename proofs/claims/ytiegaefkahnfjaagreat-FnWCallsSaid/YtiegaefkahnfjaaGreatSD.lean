/- The law of what a step has, walked. -/
import Derived.Test.YtiegaefkahnfjaaGreatSC
namespace Go.Proofs.YtiegaefkahnfjaaGreat
open Go Go.RowKit V S0 S1 S2 S3 S4 S5 S6 S7 S8 SA SB S9 SC
set_option linter.unusedSimpArgs false
set_option linter.unusedVariables false
set_option maxRecDepth 10000
namespace SD
theorem call12 : Callable Tryz.prog 12 := ⟨_, Tryz.func12, rfl, by kernel_rfl⟩
theorem call18 : Callable Tryz.prog 18 := ⟨_, Tryz.func18, rfl, by kernel_rfl⟩
theorem flat3 : Flat Tryz.prog 3 := ⟨_, Tryz.underlying3, by simp⟩
theorem flat9 : Flat Tryz.prog 9 := ⟨_, Tryz.underlying9, by simp⟩
theorem ty3 : Ty Tryz.prog 3 (.int .i64 0) 1 8 := ty_of (by kernel_rfl)
theorem ty9 : Ty Tryz.prog 9 (S []) 1 16 := ty_of (by kernel_rfl)
theorem ty32 : Ty Tryz.prog 32 (.agg #[(.int .i64 0), (.int .i64 0), (S []), (S []), (.bool false)]) 5 56 := ty_of (by kernel_rfl)
theorem agg32 : Agg Tryz.prog 32 := agg_of Tryz.underlying32
theorem str32 : Str Tryz.prog 32 #[(0, 1), (1, 1), (2, 1), (3, 1), (4, 1)] := ⟨_, Tryz.underlying32, fun w => by kernel_rfl⟩
theorem fld32_0 : Fld Tryz.prog 32 0 0 3 := fld_of Tryz.underlying32 rfl rfl rfl ty3 (by decide)
theorem fld32_1 : Fld Tryz.prog 32 1 1 3 := fld_of Tryz.underlying32 rfl rfl rfl ty3 (by decide)
theorem fld32_2 : Fld Tryz.prog 32 2 2 9 := fld_of Tryz.underlying32 rfl rfl rfl ty9 (by decide)
theorem fld32_3 : Fld Tryz.prog 32 3 3 9 := fld_of Tryz.underlying32 rfl rfl rfl ty9 (by decide)
theorem fitsW_len {l : List WO} (h : fitsW l = true) : (l.length : Int) ≤ 2147483647 := by
 unfold fitsW at h
 simp only [Bool.and_eq_true, decide_eq_true_eq] at h
 exact h.1
theorem looked_of {l : List WO} (h : looked l = true) : l.length ≤ 60 ∧ l.all lookP = true := by
 unfold looked at h
 simp only [Bool.and_eq_true, decide_eq_true_eq] at h
 exact ⟨by omega, h.1⟩
theorem fitsW_el {l : List WO} (h : fitsW l = true) {i : Nat} (hi : i < l.length) : ((l.getD i WO0).d.length : Int) ≤ 2147483647 ∧ ((l.getD i WO0).b.length : Int) ≤ 2147483647 := by
 unfold fitsW at h
 rw [Bool.and_eq_true] at h
 have := all_el h.2 WO0 hi
 unfold fitP at this
 simp only [Bool.and_eq_true, decide_eq_true_eq] at this
 exact this
abbrev oa : WO := ⟨0, 0, [97], [], false⟩
theorem ext_get {l m : List (List UInt8)} (hl : l.length = m.length) (h : ∀ j, j < l.length → l.getD j [] = m.getD j []) : l = m := by
 refine List.ext_getElem hl fun j h1 h2 => ?_
 have := h j h1
 rwa [List.getD_eq_getElem?_getD, List.getD_eq_getElem?_getD, List.getElem?_eq_getElem h1, List.getElem?_eq_getElem h2] at this
theorem fits19 (s k : Int) (d b : List UInt8) (a : Bool) : Fn0 Tryz.prog 18 [.agg #[I s, I k, S d, S b, .bool a]] (.bool (fitP ⟨s, k, d, b, a⟩)) := by
 refine Fn0.enter (n := 11) Tryz.func18 rfl rfl fun w0 => ?_
 refine WC.sub (fr' := [(0, _)]) ?_ ⟨rfl, trivial⟩
 refine WC.seq (WC.region ?_)
 refine WL.box rfl rfl rfl fun b0_0 hb0_0 => ?_
 refine WL.q (oq_assign rfl) rfl rfl rfl ?_
 refine WL.nil (WE.then_normal (WC.sub (fr' := [(1, _)]) ?_ ⟨rfl, trivial⟩))
 refine WC.seq (WC.seq (WC.region ?_))
 refine WL.q (oq_fieldAddr fld32_2 rfl) rfl rfl rfl ?_
 refine WL.q (oq_load flat9 rfl (.head _) (List.mem_singleton.2 rfl) rfl) rfl rfl rfl ?_
 refine WL.q (oq_len_s Tryz.underlying9 rfl) rfl rfl rfl ?_
 refine WL.q (oq_gtr rfl rfl) rfl rfl rfl ?_
 refine WL.nil (WE.then_normal (WC.sub (fr' := [(1, _), (6, _)]) ?_ ⟨rfl, rfl, trivial⟩))
 refine WC.cond rfl (fun q1 => ?_) (fun q1 => ?_)
 ·
  try simp only [Z1, Z2, Z3, Z4, Z5, Z6, Z7, Z8, Z9, Z0] at q1
  refine WC.seq (WC.region ?_)
  refine WL.q (oq_assign rfl) rfl rfl rfl ?_
  refine WL.nil (WE.then_normal (WC.sub (fr' := [(2, _)]) ?_ ⟨rfl, trivial⟩))
  refine WC.ret (WE.then_ret ?_)
  refine WE.lose hb0_0 ?_
  refine WE.end0 (.inl rfl) (res1 Tryz.results18 rfl) ?_
  unfold fitP; rw [decide_eq_false (show ¬ ((d.length : Int) ≤ 2147483647) by omega), Bool.false_and]
 ·
  try simp only [Z1, Z2, Z3, Z4, Z5, Z6, Z7, Z8, Z9, Z0] at q1
  refine WC.skip (WE.then_normal (WC.sub (fr' := [(1, _)]) ?_ ⟨rfl, trivial⟩))
  refine WC.seq (WC.seq (WC.region ?_))
  refine WL.q (oq_fieldAddr fld32_3 rfl) rfl rfl rfl ?_
  refine WL.q (oq_load flat9 rfl (.head _) (List.mem_singleton.2 rfl) rfl) rfl rfl rfl ?_
  refine WL.q (oq_len_s Tryz.underlying9 rfl) rfl rfl rfl ?_
  refine WL.q (oq_gtr rfl rfl) rfl rfl rfl ?_
  refine WL.nil (WE.then_normal (WC.sub (fr' := [(10, _)]) ?_ ⟨rfl, trivial⟩))
  refine WC.cond rfl (fun q3 => ?_) (fun q3 => ?_)
  ·
   try simp only [Z1, Z2, Z3, Z4, Z5, Z6, Z7, Z8, Z9, Z0] at q3
   refine WC.seq (WC.region ?_)
   refine WL.q (oq_assign rfl) rfl rfl rfl ?_
   refine WL.nil (WE.then_normal (WC.sub (fr' := [(2, _)]) ?_ ⟨rfl, trivial⟩))
   refine WC.ret (WE.then_ret ?_)
   refine WE.lose hb0_0 ?_
   refine WE.end0 (.inl rfl) (res1 Tryz.results18 rfl) ?_
   unfold fitP; rw [decide_eq_false (show ¬ ((b.length : Int) ≤ 2147483647) by omega), Bool.and_false]
  ·
   try simp only [Z1, Z2, Z3, Z4, Z5, Z6, Z7, Z8, Z9, Z0] at q3
   refine WC.skip (WE.then_normal (WC.sub (fr' := []) ?_ trivial))
   refine WC.seq (WC.region ?_)
   refine WL.q (oq_assign rfl) rfl rfl rfl ?_
   refine WL.nil (WE.then_normal (WC.sub (fr' := [(2, _)]) ?_ ⟨rfl, trivial⟩))
   refine WC.ret ?_
   refine WE.lose hb0_0 ?_
   refine WE.end0 (.inl rfl) (res1 Tryz.results18 rfl) ?_
   unfold fitP; rw [decide_eq_true (show (d.length : Int) ≤ 2147483647 by omega), decide_eq_true (show (b.length : Int) ≤ 2147483647 by omega)]; rfl
theorem fits18 (v : Value) (A : Hp) (l : List WO) (hr : RdS 5 v A l.length (recsV wof l)) : FnR Tryz.prog 8 [v] A (.bool (fitsW l)) := by
 refine FnR.enter (n := 18) Tryz.func8 rfl rfl fun w0 => ?_
 refine WC.sub (fr' := [(0, _)]) ?_ ⟨rfl, trivial⟩
 refine WC.seq (WC.region ?_)
 refine WL.q (oq_assign rfl) rfl rfl rfl ?_
 refine WL.nil (WE.then_normal (WC.sub (fr' := [(0, _)]) ?_ ⟨rfl, trivial⟩))
 refine WC.seq (WC.seq (WC.region ?_))
 refine WL.q (oq_move rfl) rfl rfl rfl ?_
 refine WL.q (oq_len_rd hr Tryz.underlying22 rfl) rfl rfl rfl ?_
 refine WL.q (oq_gtr rfl rfl) rfl rfl rfl ?_
 refine WL.nil (WE.then_normal (WC.sub (fr' := [(0, _), (7, _)]) ?_ ⟨rfl, rfl, trivial⟩))
 refine WC.cond rfl (fun q1 => ?_) (fun q1 => ?_)
 ·
  try simp only [Z1, Z2, Z3, Z4, Z5, Z6, Z7, Z8, Z9, Z0] at q1
  refine WC.seq (WC.region ?_)
  refine WL.q (oq_assign rfl) rfl rfl rfl ?_
  refine WL.nil (WE.then_normal (WC.sub (fr' := [(2, _)]) ?_ ⟨rfl, trivial⟩))
  refine WC.ret (WE.then_ret ?_)
  refine WE.endR (.inl rfl) (res1 Tryz.results8 rfl) ?_
  unfold fitsW; rw [decide_eq_false (by omega)]; rfl
 ·
  try simp only [Z1, Z2, Z3, Z4, Z5, Z6, Z7, Z8, Z9, Z0] at q1
  refine WC.skip (WE.then_normal (WC.sub (fr' := [(0, _)]) ?_ ⟨rfl, trivial⟩))
  refine WC.seq (WC.seq (WC.region ?_))
  refine WL.q (oq_move rfl) rfl rfl rfl ?_
  refine WL.q (oq_len_rd hr Tryz.underlying22 rfl) rfl rfl rfl ?_
  refine WL.q (oq_move rfl) rfl rfl rfl ?_
  refine WL.nil (WE.then_normal (WC.sub (fr' := [(8, _), (9, _), (10, _)]) ?_ ⟨rfl, rfl, rfl, trivial⟩))
  refine WC.block ?_
  refine WC.loop (ι := Nat) (fun (i : Nat) => [(8, v), (9, I (l.length : Int)), (10, I (i : Int))]) (fun (i : Nat) => [A]) (fun (i : Nat) => i ≤ l.length ∧ l.all fitP = (l.drop i).all fitP) (fun (i : Nat) => l.length - i) (0) ?_ ⟨rfl, rfl, rfl, trivial⟩ (List.Perm.refl _) ?_
  ·try dsimp only
   exact ⟨by omega, rfl⟩
  ·rintro i hp
   try dsimp only at hp
   obtain ⟨hi, hf⟩ := hp
   show WC _ _ _ _ _ _ ([(8, v), (9, I (l.length : Int)), (10, I (i : Int))]) ([A])
   refine WC.seq (WC.region ?_)
   refine WL.q (oq_lss rfl rfl) rfl rfl rfl ?_
   refine WL.nil (WE.then_normal (WC.sub (fr' := [(8, _), (9, _), (10, _), (11, _)]) ?_ ⟨rfl, rfl, rfl, rfl, trivial⟩))
   refine WC.seq ?_
   refine WC.cond rfl (fun q4 => ?_) (fun q4 => ?_)
   ·
    try simp only [Z1, Z2, Z3, Z4, Z5, Z6, Z7, Z8, Z9, Z0] at q4
    refine WC.skip (WE.then_normal (WC.sub (fr' := [(8, _), (9, _), (10, _)]) ?_ ⟨rfl, rfl, rfl, trivial⟩))
    refine WC.seq (WC.block (WC.seq (WC.region ?_)))
    refine WL.q (oq_ixaddr hr Tryz.underlying22 ty32 rfl rfl (by (first | omega | (simp only [List.length_cons, List.length_nil, List.length_append, List.length_drop, List.length_take]; omega)))) rfl rfl rfl ?_
    refine WL.q (oq_loadEl (f := wof) WO0 [_, _, _, _, _] (fun _ => rfl) agg32 ty32 hr (.head _) rfl (by (first | omega | (simp only [List.length_cons, List.length_nil, List.length_append, List.length_drop, List.length_take]; omega))) (by first | exact Int.toNat_natCast _ | exact rfl) rfl) rfl rfl rfl ?_
    refine WL.alloc ty32 rfl rfl fun b5_2 hb5_2 => ?_
    refine WL.storeS #[_, _, _, _, _] ty32 rfl rfl rfl rfl (Nat.le_of_ble_eq_true rfl) rfl rfl ?_
    refine WL.nil (WE.then_normal (WC.sub (fr' := [(4, _), (8, _), (9, _), (10, _)]) ?_ ⟨rfl, rfl, rfl, rfl, trivial⟩))
    refine WC.seq (WC.region ?_)
    refine WL.q (oq_loadS [_, _, _, _, _] agg32 ty32 rfl (.head _) (List.mem_singleton.2 rfl) rfl rfl) rfl rfl rfl ?_
    refine WL.qc (oq_call (fits19 _ _ _ _ _) call18 rfl) rfl rfl rfl ?_
    refine WL.q (oq_not rfl) rfl rfl rfl ?_
    refine WL.nil (WE.then_normal (WC.sub (fr' := [(8, _), (9, _), (10, _), (16, _)]) ?_ ⟨rfl, rfl, rfl, rfl, trivial⟩))
    refine WC.cond rfl (fun q6 => ?_) (fun q6 => ?_)
    ·
     try simp only [Z1, Z2, Z3, Z4, Z5, Z6, Z7, Z8, Z9, Z0] at q6
     refine WC.seq (WC.region ?_)
     refine WL.q (oq_assign rfl) rfl rfl rfl ?_
     refine WL.nil (WE.then_normal (WC.sub (fr' := [(2, _)]) ?_ ⟨rfl, trivial⟩))
     refine WC.ret (WE.block_ret (WE.then_ret (WE.then_ret (WE.block_ret (WE.then_ret ?_)))))
     refine WE.lose hb5_2 ?_
     refine WE.endR (.inl rfl) (res1 Tryz.results8 rfl) ?_
     unfold fitsW; rw [hf, all_get l i WO0 (by omega), show fitP (l.getD i WO0) = false from q6, Bool.false_and, Bool.and_false]
    ·
     try simp only [Z1, Z2, Z3, Z4, Z5, Z6, Z7, Z8, Z9, Z0] at q6
     refine WC.skip (WE.block_normal (WE.then_normal (WC.sub (fr' := [(8, _), (9, _), (10, _)]) ?_ ⟨rfl, rfl, rfl, trivial⟩)))
     refine WC.region ?_
     refine WL.q (oq_add rfl rfl (by rw [i64_lo, i64_hi]; (first | omega | (simp only [List.length_cons, List.length_nil, List.length_append, List.length_drop, List.length_take]; omega)))) rfl rfl rfl ?_
     refine WL.q (oq_move rfl) rfl rfl rfl ?_
     refine WL.nil ?_
     refine WE.lose hb5_2 ?_
     refine WE.again (i + 1) ?_ ?_ ⟨rfl, rfl, rfl, trivial⟩ (List.Perm.refl _)
     ·try dsimp only
      exact ⟨by omega, by rw [hf, all_get l i WO0 (by omega), show fitP (l.getD i WO0) = true from q6, Bool.true_and]⟩
     ·(try dsimp only); omega
   ·
    try simp only [Z1, Z2, Z3, Z4, Z5, Z6, Z7, Z8, Z9, Z0] at q4
    refine WC.exit (WE.then_exit (WE.then_exit (WE.block_same (WE.then_normal (WC.sub (fr' := []) ?_ trivial)))))
    refine WC.seq (WC.region ?_)
    refine WL.q (oq_assign rfl) rfl rfl rfl ?_
    refine WL.nil (WE.then_normal (WC.sub (fr' := [(2, _)]) ?_ ⟨rfl, trivial⟩))
    refine WC.ret ?_
    refine WE.endR (.inl rfl) (res1 Tryz.results8 rfl) ?_
    unfold fitsW; rw [hf, List.drop_eq_nil_of_le (by omega), decide_eq_true (by omega)]; rfl
theorem look (v : Value) (A : Hp) (l : List WO) (hr : RdS 5 v A l.length (recsV wof l)) (hf : fitsW l = true) : FnR Tryz.prog 9 [v] A (.bool (looked l)) := by
 have hfl := fitsW_len hf
 refine FnR.enter (n := 46) Tryz.func9 rfl rfl fun w0 => ?_
 refine WC.sub (fr' := [(0, _)]) ?_ ⟨rfl, trivial⟩
 refine WC.seq (WC.region ?_)
 refine WL.q (oq_assign rfl) rfl rfl rfl ?_
 refine WL.nil (WE.then_normal (WC.sub (fr' := [(0, _)]) ?_ ⟨rfl, trivial⟩))
 refine WC.seq (WC.seq (WC.region ?_))
 refine WL.q (oq_assign rfl) rfl rfl rfl ?_
 refine WL.nil (WE.then_normal (WC.sub (fr' := [(0, _), (3, _)]) ?_ ⟨rfl, rfl, trivial⟩))
 refine WC.block ?_
 refine WC.loop (ι := Nat) (fun (i : Nat) => [(0, v), (3, I (i : Int))]) (fun (i : Nat) => [A]) (fun (i : Nat) => i ≤ l.length ∧ l.all lookP = (l.drop i).all lookP) (fun (i : Nat) => l.length - i) (0) ?_ ⟨rfl, rfl, trivial⟩ (List.Perm.refl _) ?_
 ·try dsimp only
  exact ⟨by omega, rfl⟩
 ·rintro i hp
  try dsimp only at hp
  obtain ⟨hi, hs⟩ := hp
  show WC _ _ _ _ _ _ ([(0, v), (3, I (i : Int))]) ([A])
  refine WC.seq (WC.seq (WC.region ?_))
  refine WL.q (oq_move rfl) rfl rfl rfl ?_
  refine WL.q (oq_move rfl) rfl rfl rfl ?_
  refine WL.q (oq_len_rd hr Tryz.underlying22 rfl) rfl rfl rfl ?_
  refine WL.q (oq_lss rfl rfl) rfl rfl rfl ?_
  refine WL.nil (WE.then_normal (WC.sub (fr' := [(0, _), (3, _), (8, _)]) ?_ ⟨rfl, rfl, rfl, trivial⟩))
  refine WC.cond rfl (fun q2 => ?_) (fun q2 => ?_)
  ·
   try simp only [Z1, Z2, Z3, Z4, Z5, Z6, Z7, Z8, Z9, Z0] at q2
   refine WC.skip (WE.then_normal (WC.sub (fr' := [(0, _), (3, _)]) ?_ ⟨rfl, rfl, trivial⟩))
   refine WC.seq (WC.block (WC.seq ?_))
   have hfe := fitsW_el hf (show i < l.length by omega)
   refine WC.region ?_
   refine WL.q (oq_move rfl) rfl rfl rfl ?_
   refine WL.q (oq_move rfl) rfl rfl rfl ?_
   refine WL.q (oq_ixaddr hr Tryz.underlying22 ty32 rfl rfl (by (first | omega | (simp only [List.length_cons, List.length_nil, List.length_append, List.length_drop, List.length_take]; omega)))) rfl rfl rfl ?_
   refine WL.q (oq_loadEl (f := wof) WO0 [_, _, _, _, _] (fun _ => rfl) agg32 ty32 hr (.head _) rfl (by (first | omega | (simp only [List.length_cons, List.length_nil, List.length_append, List.length_drop, List.length_take]; omega))) (by first | exact Int.toNat_natCast _ | exact rfl) rfl) rfl rfl rfl ?_
   refine WL.alloc ty32 rfl rfl fun b4_4 hb4_4 => ?_
   refine WL.storeS #[_, _, _, _, _] ty32 rfl rfl rfl rfl (Nat.le_of_ble_eq_true rfl) rfl rfl ?_
   refine WL.nil (WE.then_normal (WC.sub (fr' := [(0, _), (3, _), (4, _)]) ?_ ⟨rfl, rfl, rfl, trivial⟩))
   refine WC.seq (WC.region ?_)
   refine WL.q (oq_fieldAddr fld32_0 rfl) rfl rfl rfl ?_
   refine WL.q (oq_load flat3 rfl (.head _) (List.mem_singleton.2 rfl) rfl) rfl rfl rfl ?_
   refine WL.q (oq_lss rfl rfl) rfl rfl rfl ?_
   refine WL.q (oq_move rfl) rfl rfl rfl ?_
   refine WL.split 18 rfl (fun s5_3 => ?_) (fun s5_3 => ?_)
   ·
    try simp only [Z1, Z2, Z3, Z4, Z5, Z6, Z7, Z8, Z9, Z0] at s5_3
    refine WL.skip rfl rfl rfl ?_
    refine WL.skip rfl rfl rfl ?_
    refine WL.skip rfl rfl rfl ?_
    refine WL.q (oq_pick_t rfl rfl) rfl rfl rfl ?_
    refine WL.q (oq_move rfl) rfl rfl rfl ?_
    refine WL.skip rfl rfl rfl ?_
    refine WL.skip rfl rfl rfl ?_
    refine WL.skip rfl rfl rfl ?_
    refine WL.q (oq_pick_t rfl rfl) rfl rfl rfl ?_
    refine WL.q (oq_move rfl) rfl rfl rfl ?_
    refine WL.skip rfl rfl rfl ?_
    refine WL.skip rfl rfl rfl ?_
    refine WL.skip rfl rfl rfl ?_
    refine WL.q (oq_pick_t rfl rfl) rfl rfl rfl ?_
    refine WL.q (oq_move rfl) rfl rfl rfl ?_
    refine WL.skip rfl rfl rfl ?_
    refine WL.skip rfl rfl rfl ?_
    refine WL.skip rfl rfl rfl ?_
    refine WL.skip rfl rfl rfl ?_
    refine WL.skip rfl rfl rfl ?_
    refine WL.skip rfl rfl rfl ?_
    refine WL.skip rfl rfl rfl ?_
    refine WL.skip rfl rfl rfl ?_
    refine WL.q (oq_pick_t rfl rfl) rfl rfl rfl ?_
    refine WL.nil (WE.then_normal (WC.sub (fr' := [(0, _), (3, _), (42, _)]) ?_ ⟨rfl, rfl, rfl, trivial⟩))
    refine WC.cond_t rfl ?_
    refine WC.seq (WC.region ?_)
    refine WL.q (oq_assign rfl) rfl rfl rfl ?_
    refine WL.nil (WE.then_normal (WC.sub (fr' := [(2, _)]) ?_ ⟨rfl, trivial⟩))
    refine WC.ret (WE.block_ret (WE.then_ret (WE.then_ret (WE.block_ret (WE.then_ret ?_)))))
    refine WE.lose hb4_4 ?_
    refine WE.endR (.inl rfl) (res1 Tryz.results9 rfl) ?_
    unfold looked; rw [hs, all_get l i WO0 (by omega), show lookP (l.getD i WO0) = false from decide_eq_false (by omega), Bool.false_and, Bool.false_and]
   ·
    try simp only [Z1, Z2, Z3, Z4, Z5, Z6, Z7, Z8, Z9, Z0] at s5_3
    refine WL.q (oq_fieldAddr fld32_0 rfl) rfl rfl rfl ?_
    refine WL.q (oq_load flat3 rfl (.head _) (List.mem_singleton.2 rfl) rfl) rfl rfl rfl ?_
    refine WL.q (oq_gtr rfl rfl) rfl rfl rfl ?_
    refine WL.q (oq_pick_f rfl rfl) rfl rfl rfl ?_
    refine WL.q (oq_move rfl) rfl rfl rfl ?_
    refine WL.split 23 rfl (fun s5_8 => ?_) (fun s5_8 => ?_)
    ·
     try simp only [Z1, Z2, Z3, Z4, Z5, Z6, Z7, Z8, Z9, Z0] at s5_8
     refine WL.skip rfl rfl rfl ?_
     refine WL.skip rfl rfl rfl ?_
     refine WL.skip rfl rfl rfl ?_
     refine WL.q (oq_pick_t rfl rfl) rfl rfl rfl ?_
     refine WL.q (oq_move rfl) rfl rfl rfl ?_
     refine WL.skip rfl rfl rfl ?_
     refine WL.skip rfl rfl rfl ?_
     refine WL.skip rfl rfl rfl ?_
     refine WL.q (oq_pick_t rfl rfl) rfl rfl rfl ?_
     refine WL.q (oq_move rfl) rfl rfl rfl ?_
     refine WL.skip rfl rfl rfl ?_
     refine WL.skip rfl rfl rfl ?_
     refine WL.skip rfl rfl rfl ?_
     refine WL.skip rfl rfl rfl ?_
     refine WL.skip rfl rfl rfl ?_
     refine WL.skip rfl rfl rfl ?_
     refine WL.skip rfl rfl rfl ?_
     refine WL.skip rfl rfl rfl ?_
     refine WL.q (oq_pick_t rfl rfl) rfl rfl rfl ?_
     refine WL.nil (WE.then_normal (WC.sub (fr' := [(0, _), (3, _), (42, _)]) ?_ ⟨rfl, rfl, rfl, trivial⟩))
     refine WC.cond_t rfl ?_
     refine WC.seq (WC.region ?_)
     refine WL.q (oq_assign rfl) rfl rfl rfl ?_
     refine WL.nil (WE.then_normal (WC.sub (fr' := [(2, _)]) ?_ ⟨rfl, trivial⟩))
     refine WC.ret (WE.block_ret (WE.then_ret (WE.then_ret (WE.block_ret (WE.then_ret ?_)))))
     refine WE.lose hb4_4 ?_
     refine WE.endR (.inl rfl) (res1 Tryz.results9 rfl) ?_
     unfold looked; rw [hs, all_get l i WO0 (by omega), show lookP (l.getD i WO0) = false from decide_eq_false (by omega), Bool.false_and, Bool.false_and]
    ·
     try simp only [Z1, Z2, Z3, Z4, Z5, Z6, Z7, Z8, Z9, Z0] at s5_8
     refine WL.q (oq_fieldAddr fld32_1 rfl) rfl rfl rfl ?_
     refine WL.q (oq_load flat3 rfl (.head _) (List.mem_singleton.2 rfl) rfl) rfl rfl rfl ?_
     refine WL.q (oq_lss rfl rfl) rfl rfl rfl ?_
     refine WL.q (oq_pick_f rfl rfl) rfl rfl rfl ?_
     refine WL.q (oq_move rfl) rfl rfl rfl ?_
     refine WL.split 28 rfl (fun s5_13 => ?_) (fun s5_13 => ?_)
     ·
      try simp only [Z1, Z2, Z3, Z4, Z5, Z6, Z7, Z8, Z9, Z0] at s5_13
      refine WL.skip rfl rfl rfl ?_
      refine WL.skip rfl rfl rfl ?_
      refine WL.skip rfl rfl rfl ?_
      refine WL.q (oq_pick_t rfl rfl) rfl rfl rfl ?_
      refine WL.q (oq_move rfl) rfl rfl rfl ?_
      refine WL.skip rfl rfl rfl ?_
      refine WL.skip rfl rfl rfl ?_
      refine WL.skip rfl rfl rfl ?_
      refine WL.skip rfl rfl rfl ?_
      refine WL.skip rfl rfl rfl ?_
      refine WL.skip rfl rfl rfl ?_
      refine WL.skip rfl rfl rfl ?_
      refine WL.skip rfl rfl rfl ?_
      refine WL.q (oq_pick_t rfl rfl) rfl rfl rfl ?_
      refine WL.nil (WE.then_normal (WC.sub (fr' := [(0, _), (3, _), (42, _)]) ?_ ⟨rfl, rfl, rfl, trivial⟩))
      refine WC.cond_t rfl ?_
      refine WC.seq (WC.region ?_)
      refine WL.q (oq_assign rfl) rfl rfl rfl ?_
      refine WL.nil (WE.then_normal (WC.sub (fr' := [(2, _)]) ?_ ⟨rfl, trivial⟩))
      refine WC.ret (WE.block_ret (WE.then_ret (WE.then_ret (WE.block_ret (WE.then_ret ?_)))))
      refine WE.lose hb4_4 ?_
      refine WE.endR (.inl rfl) (res1 Tryz.results9 rfl) ?_
      unfold looked; rw [hs, all_get l i WO0 (by omega), show lookP (l.getD i WO0) = false from decide_eq_false (by omega), Bool.false_and, Bool.false_and]
     ·
      try simp only [Z1, Z2, Z3, Z4, Z5, Z6, Z7, Z8, Z9, Z0] at s5_13
      refine WL.q (oq_fieldAddr fld32_1 rfl) rfl rfl rfl ?_
      refine WL.q (oq_load flat3 rfl (.head _) (List.mem_singleton.2 rfl) rfl) rfl rfl rfl ?_
      refine WL.q (oq_gtr rfl rfl) rfl rfl rfl ?_
      refine WL.q (oq_pick_f rfl rfl) rfl rfl rfl ?_
      refine WL.q (oq_move rfl) rfl rfl rfl ?_
      refine WL.split 33 rfl (fun s5_18 => ?_) (fun s5_18 => ?_)
      ·
       try simp only [Z1, Z2, Z3, Z4, Z5, Z6, Z7, Z8, Z9, Z0] at s5_18
       refine WL.skip rfl rfl rfl ?_
       refine WL.skip rfl rfl rfl ?_
       refine WL.skip rfl rfl rfl ?_
       refine WL.skip rfl rfl rfl ?_
       refine WL.skip rfl rfl rfl ?_
       refine WL.skip rfl rfl rfl ?_
       refine WL.skip rfl rfl rfl ?_
       refine WL.skip rfl rfl rfl ?_
       refine WL.q (oq_pick_t rfl rfl) rfl rfl rfl ?_
       refine WL.nil (WE.then_normal (WC.sub (fr' := [(0, _), (3, _), (42, _)]) ?_ ⟨rfl, rfl, rfl, trivial⟩))
       refine WC.cond_t rfl ?_
       refine WC.seq (WC.region ?_)
       refine WL.q (oq_assign rfl) rfl rfl rfl ?_
       refine WL.nil (WE.then_normal (WC.sub (fr' := [(2, _)]) ?_ ⟨rfl, trivial⟩))
       refine WC.ret (WE.block_ret (WE.then_ret (WE.then_ret (WE.block_ret (WE.then_ret ?_)))))
       refine WE.lose hb4_4 ?_
       refine WE.endR (.inl rfl) (res1 Tryz.results9 rfl) ?_
       unfold looked; rw [hs, all_get l i WO0 (by omega), show lookP (l.getD i WO0) = false from decide_eq_false (by omega), Bool.false_and, Bool.false_and]
      ·
       try simp only [Z1, Z2, Z3, Z4, Z5, Z6, Z7, Z8, Z9, Z0] at s5_18
       refine WL.q (oq_fieldAddr fld32_2 rfl) rfl rfl rfl ?_
       refine WL.q (oq_load flat9 rfl (.head _) (List.mem_singleton.2 rfl) rfl) rfl rfl rfl ?_
       refine WL.q (oq_len_s Tryz.underlying9 rfl) rfl rfl rfl ?_
       refine WL.q (oq_fieldAddr fld32_3 rfl) rfl rfl rfl ?_
       refine WL.q (oq_load flat9 rfl (.head _) (List.mem_singleton.2 rfl) rfl) rfl rfl rfl ?_
       refine WL.q (oq_len_s Tryz.underlying9 rfl) rfl rfl rfl ?_
       refine WL.q (oq_add rfl rfl (by rw [i64_lo, i64_hi]; (first | omega | (simp only [List.length_cons, List.length_nil, List.length_append, List.length_drop, List.length_take]; omega)))) rfl rfl rfl ?_
       refine WL.q (oq_gtr rfl rfl) rfl rfl rfl ?_
       refine WL.q (oq_pick_f rfl rfl) rfl rfl rfl ?_
       refine WL.nil (WE.then_normal (WC.sub (fr' := [(0, _), (3, _), (42, _)]) ?_ ⟨rfl, rfl, rfl, trivial⟩))
       refine WC.cond rfl (fun q5 => ?_) (fun q5 => ?_)
       ·
        try simp only [Z1, Z2, Z3, Z4, Z5, Z6, Z7, Z8, Z9, Z0] at q5
        refine WC.seq (WC.region ?_)
        refine WL.q (oq_assign rfl) rfl rfl rfl ?_
        refine WL.nil (WE.then_normal (WC.sub (fr' := [(2, _)]) ?_ ⟨rfl, trivial⟩))
        refine WC.ret (WE.block_ret (WE.then_ret (WE.then_ret (WE.block_ret (WE.then_ret ?_)))))
        refine WE.lose hb4_4 ?_
        refine WE.endR (.inl rfl) (res1 Tryz.results9 rfl) ?_
        unfold looked; rw [hs, all_get l i WO0 (by omega), show lookP (l.getD i WO0) = false from decide_eq_false (by omega), Bool.false_and, Bool.false_and]
       ·
        try simp only [Z1, Z2, Z3, Z4, Z5, Z6, Z7, Z8, Z9, Z0] at q5
        refine WC.skip (WE.block_normal (WE.then_normal (WC.sub (fr' := [(0, _), (3, _)]) ?_ ⟨rfl, rfl, trivial⟩)))
        refine WC.region ?_
        refine WL.q (oq_move rfl) rfl rfl rfl ?_
        refine WL.q (oq_add rfl rfl (by rw [i64_lo, i64_hi]; (first | omega | (simp only [List.length_cons, List.length_nil, List.length_append, List.length_drop, List.length_take]; omega)))) rfl rfl rfl ?_
        refine WL.q (oq_assign rfl) rfl rfl rfl ?_
        refine WL.nil ?_
        refine WE.lose hb4_4 ?_
        refine WE.again (i + 1) ?_ ?_ ⟨rfl, rfl, trivial⟩ (List.Perm.refl _)
        ·try dsimp only
         exact ⟨by omega, by rw [hs, all_get l i WO0 (by omega), show lookP (l.getD i WO0) = true from decide_eq_true (by omega), Bool.true_and]⟩
        ·(try dsimp only); omega
  ·
   try simp only [Z1, Z2, Z3, Z4, Z5, Z6, Z7, Z8, Z9, Z0] at q2
   refine WC.exit (WE.then_exit (WE.then_exit (WE.block_same (WE.then_normal (WC.sub (fr' := [(0, _)]) ?_ ⟨rfl, trivial⟩)))))
   refine WC.seq (WC.region ?_)
   refine WL.q (oq_move rfl) rfl rfl rfl ?_
   refine WL.q (oq_len_rd hr Tryz.underlying22 rfl) rfl rfl rfl ?_
   refine WL.q (oq_leq rfl rfl) rfl rfl rfl ?_
   refine WL.q (oq_assign rfl) rfl rfl rfl ?_
   refine WL.nil (WE.then_normal (WC.sub (fr' := [(2, _)]) ?_ ⟨rfl, trivial⟩))
   refine WC.ret ?_
   refine WE.endR (.inl rfl) (res1 Tryz.results9 rfl) ?_
   unfold looked; rw [hs, List.drop_eq_nil_of_le (by omega)]
   congr 1
theorem wSame (va vb : Value) (A : Hp) (la lb : List (List UInt8)) (hra : RdS 1 va A la.length (strsV la)) (hrb : RdS 1 vb A lb.length (strsV lb)) (hl : la.length ≤ 100000) : FnR Tryz.prog 14 [va, vb] A (.bool (decide (la = lb))) := by
 refine FnR.enter (n := 26) Tryz.func14 rfl rfl fun w0 => ?_
 refine WC.sub (fr' := [(0, _), (1, _)]) ?_ ⟨rfl, rfl, trivial⟩
 refine WC.seq (WC.region ?_)
 refine WL.q (oq_assign rfl) rfl rfl rfl ?_
 refine WL.nil (WE.then_normal (WC.sub (fr' := [(0, _), (1, _)]) ?_ ⟨rfl, rfl, trivial⟩))
 refine WC.seq (WC.seq (WC.region ?_))
 refine WL.q (oq_move rfl) rfl rfl rfl ?_
 refine WL.q (oq_len_rd hra Tryz.underlying26 rfl) rfl rfl rfl ?_
 refine WL.q (oq_move rfl) rfl rfl rfl ?_
 refine WL.q (oq_len_rd hrb Tryz.underlying26 rfl) rfl rfl rfl ?_
 refine WL.q (oq_neq rfl rfl) rfl rfl rfl ?_
 refine WL.nil (WE.then_normal (WC.sub (fr' := [(0, _), (1, _), (10, _)]) ?_ ⟨rfl, rfl, rfl, trivial⟩))
 refine WC.cond rfl (fun q1 => ?_) (fun q1 => ?_)
 ·
  try simp only [Z1, Z2, Z3, Z4, Z5, Z6, Z7, Z8, Z9, Z0] at q1
  refine WC.seq (WC.region ?_)
  refine WL.q (oq_assign rfl) rfl rfl rfl ?_
  refine WL.nil (WE.then_normal (WC.sub (fr' := [(4, _)]) ?_ ⟨rfl, trivial⟩))
  refine WC.ret (WE.then_ret ?_)
  refine WE.endR (.inl rfl) (res1 Tryz.results14 rfl) ?_
  rw [decide_eq_false (fun e => q1 (by rw [e]))]
 ·
  try simp only [Z1, Z2, Z3, Z4, Z5, Z6, Z7, Z8, Z9, Z0] at q1
  refine WC.skip (WE.then_normal (WC.sub (fr' := [(0, _), (1, _)]) ?_ ⟨rfl, rfl, trivial⟩))
  refine WC.seq (WC.seq (WC.region ?_))
  refine WL.q (oq_assign rfl) rfl rfl rfl ?_
  refine WL.nil (WE.then_normal (WC.sub (fr' := [(0, _), (1, _), (5, _)]) ?_ ⟨rfl, rfl, rfl, trivial⟩))
  refine WC.block ?_
  refine WC.loop (ι := Nat) (fun (i : Nat) => [(0, va), (1, vb), (5, I (i : Int))]) (fun (i : Nat) => [A]) (fun (i : Nat) => i ≤ la.length ∧ ∀ j, j < i → la.getD j [] = lb.getD j []) (fun (i : Nat) => la.length - i) (0) ?_ ⟨rfl, rfl, rfl, trivial⟩ (List.Perm.refl _) ?_
  ·try dsimp only
   exact ⟨by omega, fun j hj => by omega⟩
  ·rintro i hp
   try dsimp only at hp
   obtain ⟨hi, hp⟩ := hp
   show WC _ _ _ _ _ _ ([(0, va), (1, vb), (5, I (i : Int))]) ([A])
   refine WC.seq (WC.seq (WC.region ?_))
   refine WL.q (oq_move rfl) rfl rfl rfl ?_
   refine WL.q (oq_move rfl) rfl rfl rfl ?_
   refine WL.q (oq_len_rd hra Tryz.underlying26 rfl) rfl rfl rfl ?_
   refine WL.q (oq_lss rfl rfl) rfl rfl rfl ?_
   refine WL.nil (WE.then_normal (WC.sub (fr' := [(0, _), (1, _), (5, _), (14, _)]) ?_ ⟨rfl, rfl, rfl, rfl, trivial⟩))
   refine WC.cond rfl (fun q4 => ?_) (fun q4 => ?_)
   ·
    try simp only [Z1, Z2, Z3, Z4, Z5, Z6, Z7, Z8, Z9, Z0] at q4
    refine WC.skip (WE.then_normal (WC.sub (fr' := [(0, _), (1, _), (5, _)]) ?_ ⟨rfl, rfl, rfl, trivial⟩))
    refine WC.seq (WC.block (WC.seq (WC.quiet (by kernel_rfl) (by kernel_rfl) ?_)))
    refine WQ.q (oq_move rfl) rfl rfl rfl ?_
    refine WQ.q (oq_move rfl) rfl rfl rfl ?_
    refine WQ.q (oq_ixaddr hra Tryz.underlying26 ty9 rfl rfl (by (first | omega | (simp only [List.length_cons, List.length_nil, List.length_append, List.length_drop, List.length_take]; omega)))) rfl rfl rfl ?_
    refine WQ.q (oq_load_str hra (.head _) flat9 rfl (by (first | omega | (simp only [List.length_cons, List.length_nil, List.length_append, List.length_drop, List.length_take]; omega))) (by first | exact Int.toNat_natCast _ | exact rfl)) rfl rfl rfl ?_
    refine WQ.q (oq_move rfl) rfl rfl rfl ?_
    refine WQ.q (oq_move rfl) rfl rfl rfl ?_
    refine WQ.q (oq_ixaddr hrb Tryz.underlying26 ty9 rfl rfl (by (first | omega | (simp only [List.length_cons, List.length_nil, List.length_append, List.length_drop, List.length_take]; omega)))) rfl rfl rfl ?_
    refine WQ.q (oq_load_str hrb (.head _) flat9 rfl (by (first | omega | (simp only [List.length_cons, List.length_nil, List.length_append, List.length_drop, List.length_take]; omega))) (by first | exact Int.toNat_natCast _ | exact rfl)) rfl rfl rfl ?_
    refine WQ.q (oq_sneq rfl rfl) rfl rfl rfl ?_
    refine WQ.nil (WE.then_normal (WC.sub (fr' := [(0, _), (1, _), (5, _), (25, _)]) ?_ ⟨rfl, rfl, rfl, rfl, trivial⟩))
    refine WC.cond rfl (fun q6 => ?_) (fun q6 => ?_)
    ·
     try simp only [Z1, Z2, Z3, Z4, Z5, Z6, Z7, Z8, Z9, Z0] at q6
     refine WC.seq (WC.region ?_)
     refine WL.q (oq_assign rfl) rfl rfl rfl ?_
     refine WL.nil (WE.then_normal (WC.sub (fr' := [(4, _)]) ?_ ⟨rfl, trivial⟩))
     refine WC.ret (WE.block_ret (WE.then_ret (WE.then_ret (WE.block_ret (WE.then_ret ?_)))))
     refine WE.endR (.inl rfl) (res1 Tryz.results14 rfl) ?_
     rw [decide_eq_false (fun e => q6 (by rw [e]))]
    ·
     try simp only [Z1, Z2, Z3, Z4, Z5, Z6, Z7, Z8, Z9, Z0] at q6
     refine WC.skip (WE.block_normal (WE.then_normal (WC.sub (fr' := [(0, _), (1, _), (5, _)]) ?_ ⟨rfl, rfl, rfl, trivial⟩)))
     refine WC.region ?_
     refine WL.q (oq_move rfl) rfl rfl rfl ?_
     refine WL.q (oq_add rfl rfl (by rw [i64_lo, i64_hi]; (first | omega | (simp only [List.length_cons, List.length_nil, List.length_append, List.length_drop, List.length_take]; omega)))) rfl rfl rfl ?_
     refine WL.q (oq_assign rfl) rfl rfl rfl ?_
     refine WL.nil ?_
     refine WE.again (i + 1) ?_ ?_ ⟨rfl, rfl, rfl, trivial⟩ (List.Perm.refl _)
     ·try dsimp only
      exact ⟨by omega, fun j hj => by by_cases e : j = i; rw [e]; exact q6; exact hp j (by omega)⟩
     ·(try dsimp only); omega
   ·
    try simp only [Z1, Z2, Z3, Z4, Z5, Z6, Z7, Z8, Z9, Z0] at q4
    refine WC.exit (WE.then_exit (WE.then_exit (WE.block_same (WE.then_normal (WC.sub (fr' := []) ?_ trivial)))))
    refine WC.seq (WC.region ?_)
    refine WL.q (oq_assign rfl) rfl rfl rfl ?_
    refine WL.nil (WE.then_normal (WC.sub (fr' := [(4, _)]) ?_ ⟨rfl, trivial⟩))
    refine WC.ret ?_
    refine WE.endR (.inl rfl) (res1 Tryz.results14 rfl) ?_
    rw [decide_eq_true (ext_get (by omega) fun j hj => hp j (by omega))]
theorem wAwake  : Fn0 Tryz.prog 10 [] (.bool true) := by
 refine Fn0.enter (n := 4) Tryz.func10 rfl rfl fun w0 => ?_
 refine WC.sub (fr' := []) ?_ trivial
 refine WC.seq (WC.region ?_)
 refine WL.q (oq_assign rfl) rfl rfl rfl ?_
 refine WL.nil (WE.then_normal (WC.sub (fr' := []) ?_ trivial))
 refine WC.seq (WC.region ?_)
 refine WL.q (oq_build #[_, _, _, _, _] str32 ty32 rfl rfl) rfl rfl rfl ?_
 refine WL.buildSS ((wof oa).toArray) Tryz.underlying22 ty32 rfl (by decide) (by decide) (by kernel_rfl) (by kernel_rfl) rfl rfl fun v1_1 A1_1 ho1_1 hne1_1 => ?_
 refine WL.qc (oq_callRm (wHas v1_1 A1_1 [oa] (ho1_1.rd) (by decide) (by decide) 0 (by decide) [97]) (.head _) call12 rfl) rfl rfl rfl ?_
 refine WL.q (oq_assign rfl) rfl rfl rfl ?_
 refine WL.nil (WE.then_normal (WC.sub (fr' := [(0, _)]) ?_ ⟨rfl, trivial⟩))
 refine WC.ret ?_
 refine WE.forget ho1_1.fresh ?_
 refine WE.end0 (.inl rfl) (res1 Tryz.results10 rfl) ?_
 exact congrArg Value.bool (by decide)
end SD
end Go.Proofs.YtiegaefkahnfjaaGreat
