/- The reference's dates. -/
import Derived.Test.YtcfhfdengfcfpaaDoorQ0
import Derived.Test.YtcfhfdengfcfpaaDoorQ4
import Derived.Test.YtcfhfdengfcfpaaDoorQ5
import Derived.Test.YtcfhfdengfcfpaaDoorQ6
import Derived.Lay
import Derived.Test.YtcfhfdengfcfpaaDoorRows
import Derived.Lib.LaidTab
import Derived.LaidLaws
import Derived.LaidHandle
import Derived.MakeChecks
namespace Go.Proofs.YtcfhfdengfcfpaaDoor
open Go Go.RowKit V T0 T1 T2
set_option linter.unusedSimpArgs false
set_option linter.unusedVariables false
set_option maxRecDepth 10000
namespace T3
theorem call9 : Callable Tryd.prog 9 := ⟨_, Tryd.func9, rfl, by kernel_rfl⟩
theorem call10 : Callable Tryd.prog 10 := ⟨_, Tryd.func10, rfl, by kernel_rfl⟩
theorem call11 : Callable Tryd.prog 11 := ⟨_, Tryd.func11, rfl, by kernel_rfl⟩
theorem call12 : Callable Tryd.prog 12 := ⟨_, Tryd.func12, rfl, by kernel_rfl⟩
theorem call13 : Callable Tryd.prog 13 := ⟨_, Tryd.func13, rfl, by kernel_rfl⟩
theorem call14 : Callable Tryd.prog 14 := ⟨_, Tryd.func14, rfl, by kernel_rfl⟩
theorem flat9 : Flat Tryd.prog 9 := ⟨_, Tryd.underlying9, by simp⟩
theorem ty9 : Ty Tryd.prog 9 (S []) 1 16 := ty_of (by kernel_rfl)
theorem clock_len (s : Nat) : (clock s).length = 8 := rfl
theorem dt_len (n : Nat) : (if n < 10 then [32, lo n] else two n).length = 2 := by split <;> rfl
theorem thttp (s : Nat) (hs : s ≤ 3124223999) : Fn0 Tryd.prog 5 [I ((s * 1000000000 : Nat) : Int)] (S (imf (s / 86400) (s % 86400))) := by
 have hf := facts (d := s / 86400) (by omega)
 have b1 := hf.m1
 have b2 := hf.m2
 have b3 := hf.y2
 have b4 := hf.d2
 have b5 := dim_le (monthOf (s / 86400)) (yearOf (s / 86400))
 have hw1 : weekOf (s / 86400) < 7 := Nat.mod_lt _ (by decide)
 have hw := week_len _ hw1
 have hmo := months_len (monthOf (s / 86400) - 1) (by omega)
 have hfu := fulls_len _ hw1
 unfold nameAt at hw hmo hfu
 refine Fn0.enter (n := 63) Tryd.func5 rfl rfl fun w0 => ?_
 refine WC.sub (fr' := [(0, _)]) ?_ ⟨rfl, trivial⟩
 refine WC.seq (WC.region ?_)
 refine WL.q (oq_assign rfl) rfl rfl rfl ?_
 refine WL.nil (WE.then_normal (WC.sub (fr' := [(0, _)]) ?_ ⟨rfl, trivial⟩))
 refine WC.seq (WC.region ?_)
 refine WL.q (oq_move rfl) rfl rfl rfl ?_
 refine WL.qc (oq_call (tfloor (s * 1000000000) 1000000000 (by decide) (by omega)) call9 rfl) rfl rfl rfl ?_
 refine WL.q (oq_move rfl) rfl rfl rfl ?_
 refine WL.q (oq_extract rfl rfl) rfl rfl rfl ?_
 refine WL.q (oq_extract rfl rfl) rfl rfl rfl ?_
 refine WL.q ((oq_assign rfl).to (v' := I (s : Int)) (congrArg I (by omega))) rfl rfl rfl ?_
 refine WL.q (oq_assign rfl) rfl rfl rfl ?_
 refine WL.nil (WE.then_normal (WC.sub (fr' := [(3, _)]) ?_ ⟨rfl, trivial⟩))
 refine WC.seq (WC.region ?_)
 refine WL.q (oq_move rfl) rfl rfl rfl ?_
 refine WL.qc (oq_call (tfloor s 86400 (by decide) (by omega)) call9 rfl) rfl rfl rfl ?_
 refine WL.q (oq_move rfl) rfl rfl rfl ?_
 refine WL.q (oq_extract rfl rfl) rfl rfl rfl ?_
 refine WL.q (oq_extract rfl rfl) rfl rfl rfl ?_
 refine WL.q (oq_assign rfl) rfl rfl rfl ?_
 refine WL.q (oq_assign rfl) rfl rfl rfl ?_
 refine WL.nil (WE.then_normal (WC.sub (fr' := [(3, _), (5, _)]) ?_ ⟨rfl, rfl, trivial⟩))
 refine WC.seq (WC.region ?_)
 refine WL.q (oq_move rfl) rfl rfl rfl ?_
 refine WL.qc (oq_call (tday (s / 86400) (by omega)) call10 rfl) rfl rfl rfl ?_
 refine WL.q (oq_move rfl) rfl rfl rfl ?_
 refine WL.q (oq_extract rfl rfl) rfl rfl rfl ?_
 refine WL.q (oq_extract rfl rfl) rfl rfl rfl ?_
 refine WL.q (oq_extract rfl rfl) rfl rfl rfl ?_
 refine WL.q (oq_extract rfl rfl) rfl rfl rfl ?_
 refine WL.q (oq_assign rfl) rfl rfl rfl ?_
 refine WL.q (oq_assign rfl) rfl rfl rfl ?_
 refine WL.q (oq_assign rfl) rfl rfl rfl ?_
 refine WL.q (oq_assign rfl) rfl rfl rfl ?_
 refine WL.nil (WE.then_normal (WC.sub (fr' := [(3, _), (6, _), (7, _), (8, _), (9, _)]) ?_ ⟨rfl, rfl, rfl, rfl, rfl, trivial⟩))
 refine WC.seq ?_
 refine WC.add0 ?_
 refine WC.held ([] : Hp) (by kernel_rfl) ?_
 refine WH.q 1 rfl (.head _) (fun w0 => oq_move rfl) rfl rfl rfl ?_
 refine WH.q 5 rfl (.head _) (fun w0 => oq_move rfl) rfl rfl rfl ?_
 refine WH.q 10 rfl (.head _) (fun w0 => oq_move rfl) rfl rfl rfl ?_
 refine WH.q 11 rfl (.head _) (fun w0 => (oq_sub rfl rfl (by rw [i64_lo, i64_hi]; omega)).to (v' := I ((monthOf (s / 86400) - 1 : Nat) : Int)) (congrArg I (by omega))) rfl rfl rfl ?_
 refine WH.q 16 rfl (.head _) (fun w0 => oq_move rfl) rfl rfl rfl ?_
 refine WH.q 20 rfl (.head _) (fun w0 => oq_move rfl) rfl rfl rfl ?_
 refine WH.q 21 rfl (.head _) (fun w0 => (oq_quo rfl rfl (by rw [i64_hi]; omega)).to (v' := I (((s % 86400) / 3600 : Nat) : Int)) (congrArg I (by omega))) rfl rfl rfl ?_
 refine WH.q 25 rfl (.head _) (fun w0 => oq_move rfl) rfl rfl rfl ?_
 refine WH.q 26 rfl (.head _) (fun w0 => (oq_quo rfl rfl (by rw [i64_hi]; omega)).to (v' := I (((s % 86400) / 60 : Nat) : Int)) (congrArg I (by omega))) rfl rfl rfl ?_
 refine WH.q 27 rfl (.head _) (fun w0 => (oq_rem rfl rfl (by omega)).to (v' := I (((s % 86400) / 60 % 60 : Nat) : Int)) (congrArg I (by omega))) rfl rfl rfl ?_
 refine WH.q 31 rfl (.head _) (fun w0 => oq_move rfl) rfl rfl rfl ?_
 refine WH.q 32 rfl (.head _) (fun w0 => (oq_rem rfl rfl (by omega)).to (v' := I (((s % 86400) % 60 : Nat) : Int)) (congrArg I (by omega))) rfl rfl rfl ?_
 refine WH.step (i := 0) (by kernel_rfl) rfl ?_
 refine WL.callA0 (tweek) call11 rfl rfl rfl fun v4_0 N4_0 hR4_0 hN4_0 => ?_
 have hR4_0 : RdS 1 v4_0 N4_0 7 (strsV week) := hR4_0
 refine WL.nil ?_
 refine WE.toH (.tail _ (.head _)) ?_
 refine WH.more N4_0 (fun _ _ => Has.nil _) ?_
 refine WH.q 2 rfl (.head _) (fun w0 => oq_ixaddr hR4_0 Tryd.underlying33 ty9 rfl rfl (by omega)) rfl rfl rfl ?_
 refine WH.q 3 rfl (.head _) (fun w0 => oq_load_str hR4_0 (.head _) flat9 rfl (by omega) (by first | exact Int.toNat_natCast _ | exact rfl)) rfl rfl rfl ?_
 refine WH.q 4 rfl (.head _) (fun w0 => oq_concat rfl rfl (by (simp only [List.length_append, two_len, four_len, List.length_cons, List.length_nil]; omega))) rfl rfl rfl ?_
 refine WH.step (i := 6) (by kernel_rfl) rfl ?_
 refine WL.qc (oq_call (two2 _ (by omega)) call12 rfl) rfl rfl rfl ?_
 refine WL.nil ?_
 refine WE.toH (.head _) ?_
 refine WH.q 7 rfl (.head _) (fun w0 => oq_concat rfl rfl (by (simp only [List.length_append, two_len, four_len, List.length_cons, List.length_nil]; omega))) rfl rfl rfl ?_
 refine WH.q 8 rfl (.head _) (fun w0 => oq_concat rfl rfl (by (simp only [List.length_append, two_len, four_len, List.length_cons, List.length_nil]; omega))) rfl rfl rfl ?_
 refine WH.step (i := 9) (by kernel_rfl) rfl ?_
 refine WL.callA0 (tmonths) call13 rfl rfl rfl fun v4_9 N4_9 hR4_9 hN4_9 => ?_
 have hR4_9 : RdS 1 v4_9 N4_9 12 (strsV months) := hR4_9
 refine WL.nil ?_
 refine WE.toH (.tail _ (.head _)) ?_
 refine WH.f1 ?_
 refine WH.f1 ?_
 have hRw4 := hR4_9.weaken (C := N4_9 ++ N4_0) (fun x hx => List.mem_append_left _ hx)
 refine WH.cat ?_
 refine WH.more (N4_9 ++ N4_0) (fun _ h => Has.right h) ?_
 refine WH.q 12 rfl (.head _) (fun w0 => oq_ixaddr hRw4 Tryd.underlying33 ty9 rfl rfl (by omega)) rfl rfl rfl ?_
 refine WH.q 13 rfl (.head _) (fun w0 => oq_load_str hRw4 (.head _) flat9 rfl (by omega) (by first | exact Int.toNat_natCast _ | exact rfl)) rfl rfl rfl ?_
 refine WH.q 14 rfl (.head _) (fun w0 => oq_concat rfl rfl (by (simp only [List.length_append, two_len, four_len, List.length_cons, List.length_nil]; omega))) rfl rfl rfl ?_
 refine WH.q 15 rfl (.head _) (fun w0 => oq_concat rfl rfl (by (simp only [List.length_append, two_len, four_len, List.length_cons, List.length_nil]; omega))) rfl rfl rfl ?_
 refine WH.step (i := 17) (by kernel_rfl) rfl ?_
 refine WL.qc (oq_call (four2 _ (by omega)) call14 rfl) rfl rfl rfl ?_
 refine WL.nil ?_
 refine WE.toH (.head _) ?_
 refine WH.q 18 rfl (.head _) (fun w0 => oq_concat rfl rfl (by (simp only [List.length_append, two_len, four_len, List.length_cons, List.length_nil]; omega))) rfl rfl rfl ?_
 refine WH.q 19 rfl (.head _) (fun w0 => oq_concat rfl rfl (by (simp only [List.length_append, two_len, four_len, List.length_cons, List.length_nil]; omega))) rfl rfl rfl ?_
 refine WH.step (i := 22) (by kernel_rfl) rfl ?_
 refine WL.qc (oq_call (two2 _ (by omega)) call12 rfl) rfl rfl rfl ?_
 refine WL.nil ?_
 refine WE.toH (.head _) ?_
 refine WH.q 23 rfl (.head _) (fun w0 => oq_concat rfl rfl (by (simp only [List.length_append, two_len, four_len, List.length_cons, List.length_nil]; omega))) rfl rfl rfl ?_
 refine WH.q 24 rfl (.head _) (fun w0 => oq_concat rfl rfl (by (simp only [List.length_append, two_len, four_len, List.length_cons, List.length_nil]; omega))) rfl rfl rfl ?_
 refine WH.step (i := 28) (by kernel_rfl) rfl ?_
 refine WL.qc (oq_call (two2 _ (by omega)) call12 rfl) rfl rfl rfl ?_
 refine WL.nil ?_
 refine WE.toH (.head _) ?_
 refine WH.q 29 rfl (.head _) (fun w0 => oq_concat rfl rfl (by (simp only [List.length_append, two_len, four_len, List.length_cons, List.length_nil]; omega))) rfl rfl rfl ?_
 refine WH.q 30 rfl (.head _) (fun w0 => oq_concat rfl rfl (by (simp only [List.length_append, two_len, four_len, List.length_cons, List.length_nil]; omega))) rfl rfl rfl ?_
 refine WH.step (i := 33) (by kernel_rfl) rfl ?_
 refine WL.qc (oq_call (two2 _ (by omega)) call12 rfl) rfl rfl rfl ?_
 refine WL.nil ?_
 refine WE.toH (.head _) ?_
 refine WH.q 34 rfl (.head _) (fun w0 => oq_concat rfl rfl (by (simp only [List.length_append, two_len, four_len, List.length_cons, List.length_nil]; omega))) rfl rfl rfl ?_
 refine WH.q 35 rfl (.head _) (fun w0 => oq_concat rfl rfl (by (simp only [List.length_append, two_len, four_len, List.length_cons, List.length_nil]; omega))) rfl rfl rfl ?_
 refine WH.q 36 rfl (.head _) (fun w0 => oq_assign rfl) rfl rfl rfl ?_
 refine WH.done (by kernel_rfl) ?_
 refine WE.then_normal (WC.sub (fr' := [(2, _)]) ?_ ⟨rfl, trivial⟩)
 refine WC.ret ?_
 refine WE.forget (fresh_cat hN4_9 hN4_0) ?_
 refine WE.nil0 ?_
 refine WE.end0 (.inl rfl) (res1 Tryd.results5 rfl) ?_
 rfl
theorem tasc (s : Nat) (hs : s ≤ 3124223999) : Fn0 Tryd.prog 6 [I ((s * 1000000000 : Nat) : Int), .bool true] (S (asc (s / 86400) (s % 86400))) := by
 have hf := facts (d := s / 86400) (by omega)
 have b1 := hf.m1
 have b2 := hf.m2
 have b3 := hf.y2
 have b4 := hf.d2
 have b5 := dim_le (monthOf (s / 86400)) (yearOf (s / 86400))
 have hw1 : weekOf (s / 86400) < 7 := Nat.mod_lt _ (by decide)
 have hw := week_len _ hw1
 have hmo := months_len (monthOf (s / 86400) - 1) (by omega)
 have hfu := fulls_len _ hw1
 unfold nameAt at hw hmo hfu
 refine Fn0.enter (n := 99) Tryd.func6 rfl rfl fun w0 => ?_
 refine WC.sub (fr' := [(0, _), (1, _)]) ?_ ⟨rfl, rfl, trivial⟩
 refine WC.seq (WC.region ?_)
 refine WL.q (oq_assign rfl) rfl rfl rfl ?_
 refine WL.nil (WE.then_normal (WC.sub (fr' := [(0, _), (1, _)]) ?_ ⟨rfl, rfl, trivial⟩))
 refine WC.seq (WC.region ?_)
 refine WL.q (oq_move rfl) rfl rfl rfl ?_
 refine WL.qc (oq_call (tfloor (s * 1000000000) 1000000000 (by decide) (by omega)) call9 rfl) rfl rfl rfl ?_
 refine WL.q (oq_move rfl) rfl rfl rfl ?_
 refine WL.q (oq_extract rfl rfl) rfl rfl rfl ?_
 refine WL.q (oq_extract rfl rfl) rfl rfl rfl ?_
 refine WL.q ((oq_assign rfl).to (v' := I (s : Int)) (congrArg I (by omega))) rfl rfl rfl ?_
 refine WL.q (oq_assign rfl) rfl rfl rfl ?_
 refine WL.nil (WE.then_normal (WC.sub (fr' := [(1, _), (5, _)]) ?_ ⟨rfl, rfl, trivial⟩))
 refine WC.seq (WC.region ?_)
 refine WL.q (oq_move rfl) rfl rfl rfl ?_
 refine WL.qc (oq_call (tfloor s 86400 (by decide) (by omega)) call9 rfl) rfl rfl rfl ?_
 refine WL.q (oq_move rfl) rfl rfl rfl ?_
 refine WL.q (oq_extract rfl rfl) rfl rfl rfl ?_
 refine WL.q (oq_extract rfl rfl) rfl rfl rfl ?_
 refine WL.q (oq_assign rfl) rfl rfl rfl ?_
 refine WL.q (oq_assign rfl) rfl rfl rfl ?_
 refine WL.nil (WE.then_normal (WC.sub (fr' := [(1, _), (5, _), (7, _)]) ?_ ⟨rfl, rfl, rfl, trivial⟩))
 refine WC.seq (WC.region ?_)
 refine WL.q (oq_move rfl) rfl rfl rfl ?_
 refine WL.qc (oq_call (tday (s / 86400) (by omega)) call10 rfl) rfl rfl rfl ?_
 refine WL.q (oq_move rfl) rfl rfl rfl ?_
 refine WL.q (oq_extract rfl rfl) rfl rfl rfl ?_
 refine WL.q (oq_extract rfl rfl) rfl rfl rfl ?_
 refine WL.q (oq_extract rfl rfl) rfl rfl rfl ?_
 refine WL.q (oq_extract rfl rfl) rfl rfl rfl ?_
 refine WL.q (oq_assign rfl) rfl rfl rfl ?_
 refine WL.q (oq_assign rfl) rfl rfl rfl ?_
 refine WL.q (oq_assign rfl) rfl rfl rfl ?_
 refine WL.q (oq_assign rfl) rfl rfl rfl ?_
 refine WL.nil (WE.then_normal (WC.sub (fr' := [(1, _), (5, _), (8, _), (9, _), (10, _), (11, _)]) ?_ ⟨rfl, rfl, rfl, rfl, rfl, rfl, trivial⟩))
 refine WC.seq (WC.region ?_)
 refine WL.q (oq_move rfl) rfl rfl rfl ?_
 refine WL.q ((oq_quo rfl rfl (by rw [i64_hi]; omega)).to (v' := I (((s % 86400) / 3600 : Nat) : Int)) (congrArg I (by omega))) rfl rfl rfl ?_
 refine WL.qc (oq_call (two2 _ (by omega)) call12 rfl) rfl rfl rfl ?_
 refine WL.q (oq_concat rfl rfl (by (simp only [List.length_append, two_len, four_len, clock_len, dt_len, List.length_drop, List.length_cons, List.length_nil]; omega))) rfl rfl rfl ?_
 refine WL.q (oq_move rfl) rfl rfl rfl ?_
 refine WL.q ((oq_quo rfl rfl (by rw [i64_hi]; omega)).to (v' := I (((s % 86400) / 60 : Nat) : Int)) (congrArg I (by omega))) rfl rfl rfl ?_
 refine WL.q ((oq_rem rfl rfl (by omega)).to (v' := I (((s % 86400) / 60 % 60 : Nat) : Int)) (congrArg I (by omega))) rfl rfl rfl ?_
 refine WL.qc (oq_call (two2 _ (by omega)) call12 rfl) rfl rfl rfl ?_
 refine WL.q (oq_concat rfl rfl (by (simp only [List.length_append, two_len, four_len, clock_len, dt_len, List.length_drop, List.length_cons, List.length_nil]; omega))) rfl rfl rfl ?_
 refine WL.q (oq_concat rfl rfl (by (simp only [List.length_append, two_len, four_len, clock_len, dt_len, List.length_drop, List.length_cons, List.length_nil]; omega))) rfl rfl rfl ?_
 refine WL.q (oq_move rfl) rfl rfl rfl ?_
 refine WL.q ((oq_rem rfl rfl (by omega)).to (v' := I (((s % 86400) % 60 : Nat) : Int)) (congrArg I (by omega))) rfl rfl rfl ?_
 refine WL.qc (oq_call (two2 _ (by omega)) call12 rfl) rfl rfl rfl ?_
 refine WL.q (oq_concat rfl rfl (by (simp only [List.length_append, two_len, four_len, clock_len, dt_len, List.length_drop, List.length_cons, List.length_nil]; omega))) rfl rfl rfl ?_
 refine WL.q ((oq_assign rfl).to (v' := S (clock (s % 86400))) rfl) rfl rfl rfl ?_
 refine WL.nil (WE.then_normal (WC.sub (fr' := [(1, _), (8, _), (9, _), (10, _), (11, _), (12, _)]) ?_ ⟨rfl, rfl, rfl, rfl, rfl, rfl, trivial⟩))
 refine WC.seq (WC.seq (WC.region ?_))
 refine WL.q (oq_move rfl) rfl rfl rfl ?_
 refine WL.nil (WE.then_normal (WC.sub (fr' := [(8, _), (9, _), (10, _), (11, _), (12, _), (46, _)]) ?_ ⟨rfl, rfl, rfl, rfl, rfl, rfl, trivial⟩))
 refine WC.cond_t rfl ?_
 refine WC.seq (WC.region ?_)
 refine WL.q (oq_move rfl) rfl rfl rfl ?_
 refine WL.qc (oq_call (two2 _ (by omega)) call12 rfl) rfl rfl rfl ?_
 refine WL.q (oq_assign rfl) rfl rfl rfl ?_
 refine WL.nil (WE.then_normal (WC.sub (fr' := [(8, _), (9, _), (10, _), (11, _), (12, _), (13, _)]) ?_ ⟨rfl, rfl, rfl, rfl, rfl, rfl, trivial⟩))
 refine WC.cut (ι := Unit) (fun _ => [(8, I (yearOf (s / 86400) : Int)), (9, I (monthOf (s / 86400) : Int)), (11, I (weekOf (s / 86400) : Int)), (12, S (clock (s % 86400))), (13, S (if dayOf (s / 86400) < 10 then [32, lo (dayOf (s / 86400))] else two (dayOf (s / 86400))))]) (fun _ => []) (fun _ => True) ?_ ?_
 ·
  refine WC.seq (WC.region ?_)
  refine WL.q (oq_move rfl) rfl rfl rfl ?_
  refine WL.q (oq_lss rfl rfl) rfl rfl rfl ?_
  refine WL.nil (WE.then_normal (WC.sub (fr' := [(8, _), (9, _), (11, _), (12, _), (13, _), (50, _)]) ?_ ⟨rfl, rfl, rfl, rfl, rfl, rfl, trivial⟩))
  refine WC.cond rfl (fun q7 => ?_) (fun q7 => ?_)
  ·
   try simp only [Z1, Z2, Z3, Z4, Z5, Z6, Z7, Z8, Z9, Z0] at q7
   refine WC.region ?_
   refine WL.q (oq_move rfl) rfl rfl rfl ?_
   refine WL.q (oq_slice_s1 Tryd.underlying9 rfl rfl (by first | omega | (rw [two_len]; omega))) rfl rfl rfl ?_
   refine WL.q (oq_concat rfl rfl (by (simp only [List.length_append, two_len, four_len, clock_len, dt_len, List.length_drop, List.length_cons, List.length_nil]; omega))) rfl rfl rfl ?_
   refine WL.q (oq_assign rfl) rfl rfl rfl ?_
   refine WL.nil ?_
   refine WE.meet () ?_ ⟨rfl, rfl, rfl, rfl, (gtv rfl (by first | (rw [if_pos (by omega)]; rfl) | (rw [if_neg (by omega)]))), trivial⟩ (List.Perm.refl _)
   try dsimp only
   all_goals trivial
  ·
   try simp only [Z1, Z2, Z3, Z4, Z5, Z6, Z7, Z8, Z9, Z0] at q7
   refine WC.skip ?_
   refine WE.meet () ?_ ⟨rfl, rfl, rfl, rfl, (gtv rfl (by first | (rw [if_pos (by omega)]; rfl) | (rw [if_neg (by omega)]))), trivial⟩ (List.Perm.refl _)
   try dsimp only
   all_goals trivial
 ·rintro _ hp
  try dsimp only at hp
  show WC _ _ _ _ _ _ ([(8, I (yearOf (s / 86400) : Int)), (9, I (monthOf (s / 86400) : Int)), (11, I (weekOf (s / 86400) : Int)), (12, S (clock (s % 86400))), (13, S (if dayOf (s / 86400) < 10 then [32, lo (dayOf (s / 86400))] else two (dayOf (s / 86400))))]) ([])
  refine WC.seq ?_
  refine WC.add0 ?_
  refine WC.held ([] : Hp) (by kernel_rfl) ?_
  refine WH.q 1 rfl (.head _) (fun w0 => oq_move rfl) rfl rfl rfl ?_
  refine WH.q 6 rfl (.head _) (fun w0 => oq_move rfl) rfl rfl rfl ?_
  refine WH.q 7 rfl (.head _) (fun w0 => (oq_sub rfl rfl (by rw [i64_lo, i64_hi]; omega)).to (v' := I ((monthOf (s / 86400) - 1 : Nat) : Int)) (congrArg I (by omega))) rfl rfl rfl ?_
  refine WH.q 12 rfl (.head _) (fun w0 => oq_move rfl) rfl rfl rfl ?_
  refine WH.q 15 rfl (.head _) (fun w0 => oq_move rfl) rfl rfl rfl ?_
  refine WH.q 18 rfl (.head _) (fun w0 => oq_move rfl) rfl rfl rfl ?_
  refine WH.step (i := 0) (by kernel_rfl) rfl ?_
  refine WL.callA0 (tweek) call11 rfl rfl rfl fun v9_0 N9_0 hR9_0 hN9_0 => ?_
  have hR9_0 : RdS 1 v9_0 N9_0 7 (strsV week) := hR9_0
  refine WL.nil ?_
  refine WE.toH (.tail _ (.head _)) ?_
  refine WH.more N9_0 (fun _ _ => Has.nil _) ?_
  refine WH.q 2 rfl (.head _) (fun w0 => oq_ixaddr hR9_0 Tryd.underlying33 ty9 rfl rfl (by omega)) rfl rfl rfl ?_
  refine WH.q 3 rfl (.head _) (fun w0 => oq_load_str hR9_0 (.head _) flat9 rfl (by omega) (by first | exact Int.toNat_natCast _ | exact rfl)) rfl rfl rfl ?_
  refine WH.q 4 rfl (.head _) (fun w0 => oq_concat rfl rfl (by (simp only [List.length_append, two_len, four_len, clock_len, dt_len, List.length_drop, List.length_cons, List.length_nil]; omega))) rfl rfl rfl ?_
  refine WH.step (i := 5) (by kernel_rfl) rfl ?_
  refine WL.callA0 (tmonths) call13 rfl rfl rfl fun v9_5 N9_5 hR9_5 hN9_5 => ?_
  have hR9_5 : RdS 1 v9_5 N9_5 12 (strsV months) := hR9_5
  refine WL.nil ?_
  refine WE.toH (.tail _ (.head _)) ?_
  refine WH.f1 ?_
  refine WH.f1 ?_
  have hRw9 := hR9_5.weaken (C := N9_5 ++ N9_0) (fun x hx => List.mem_append_left _ hx)
  refine WH.cat ?_
  refine WH.more (N9_5 ++ N9_0) (fun _ h => Has.right h) ?_
  refine WH.q 8 rfl (.head _) (fun w0 => oq_ixaddr hRw9 Tryd.underlying33 ty9 rfl rfl (by omega)) rfl rfl rfl ?_
  refine WH.q 9 rfl (.head _) (fun w0 => oq_load_str hRw9 (.head _) flat9 rfl (by omega) (by first | exact Int.toNat_natCast _ | exact rfl)) rfl rfl rfl ?_
  refine WH.q 10 rfl (.head _) (fun w0 => oq_concat rfl rfl (by (simp only [List.length_append, two_len, four_len, clock_len, dt_len, List.length_drop, List.length_cons, List.length_nil]; omega))) rfl rfl rfl ?_
  refine WH.q 11 rfl (.head _) (fun w0 => oq_concat rfl rfl (by (simp only [List.length_append, two_len, four_len, clock_len, dt_len, List.length_drop, List.length_cons, List.length_nil]; omega))) rfl rfl rfl ?_
  refine WH.q 13 rfl (.head _) (fun w0 => oq_concat rfl rfl (by (simp only [List.length_append, two_len, four_len, clock_len, dt_len, List.length_drop, List.length_cons, List.length_nil]; omega))) rfl rfl rfl ?_
  refine WH.q 14 rfl (.head _) (fun w0 => oq_concat rfl rfl (by (simp only [List.length_append, two_len, four_len, clock_len, dt_len, List.length_drop, List.length_cons, List.length_nil]; omega))) rfl rfl rfl ?_
  refine WH.q 16 rfl (.head _) (fun w0 => oq_concat rfl rfl (by (simp only [List.length_append, two_len, four_len, clock_len, dt_len, List.length_drop, List.length_cons, List.length_nil]; omega))) rfl rfl rfl ?_
  refine WH.q 17 rfl (.head _) (fun w0 => oq_concat rfl rfl (by (simp only [List.length_append, two_len, four_len, clock_len, dt_len, List.length_drop, List.length_cons, List.length_nil]; omega))) rfl rfl rfl ?_
  refine WH.step (i := 19) (by kernel_rfl) rfl ?_
  refine WL.qc (oq_call (four2 _ (by omega)) call14 rfl) rfl rfl rfl ?_
  refine WL.nil ?_
  refine WE.toH (.head _) ?_
  refine WH.q 20 rfl (.head _) (fun w0 => oq_concat rfl rfl (by (simp only [List.length_append, two_len, four_len, clock_len, dt_len, List.length_drop, List.length_cons, List.length_nil]; omega))) rfl rfl rfl ?_
  refine WH.q 21 rfl (.head _) (fun w0 => oq_assign rfl) rfl rfl rfl ?_
  refine WH.done (by kernel_rfl) ?_
  refine WE.then_normal (WC.sub (fr' := [(4, _)]) ?_ ⟨rfl, trivial⟩)
  refine WC.ret (WE.then_ret ?_)
  refine WE.forget (fresh_cat hN9_5 hN9_0) ?_
  refine WE.nil0 ?_
  refine WE.end0 (.inl rfl) (res1 Tryd.results6 rfl) ?_
  rfl
theorem t850 (s : Nat) (hs : s ≤ 3124223999) : Fn0 Tryd.prog 6 [I ((s * 1000000000 : Nat) : Int), .bool false] (S (r850 (s / 86400) (s % 86400))) := by
 have hf := facts (d := s / 86400) (by omega)
 have b1 := hf.m1
 have b2 := hf.m2
 have b3 := hf.y2
 have b4 := hf.d2
 have b5 := dim_le (monthOf (s / 86400)) (yearOf (s / 86400))
 have hw1 : weekOf (s / 86400) < 7 := Nat.mod_lt _ (by decide)
 have hw := week_len _ hw1
 have hmo := months_len (monthOf (s / 86400) - 1) (by omega)
 have hfu := fulls_len _ hw1
 unfold nameAt at hw hmo hfu
 refine Fn0.enter (n := 99) Tryd.func6 rfl rfl fun w0 => ?_
 refine WC.sub (fr' := [(0, _), (1, _)]) ?_ ⟨rfl, rfl, trivial⟩
 refine WC.seq (WC.region ?_)
 refine WL.q (oq_assign rfl) rfl rfl rfl ?_
 refine WL.nil (WE.then_normal (WC.sub (fr' := [(0, _), (1, _)]) ?_ ⟨rfl, rfl, trivial⟩))
 refine WC.seq (WC.region ?_)
 refine WL.q (oq_move rfl) rfl rfl rfl ?_
 refine WL.qc (oq_call (tfloor (s * 1000000000) 1000000000 (by decide) (by omega)) call9 rfl) rfl rfl rfl ?_
 refine WL.q (oq_move rfl) rfl rfl rfl ?_
 refine WL.q (oq_extract rfl rfl) rfl rfl rfl ?_
 refine WL.q (oq_extract rfl rfl) rfl rfl rfl ?_
 refine WL.q ((oq_assign rfl).to (v' := I (s : Int)) (congrArg I (by omega))) rfl rfl rfl ?_
 refine WL.q (oq_assign rfl) rfl rfl rfl ?_
 refine WL.nil (WE.then_normal (WC.sub (fr' := [(1, _), (5, _)]) ?_ ⟨rfl, rfl, trivial⟩))
 refine WC.seq (WC.region ?_)
 refine WL.q (oq_move rfl) rfl rfl rfl ?_
 refine WL.qc (oq_call (tfloor s 86400 (by decide) (by omega)) call9 rfl) rfl rfl rfl ?_
 refine WL.q (oq_move rfl) rfl rfl rfl ?_
 refine WL.q (oq_extract rfl rfl) rfl rfl rfl ?_
 refine WL.q (oq_extract rfl rfl) rfl rfl rfl ?_
 refine WL.q (oq_assign rfl) rfl rfl rfl ?_
 refine WL.q (oq_assign rfl) rfl rfl rfl ?_
 refine WL.nil (WE.then_normal (WC.sub (fr' := [(1, _), (5, _), (7, _)]) ?_ ⟨rfl, rfl, rfl, trivial⟩))
 refine WC.seq (WC.region ?_)
 refine WL.q (oq_move rfl) rfl rfl rfl ?_
 refine WL.qc (oq_call (tday (s / 86400) (by omega)) call10 rfl) rfl rfl rfl ?_
 refine WL.q (oq_move rfl) rfl rfl rfl ?_
 refine WL.q (oq_extract rfl rfl) rfl rfl rfl ?_
 refine WL.q (oq_extract rfl rfl) rfl rfl rfl ?_
 refine WL.q (oq_extract rfl rfl) rfl rfl rfl ?_
 refine WL.q (oq_extract rfl rfl) rfl rfl rfl ?_
 refine WL.q (oq_assign rfl) rfl rfl rfl ?_
 refine WL.q (oq_assign rfl) rfl rfl rfl ?_
 refine WL.q (oq_assign rfl) rfl rfl rfl ?_
 refine WL.q (oq_assign rfl) rfl rfl rfl ?_
 refine WL.nil (WE.then_normal (WC.sub (fr' := [(1, _), (5, _), (8, _), (9, _), (10, _), (11, _)]) ?_ ⟨rfl, rfl, rfl, rfl, rfl, rfl, trivial⟩))
 refine WC.seq (WC.region ?_)
 refine WL.q (oq_move rfl) rfl rfl rfl ?_
 refine WL.q ((oq_quo rfl rfl (by rw [i64_hi]; omega)).to (v' := I (((s % 86400) / 3600 : Nat) : Int)) (congrArg I (by omega))) rfl rfl rfl ?_
 refine WL.qc (oq_call (two2 _ (by omega)) call12 rfl) rfl rfl rfl ?_
 refine WL.q (oq_concat rfl rfl (by (simp only [List.length_append, two_len, four_len, clock_len, dt_len, List.length_drop, List.length_cons, List.length_nil]; omega))) rfl rfl rfl ?_
 refine WL.q (oq_move rfl) rfl rfl rfl ?_
 refine WL.q ((oq_quo rfl rfl (by rw [i64_hi]; omega)).to (v' := I (((s % 86400) / 60 : Nat) : Int)) (congrArg I (by omega))) rfl rfl rfl ?_
 refine WL.q ((oq_rem rfl rfl (by omega)).to (v' := I (((s % 86400) / 60 % 60 : Nat) : Int)) (congrArg I (by omega))) rfl rfl rfl ?_
 refine WL.qc (oq_call (two2 _ (by omega)) call12 rfl) rfl rfl rfl ?_
 refine WL.q (oq_concat rfl rfl (by (simp only [List.length_append, two_len, four_len, clock_len, dt_len, List.length_drop, List.length_cons, List.length_nil]; omega))) rfl rfl rfl ?_
 refine WL.q (oq_concat rfl rfl (by (simp only [List.length_append, two_len, four_len, clock_len, dt_len, List.length_drop, List.length_cons, List.length_nil]; omega))) rfl rfl rfl ?_
 refine WL.q (oq_move rfl) rfl rfl rfl ?_
 refine WL.q ((oq_rem rfl rfl (by omega)).to (v' := I (((s % 86400) % 60 : Nat) : Int)) (congrArg I (by omega))) rfl rfl rfl ?_
 refine WL.qc (oq_call (two2 _ (by omega)) call12 rfl) rfl rfl rfl ?_
 refine WL.q (oq_concat rfl rfl (by (simp only [List.length_append, two_len, four_len, clock_len, dt_len, List.length_drop, List.length_cons, List.length_nil]; omega))) rfl rfl rfl ?_
 refine WL.q ((oq_assign rfl).to (v' := S (clock (s % 86400))) rfl) rfl rfl rfl ?_
 refine WL.nil (WE.then_normal (WC.sub (fr' := [(1, _), (8, _), (9, _), (10, _), (11, _), (12, _)]) ?_ ⟨rfl, rfl, rfl, rfl, rfl, rfl, trivial⟩))
 refine WC.seq (WC.seq (WC.region ?_))
 refine WL.q (oq_move rfl) rfl rfl rfl ?_
 refine WL.nil (WE.then_normal (WC.sub (fr' := [(8, _), (9, _), (10, _), (11, _), (12, _), (46, _)]) ?_ ⟨rfl, rfl, rfl, rfl, rfl, rfl, trivial⟩))
 refine WC.cond_f rfl ?_
 refine WC.skip (WE.then_normal (WC.sub (fr' := [(8, _), (9, _), (10, _), (11, _), (12, _)]) ?_ ⟨rfl, rfl, rfl, rfl, rfl, trivial⟩))
 refine WC.seq (WC.region ?_)
 refine WL.buildL Tryd.underlying33 ty9 rfl rfl (by decide) (by decide) rfl rfl rfl fun v10_0 A10_0 ho10_0 hne10_0 => ?_
 refine WL.q (oq_assign rfl) rfl rfl rfl ?_
 refine WL.nil (WE.then_normal (WC.sub (fr' := [(8, _), (9, _), (10, _), (11, _), (12, _), (14, _)]) ?_ ⟨rfl, rfl, rfl, rfl, rfl, rfl, trivial⟩))
 refine WC.seq ?_
 have ho10_0 : OwS w0.heap.size 9 1 v10_0 A10_0 7 (strsV fulls) := ho10_0
 refine WC.add0 ?_
 refine WC.held ([] : Hp) (by kernel_rfl) ?_
 refine WH.more A10_0 (fun _ _ => Has.nil _) ?_
 refine WH.q 0 rfl (.tail _ (.head _)) (fun w0 => oq_move rfl) rfl rfl rfl ?_
 refine WH.q 1 rfl (.tail _ (.head _)) (fun w0 => oq_move rfl) rfl rfl rfl ?_
 refine WH.q 2 rfl (.tail _ (.head _)) (fun w0 => oq_ixaddr ho10_0.rd Tryd.underlying33 ty9 rfl rfl (by omega)) rfl rfl rfl ?_
 refine WH.q 3 rfl (.tail _ (.head _)) (fun w0 => oq_load_str ho10_0.rd (.head _) flat9 rfl (by omega) (by first | exact Int.toNat_natCast _ | exact rfl)) rfl rfl rfl ?_
 refine WH.q 4 rfl (.tail _ (.head _)) (fun w0 => oq_concat rfl rfl (by (simp only [List.length_append, two_len, four_len, clock_len, dt_len, List.length_drop, List.length_cons, List.length_nil]; omega))) rfl rfl rfl ?_
 refine WH.q 5 rfl (.tail _ (.head _)) (fun w0 => oq_move rfl) rfl rfl rfl ?_
 refine WH.q 10 rfl (.tail _ (.head _)) (fun w0 => oq_move rfl) rfl rfl rfl ?_
 refine WH.q 11 rfl (.tail _ (.head _)) (fun w0 => (oq_sub rfl rfl (by rw [i64_lo, i64_hi]; omega)).to (v' := I ((monthOf (s / 86400) - 1 : Nat) : Int)) (congrArg I (by omega))) rfl rfl rfl ?_
 refine WH.q 16 rfl (.tail _ (.head _)) (fun w0 => oq_move rfl) rfl rfl rfl ?_
 refine WH.q 20 rfl (.tail _ (.head _)) (fun w0 => oq_move rfl) rfl rfl rfl ?_
 refine WH.step (i := 6) (by kernel_rfl) rfl ?_
 refine WL.qc (oq_call (two2 _ (by omega)) call12 rfl) rfl rfl rfl ?_
 refine WL.nil ?_
 refine WE.toH (.tail _ (.head _)) ?_
 refine WH.q 7 rfl (.tail _ (.head _)) (fun w0 => oq_concat rfl rfl (by (simp only [List.length_append, two_len, four_len, clock_len, dt_len, List.length_drop, List.length_cons, List.length_nil]; omega))) rfl rfl rfl ?_
 refine WH.q 8 rfl (.tail _ (.head _)) (fun w0 => oq_concat rfl rfl (by (simp only [List.length_append, two_len, four_len, clock_len, dt_len, List.length_drop, List.length_cons, List.length_nil]; omega))) rfl rfl rfl ?_
 refine WH.step (i := 9) (by kernel_rfl) rfl ?_
 refine WL.callA0 (tmonths) call13 rfl rfl rfl fun v11_9 N11_9 hR11_9 hN11_9 => ?_
 have hR11_9 : RdS 1 v11_9 N11_9 12 (strsV months) := hR11_9
 refine WL.nil ?_
 refine WE.toH (.tail _ (.tail _ (.head _))) ?_
 refine WH.f2 ?_
 refine WH.f1 ?_
 have hRw11 := hR11_9.weaken (C := N11_9 ++ A10_0) (fun x hx => List.mem_append_left _ hx)
 refine WH.cat ?_
 refine WH.more (N11_9 ++ A10_0) (fun _ h => Has.right h) ?_
 refine WH.q 12 rfl (.head _) (fun w0 => oq_ixaddr hRw11 Tryd.underlying33 ty9 rfl rfl (by omega)) rfl rfl rfl ?_
 refine WH.q 13 rfl (.head _) (fun w0 => oq_load_str hRw11 (.head _) flat9 rfl (by omega) (by first | exact Int.toNat_natCast _ | exact rfl)) rfl rfl rfl ?_
 refine WH.q 14 rfl (.head _) (fun w0 => oq_concat rfl rfl (by (simp only [List.length_append, two_len, four_len, clock_len, dt_len, List.length_drop, List.length_cons, List.length_nil]; omega))) rfl rfl rfl ?_
 refine WH.q 15 rfl (.head _) (fun w0 => oq_concat rfl rfl (by (simp only [List.length_append, two_len, four_len, clock_len, dt_len, List.length_drop, List.length_cons, List.length_nil]; omega))) rfl rfl rfl ?_
 refine WH.step (i := 17) (by kernel_rfl) rfl ?_
 refine WL.qc (oq_call (two2 _ (by omega)) call12 rfl) rfl rfl rfl ?_
 refine WL.nil ?_
 refine WE.toH (.head _) ?_
 refine WH.q 18 rfl (.head _) (fun w0 => oq_concat rfl rfl (by (simp only [List.length_append, two_len, four_len, clock_len, dt_len, List.length_drop, List.length_cons, List.length_nil]; omega))) rfl rfl rfl ?_
 refine WH.q 19 rfl (.head _) (fun w0 => oq_concat rfl rfl (by (simp only [List.length_append, two_len, four_len, clock_len, dt_len, List.length_drop, List.length_cons, List.length_nil]; omega))) rfl rfl rfl ?_
 refine WH.q 21 rfl (.head _) (fun w0 => oq_concat rfl rfl (by (simp only [List.length_append, two_len, four_len, clock_len, dt_len, List.length_drop, List.length_cons, List.length_nil]; omega))) rfl rfl rfl ?_
 refine WH.q 22 rfl (.head _) (fun w0 => oq_concat rfl rfl (by (simp only [List.length_append, two_len, four_len, clock_len, dt_len, List.length_drop, List.length_cons, List.length_nil]; omega))) rfl rfl rfl ?_
 refine WH.q 23 rfl (.head _) (fun w0 => oq_assign rfl) rfl rfl rfl ?_
 refine WH.done (by kernel_rfl) ?_
 refine WE.then_normal (WC.sub (fr' := [(4, _)]) ?_ ⟨rfl, trivial⟩)
 refine WC.ret ?_
 refine WE.forget (fresh_cat hN11_9 ho10_0.fresh) ?_
 refine WE.nil0 ?_
 refine WE.end0 (.inl rfl) (res1 Tryd.results6 rfl) ?_
 rfl
end T3
end Go.Proofs.YtcfhfdengfcfpaaDoor
/- The law: a date is read as its moment. -/
namespace Go.Proofs.YtcfhfdengfcfpaaDoor
open Go Go.RowKit V T0 T1 T2 T4 T5 T7 T8 T9 U0 U1 U5 U2 U3 U4 T3
set_option linter.unusedSimpArgs false
set_option linter.unusedVariables false
set_option maxRecDepth 10000
namespace U6
theorem call4 : Callable Tryd.prog 4 := ⟨_, Tryd.func4, rfl, by kernel_rfl⟩
theorem call5 : Callable Tryd.prog 5 := ⟨_, Tryd.func5, rfl, by kernel_rfl⟩
theorem call6 : Callable Tryd.prog 6 := ⟨_, Tryd.func6, rfl, by kernel_rfl⟩
theorem call7 : Callable Tryd.prog 7 := ⟨_, Tryd.func7, rfl, by kernel_rfl⟩
theorem call8 : Callable Tryd.prog 8 := ⟨_, Tryd.func8, rfl, by kernel_rfl⟩
theorem call18 : Callable Tryd.prog 18 := ⟨_, Tryd.func18, rfl, by kernel_rfl⟩
theorem sod (s : Nat) : s % 86400 / 3600 < 24 ∧ s % 86400 / 60 % 60 < 60 ∧ s % 86400 % 60 < 60 := by omega
theorem sums (s : Nat) : s / 86400 * 86400 + s % 86400 / 3600 * 3600 + s % 86400 / 60 % 60 * 60 + s % 86400 % 60 = s := by omega
theorem imf_is {d s : Nat} (hd : d < 36160) : imf d s = [(wb (weekOf d) 0), (wb (weekOf d) 1), (wb (weekOf d) 2), 44, 32, (hi (dayOf d)), (lo (dayOf d)), 32, (mb (monthOf d - 1) 0), (mb (monthOf d - 1) 1), (mb (monthOf d - 1) 2), 32, (hi ((yearOf d) / 100)), (lo ((yearOf d) / 100)), (hi ((yearOf d) % 100)), (lo ((yearOf d) % 100)), 32, (hi (s / 3600)), (lo (s / 3600)), 58, (hi (s / 60 % 60)), (lo (s / 60 % 60)), 58, (hi (s % 60)), (lo (s % 60)), 32, 71, 77, 84] := by
 have hf := facts hd
 have h2 := hf.m2
 have h1 := hf.m1
 unfold imf
 rw [week_is (weekOf d) (Nat.mod_lt _ (by decide)), mon_is (monthOf d - 1) (by omega)]; rfl
theorem asc_is1 {d s : Nat} (hd : d < 36160) (h : dayOf d < 10) : asc d s = [(wb (weekOf d) 0), (wb (weekOf d) 1), (wb (weekOf d) 2), 32, (mb (monthOf d - 1) 0), (mb (monthOf d - 1) 1), (mb (monthOf d - 1) 2), 32, 32, (lo (dayOf d)), 32, (hi (s / 3600)), (lo (s / 3600)), 58, (hi (s / 60 % 60)), (lo (s / 60 % 60)), 58, (hi (s % 60)), (lo (s % 60)), 32, (hi ((yearOf d) / 100)), (lo ((yearOf d) / 100)), (hi ((yearOf d) % 100)), (lo ((yearOf d) % 100))] := by
 have hf := facts hd
 have h2 := hf.m2
 have h1 := hf.m1
 unfold asc clock
 rw [week_is (weekOf d) (Nat.mod_lt _ (by decide)), mon_is (monthOf d - 1) (by omega), if_pos h]; rfl
theorem asc_is2 {d s : Nat} (hd : d < 36160) (h : ¬ dayOf d < 10) : asc d s = [(wb (weekOf d) 0), (wb (weekOf d) 1), (wb (weekOf d) 2), 32, (mb (monthOf d - 1) 0), (mb (monthOf d - 1) 1), (mb (monthOf d - 1) 2), 32, (hi (dayOf d)), (lo (dayOf d)), 32, (hi (s / 3600)), (lo (s / 3600)), 58, (hi (s / 60 % 60)), (lo (s / 60 % 60)), 58, (hi (s % 60)), (lo (s % 60)), 32, (hi ((yearOf d) / 100)), (lo ((yearOf d) / 100)), (hi ((yearOf d) % 100)), (lo ((yearOf d) % 100))] := by
 have hf := facts hd
 have h2 := hf.m2
 have h1 := hf.m1
 unfold asc clock
 rw [week_is (weekOf d) (Nat.mod_lt _ (by decide)), mon_is (monthOf d - 1) (by omega), if_neg h]; rfl
theorem r850_is {d s : Nat} (hd : d < 36160) : r850 d s = nameAt fulls (weekOf d) ++ [44, 32, (hi (dayOf d)), (lo (dayOf d)), 45, (mb (monthOf d - 1) 0), (mb (monthOf d - 1) 1), (mb (monthOf d - 1) 2), 45, (hi (yearOf d)), (lo (yearOf d)), 32, (hi (s / 3600)), (lo (s / 3600)), 58, (hi (s / 60 % 60)), (lo (s / 60 % 60)), 58, (hi (s % 60)), (lo (s % 60)), 32, 71, 77, 84] := by
 have hf := facts hd
 have h2 := hf.m2
 have h1 := hf.m1
 unfold r850 clock
 rw [mon_is (monthOf d - 1) (by omega)]
 simp only [List.append_assoc]; rfl
theorem read1 (G : Hp) (k0 : TypeId) (u0 : Value) (hL : LT G k0 u0) (s : Nat) (hs : s ≤ 3124223999) : FnR Tryd.prog 7 [S (imf (s / 86400) (s % 86400))] G (.tuple #[I (s : Int), I 0, .bool true]) := by
 have hd : s / 86400 < 36160 := by omega
 have hf := facts hd
 have h1 := hf.m1
 have h2 := hf.m2
 have h4 := hf.d2
 have h5 := dim_le (monthOf (s / 86400)) (yearOf (s / 86400))
 have hmo : monthOf (s / 86400) - 1 < 12 := by omega
 have hm : monthOf (s / 86400) - 1 + 1 = monthOf (s / 86400) := by omega
 obtain ⟨hs1, hs2, hs3⟩ := sod s
 have hdim : dayOf (s / 86400) ≤ dimN (monthOf (s / 86400) - 1 + 1) (yearOf (s / 86400)) := by rw [hm]; exact h4
 have hA : absD (yearOf (s / 86400)) (monthOf (s / 86400) - 1 + 1) (dayOf (s / 86400)) = s / 86400 + 106751991073400 := by rw [hm]; exact abs_day hd
 have hsum := sums s
 rw [imf_is hd]
 have hD := httpDate1 G k0 u0 hL _ _ _ (fun C hC => pOk1 C _ _ _ (parse1 C k0 u0 hC (weekOf (s / 86400)) (Nat.mod_lt _ (by decide)) (dayOf (s / 86400)) (monthOf (s / 86400) - 1) (yearOf (s / 86400)) ((s % 86400) / 3600) ((s % 86400) / 60 % 60) ((s % 86400) % 60) hmo (s / 86400) ⟨hf.d1, by omega⟩ ⟨hf.y1, hf.y2⟩ hs1 hs2 hs3 hdim hA (by omega)))
 have h9 := htime G _ _ _ (parseTime G _ _ _ hD) (by rw [hsum]; omega)
 rw [hsum, show ((s : Int) + 62135596800 + -62135596800) = (s : Int) by omega] at h9
 exact h9
theorem read4 (G : Hp) (k0 : TypeId) (u0 : Value) (hL : LT G k0 u0) (s : Nat) (hs : s ≤ 3124223999) : FnR Tryd.prog 7 [S (r850 (s / 86400) (s % 86400))] G (.tuple #[I (s : Int), I 0, .bool true]) := by
 have hd : s / 86400 < 36160 := by omega
 have hf := facts hd
 have h1 := hf.m1
 have h2 := hf.m2
 have h4 := hf.d2
 have h5 := dim_le (monthOf (s / 86400)) (yearOf (s / 86400))
 have hmo : monthOf (s / 86400) - 1 < 12 := by omega
 have hm : monthOf (s / 86400) - 1 + 1 = monthOf (s / 86400) := by omega
 obtain ⟨hs1, hs2, hs3⟩ := sod s
 have hdim : dayOf (s / 86400) ≤ dimN (monthOf (s / 86400) - 1 + 1) (yearOf (s / 86400)) := by rw [hm]; exact h4
 have hA : absD (yearOf (s / 86400)) (monthOf (s / 86400) - 1 + 1) (dayOf (s / 86400)) = s / 86400 + 106751991073400 := by rw [hm]; exact abs_day hd
 have hsum := sums s
 rw [r850_is hd]
 by_cases hyy : yearOf (s / 86400) ≤ 1999
 ·have hD := httpDate4 G k0 u0 hL _ _ _ (fun C hC => pOk4 C _ _ _ (parse4a C k0 u0 hC (weekOf (s / 86400)) (Nat.mod_lt _ (by decide)) (dayOf (s / 86400)) (monthOf (s / 86400) - 1) (yearOf (s / 86400)) ((s % 86400) / 3600) ((s % 86400) / 60 % 60) ((s % 86400) % 60) hmo (s / 86400) ⟨hf.d1, by omega⟩ ⟨hf.y1, hf.y2⟩ hs1 hs2 hs3 hdim hA (by omega) hyy)) (fun C hC => pBad1 C _ (bad4_1 C k0 u0 hC (weekOf (s / 86400)) (Nat.mod_lt _ (by decide)) (dayOf (s / 86400)) (monthOf (s / 86400) - 1) (yearOf (s / 86400)) ((s % 86400) / 3600) ((s % 86400) / 60 % 60) ((s % 86400) % 60) hmo)) (fun C hC => pBad2 C _ (bad4_2 C k0 u0 hC (weekOf (s / 86400)) (Nat.mod_lt _ (by decide)) (dayOf (s / 86400)) (monthOf (s / 86400) - 1) (yearOf (s / 86400)) ((s % 86400) / 3600) ((s % 86400) / 60 % 60) ((s % 86400) % 60) hmo)) (fun C hC => pBad3 C _ (bad4_3 C k0 u0 hC (weekOf (s / 86400)) (Nat.mod_lt _ (by decide)) (dayOf (s / 86400)) (monthOf (s / 86400) - 1) (yearOf (s / 86400)) ((s % 86400) / 3600) ((s % 86400) / 60 % 60) ((s % 86400) % 60) hmo))
  have h9 := htime G _ _ _ (parseTime G _ _ _ hD) (by rw [hsum]; omega)
  rw [hsum, show ((s : Int) + 62135596800 + -62135596800) = (s : Int) by omega] at h9
  exact h9
 ·have hD := httpDate4 G k0 u0 hL _ _ _ (fun C hC => pOk4 C _ _ _ (parse4b C k0 u0 hC (weekOf (s / 86400)) (Nat.mod_lt _ (by decide)) (dayOf (s / 86400)) (monthOf (s / 86400) - 1) (yearOf (s / 86400)) ((s % 86400) / 3600) ((s % 86400) / 60 % 60) ((s % 86400) % 60) hmo (s / 86400) ⟨hf.d1, by omega⟩ ⟨hf.y1, hf.y2⟩ hs1 hs2 hs3 hdim hA (by omega) (by omega))) (fun C hC => pBad1 C _ (bad4_1 C k0 u0 hC (weekOf (s / 86400)) (Nat.mod_lt _ (by decide)) (dayOf (s / 86400)) (monthOf (s / 86400) - 1) (yearOf (s / 86400)) ((s % 86400) / 3600) ((s % 86400) / 60 % 60) ((s % 86400) % 60) hmo)) (fun C hC => pBad2 C _ (bad4_2 C k0 u0 hC (weekOf (s / 86400)) (Nat.mod_lt _ (by decide)) (dayOf (s / 86400)) (monthOf (s / 86400) - 1) (yearOf (s / 86400)) ((s % 86400) / 3600) ((s % 86400) / 60 % 60) ((s % 86400) % 60) hmo)) (fun C hC => pBad3 C _ (bad4_3 C k0 u0 hC (weekOf (s / 86400)) (Nat.mod_lt _ (by decide)) (dayOf (s / 86400)) (monthOf (s / 86400) - 1) (yearOf (s / 86400)) ((s % 86400) / 3600) ((s % 86400) / 60 % 60) ((s % 86400) % 60) hmo))
  have h9 := htime G _ _ _ (parseTime G _ _ _ hD) (by rw [hsum]; omega)
  rw [hsum, show ((s : Int) + 62135596800 + -62135596800) = (s : Int) by omega] at h9
  exact h9
theorem read5 (G : Hp) (k0 : TypeId) (u0 : Value) (hL : LT G k0 u0) (s : Nat) (hs : s ≤ 3124223999) : FnR Tryd.prog 7 [S (asc (s / 86400) (s % 86400))] G (.tuple #[I (s : Int), I 0, .bool true]) := by
 have hd : s / 86400 < 36160 := by omega
 have hf := facts hd
 have h1 := hf.m1
 have h2 := hf.m2
 have h4 := hf.d2
 have h5 := dim_le (monthOf (s / 86400)) (yearOf (s / 86400))
 have hmo : monthOf (s / 86400) - 1 < 12 := by omega
 have hm : monthOf (s / 86400) - 1 + 1 = monthOf (s / 86400) := by omega
 obtain ⟨hs1, hs2, hs3⟩ := sod s
 have hdim : dayOf (s / 86400) ≤ dimN (monthOf (s / 86400) - 1 + 1) (yearOf (s / 86400)) := by rw [hm]; exact h4
 have hA : absD (yearOf (s / 86400)) (monthOf (s / 86400) - 1 + 1) (dayOf (s / 86400)) = s / 86400 + 106751991073400 := by rw [hm]; exact abs_day hd
 have hsum := sums s
 by_cases hd9 : dayOf (s / 86400) < 10
 ·rw [asc_is1 hd hd9]
  have hD := httpDate5 G k0 u0 hL _ _ _ (fun C hC => pOk5 C _ _ _ (parse5a C k0 u0 hC (weekOf (s / 86400)) (Nat.mod_lt _ (by decide)) (dayOf (s / 86400)) (monthOf (s / 86400) - 1) (yearOf (s / 86400)) ((s % 86400) / 3600) ((s % 86400) / 60 % 60) ((s % 86400) % 60) hmo (s / 86400) ⟨hf.d1, by omega⟩ ⟨hf.y1, hf.y2⟩ hs1 hs2 hs3 hdim hA (by omega) hd9)) (fun C hC => pBad1 C _ (bad5a_1 C k0 u0 hC (weekOf (s / 86400)) (Nat.mod_lt _ (by decide)) (dayOf (s / 86400)) (monthOf (s / 86400) - 1) (yearOf (s / 86400)) ((s % 86400) / 3600) ((s % 86400) / 60 % 60) ((s % 86400) % 60) hmo)) (fun C hC => pBad2 C _ (bad5a_2 C k0 u0 hC (weekOf (s / 86400)) (Nat.mod_lt _ (by decide)) (dayOf (s / 86400)) (monthOf (s / 86400) - 1) (yearOf (s / 86400)) ((s % 86400) / 3600) ((s % 86400) / 60 % 60) ((s % 86400) % 60) hmo)) (fun C hC => pBad3 C _ (bad5a_3 C k0 u0 hC (weekOf (s / 86400)) (Nat.mod_lt _ (by decide)) (dayOf (s / 86400)) (monthOf (s / 86400) - 1) (yearOf (s / 86400)) ((s % 86400) / 3600) ((s % 86400) / 60 % 60) ((s % 86400) % 60) hmo)) (fun C hC => pBad4 C _ (bad5a_4 C k0 u0 hC (weekOf (s / 86400)) (Nat.mod_lt _ (by decide)) (dayOf (s / 86400)) (monthOf (s / 86400) - 1) (yearOf (s / 86400)) ((s % 86400) / 3600) ((s % 86400) / 60 % 60) ((s % 86400) % 60) hmo))
  have h9 := htime G _ _ _ (parseTime G _ _ _ hD) (by rw [hsum]; omega)
  rw [hsum, show ((s : Int) + 62135596800 + -62135596800) = (s : Int) by omega] at h9
  exact h9
 ·rw [asc_is2 hd hd9]
  have hD := httpDate5 G k0 u0 hL _ _ _ (fun C hC => pOk5 C _ _ _ (parse5b C k0 u0 hC (weekOf (s / 86400)) (Nat.mod_lt _ (by decide)) (dayOf (s / 86400)) (monthOf (s / 86400) - 1) (yearOf (s / 86400)) ((s % 86400) / 3600) ((s % 86400) / 60 % 60) ((s % 86400) % 60) hmo (s / 86400) ⟨hf.d1, by omega⟩ ⟨hf.y1, hf.y2⟩ hs1 hs2 hs3 hdim hA (by omega))) (fun C hC => pBad1 C _ (bad5b_1 C k0 u0 hC (weekOf (s / 86400)) (Nat.mod_lt _ (by decide)) (dayOf (s / 86400)) (monthOf (s / 86400) - 1) (yearOf (s / 86400)) ((s % 86400) / 3600) ((s % 86400) / 60 % 60) ((s % 86400) % 60) hmo)) (fun C hC => pBad2 C _ (bad5b_2 C k0 u0 hC (weekOf (s / 86400)) (Nat.mod_lt _ (by decide)) (dayOf (s / 86400)) (monthOf (s / 86400) - 1) (yearOf (s / 86400)) ((s % 86400) / 3600) ((s % 86400) / 60 % 60) ((s % 86400) % 60) hmo)) (fun C hC => pBad3 C _ (bad5b_3 C k0 u0 hC (weekOf (s / 86400)) (Nat.mod_lt _ (by decide)) (dayOf (s / 86400)) (monthOf (s / 86400) - 1) (yearOf (s / 86400)) ((s % 86400) / 3600) ((s % 86400) / 60 % 60) ((s % 86400) % 60) hmo)) (fun C hC => pBad4 C _ (bad5b_4 C k0 u0 hC (weekOf (s / 86400)) (Nat.mod_lt _ (by decide)) (dayOf (s / 86400)) (monthOf (s / 86400) - 1) (yearOf (s / 86400)) ((s % 86400) / 3600) ((s % 86400) / 60 % 60) ((s % 86400) % 60) hmo))
  have h9 := htime G _ _ _ (parseTime G _ _ _ hD) (by rw [hsum]; omega)
  rw [hsum, show ((s : Int) + 62135596800 + -62135596800) = (s : Int) by omega] at h9
  exact h9
theorem joinX  : Fn0 Tryd.prog 18 [S [97], S [98]] (S [47, 97, 47, 98]) := by
 refine Fn0.enter (n := 44) Tryd.func18 rfl rfl fun w0 => ?_
 refine WC.sub (fr' := [(0, _), (1, _)]) ?_ ⟨rfl, rfl, trivial⟩
 refine WC.seq (WC.region ?_)
 refine WL.q (oq_assign rfl) rfl rfl rfl ?_
 refine WL.nil (WE.then_normal (WC.sub (fr' := [(0, _), (1, _)]) ?_ ⟨rfl, rfl, trivial⟩))
 refine WC.seq (WC.seq (WC.region ?_))
 refine WL.q (oq_move rfl) rfl rfl rfl ?_
 refine WL.q ((oq_len_s Tryd.underlying9 rfl).to (v' := I 1) rfl) rfl rfl rfl ?_
 refine WL.q ((oq_eql rfl rfl).to (v' := .bool false) (congrArg Value.bool (decide_eq_false (by omega)))) rfl rfl rfl ?_
 refine WL.nil (WE.then_normal (WC.sub (fr' := [(0, _), (1, _), (7, _)]) ?_ ⟨rfl, rfl, rfl, trivial⟩))
 refine WC.cond_f rfl ?_
 refine WC.seq (WC.region ?_)
 refine WL.q (oq_move rfl) rfl rfl rfl ?_
 refine WL.q ((oq_index_s Tryd.underlying9 rfl rfl (by decide)).to (v' := .int .u8 97) rfl) rfl rfl rfl ?_
 refine WL.q ((oq_neq rfl rfl).to (v' := .bool true) (congrArg Value.bool (decide_eq_true (by omega)))) rfl rfl rfl ?_
 refine WL.nil (WE.then_normal (WC.sub (fr' := [(0, _), (1, _), (10, _)]) ?_ ⟨rfl, rfl, rfl, trivial⟩))
 refine WC.cond_t rfl ?_
 refine WC.region ?_
 refine WL.q (oq_move rfl) rfl rfl rfl ?_
 refine WL.q ((oq_concat rfl rfl (by decide)).to (v' := S [47, 97]) rfl) rfl rfl rfl ?_
 refine WL.q (oq_assign rfl) rfl rfl rfl ?_
 refine WL.nil (WE.then_normal (WC.sub (fr' := [(0, _), (1, _)]) ?_ ⟨rfl, rfl, trivial⟩))
 refine WC.seq (WC.seq (WC.region ?_))
 refine WL.q (oq_move rfl) rfl rfl rfl ?_
 refine WL.q ((oq_len_s Tryd.underlying9 rfl).to (v' := I 1) rfl) rfl rfl rfl ?_
 refine WL.q ((oq_neq rfl rfl).to (v' := .bool true) (congrArg Value.bool (decide_eq_true (by omega)))) rfl rfl rfl ?_
 refine WL.q (oq_move rfl) rfl rfl rfl ?_
 refine WL.q (oq_move rfl) rfl rfl rfl ?_
 refine WL.q ((oq_index_s Tryd.underlying9 rfl rfl (by decide)).to (v' := .int .u8 98) rfl) rfl rfl rfl ?_
 refine WL.q ((oq_eql rfl rfl).to (v' := .bool false) (congrArg Value.bool (decide_eq_false (by omega)))) rfl rfl rfl ?_
 refine WL.q (oq_pick_t rfl rfl) rfl rfl rfl ?_
 refine WL.nil (WE.then_normal (WC.sub (fr' := [(0, _), (1, _), (20, _)]) ?_ ⟨rfl, rfl, rfl, trivial⟩))
 refine WC.cond_f rfl ?_
 refine WC.skip (WE.then_normal (WC.sub (fr' := [(0, _), (1, _)]) ?_ ⟨rfl, rfl, trivial⟩))
 refine WC.seq (WC.seq (WC.region ?_))
 refine WL.q (oq_move rfl) rfl rfl rfl ?_
 refine WL.q ((oq_len_s Tryd.underlying9 rfl).to (v' := I 1) rfl) rfl rfl rfl ?_
 refine WL.q ((oq_neq rfl rfl).to (v' := .bool true) (congrArg Value.bool (decide_eq_true (by omega)))) rfl rfl rfl ?_
 refine WL.q (oq_move rfl) rfl rfl rfl ?_
 refine WL.q (oq_move rfl) rfl rfl rfl ?_
 refine WL.q ((oq_len_s Tryd.underlying9 rfl).to (v' := I 2) rfl) rfl rfl rfl ?_
 refine WL.q ((oq_gtr rfl rfl).to (v' := .bool true) (congrArg Value.bool (decide_eq_true (by omega)))) rfl rfl rfl ?_
 refine WL.q (oq_pick_t rfl rfl) rfl rfl rfl ?_
 refine WL.q (oq_move rfl) rfl rfl rfl ?_
 refine WL.q (oq_move rfl) rfl rfl rfl ?_
 refine WL.q (oq_move rfl) rfl rfl rfl ?_
 refine WL.q ((oq_len_s Tryd.underlying9 rfl).to (v' := I 2) rfl) rfl rfl rfl ?_
 refine WL.q ((oq_sub rfl rfl (by rw [i64_lo, i64_hi]; omega)).to (v' := I 1) rfl) rfl rfl rfl ?_
 refine WL.q ((oq_index_s Tryd.underlying9 rfl rfl (by decide)).to (v' := .int .u8 97) rfl) rfl rfl rfl ?_
 refine WL.q ((oq_neq rfl rfl).to (v' := .bool true) (congrArg Value.bool (decide_eq_true (by omega)))) rfl rfl rfl ?_
 refine WL.q (oq_pick_t rfl rfl) rfl rfl rfl ?_
 refine WL.nil (WE.then_normal (WC.sub (fr' := [(0, _), (1, _), (38, _)]) ?_ ⟨rfl, rfl, rfl, trivial⟩))
 refine WC.cond_t rfl ?_
 refine WC.region ?_
 refine WL.q (oq_move rfl) rfl rfl rfl ?_
 refine WL.q ((oq_concat rfl rfl (by decide)).to (v' := S [47, 97, 47]) rfl) rfl rfl rfl ?_
 refine WL.q (oq_assign rfl) rfl rfl rfl ?_
 refine WL.nil (WE.then_normal (WC.sub (fr' := [(0, _), (1, _)]) ?_ ⟨rfl, rfl, trivial⟩))
 refine WC.seq (WC.region ?_)
 refine WL.q (oq_move rfl) rfl rfl rfl ?_
 refine WL.q (oq_move rfl) rfl rfl rfl ?_
 refine WL.q ((oq_concat rfl rfl (by decide)).to (v' := S [47, 97, 47, 98]) rfl) rfl rfl rfl ?_
 refine WL.q (oq_assign rfl) rfl rfl rfl ?_
 refine WL.nil (WE.then_normal (WC.sub (fr' := [(4, _)]) ?_ ⟨rfl, trivial⟩))
 refine WC.ret ?_
 refine WE.end0 (.inl rfl) (res1 Tryd.results18 rfl) ?_
 rfl
theorem hjoinX  : Fn0 Tryd.prog 8 [S [97], S [98]] (S [47, 97, 47, 98]) := by
 refine Fn0.enter (n := 8) Tryd.func8 rfl rfl fun w0 => ?_
 refine WC.sub (fr' := [(0, _), (1, _)]) ?_ ⟨rfl, rfl, trivial⟩
 refine WC.seq (WC.region ?_)
 refine WL.q (oq_assign rfl) rfl rfl rfl ?_
 refine WL.nil (WE.then_normal (WC.sub (fr' := [(0, _), (1, _)]) ?_ ⟨rfl, rfl, trivial⟩))
 refine WC.seq (WC.region ?_)
 refine WL.q (oq_move rfl) rfl rfl rfl ?_
 refine WL.q (oq_move rfl) rfl rfl rfl ?_
 refine WL.qc (oq_call (joinX) call18 rfl) rfl rfl rfl ?_
 refine WL.q (oq_assign rfl) rfl rfl rfl ?_
 refine WL.nil (WE.then_normal (WC.sub (fr' := [(4, _)]) ?_ ⟨rfl, trivial⟩))
 refine WC.ret ?_
 refine WE.end0 (.inl rfl) (res1 Tryd.results8 rfl) ?_
 rfl
theorem awake  : Fn0 Tryd.prog 4 [] (.bool true) := by
 refine Fn0.enter (n := 3) Tryd.func4 rfl rfl fun w0 => ?_
 refine WC.sub (fr' := []) ?_ trivial
 refine WC.seq (WC.region ?_)
 refine WL.q (oq_assign rfl) rfl rfl rfl ?_
 refine WL.nil (WE.then_normal (WC.sub (fr' := []) ?_ trivial))
 refine WC.seq (WC.region ?_)
 refine WL.qc (oq_call (hjoinX) call8 rfl) rfl rfl rfl ?_
 refine WL.q ((oq_seql rfl rfl).to (v' := .bool true) (by kernel_rfl)) rfl rfl rfl ?_
 refine WL.q (oq_assign rfl) rfl rfl rfl ?_
 refine WL.nil (WE.then_normal (WC.sub (fr' := [(0, _)]) ?_ ⟨rfl, trivial⟩))
 refine WC.ret ?_
 refine WE.end0 (.inl rfl) (res1 Tryd.results4 rfl) ?_
 rfl
theorem lawO (G : Hp) (s f : Int) (h : s < 0 ∨ 3124223999 < s ∨ f < 0 ∨ 2 < f) : FnR Tryd.prog 3 [I s, I f] G (.bool true) := by
 refine FnR.enter (n := 50) Tryd.func3 rfl rfl fun w0 => ?_
 refine WC.sub (fr' := [(0, _), (1, _)]) ?_ ⟨rfl, rfl, trivial⟩
 refine WC.seq (WC.region ?_)
 refine WL.q (oq_assign rfl) rfl rfl rfl ?_
 refine WL.nil (WE.then_normal (WC.sub (fr' := [(0, _), (1, _)]) ?_ ⟨rfl, rfl, trivial⟩))
 refine WC.seq (WC.seq (WC.region ?_))
 refine WL.q (oq_move rfl) rfl rfl rfl ?_
 refine WL.q (oq_lss rfl rfl) rfl rfl rfl ?_
 refine WL.q (oq_move rfl) rfl rfl rfl ?_
 refine WL.split 11 rfl (fun s1_2 => ?_) (fun s1_2 => ?_)
 ·
  try simp only [Z1, Z2, Z3, Z4, Z5, Z6, Z7, Z8, Z9, Z0] at s1_2
  refine WL.skip rfl rfl rfl ?_
  refine WL.skip rfl rfl rfl ?_
  refine WL.q (oq_pick_t rfl rfl) rfl rfl rfl ?_
  refine WL.q (oq_move rfl) rfl rfl rfl ?_
  refine WL.skip rfl rfl rfl ?_
  refine WL.skip rfl rfl rfl ?_
  refine WL.q (oq_pick_t rfl rfl) rfl rfl rfl ?_
  refine WL.q (oq_move rfl) rfl rfl rfl ?_
  refine WL.skip rfl rfl rfl ?_
  refine WL.skip rfl rfl rfl ?_
  refine WL.q (oq_pick_t rfl rfl) rfl rfl rfl ?_
  refine WL.nil (WE.then_normal (WC.sub (fr' := [(0, _), (1, _), (22, _)]) ?_ ⟨rfl, rfl, rfl, trivial⟩))
  refine WC.cond_t rfl ?_
  refine WC.seq (WC.region ?_)
  refine WL.qc (oq_call (awake) call4 rfl) rfl rfl rfl ?_
  refine WL.q (oq_assign rfl) rfl rfl rfl ?_
  refine WL.nil (WE.then_normal (WC.sub (fr' := [(4, _)]) ?_ ⟨rfl, trivial⟩))
  refine WC.ret (WE.then_ret ?_)
  refine WE.endR (.inl rfl) (res1 Tryd.results3 rfl) ?_
  rfl
 ·
  try simp only [Z1, Z2, Z3, Z4, Z5, Z6, Z7, Z8, Z9, Z0] at s1_2
  refine WL.q (oq_move rfl) rfl rfl rfl ?_
  refine WL.q (oq_gtr rfl rfl) rfl rfl rfl ?_
  refine WL.q (oq_pick_f rfl rfl) rfl rfl rfl ?_
  refine WL.q (oq_move rfl) rfl rfl rfl ?_
  refine WL.split 15 rfl (fun s1_6 => ?_) (fun s1_6 => ?_)
  ·
   try simp only [Z1, Z2, Z3, Z4, Z5, Z6, Z7, Z8, Z9, Z0] at s1_6
   refine WL.skip rfl rfl rfl ?_
   refine WL.skip rfl rfl rfl ?_
   refine WL.q (oq_pick_t rfl rfl) rfl rfl rfl ?_
   refine WL.q (oq_move rfl) rfl rfl rfl ?_
   refine WL.skip rfl rfl rfl ?_
   refine WL.skip rfl rfl rfl ?_
   refine WL.q (oq_pick_t rfl rfl) rfl rfl rfl ?_
   refine WL.nil (WE.then_normal (WC.sub (fr' := [(0, _), (1, _), (22, _)]) ?_ ⟨rfl, rfl, rfl, trivial⟩))
   refine WC.cond_t rfl ?_
   refine WC.seq (WC.region ?_)
   refine WL.qc (oq_call (awake) call4 rfl) rfl rfl rfl ?_
   refine WL.q (oq_assign rfl) rfl rfl rfl ?_
   refine WL.nil (WE.then_normal (WC.sub (fr' := [(4, _)]) ?_ ⟨rfl, trivial⟩))
   refine WC.ret (WE.then_ret ?_)
   refine WE.endR (.inl rfl) (res1 Tryd.results3 rfl) ?_
   rfl
  ·
   try simp only [Z1, Z2, Z3, Z4, Z5, Z6, Z7, Z8, Z9, Z0] at s1_6
   refine WL.q (oq_move rfl) rfl rfl rfl ?_
   refine WL.q (oq_lss rfl rfl) rfl rfl rfl ?_
   refine WL.q (oq_pick_f rfl rfl) rfl rfl rfl ?_
   refine WL.q (oq_move rfl) rfl rfl rfl ?_
   refine WL.split 19 rfl (fun s1_10 => ?_) (fun s1_10 => ?_)
   ·
    try simp only [Z1, Z2, Z3, Z4, Z5, Z6, Z7, Z8, Z9, Z0] at s1_10
    refine WL.skip rfl rfl rfl ?_
    refine WL.skip rfl rfl rfl ?_
    refine WL.q (oq_pick_t rfl rfl) rfl rfl rfl ?_
    refine WL.nil (WE.then_normal (WC.sub (fr' := [(0, _), (1, _), (22, _)]) ?_ ⟨rfl, rfl, rfl, trivial⟩))
    refine WC.cond_t rfl ?_
    refine WC.seq (WC.region ?_)
    refine WL.qc (oq_call (awake) call4 rfl) rfl rfl rfl ?_
    refine WL.q (oq_assign rfl) rfl rfl rfl ?_
    refine WL.nil (WE.then_normal (WC.sub (fr' := [(4, _)]) ?_ ⟨rfl, trivial⟩))
    refine WC.ret (WE.then_ret ?_)
    refine WE.endR (.inl rfl) (res1 Tryd.results3 rfl) ?_
    rfl
   ·
    try simp only [Z1, Z2, Z3, Z4, Z5, Z6, Z7, Z8, Z9, Z0] at s1_10
    refine WL.q (oq_move rfl) rfl rfl rfl ?_
    refine WL.q (oq_gtr rfl rfl) rfl rfl rfl ?_
    refine WL.q (oq_pick_f rfl rfl) rfl rfl rfl ?_
    refine WL.nil (WE.then_normal (WC.sub (fr' := [(0, _), (1, _), (22, _)]) ?_ ⟨rfl, rfl, rfl, trivial⟩))
    refine WC.cond rfl (fun q1 => ?_) (fun q1 => ?_)
    ·
     try simp only [Z1, Z2, Z3, Z4, Z5, Z6, Z7, Z8, Z9, Z0] at q1
     refine WC.seq (WC.region ?_)
     refine WL.qc (oq_call (awake) call4 rfl) rfl rfl rfl ?_
     refine WL.q (oq_assign rfl) rfl rfl rfl ?_
     refine WL.nil (WE.then_normal (WC.sub (fr' := [(4, _)]) ?_ ⟨rfl, trivial⟩))
     refine WC.ret (WE.then_ret ?_)
     refine WE.endR (.inl rfl) (res1 Tryd.results3 rfl) ?_
     rfl
    ·
     try simp only [Z1, Z2, Z3, Z4, Z5, Z6, Z7, Z8, Z9, Z0] at q1
     refine WC.skip (WE.then_normal (WC.sub (fr' := [(0, _), (1, _)]) ?_ ⟨rfl, rfl, trivial⟩))
     refine WC.seq ?_
     exfalso; omega
theorem law0 (G : Hp) (k0 : TypeId) (u0 : Value) (hL : LT G k0 u0) (s : Nat) (hs : s ≤ 3124223999) : FnR Tryd.prog 3 [I (s : Int), I 0] G (.bool true) := by
 refine FnR.enter (n := 50) Tryd.func3 rfl rfl fun w0 => ?_
 refine WC.sub (fr' := [(0, _), (1, _)]) ?_ ⟨rfl, rfl, trivial⟩
 refine WC.seq (WC.region ?_)
 refine WL.q (oq_assign rfl) rfl rfl rfl ?_
 refine WL.nil (WE.then_normal (WC.sub (fr' := [(0, _), (1, _)]) ?_ ⟨rfl, rfl, trivial⟩))
 refine WC.seq (WC.seq (WC.region ?_))
 refine WL.q (oq_move rfl) rfl rfl rfl ?_
 refine WL.q ((oq_lss rfl rfl).to (v' := .bool false) (congrArg Value.bool (decide_eq_false (by omega)))) rfl rfl rfl ?_
 refine WL.q (oq_move rfl) rfl rfl rfl ?_
 refine WL.q (oq_move rfl) rfl rfl rfl ?_
 refine WL.q ((oq_gtr rfl rfl).to (v' := .bool false) (congrArg Value.bool (decide_eq_false (by omega)))) rfl rfl rfl ?_
 refine WL.q (oq_pick_f rfl rfl) rfl rfl rfl ?_
 refine WL.q (oq_move rfl) rfl rfl rfl ?_
 refine WL.q (oq_move rfl) rfl rfl rfl ?_
 refine WL.q ((oq_lss rfl rfl).to (v' := .bool false) (congrArg Value.bool (decide_eq_false (by omega)))) rfl rfl rfl ?_
 refine WL.q (oq_pick_f rfl rfl) rfl rfl rfl ?_
 refine WL.q (oq_move rfl) rfl rfl rfl ?_
 refine WL.q (oq_move rfl) rfl rfl rfl ?_
 refine WL.q ((oq_gtr rfl rfl).to (v' := .bool false) (congrArg Value.bool (decide_eq_false (by omega)))) rfl rfl rfl ?_
 refine WL.q (oq_pick_f rfl rfl) rfl rfl rfl ?_
 refine WL.nil (WE.then_normal (WC.sub (fr' := [(0, _), (1, _), (22, _)]) ?_ ⟨rfl, rfl, rfl, trivial⟩))
 refine WC.cond_f rfl ?_
 refine WC.skip (WE.then_normal (WC.sub (fr' := [(0, _), (1, _)]) ?_ ⟨rfl, rfl, trivial⟩))
 refine WC.seq (WC.region ?_)
 refine WL.q (oq_move rfl) rfl rfl rfl ?_
 refine WL.q ((oq_mul rfl rfl (by rw [i64_lo, i64_hi]; omega)).to (v' := I ((s * 1000000000 : Nat) : Int)) (congrArg I (by omega))) rfl rfl rfl ?_
 refine WL.qc (oq_call (thttp s hs) call5 rfl) rfl rfl rfl ?_
 refine WL.q (oq_assign rfl) rfl rfl rfl ?_
 refine WL.nil (WE.then_normal (WC.sub (fr' := [(0, _), (1, _), (5, _)]) ?_ ⟨rfl, rfl, rfl, trivial⟩))
 refine WC.seq (WC.seq (WC.region ?_))
 refine WL.q (oq_move rfl) rfl rfl rfl ?_
 refine WL.q ((oq_gtr rfl rfl).to (v' := .bool false) (congrArg Value.bool (decide_eq_false (by omega)))) rfl rfl rfl ?_
 refine WL.nil (WE.then_normal (WC.sub (fr' := [(0, _), (1, _), (5, _), (28, _)]) ?_ ⟨rfl, rfl, rfl, rfl, trivial⟩))
 refine WC.cond_f rfl ?_
 refine WC.skip (WE.then_normal (WC.sub (fr' := [(0, _), (5, _)]) ?_ ⟨rfl, rfl, trivial⟩))
 refine WC.seq (WC.region ?_)
 refine WL.q (oq_move rfl) rfl rfl rfl ?_
 refine WL.qc (oq_callRm (read1 G k0 u0 hL s hs) (.head _) call7 rfl) rfl rfl rfl ?_
 refine WL.q (oq_move rfl) rfl rfl rfl ?_
 refine WL.q (oq_extract rfl rfl) rfl rfl rfl ?_
 refine WL.q (oq_extract rfl rfl) rfl rfl rfl ?_
 refine WL.q (oq_extract rfl rfl) rfl rfl rfl ?_
 refine WL.q (oq_assign rfl) rfl rfl rfl ?_
 refine WL.q (oq_assign rfl) rfl rfl rfl ?_
 refine WL.q (oq_assign rfl) rfl rfl rfl ?_
 refine WL.nil (WE.then_normal (WC.sub (fr' := [(0, _), (6, _), (7, _), (8, _)]) ?_ ⟨rfl, rfl, rfl, rfl, trivial⟩))
 refine WC.seq (WC.region ?_)
 refine WL.q (oq_move rfl) rfl rfl rfl ?_
 refine WL.q (oq_move rfl) rfl rfl rfl ?_
 refine WL.q (oq_move rfl) rfl rfl rfl ?_
 refine WL.q (oq_move rfl) rfl rfl rfl ?_
 refine WL.q ((oq_eql rfl rfl).to (v' := .bool true) (congrArg Value.bool (decide_eq_true rfl))) rfl rfl rfl ?_
 refine WL.q (oq_pick_t rfl rfl) rfl rfl rfl ?_
 refine WL.q (oq_move rfl) rfl rfl rfl ?_
 refine WL.q (oq_move rfl) rfl rfl rfl ?_
 refine WL.q ((oq_eql rfl rfl).to (v' := .bool true) (congrArg Value.bool (decide_eq_true (by omega)))) rfl rfl rfl ?_
 refine WL.q (oq_pick_t rfl rfl) rfl rfl rfl ?_
 refine WL.q (oq_assign rfl) rfl rfl rfl ?_
 refine WL.nil (WE.then_normal (WC.sub (fr' := [(4, _)]) ?_ ⟨rfl, trivial⟩))
 refine WC.ret ?_
 refine WE.endR (.inl rfl) (res1 Tryd.results3 rfl) ?_
 first | rfl | exact congrArg Value.bool (decide_eq_true rfl) | (exfalso; omega)
theorem law1 (G : Hp) (k0 : TypeId) (u0 : Value) (hL : LT G k0 u0) (s : Nat) (hs : s ≤ 3124223999) : FnR Tryd.prog 3 [I (s : Int), I 1] G (.bool true) := by
 refine FnR.enter (n := 50) Tryd.func3 rfl rfl fun w0 => ?_
 refine WC.sub (fr' := [(0, _), (1, _)]) ?_ ⟨rfl, rfl, trivial⟩
 refine WC.seq (WC.region ?_)
 refine WL.q (oq_assign rfl) rfl rfl rfl ?_
 refine WL.nil (WE.then_normal (WC.sub (fr' := [(0, _), (1, _)]) ?_ ⟨rfl, rfl, trivial⟩))
 refine WC.seq (WC.seq (WC.region ?_))
 refine WL.q (oq_move rfl) rfl rfl rfl ?_
 refine WL.q ((oq_lss rfl rfl).to (v' := .bool false) (congrArg Value.bool (decide_eq_false (by omega)))) rfl rfl rfl ?_
 refine WL.q (oq_move rfl) rfl rfl rfl ?_
 refine WL.q (oq_move rfl) rfl rfl rfl ?_
 refine WL.q ((oq_gtr rfl rfl).to (v' := .bool false) (congrArg Value.bool (decide_eq_false (by omega)))) rfl rfl rfl ?_
 refine WL.q (oq_pick_f rfl rfl) rfl rfl rfl ?_
 refine WL.q (oq_move rfl) rfl rfl rfl ?_
 refine WL.q (oq_move rfl) rfl rfl rfl ?_
 refine WL.q ((oq_lss rfl rfl).to (v' := .bool false) (congrArg Value.bool (decide_eq_false (by omega)))) rfl rfl rfl ?_
 refine WL.q (oq_pick_f rfl rfl) rfl rfl rfl ?_
 refine WL.q (oq_move rfl) rfl rfl rfl ?_
 refine WL.q (oq_move rfl) rfl rfl rfl ?_
 refine WL.q ((oq_gtr rfl rfl).to (v' := .bool false) (congrArg Value.bool (decide_eq_false (by omega)))) rfl rfl rfl ?_
 refine WL.q (oq_pick_f rfl rfl) rfl rfl rfl ?_
 refine WL.nil (WE.then_normal (WC.sub (fr' := [(0, _), (1, _), (22, _)]) ?_ ⟨rfl, rfl, rfl, trivial⟩))
 refine WC.cond_f rfl ?_
 refine WC.skip (WE.then_normal (WC.sub (fr' := [(0, _), (1, _)]) ?_ ⟨rfl, rfl, trivial⟩))
 refine WC.seq (WC.region ?_)
 refine WL.q (oq_move rfl) rfl rfl rfl ?_
 refine WL.q ((oq_mul rfl rfl (by rw [i64_lo, i64_hi]; omega)).to (v' := I ((s * 1000000000 : Nat) : Int)) (congrArg I (by omega))) rfl rfl rfl ?_
 refine WL.qc (oq_call (thttp s hs) call5 rfl) rfl rfl rfl ?_
 refine WL.q (oq_assign rfl) rfl rfl rfl ?_
 refine WL.nil (WE.then_normal (WC.sub (fr' := [(0, _), (1, _), (5, _)]) ?_ ⟨rfl, rfl, rfl, trivial⟩))
 refine WC.seq (WC.seq (WC.region ?_))
 refine WL.q (oq_move rfl) rfl rfl rfl ?_
 refine WL.q ((oq_gtr rfl rfl).to (v' := .bool true) (congrArg Value.bool (decide_eq_true (by omega)))) rfl rfl rfl ?_
 refine WL.nil (WE.then_normal (WC.sub (fr' := [(0, _), (1, _), (5, _), (28, _)]) ?_ ⟨rfl, rfl, rfl, rfl, trivial⟩))
 refine WC.cond_t rfl ?_
 refine WC.region ?_
 refine WL.q (oq_move rfl) rfl rfl rfl ?_
 refine WL.q ((oq_mul rfl rfl (by rw [i64_lo, i64_hi]; omega)).to (v' := I ((s * 1000000000 : Nat) : Int)) (congrArg I (by omega))) rfl rfl rfl ?_
 refine WL.q (oq_move rfl) rfl rfl rfl ?_
 refine WL.q ((oq_eql rfl rfl).to (v' := .bool false) (congrArg Value.bool (decide_eq_false (by omega)))) rfl rfl rfl ?_
 refine WL.qc (oq_call (t850 s hs) call6 rfl) rfl rfl rfl ?_
 refine WL.q (oq_assign rfl) rfl rfl rfl ?_
 refine WL.nil (WE.then_normal (WC.sub (fr' := [(0, _), (5, _)]) ?_ ⟨rfl, rfl, trivial⟩))
 refine WC.seq (WC.region ?_)
 refine WL.q (oq_move rfl) rfl rfl rfl ?_
 refine WL.qc (oq_callRm (read4 G k0 u0 hL s hs) (.head _) call7 rfl) rfl rfl rfl ?_
 refine WL.q (oq_move rfl) rfl rfl rfl ?_
 refine WL.q (oq_extract rfl rfl) rfl rfl rfl ?_
 refine WL.q (oq_extract rfl rfl) rfl rfl rfl ?_
 refine WL.q (oq_extract rfl rfl) rfl rfl rfl ?_
 refine WL.q (oq_assign rfl) rfl rfl rfl ?_
 refine WL.q (oq_assign rfl) rfl rfl rfl ?_
 refine WL.q (oq_assign rfl) rfl rfl rfl ?_
 refine WL.nil (WE.then_normal (WC.sub (fr' := [(0, _), (6, _), (7, _), (8, _)]) ?_ ⟨rfl, rfl, rfl, rfl, trivial⟩))
 refine WC.seq (WC.region ?_)
 refine WL.q (oq_move rfl) rfl rfl rfl ?_
 refine WL.q (oq_move rfl) rfl rfl rfl ?_
 refine WL.q (oq_move rfl) rfl rfl rfl ?_
 refine WL.q (oq_move rfl) rfl rfl rfl ?_
 refine WL.q ((oq_eql rfl rfl).to (v' := .bool true) (congrArg Value.bool (decide_eq_true rfl))) rfl rfl rfl ?_
 refine WL.q (oq_pick_t rfl rfl) rfl rfl rfl ?_
 refine WL.q (oq_move rfl) rfl rfl rfl ?_
 refine WL.q (oq_move rfl) rfl rfl rfl ?_
 refine WL.q ((oq_eql rfl rfl).to (v' := .bool true) (congrArg Value.bool (decide_eq_true (by omega)))) rfl rfl rfl ?_
 refine WL.q (oq_pick_t rfl rfl) rfl rfl rfl ?_
 refine WL.q (oq_assign rfl) rfl rfl rfl ?_
 refine WL.nil (WE.then_normal (WC.sub (fr' := [(4, _)]) ?_ ⟨rfl, trivial⟩))
 refine WC.ret ?_
 refine WE.endR (.inl rfl) (res1 Tryd.results3 rfl) ?_
 first | rfl | exact congrArg Value.bool (decide_eq_true rfl) | (exfalso; omega)
theorem law2 (G : Hp) (k0 : TypeId) (u0 : Value) (hL : LT G k0 u0) (s : Nat) (hs : s ≤ 3124223999) : FnR Tryd.prog 3 [I (s : Int), I 2] G (.bool true) := by
 refine FnR.enter (n := 50) Tryd.func3 rfl rfl fun w0 => ?_
 refine WC.sub (fr' := [(0, _), (1, _)]) ?_ ⟨rfl, rfl, trivial⟩
 refine WC.seq (WC.region ?_)
 refine WL.q (oq_assign rfl) rfl rfl rfl ?_
 refine WL.nil (WE.then_normal (WC.sub (fr' := [(0, _), (1, _)]) ?_ ⟨rfl, rfl, trivial⟩))
 refine WC.seq (WC.seq (WC.region ?_))
 refine WL.q (oq_move rfl) rfl rfl rfl ?_
 refine WL.q ((oq_lss rfl rfl).to (v' := .bool false) (congrArg Value.bool (decide_eq_false (by omega)))) rfl rfl rfl ?_
 refine WL.q (oq_move rfl) rfl rfl rfl ?_
 refine WL.q (oq_move rfl) rfl rfl rfl ?_
 refine WL.q ((oq_gtr rfl rfl).to (v' := .bool false) (congrArg Value.bool (decide_eq_false (by omega)))) rfl rfl rfl ?_
 refine WL.q (oq_pick_f rfl rfl) rfl rfl rfl ?_
 refine WL.q (oq_move rfl) rfl rfl rfl ?_
 refine WL.q (oq_move rfl) rfl rfl rfl ?_
 refine WL.q ((oq_lss rfl rfl).to (v' := .bool false) (congrArg Value.bool (decide_eq_false (by omega)))) rfl rfl rfl ?_
 refine WL.q (oq_pick_f rfl rfl) rfl rfl rfl ?_
 refine WL.q (oq_move rfl) rfl rfl rfl ?_
 refine WL.q (oq_move rfl) rfl rfl rfl ?_
 refine WL.q ((oq_gtr rfl rfl).to (v' := .bool false) (congrArg Value.bool (decide_eq_false (by omega)))) rfl rfl rfl ?_
 refine WL.q (oq_pick_f rfl rfl) rfl rfl rfl ?_
 refine WL.nil (WE.then_normal (WC.sub (fr' := [(0, _), (1, _), (22, _)]) ?_ ⟨rfl, rfl, rfl, trivial⟩))
 refine WC.cond_f rfl ?_
 refine WC.skip (WE.then_normal (WC.sub (fr' := [(0, _), (1, _)]) ?_ ⟨rfl, rfl, trivial⟩))
 refine WC.seq (WC.region ?_)
 refine WL.q (oq_move rfl) rfl rfl rfl ?_
 refine WL.q ((oq_mul rfl rfl (by rw [i64_lo, i64_hi]; omega)).to (v' := I ((s * 1000000000 : Nat) : Int)) (congrArg I (by omega))) rfl rfl rfl ?_
 refine WL.qc (oq_call (thttp s hs) call5 rfl) rfl rfl rfl ?_
 refine WL.q (oq_assign rfl) rfl rfl rfl ?_
 refine WL.nil (WE.then_normal (WC.sub (fr' := [(0, _), (1, _), (5, _)]) ?_ ⟨rfl, rfl, rfl, trivial⟩))
 refine WC.seq (WC.seq (WC.region ?_))
 refine WL.q (oq_move rfl) rfl rfl rfl ?_
 refine WL.q ((oq_gtr rfl rfl).to (v' := .bool true) (congrArg Value.bool (decide_eq_true (by omega)))) rfl rfl rfl ?_
 refine WL.nil (WE.then_normal (WC.sub (fr' := [(0, _), (1, _), (5, _), (28, _)]) ?_ ⟨rfl, rfl, rfl, rfl, trivial⟩))
 refine WC.cond_t rfl ?_
 refine WC.region ?_
 refine WL.q (oq_move rfl) rfl rfl rfl ?_
 refine WL.q ((oq_mul rfl rfl (by rw [i64_lo, i64_hi]; omega)).to (v' := I ((s * 1000000000 : Nat) : Int)) (congrArg I (by omega))) rfl rfl rfl ?_
 refine WL.q (oq_move rfl) rfl rfl rfl ?_
 refine WL.q ((oq_eql rfl rfl).to (v' := .bool true) (congrArg Value.bool (decide_eq_true (by omega)))) rfl rfl rfl ?_
 refine WL.qc (oq_call (tasc s hs) call6 rfl) rfl rfl rfl ?_
 refine WL.q (oq_assign rfl) rfl rfl rfl ?_
 refine WL.nil (WE.then_normal (WC.sub (fr' := [(0, _), (5, _)]) ?_ ⟨rfl, rfl, trivial⟩))
 refine WC.seq (WC.region ?_)
 refine WL.q (oq_move rfl) rfl rfl rfl ?_
 refine WL.qc (oq_callRm (read5 G k0 u0 hL s hs) (.head _) call7 rfl) rfl rfl rfl ?_
 refine WL.q (oq_move rfl) rfl rfl rfl ?_
 refine WL.q (oq_extract rfl rfl) rfl rfl rfl ?_
 refine WL.q (oq_extract rfl rfl) rfl rfl rfl ?_
 refine WL.q (oq_extract rfl rfl) rfl rfl rfl ?_
 refine WL.q (oq_assign rfl) rfl rfl rfl ?_
 refine WL.q (oq_assign rfl) rfl rfl rfl ?_
 refine WL.q (oq_assign rfl) rfl rfl rfl ?_
 refine WL.nil (WE.then_normal (WC.sub (fr' := [(0, _), (6, _), (7, _), (8, _)]) ?_ ⟨rfl, rfl, rfl, rfl, trivial⟩))
 refine WC.seq (WC.region ?_)
 refine WL.q (oq_move rfl) rfl rfl rfl ?_
 refine WL.q (oq_move rfl) rfl rfl rfl ?_
 refine WL.q (oq_move rfl) rfl rfl rfl ?_
 refine WL.q (oq_move rfl) rfl rfl rfl ?_
 refine WL.q ((oq_eql rfl rfl).to (v' := .bool true) (congrArg Value.bool (decide_eq_true rfl))) rfl rfl rfl ?_
 refine WL.q (oq_pick_t rfl rfl) rfl rfl rfl ?_
 refine WL.q (oq_move rfl) rfl rfl rfl ?_
 refine WL.q (oq_move rfl) rfl rfl rfl ?_
 refine WL.q ((oq_eql rfl rfl).to (v' := .bool true) (congrArg Value.bool (decide_eq_true (by omega)))) rfl rfl rfl ?_
 refine WL.q (oq_pick_t rfl rfl) rfl rfl rfl ?_
 refine WL.q (oq_assign rfl) rfl rfl rfl ?_
 refine WL.nil (WE.then_normal (WC.sub (fr' := [(4, _)]) ?_ ⟨rfl, trivial⟩))
 refine WC.ret ?_
 refine WE.endR (.inl rfl) (res1 Tryd.results3 rfl) ?_
 first | rfl | exact congrArg Value.bool (decide_eq_true rfl) | (exfalso; omega)
theorem law (G : Hp) (k0 : TypeId) (u0 : Value) (hL : LT G k0 u0) (s f : Int) : FnR Tryd.prog 3 [I s, I f] G (.bool true) := by
 by_cases h : s < 0 ∨ 3124223999 < s ∨ f < 0 ∨ 2 < f
 ·exact lawO G s f h
 ·obtain ⟨n, rfl⟩ : ∃ n : Nat, s = (n : Int) := ⟨s.toNat, by omega⟩
  rcases (show f = 0 ∨ f = 1 ∨ f = 2 by omega) with rfl | rfl | rfl
  ·exact law0 G k0 u0 hL n (by omega)
  ·exact law1 G k0 u0 hL n (by omega)
  ·exact law2 G k0 u0 hL n (by omega)
end U6
end Go.Proofs.YtcfhfdengfcfpaaDoor
/- The engine, part 18: package variables that hold sentinels, or tables of numbers; slices of bytes that come in. Over any program. -/
namespace Go.Proofs.YtcfhfdengfcfpaaDoor.V
open Go Go.RowKit Go.ChangeShapes Go.WideShapes
set_option linter.unusedSimpArgs false
set_option linter.unusedVariables false
theorem var_heap {P : Program} {w : World} {n : String} {g : Nat} {cs : Array Value} (hg : P.globalNamed n = some g) (hv : w.var? P n = some cs) : ∃ t f, w.heap[g]? = some (.cells cs t f) := by
 simp only [World.var?, hg, Option.bind_some] at hv
 split at hv
 ·rename_i c t f h; simp at hv; subst hv; exact ⟨_, _, h⟩
 ·cases hv
theorem sentinel_open {P : Program} {w : World} {n : String} {g : Nat} {t : TypeId} {cs : Array Value} {fuel : Nat} {p : List MemPlace} {name : String} {d : DataW Unit} {ms : Array (String × TypeId)} (hg : P.globalNamed n = some g) (hv : w.var? P n = some cs) (ht : P.underlying t = some (.interface ms))
  (hd : DataW.trod (fun _ => ()) P w 0 (fun _ => true) false fuel t cs.toList = some (.iface name d, p)) : ∃ u v t' f fuel', w.heap[g]? = some (.cells #[.iface u v] t' f) ∧ P.typeName? 3 u = some name ∧ DataW.trod (fun _ => ()) P w 0 (fun _ => true) false fuel' u v.cells.toList = some (d, p) := by
 obtain ⟨t', f, hh⟩ := var_heap hg hv
 cases fuel with
 | zero => simp [DataW.trod] at hd
 | succ fuel =>
  unfold DataW.trod at hd
  rw [ht] at hd
  obtain ⟨l⟩ := cs
  simp only at hd
  split at hd <;> simp_all
  all_goals first
   | (cases hd; done)
   | skip
  rename_i u v h2
  cases hn : P.typeName? 3 u with
  | none => rw [hn] at hd; simp at hd
  | some name' =>
   rw [hn] at hd
   simp only [Option.map_eq_some_iff] at hd
   obtain ⟨x, hx, he⟩ := hd
   simp only [Prod.mk.injEq, DataW.iface.injEq] at he
   exact ⟨u, v, ⟨rfl, rfl⟩, by rw [hn, he.1.1], fuel, by rw [hx, ← he.1.2, ← he.2]⟩
theorem sentinel_is {P : Program} {w : World} {n : String} {g : Nat} {t k e : TypeId} {cs : Array Value} {fuel : Nat} {p : List MemPlace} {name : String} {d : DataW Unit} {ms : Array (String × TypeId)} (hg : P.globalNamed n = some g) (hv : w.var? P n = some cs) (ht : P.underlying t = some (.interface ms))
  (hd : DataW.trod (fun _ => ()) P w 0 (fun _ => true) false fuel t cs.toList = some (.iface name (.ptr d), p)) (hk : P.underlying k = some (.pointer e)) (hone : ∀ u, P.typeName? 3 u = some name → u = k) (hok : ∀ u v, w.cell? ⟨g, 0, none⟩ = some (.iface u v) → Value.okWide P w .any 0 u v) :
  ∃ a t' f, w.heap[g]? = some (.cells #[.iface k (.pointer (some a))] t' f) := by
 obtain ⟨u, v, t', f, fuel', hh, hn, htr⟩ := sentinel_open hg hv ht hd
 obtain rfl := hone u hn
 have hc : w.cell? ⟨g, 0, none⟩ = some (.iface u v) := by rw [cell_at hh]; rfl
 obtain ⟨q, rfl⟩ := okWide_pointer hk (hok u v hc)
 cases q with
 | some a => exact ⟨a, t', f, hh⟩
 | none =>
  exfalso
  cases fuel' with
  | zero => simp [DataW.trod] at htr
  | succ m => unfold DataW.trod at htr; rw [hk] at htr; simp [Value.cells] at htr
theorem laid_sent {P : Program} {w : World} {n name : String} {g : Nat} {t k e : TypeId} {d : DataW Unit} {r : List (String × DataW Unit)} {ps : List MemPlace} {ms : Array (String × TypeId)} (h : DataW.LaidVars P w ((n, .iface name (.ptr d)) :: r) ps)
  (hall : ∀ b off, MemPlace.cell b off ∈ ps → ∀ u v, w.cell? ⟨b, off, none⟩ = some (.iface u v) → Value.okWide P w .any 0 u v) (hg : P.globalNamed n = some g) (ht : (P.globals[g]?).map (·.type) = some t) (hu : P.underlying t = some (.interface ms)) (hk : P.underlying k = some (.pointer e)) (hone : ∀ u, P.typeName? 3 u = some name → u = k) :
  (∃ a t' f, w.heap[g]? = some (.cells #[.iface k (.pointer (some a))] t' f)) ∧ ∃ q, DataW.LaidVars P w r q ∧ ∀ b off, MemPlace.cell b off ∈ q → ∀ u v, w.cell? ⟨b, off, none⟩ = some (.iface u v) → Value.okWide P w .any 0 u v := by
 obtain ⟨g', t', cs, fuel, p, q, hg', ht', hv, hd, hr, rfl⟩ := h
 obtain rfl := Option.some.inj (hg.symm.trans hg')
 obtain rfl := Option.some.inj (ht.symm.trans ht')
 refine ⟨sentinel_is hg hv hu hd hk hone fun u v hc => hall g 0 ?_ u v hc, q, hr, fun b off hm => hall b off (List.mem_append_right _ hm)⟩
 refine List.mem_append_left _ (List.mem_append_left _ ?_)
 have hc2 := World.var?_cell hg hv 0
 rw [hc] at hc2
 have hpos : 0 < cs.size := (Array.getElem?_eq_some_iff.1 hc2.symm).1
 simp [MemPlace.row]
 first | exact ⟨0, hpos, rfl⟩ | exact hpos | omega
section
variable {H : Type} {enc : TypeId × Value → H} {P : Program} {w : World} {base : Nat}
end
end Go.Proofs.YtcfhfdengfcfpaaDoor.V
/- What the listed variables of the dates' row hold. -/
namespace Go.Proofs.YtcfhfdengfcfpaaDoor
open Go V T0 T5 T9 U0 Go.RowKit Go.ChangeShapes Go.WideShapes
set_option linter.unusedVariables false
set_option linter.unusedSimpArgs false
set_option maxRecDepth 100000
namespace UL
theorem star : "*" ++ "errors.errorString" = "*errors.errorString" := by decide
theorem rowE (u : TypeId) (h : Tryd.prog.typeName? 3 u = some "*errors.errorString") : u = 51 :=
 typeName_ptr_named (nm := "errors.errorString") (by rw [star]; kernel_rfl) (by kernel_rfl) (by decide) u (by rw [star]; exact h)
theorem laid_tab {P : Program} {w : World} {n : String} {g : Nat} {t e : TypeId} {m : Nat} {k : IntKind} {zs : List Int} {r : List (String × DataW Unit)} {ps : List MemPlace} (hg : P.globalNamed n = some g) (hty : (P.globals[g]?).map (·.type) = some t) (ht : P.underlying t = some (.array m e)) (he : P.underlying e = some (.int k)) (hce : P.cellsOf e = 1) (hct : P.cellsOf t = m) (h : DataW.LaidVars P w ((n, Lib.tabData k zs) :: r) ps) :
  (∃ t f, w.heap[g]? = some (.cells (zs.map fun z => Value.int k z).toArray t f)) ∧ ∃ q, DataW.LaidVars P w r q := by
 obtain ⟨g', t', cs, fuel, p, q, hg', ht', hvar, hd, hr, rfl⟩ := h
 obtain rfl := Option.some.inj (hg.symm.trans hg')
 obtain rfl := Option.some.inj (hty.symm.trans ht')
 have e1 := Lib.cells_of_tab ht he hce hct hd
 have e2 : cs = (zs.map fun z => Value.int k z).toArray := by rw [← e1]
 rw [e2] at hvar
 exact ⟨var_heap hg hvar, q, hr⟩
theorem strs_inj : ∀ {ss : List ByteArray} {ls : List (List UInt8)}, (strs ss : List (DataW Unit)) = ls.map (fun l => .lit (.string l)) → ss.map (·.data.toList) = ls
 | [], [], _ => rfl
 | [], _ :: _, h => by simp [strs] at h
 | _ :: _, [], h => by simp [strs] at h
 | s :: ss, l :: ls, h => by
  simp only [strs, List.map_cons, List.cons.injEq] at h
  have h2 := strs_inj (ss := ss) (ls := ls) (by simpa [strs] using h.2)
  have h1 := h.1
  simp only [DataW.lit.injEq, Lit.string.injEq] at h1
  rw [List.map_cons, h2, h1]
theorem laid_strs {P : Program} {w : World} {n : String} {g : Nat} {t e : TypeId} {ls : List (List UInt8)} {r : List (String × DataW Unit)} {ps : List MemPlace} (hg : P.globalNamed n = some g) (hty : (P.globals[g]?).map (·.type) = some t) (ht : P.underlying t = some (.slice e)) (he : P.underlying e = some .string) (hce : P.cellsOf e = 1) (h : DataW.LaidVars P w ((n, .slice (ls.map fun l => .lit (.string l)) []) :: r) ps) :
  (∃ sv A t f, w.heap[g]? = some (.cells #[sv] t f) ∧ Has A w ∧ RdS 1 sv A ls.length (strsV ls)) ∧ ∃ q, DataW.LaidVars P w r q := by
 obtain ⟨g', t', cs, fuel, p, q, hg', ht', hvar, hd, hr, rfl⟩ := h
 obtain rfl := Option.some.inj (hg.symm.trans hg')
 obtain rfl := Option.some.inj (hty.symm.trans ht')
 refine ⟨?_, q, hr⟩
 rcases open_strings ht he hce hd with ⟨_, hx⟩ | ⟨a, len, cap, ss, hcs, _, hl, hm, hz, hx, hcell, _⟩
 ·injection hx with h1 h2
  cases h1
 ·injection hx with h1 h2
  injection h1 with h3 h4
  have hls := strs_inj h3.symm
  have hz' : ss.length = cap := by simpa using hz
  have hlen : len = ls.length := by rw [← hls]; simp; omega
  obtain ⟨A, hA, hrd⟩ := rd_of_cells (w := w) (a := a) (len := len) (cap := cap) (xs := strsV ls) (by simp [strsV]; omega) hl (fun i hi => by
   rw [hcell i (by omega), ← hls]
   simp only [strsV, List.map_map, List.getElem?_map, List.getElem?_take, if_pos hi]
   rw [List.getElem?_eq_getElem (by omega), List.getD_eq_getElem?_getD, List.getElem?_eq_getElem (by omega)]
   rfl)
  have e2 : cs = #[.slice (some a) len cap] := by
   apply Array.ext'; exact hcs
  rw [e2] at hvar
  obtain ⟨tt, ff, hh⟩ := var_heap hg hvar
  rw [hlen] at hrd hh
  exact ⟨_, A, tt, ff, hh, hA, hrd⟩
theorem isStd : (Rows.laid_given_example_pub_tinwright_pub_ztime_std0x : DataW Unit) = Lib.tabData .i64 [260, 265, 1038, 1040, 1042, 276] := by kernel_rfl
theorem isLong : (Rows.laid_given_example_pub_tinwright_pub_ztime_longDayNames : DataW Unit) = .slice (fulls.map fun l => .lit (.string l)) [] := by kernel_rfl
theorem g0 : Tryd.prog.globalNamed "given.example/pub-tinwright/pub/ztime.errBad" = some 0 := by kernel_rfl
theorem g3 : Tryd.prog.globalNamed "given.example/pub-tinwright/pub/ztime.std0x" = some 3 := by kernel_rfl
theorem g2 : Tryd.prog.globalNamed "given.example/pub-tinwright/pub/ztime.longDayNames" = some 2 := by kernel_rfl
theorem t0 : (Tryd.prog.globals[0]?).map (·.type) = some 39 := by kernel_rfl
theorem t3 : (Tryd.prog.globals[3]?).map (·.type) = some 85 := by kernel_rfl
theorem t2 : (Tryd.prog.globals[2]?).map (·.type) = some 33 := by kernel_rfl
theorem times_laid {W : World} (h : laidMetH Tryd.prog Rows.fnHTimesRow.laid W) : ∃ G, Has G W ∧ ∃ k0 u0, LT G k0 u0 := by
 rw [Go.MakeChecks.laidMetH_plain _ _ _ (by kernel_rfl)] at h
 obtain ⟨ps, hl, _, hall⟩ := h
 have hl : DataW.LaidVars Tryd.prog W (("given.example/pub-tinwright/pub/ztime.errBad", Rows.laid_given_example_pub_tinwright_pub_ztime_errBad) :: Rows.fnHTimesRow.laid.drop 1) ps := hl
 obtain ⟨⟨a0, u0, f0, h0⟩, q1, hl, _⟩ := laid_sent hl (fun b off hm => (hall b off hm).2) g0 t0 Tryd.underlying39 Tryd.underlying51 rowE
 obtain ⟨_, _, _, _, _, _, _, _, _, _, hl, rfl⟩ := hl
 obtain ⟨_, _, _, _, _, _, _, _, _, _, hl, rfl⟩ := hl
 have hl : DataW.LaidVars Tryd.prog W (("given.example/pub-tinwright/pub/ztime.std0x", Rows.laid_given_example_pub_tinwright_pub_ztime_std0x) :: ("given.example/pub-tinwright/pub/ztime.longDayNames", Rows.laid_given_example_pub_tinwright_pub_ztime_longDayNames) :: Rows.fnHTimesRow.laid.drop 5) _ := hl
 rw [isStd, isLong] at hl
 obtain ⟨⟨ty3, f3, h3⟩, q2, hl⟩ := laid_tab g3 t3 Tryd.underlying85 Tryd.underlying3 (by kernel_rfl) (by kernel_rfl) hl
 obtain ⟨⟨sv, A, ty2, f2, h2, hA, hrd⟩, q3, hl⟩ := laid_strs g2 t2 Tryd.underlying33 Tryd.underlying9 (by kernel_rfl) hl
 have hB : Has [(0, .cells #[.iface 51 (.pointer (some a0))] u0 f0), (3, .cells std0 ty3 f3), (2, .cells #[sv] ty2 f2)] W := ⟨fun b o hb => by
  simp only [List.mem_cons, Prod.mk.injEq, List.not_mem_nil, or_false] at hb
  rcases hb with ⟨rfl, rfl⟩ | ⟨rfl, rfl⟩ | ⟨rfl, rfl⟩
  ·exact h0
  ·exact h3
  ·exact h2, by simp⟩
 obtain ⟨C, hC, h1, h2⟩ := has_two hB hA
 exact ⟨C, hC, _, _, ⟨_, _, h1 _ (.head _)⟩, ⟨_, _, h1 _ (.tail _ (.head _))⟩, sv, ⟨_, _, h1 _ (.tail _ (.tail _ (.head _)))⟩, hrd.weaken h2⟩
end UL
end Go.Proofs.YtcfhfdengfcfpaaDoor
