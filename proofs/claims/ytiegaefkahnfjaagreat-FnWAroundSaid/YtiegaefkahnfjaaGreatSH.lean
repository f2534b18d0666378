/- The law of what is put around a middleware, walked. -/
import Derived.Test.YtiegaefkahnfjaaGreatSD
namespace Go.Proofs.YtiegaefkahnfjaaGreat
open Go Go.RowKit V S0 S1 S2 S3 S4 S5 S6 S7 S8 SA SB S9 SC SD
set_option linter.unusedSimpArgs false
set_option linter.unusedVariables false
set_option maxRecDepth 10000
namespace SH
theorem call8 : Callable Tryz.prog 8 := ⟨_, Tryz.func8, rfl, by kernel_rfl⟩
theorem call9 : Callable Tryz.prog 9 := ⟨_, Tryz.func9, rfl, by kernel_rfl⟩
theorem call10 : Callable Tryz.prog 10 := ⟨_, Tryz.func10, rfl, by kernel_rfl⟩
theorem call13 : Callable Tryz.prog 13 := ⟨_, Tryz.func13, rfl, by kernel_rfl⟩
theorem call14 : Callable Tryz.prog 14 := ⟨_, Tryz.func14, rfl, by kernel_rfl⟩
theorem flat9 : Flat Tryz.prog 9 := ⟨_, Tryz.underlying9, by simp⟩
theorem flat26 : Flat Tryz.prog 26 := ⟨_, Tryz.underlying26, by simp⟩
theorem ty9 : Ty Tryz.prog 9 (S []) 1 16 := ty_of (by kernel_rfl)
theorem ty26 : Ty Tryz.prog 26 (.slice none 0 0) 1 24 := ty_of (by kernel_rfl)
theorem ty27 : Ty Tryz.prog 27 (.agg #[(.slice none 0 0), (.slice none 0 0), (.slice none 0 0), (.slice none 0 0), (.slice none 0 0)]) 5 120 := ty_of (by kernel_rfl)
theorem ty32 : Ty Tryz.prog 32 (.agg #[(.int .i64 0), (.int .i64 0), (S []), (S []), (.bool false)]) 5 56 := ty_of (by kernel_rfl)
theorem str32 : Str Tryz.prog 32 #[(0, 1), (1, 1), (2, 1), (3, 1), (4, 1)] := ⟨_, Tryz.underlying32, fun w => by kernel_rfl⟩

theorem cnt_next {l : List (List UInt8)} {b : List UInt8} {j : Nat} (h : j < l.length) : (l.take (j + 1)).count b = (l.take j).count b + if l.getD j [] = b then 1 else 0 := by
  rw [List.take_succ_eq_append_getElem h, List.count_append, List.count_singleton, List.getD_eq_getElem?_getD, List.getElem?_eq_getElem h, Option.getD_some]
  congr 1
  by_cases e : l[j] = b
  · rw [if_pos e, if_pos (by rw [e]; exact beq_self_eq_true b)]
  · rw [if_neg e, if_neg (by rw [beq_iff_eq]; exact e)]
theorem cnt_one {l : List (List UInt8)} {b : List UInt8} {a : Nat} (h1 : l.count b = 1) (ha : a < l.length) (hg : l.getD a [] = b) : l = l.take a ++ b :: l.drop (a + 1) ∧ (∀ y ∈ l.take a, y ≠ b) ∧ ∀ y ∈ l.drop (a + 1), y ≠ b := by
  have e : l = l.take a ++ b :: l.drop (a + 1) := by
    rw [← hg, List.getD_eq_getElem?_getD, List.getElem?_eq_getElem ha, Option.getD_some, ← List.drop_eq_getElem_cons ha, List.take_append_drop]
  have h2 : (l.take a ++ b :: l.drop (a + 1)).count b = 1 := by rw [← e]; exact h1
  rw [List.count_append, List.count_cons_self] at h2
  have hA : (l.take a).count b = 0 := by omega
  have hB : (l.drop (a + 1)).count b = 0 := by omega
  exact ⟨e, fun y hy h => List.count_eq_zero.1 hA (h ▸ hy), fun y hy h => List.count_eq_zero.1 hB (h ▸ hy)⟩
theorem around {l : List WO} {si : Nat} {b one two : List UInt8} {A B : List (List UInt8)} (e : (wst l).1 si = A ++ b :: B) (hA : ∀ y ∈ A, y ≠ b) (h1 : one ≠ b) :
    (wst (l ++ [⟨si, 1, one, b, false⟩, ⟨si, 1, two, b, true⟩])).1 si = A ++ one :: b :: two :: B ∧ ∀ k, k ≠ si → (wst (l ++ [⟨si, 1, one, b, false⟩, ⟨si, 1, two, b, true⟩])).1 k = (wst l).1 k := by
  have e1 : wst (l ++ [⟨si, 1, one, b, false⟩]) = (updW (wst l).1 si (A ++ one :: b :: B), (wst l).2 ++ [false]) := by
    rw [wst_snoc, show wst l = ((wst l).1, (wst l).2) from rfl, wnext_eq]
    show (updW (wst l).1 si ((wopI _ ((wst l).1 si)).getD ((wst l).1 si)), _) = _
    rw [wop1 (o := ⟨si, 1, one, b, false⟩) rfl]
    show (updW (wst l).1 si ((insI b false one ((wst l).1 si)).getD _), _ ++ [!(wopI _ ((wst l).1 si)).isSome]) = _
    rw [wop1 (o := ⟨si, 1, one, b, false⟩) rfl]
    show (updW (wst l).1 si ((insI b false one ((wst l).1 si)).getD _), _ ++ [!(insI b false one ((wst l).1 si)).isSome]) = _
    rw [e, insI_hit hA]; rfl
  have e2 : (wst (l ++ [⟨si, 1, one, b, false⟩, ⟨si, 1, two, b, true⟩])).1 = updW (updW (wst l).1 si (A ++ one :: b :: B)) si (A ++ one :: b :: two :: B) := by
    rw [show l ++ [⟨si, 1, one, b, false⟩, ⟨si, 1, two, b, true⟩] = (l ++ [⟨si, 1, one, b, false⟩]) ++ [⟨si, 1, two, b, true⟩] by simp, wst_snoc, e1, wnext_eq]
    show updW _ si ((wopI _ (updW (wst l).1 si _ si)).getD (updW (wst l).1 si _ si)) = _
    rw [updW_at, wop1 (o := ⟨si, 1, two, b, true⟩) rfl]
    show updW _ si ((insI b true two (A ++ one :: b :: B)).getD _) = _
    rw [show A ++ one :: b :: B = (A ++ [one]) ++ b :: B by simp, insI_hit (fun y hy => by rcases List.mem_append.1 hy with h | h; exact hA y h; rw [List.mem_singleton.1 h]; exact h1)]
    show updW _ si (A ++ [one] ++ b :: two :: B) = _
    rw [show A ++ [one] ++ b :: two :: B = A ++ one :: b :: two :: B by simp]
  rw [e2]
  exact ⟨updW_at _ _ _, fun k hk => by rw [updW_ne _ _ hk, updW_ne _ _ hk]⟩
theorem recsW_one (l : List WO) : ∀ u ∈ recsV wof l, u.oneCell' = true := by
  intro u hu
  obtain ⟨o, ho, hu⟩ := List.mem_flatMap.1 hu
  simp only [wof, List.mem_cons, List.not_mem_nil, or_false] at hu
  rcases hu with rfl | rfl | rfl | rfl | rfl <;> rfl
theorem recsW_app (a b : List WO) : recsV wof (a ++ b) = recsV wof a ++ recsV wof b := by unfold recsV; rw [List.flatMap_append]
theorem rdN5 {v : Value} {A : Hp} {n m : Nat} {xs ys : List Value} (h : RdS 5 v A n xs) (hn : n = m) (hx : xs = ys) : RdS 5 v A m ys := by subst hn; subst hx; exact h
theorem cat3 {a b c : Hp} {H : List Hp} : (a :: b :: c :: H).flatten.Perm ((a ++ (b ++ c)) :: H).flatten := by simp
/-- given.example/pub-tinwright/laws.FnWAround -/
theorem lawAround (v : Value) (A : Hp) (l : List WO) (hr : RdS 5 v A l.length (recsV wof l)) (step : Int) (by_ one two : List UInt8) : FnR Tryz.prog 4 [v, I step, S by_, S one, S two] A (.bool true) := by
  refine FnR.enter (n := 164) Tryz.func4 rfl rfl fun w0 => ?_
  refine WC.sub (fr' := [(0, _), (1, _), (2, _), (3, _), (4, _)]) ?_ ⟨rfl, rfl, rfl, rfl, rfl, trivial⟩
  refine WC.seq (WC.region ?_)
  refine WL.q (oq_assign rfl) rfl rfl rfl ?_
  refine WL.nil (WE.then_normal (WC.sub (fr' := [(0, _), (1, _), (2, _), (3, _), (4, _)]) ?_ ⟨rfl, rfl, rfl, rfl, rfl, trivial⟩))
  refine WC.seq (WC.seq (WC.region ?_))
  refine WL.q (oq_move rfl) rfl rfl rfl ?_
  refine WL.qc (oq_callRm (fits18 v A l hr) (.head _) call8 rfl) rfl rfl rfl ?_
  refine WL.q (oq_not rfl) rfl rfl rfl ?_
  refine WL.q (oq_move rfl) rfl rfl rfl ?_
  refine WL.split 24 rfl (fun s1_3 => ?_) (fun s1_3 => ?_)
  ·
    try simp only [Z1, Z2, Z3, Z4, Z5, Z6, Z7, Z8, Z9, Z0] at s1_3
    refine WL.skip rfl rfl rfl ?_
    refine WL.skip rfl rfl rfl ?_
    refine WL.skip rfl rfl rfl ?_
    refine WL.q (oq_pick_t rfl rfl) rfl rfl rfl ?_
    refine WL.q (oq_move rfl) rfl rfl rfl ?_
    refine WL.skip rfl rfl rfl ?_
    refine WL.skip rfl rfl rfl ?_
    refine WL.skip rfl rfl rfl ?_
    refine WL.q (oq_pick_t rfl rfl) rfl rfl rfl ?_
    refine WL.q (oq_move rfl) rfl rfl rfl ?_
    refine WL.skip rfl rfl rfl ?_
    refine WL.skip rfl rfl rfl ?_
    refine WL.skip rfl rfl rfl ?_
    refine WL.q (oq_pick_t rfl rfl) rfl rfl rfl ?_
    refine WL.nil (WE.then_normal (WC.sub (fr' := [(0, _), (1, _), (2, _), (3, _), (4, _), (38, _)]) ?_ ⟨rfl, rfl, rfl, rfl, rfl, rfl, trivial⟩))
    refine WC.cond_t rfl ?_
    refine WC.seq (WC.region ?_)
    refine WL.q (oq_assign rfl) rfl rfl rfl ?_
    refine WL.nil (WE.then_normal (WC.sub (fr' := [(10, _)]) ?_ ⟨rfl, trivial⟩))
    refine WC.ret (WE.then_ret ?_)
    refine WE.endR (.inl rfl) (res1 Tryz.results4 rfl) ?_
    -- end 0
    first | rfl | (exfalso; omega) | (rw [har1, decide_eq_true rfl]; done) | (exfalso; simp_all; done)
  ·
    try simp only [Z1, Z2, Z3, Z4, Z5, Z6, Z7, Z8, Z9, Z0] at s1_3
    refine WL.q (oq_move rfl) rfl rfl rfl ?_
    refine WL.q (oq_len_s Tryz.underlying9 rfl) rfl rfl rfl ?_
    refine WL.q (oq_gtr rfl rfl) rfl rfl rfl ?_
    refine WL.q (oq_pick_f rfl rfl) rfl rfl rfl ?_
    refine WL.q (oq_move rfl) rfl rfl rfl ?_
    refine WL.split 29 rfl (fun s1_8 => ?_) (fun s1_8 => ?_)
    ·
      try simp only [Z1, Z2, Z3, Z4, Z5, Z6, Z7, Z8, Z9, Z0] at s1_8
      refine WL.skip rfl rfl rfl ?_
      refine WL.skip rfl rfl rfl ?_
      refine WL.skip rfl rfl rfl ?_
      refine WL.q (oq_pick_t rfl rfl) rfl rfl rfl ?_
      refine WL.q (oq_move rfl) rfl rfl rfl ?_
      refine WL.skip rfl rfl rfl ?_
      refine WL.skip rfl rfl rfl ?_
      refine WL.skip rfl rfl rfl ?_
      refine WL.q (oq_pick_t rfl rfl) rfl rfl rfl ?_
      refine WL.nil (WE.then_normal (WC.sub (fr' := [(0, _), (1, _), (2, _), (3, _), (4, _), (38, _)]) ?_ ⟨rfl, rfl, rfl, rfl, rfl, rfl, trivial⟩))
      refine WC.cond_t rfl ?_
      refine WC.seq (WC.region ?_)
      refine WL.q (oq_assign rfl) rfl rfl rfl ?_
      refine WL.nil (WE.then_normal (WC.sub (fr' := [(10, _)]) ?_ ⟨rfl, trivial⟩))
      refine WC.ret (WE.then_ret ?_)
      refine WE.endR (.inl rfl) (res1 Tryz.results4 rfl) ?_
      -- end 1
      first | rfl | (exfalso; omega) | (rw [har1, decide_eq_true rfl]; done) | (exfalso; simp_all; done)
    ·
      try simp only [Z1, Z2, Z3, Z4, Z5, Z6, Z7, Z8, Z9, Z0] at s1_8
      refine WL.q (oq_move rfl) rfl rfl rfl ?_
      refine WL.q (oq_len_s Tryz.underlying9 rfl) rfl rfl rfl ?_
      refine WL.q (oq_gtr rfl rfl) rfl rfl rfl ?_
      refine WL.q (oq_pick_f rfl rfl) rfl rfl rfl ?_
      refine WL.q (oq_move rfl) rfl rfl rfl ?_
      refine WL.split 34 rfl (fun s1_13 => ?_) (fun s1_13 => ?_)
      ·
        try simp only [Z1, Z2, Z3, Z4, Z5, Z6, Z7, Z8, Z9, Z0] at s1_13
        refine WL.skip rfl rfl rfl ?_
        refine WL.skip rfl rfl rfl ?_
        refine WL.skip rfl rfl rfl ?_
        refine WL.q (oq_pick_t rfl rfl) rfl rfl rfl ?_
        refine WL.nil (WE.then_normal (WC.sub (fr' := [(0, _), (1, _), (2, _), (3, _), (4, _), (38, _)]) ?_ ⟨rfl, rfl, rfl, rfl, rfl, rfl, trivial⟩))
        refine WC.cond_t rfl ?_
        refine WC.seq (WC.region ?_)
        refine WL.q (oq_assign rfl) rfl rfl rfl ?_
        refine WL.nil (WE.then_normal (WC.sub (fr' := [(10, _)]) ?_ ⟨rfl, trivial⟩))
        refine WC.ret (WE.then_ret ?_)
        refine WE.endR (.inl rfl) (res1 Tryz.results4 rfl) ?_
        -- end 2
        first | rfl | (exfalso; omega) | (rw [har1, decide_eq_true rfl]; done) | (exfalso; simp_all; done)
      ·
        try simp only [Z1, Z2, Z3, Z4, Z5, Z6, Z7, Z8, Z9, Z0] at s1_13
        refine WL.q (oq_move rfl) rfl rfl rfl ?_
        refine WL.q (oq_len_s Tryz.underlying9 rfl) rfl rfl rfl ?_
        refine WL.q (oq_gtr rfl rfl) rfl rfl rfl ?_
        refine WL.q (oq_pick_f rfl rfl) rfl rfl rfl ?_
        refine WL.nil (WE.then_normal (WC.sub (fr' := [(0, _), (1, _), (2, _), (3, _), (4, _), (38, _)]) ?_ ⟨rfl, rfl, rfl, rfl, rfl, rfl, trivial⟩))
        refine WC.cond rfl (fun q1 => ?_) (fun q1 => ?_)
        ·
          try simp only [Z1, Z2, Z3, Z4, Z5, Z6, Z7, Z8, Z9, Z0] at q1
          refine WC.seq (WC.region ?_)
          refine WL.q (oq_assign rfl) rfl rfl rfl ?_
          refine WL.nil (WE.then_normal (WC.sub (fr' := [(10, _)]) ?_ ⟨rfl, trivial⟩))
          refine WC.ret (WE.then_ret ?_)
          refine WE.endR (.inl rfl) (res1 Tryz.results4 rfl) ?_
          -- end 3
          first | rfl | (exfalso; omega) | (rw [har1, decide_eq_true rfl]; done) | (exfalso; simp_all; done)
        ·
          try simp only [Z1, Z2, Z3, Z4, Z5, Z6, Z7, Z8, Z9, Z0] at q1
          refine WC.skip (WE.then_normal (WC.sub (fr' := [(0, _), (1, _), (2, _), (3, _), (4, _)]) ?_ ⟨rfl, rfl, rfl, rfl, rfl, trivial⟩))
          refine WC.seq (WC.seq (WC.region ?_))
          refine WL.q (oq_move rfl) rfl rfl rfl ?_
          refine WL.qc (oq_callRm (SD.look v A l hr (by first | assumption | (simp_all; done))) (.head _) call9 rfl) rfl rfl rfl ?_
          refine WL.q (oq_not rfl) rfl rfl rfl ?_
          refine WL.q (oq_move rfl) rfl rfl rfl ?_
          refine WL.split 42 rfl (fun s3_3 => ?_) (fun s3_3 => ?_)
          ·
            try simp only [Z1, Z2, Z3, Z4, Z5, Z6, Z7, Z8, Z9, Z0] at s3_3
            refine WL.skip rfl rfl rfl ?_
            refine WL.skip rfl rfl rfl ?_
            refine WL.skip rfl rfl rfl ?_
            refine WL.q (oq_pick_t rfl rfl) rfl rfl rfl ?_
            refine WL.q (oq_move rfl) rfl rfl rfl ?_
            refine WL.skip rfl rfl rfl ?_
            refine WL.skip rfl rfl rfl ?_
            refine WL.q (oq_pick_t rfl rfl) rfl rfl rfl ?_
            refine WL.q (oq_move rfl) rfl rfl rfl ?_
            refine WL.skip rfl rfl rfl ?_
            refine WL.skip rfl rfl rfl ?_
            refine WL.q (oq_pick_t rfl rfl) rfl rfl rfl ?_
            refine WL.q (oq_move rfl) rfl rfl rfl ?_
            refine WL.skip rfl rfl rfl ?_
            refine WL.skip rfl rfl rfl ?_
            refine WL.skip rfl rfl rfl ?_
            refine WL.skip rfl rfl rfl ?_
            refine WL.skip rfl rfl rfl ?_
            refine WL.skip rfl rfl rfl ?_
            refine WL.skip rfl rfl rfl ?_
            refine WL.skip rfl rfl rfl ?_
            refine WL.skip rfl rfl rfl ?_
            refine WL.q (oq_pick_t rfl rfl) rfl rfl rfl ?_
            refine WL.nil (WE.then_normal (WC.sub (fr' := [(0, _), (1, _), (2, _), (3, _), (4, _), (65, _)]) ?_ ⟨rfl, rfl, rfl, rfl, rfl, rfl, trivial⟩))
            refine WC.cond_t rfl ?_
            refine WC.seq (WC.region ?_)
            refine WL.qc (oq_call (wAwake) call10 rfl) rfl rfl rfl ?_
            refine WL.q (oq_assign rfl) rfl rfl rfl ?_
            refine WL.nil (WE.then_normal (WC.sub (fr' := [(10, _)]) ?_ ⟨rfl, trivial⟩))
            refine WC.ret (WE.then_ret ?_)
            refine WE.endR (.inl rfl) (res1 Tryz.results4 rfl) ?_
            -- end 4
            first | rfl | (exfalso; omega) | (rw [har1, decide_eq_true rfl]; done) | (exfalso; simp_all; done)
          ·
            try simp only [Z1, Z2, Z3, Z4, Z5, Z6, Z7, Z8, Z9, Z0] at s3_3
            refine WL.q (oq_move rfl) rfl rfl rfl ?_
            refine WL.q (oq_len_rd hr Tryz.underlying22 rfl) rfl rfl rfl ?_
            refine WL.q (oq_gtr rfl rfl) rfl rfl rfl ?_
            refine WL.q (oq_pick_f rfl rfl) rfl rfl rfl ?_
            refine WL.q (oq_move rfl) rfl rfl rfl ?_
            refine WL.split 47 rfl (fun s3_8 => ?_) (fun s3_8 => ?_)
            ·
              try simp only [Z1, Z2, Z3, Z4, Z5, Z6, Z7, Z8, Z9, Z0] at s3_8
              refine WL.skip rfl rfl rfl ?_
              refine WL.skip rfl rfl rfl ?_
              refine WL.q (oq_pick_t rfl rfl) rfl rfl rfl ?_
              refine WL.q (oq_move rfl) rfl rfl rfl ?_
              refine WL.skip rfl rfl rfl ?_
              refine WL.skip rfl rfl rfl ?_
              refine WL.q (oq_pick_t rfl rfl) rfl rfl rfl ?_
              refine WL.q (oq_move rfl) rfl rfl rfl ?_
              refine WL.skip rfl rfl rfl ?_
              refine WL.skip rfl rfl rfl ?_
              refine WL.skip rfl rfl rfl ?_
              refine WL.skip rfl rfl rfl ?_
              refine WL.skip rfl rfl rfl ?_
              refine WL.skip rfl rfl rfl ?_
              refine WL.skip rfl rfl rfl ?_
              refine WL.skip rfl rfl rfl ?_
              refine WL.skip rfl rfl rfl ?_
              refine WL.q (oq_pick_t rfl rfl) rfl rfl rfl ?_
              refine WL.nil (WE.then_normal (WC.sub (fr' := [(0, _), (1, _), (2, _), (3, _), (4, _), (65, _)]) ?_ ⟨rfl, rfl, rfl, rfl, rfl, rfl, trivial⟩))
              refine WC.cond_t rfl ?_
              refine WC.seq (WC.region ?_)
              refine WL.qc (oq_call (wAwake) call10 rfl) rfl rfl rfl ?_
              refine WL.q (oq_assign rfl) rfl rfl rfl ?_
              refine WL.nil (WE.then_normal (WC.sub (fr' := [(10, _)]) ?_ ⟨rfl, trivial⟩))
              refine WC.ret (WE.then_ret ?_)
              refine WE.endR (.inl rfl) (res1 Tryz.results4 rfl) ?_
              -- end 5
              first | rfl | (exfalso; omega) | (rw [har1, decide_eq_true rfl]; done) | (exfalso; simp_all; done)
            ·
              try simp only [Z1, Z2, Z3, Z4, Z5, Z6, Z7, Z8, Z9, Z0] at s3_8
              refine WL.q (oq_move rfl) rfl rfl rfl ?_
              refine WL.q (oq_lss rfl rfl) rfl rfl rfl ?_
              refine WL.q (oq_pick_f rfl rfl) rfl rfl rfl ?_
              refine WL.q (oq_move rfl) rfl rfl rfl ?_
              refine WL.split 51 rfl (fun s3_12 => ?_) (fun s3_12 => ?_)
              ·
                try simp only [Z1, Z2, Z3, Z4, Z5, Z6, Z7, Z8, Z9, Z0] at s3_12
                refine WL.skip rfl rfl rfl ?_
                refine WL.skip rfl rfl rfl ?_
                refine WL.q (oq_pick_t rfl rfl) rfl rfl rfl ?_
                refine WL.q (oq_move rfl) rfl rfl rfl ?_
                refine WL.skip rfl rfl rfl ?_
                refine WL.skip rfl rfl rfl ?_
                refine WL.skip rfl rfl rfl ?_
                refine WL.skip rfl rfl rfl ?_
                refine WL.skip rfl rfl rfl ?_
                refine WL.skip rfl rfl rfl ?_
                refine WL.skip rfl rfl rfl ?_
                refine WL.skip rfl rfl rfl ?_
                refine WL.skip rfl rfl rfl ?_
                refine WL.q (oq_pick_t rfl rfl) rfl rfl rfl ?_
                refine WL.nil (WE.then_normal (WC.sub (fr' := [(0, _), (1, _), (2, _), (3, _), (4, _), (65, _)]) ?_ ⟨rfl, rfl, rfl, rfl, rfl, rfl, trivial⟩))
                refine WC.cond_t rfl ?_
                refine WC.seq (WC.region ?_)
                refine WL.qc (oq_call (wAwake) call10 rfl) rfl rfl rfl ?_
                refine WL.q (oq_assign rfl) rfl rfl rfl ?_
                refine WL.nil (WE.then_normal (WC.sub (fr' := [(10, _)]) ?_ ⟨rfl, trivial⟩))
                refine WC.ret (WE.then_ret ?_)
                refine WE.endR (.inl rfl) (res1 Tryz.results4 rfl) ?_
                -- end 6
                first | rfl | (exfalso; omega) | (rw [har1, decide_eq_true rfl]; done) | (exfalso; simp_all; done)
              ·
                try simp only [Z1, Z2, Z3, Z4, Z5, Z6, Z7, Z8, Z9, Z0] at s3_12
                refine WL.q (oq_move rfl) rfl rfl rfl ?_
                refine WL.q (oq_gtr rfl rfl) rfl rfl rfl ?_
                refine WL.q (oq_pick_f rfl rfl) rfl rfl rfl ?_
                refine WL.q (oq_move rfl) rfl rfl rfl ?_
                refine WL.split 55 rfl (fun s3_16 => ?_) (fun s3_16 => ?_)
                ·
                  try simp only [Z1, Z2, Z3, Z4, Z5, Z6, Z7, Z8, Z9, Z0] at s3_16
                  refine WL.skip rfl rfl rfl ?_
                  refine WL.skip rfl rfl rfl ?_
                  refine WL.skip rfl rfl rfl ?_
                  refine WL.skip rfl rfl rfl ?_
                  refine WL.skip rfl rfl rfl ?_
                  refine WL.skip rfl rfl rfl ?_
                  refine WL.skip rfl rfl rfl ?_
                  refine WL.skip rfl rfl rfl ?_
                  refine WL.skip rfl rfl rfl ?_
                  refine WL.q (oq_pick_t rfl rfl) rfl rfl rfl ?_
                  refine WL.nil (WE.then_normal (WC.sub (fr' := [(0, _), (1, _), (2, _), (3, _), (4, _), (65, _)]) ?_ ⟨rfl, rfl, rfl, rfl, rfl, rfl, trivial⟩))
                  refine WC.cond_t rfl ?_
                  refine WC.seq (WC.region ?_)
                  refine WL.qc (oq_call (wAwake) call10 rfl) rfl rfl rfl ?_
                  refine WL.q (oq_assign rfl) rfl rfl rfl ?_
                  refine WL.nil (WE.then_normal (WC.sub (fr' := [(10, _)]) ?_ ⟨rfl, trivial⟩))
                  refine WC.ret (WE.then_ret ?_)
                  refine WE.endR (.inl rfl) (res1 Tryz.results4 rfl) ?_
                  -- end 7
                  first | rfl | (exfalso; omega) | (rw [har1, decide_eq_true rfl]; done) | (exfalso; simp_all; done)
                ·
                  try simp only [Z1, Z2, Z3, Z4, Z5, Z6, Z7, Z8, Z9, Z0] at s3_16
                  refine WL.q (oq_move rfl) rfl rfl rfl ?_
                  refine WL.q (oq_len_s Tryz.underlying9 rfl) rfl rfl rfl ?_
                  refine WL.q (oq_move rfl) rfl rfl rfl ?_
                  refine WL.q (oq_len_s Tryz.underlying9 rfl) rfl rfl rfl ?_
                  refine WL.q (oq_add rfl rfl (by rw [i64_lo, i64_hi]; (first | omega | (simp only [List.length_cons, List.length_nil, List.length_append, List.length_drop, List.length_take]; omega)))) rfl rfl rfl ?_
                  refine WL.q (oq_move rfl) rfl rfl rfl ?_
                  refine WL.q (oq_len_s Tryz.underlying9 rfl) rfl rfl rfl ?_
                  refine WL.q (oq_add rfl rfl (by rw [i64_lo, i64_hi]; (first | omega | (simp only [List.length_cons, List.length_nil, List.length_append, List.length_drop, List.length_take]; omega)))) rfl rfl rfl ?_
                  refine WL.q (oq_gtr rfl rfl) rfl rfl rfl ?_
                  refine WL.q (oq_pick_f rfl rfl) rfl rfl rfl ?_
                  refine WL.nil (WE.then_normal (WC.sub (fr' := [(0, _), (1, _), (2, _), (3, _), (4, _), (65, _)]) ?_ ⟨rfl, rfl, rfl, rfl, rfl, rfl, trivial⟩))
                  refine WC.cond rfl (fun q3 => ?_) (fun q3 => ?_)
                  ·
                    try simp only [Z1, Z2, Z3, Z4, Z5, Z6, Z7, Z8, Z9, Z0] at q3
                    refine WC.seq (WC.region ?_)
                    refine WL.qc (oq_call (wAwake) call10 rfl) rfl rfl rfl ?_
                    refine WL.q (oq_assign rfl) rfl rfl rfl ?_
                    refine WL.nil (WE.then_normal (WC.sub (fr' := [(10, _)]) ?_ ⟨rfl, trivial⟩))
                    refine WC.ret (WE.then_ret ?_)
                    refine WE.endR (.inl rfl) (res1 Tryz.results4 rfl) ?_
                    -- end 8
                    first | rfl | (exfalso; omega) | (rw [har1, decide_eq_true rfl]; done) | (exfalso; simp_all; done)
                  ·
                    try simp only [Z1, Z2, Z3, Z4, Z5, Z6, Z7, Z8, Z9, Z0] at q3
                    refine WC.skip (WE.then_normal (WC.sub (fr' := [(0, _), (1, _), (2, _), (3, _), (4, _)]) ?_ ⟨rfl, rfl, rfl, rfl, rfl, trivial⟩))
                    refine WC.seq ?_
                    obtain ⟨hl, hok⟩ := looked_of (by first | assumption | (simp_all; done))
                    obtain ⟨si, rfl⟩ : ∃ si : Nat, step = (si : Int) := ⟨step.toNat, by omega⟩
                    have hs5 : si < 5 := by omega
                    have hwl := (wst_len l l.length (Nat.le_refl _)).1
                    rw [List.take_length] at hwl
                    have hqs := hwl si
                    refine WC.region ?_
                    refine WL.q (oq_move rfl) rfl rfl rfl ?_
                    refine WL.callA (wStack v A l hr hl hok) call13 rfl rfl rfl fun v5_1 N5_1 hR5_1 hN5_1 => ?_
                    obtain ⟨wv, vs, rfl, hwr, hws⟩ := hR5_1
                    refine WL.q (oq_move rfl) rfl rfl rfl ?_
                    refine WL.q (oq_extract rfl rfl) rfl rfl rfl ?_
                    refine WL.q (oq_extract rfl rfl) rfl rfl rfl ?_
                    refine WL.alloc ty27 rfl rfl fun o1 ho1 => ?_
                    refine WL.q (oq_assign rfl) rfl rfl rfl ?_
                    refine WL.storeS (arr5 vs) ty27 rfl rfl (by kernel_rfl) (arr5_one fun j hj => rd_one (hws j hj)) (Nat.le_of_ble_eq_true rfl) (by kernel_rfl) rfl ?_
                    refine WL.nil (WE.then_normal (WC.sub (fr' := [(0, _), (1, _), (2, _), (3, _), (4, _), (12, _)]) ?_ ⟨rfl, rfl, rfl, rfl, rfl, rfl, trivial⟩))
                    refine WC.seq ?_
                    have hls := hws si hs5
                    refine WC.region ?_
                    refine WL.q (oq_assign rfl) rfl rfl rfl ?_
                    refine WL.q (oq_assign rfl) rfl rfl rfl ?_
                    refine WL.nil (WE.then_normal (WC.sub (fr' := [(0, _), (1, _), (2, _), (3, _), (4, _), (12, _), (13, _), (14, _)]) ?_ ⟨rfl, rfl, rfl, rfl, rfl, rfl, rfl, rfl, trivial⟩))
                    refine WC.seq (WC.seq (WC.region ?_))
                    refine WL.q (oq_assign rfl) rfl rfl rfl ?_
                    refine WL.nil (WE.then_normal (WC.sub (fr' := [(0, _), (1, _), (2, _), (3, _), (4, _), (12, _), (13, _), (14, _), (15, _)]) ?_ ⟨rfl, rfl, rfl, rfl, rfl, rfl, rfl, rfl, rfl, trivial⟩))
                    refine WC.block ?_
                    refine WC.loop (ι := Nat × Int × Nat) (fun i_ => (fun (j : Nat) (a : Int) (m : Nat) => [(0, v), (1, I (si : Int)), (2, S by_), (3, S one), (4, S two), (12, Pt o1 0), (13, I a), (14, I (m : Int)), (15, I (j : Int))]) i_.1 i_.2.1 i_.2.2) (fun i_ => (fun (j : Nat) (a : Int) (m : Nat) => [[(o1, .cells (arr5 vs) 27 (0, 0))], N5_1, A]) i_.1 i_.2.1 i_.2.2) (fun i_ => (fun (j : Nat) (a : Int) (m : Nat) => j ≤ ((wst l).1 si).length ∧ m = (((wst l).1 si).take j).count by_ ∧ m ≤ j ∧ (m ≠ 0 → 0 ≤ a ∧ a < j ∧ ((wst l).1 si).getD a.toNat [] = by_)) i_.1 i_.2.1 i_.2.2) (fun i_ => (fun (j : Nat) (a : Int) (m : Nat) => ((wst l).1 si).length - j) i_.1 i_.2.1 i_.2.2) ((0, -1, 0)) ?_ ⟨rfl, rfl, rfl, rfl, rfl, rfl, rfl, rfl, rfl, trivial⟩ (List.Perm.refl _) ?_
                    · try dsimp only
                      exact ⟨by omega, by simp, by omega, fun h => absurd rfl h⟩
                    · rintro ⟨j, a, m⟩ hp
                      try dsimp only at hp
                      obtain ⟨hj, hcnt, hmj, hma⟩ := hp
                      show WC _ _ _ _ _ _ ([(0, v), (1, I (si : Int)), (2, S by_), (3, S one), (4, S two), (12, Pt o1 0), (13, I a), (14, I (m : Int)), (15, I (j : Int))]) ([[(o1, .cells (arr5 vs) 27 (0, 0))], N5_1, A])
                      refine WC.seq (WC.seq (WC.region ?_))
                      refine WL.q (oq_move rfl) rfl rfl rfl ?_
                      refine WL.q (oq_move rfl) rfl rfl rfl ?_
                      refine WL.q (oq_ixArr (i := si) Tryz.underlying27 ty26 rfl rfl (by (first | omega | (simp only [List.length_cons, List.length_nil, List.length_append, List.length_drop, List.length_take]; omega)))) rfl rfl rfl ?_
                      refine WL.q (oq_load flat26 rfl (.head _) (List.mem_singleton.2 rfl) (arr5_get vs si hs5)) rfl rfl rfl ?_
                      refine WL.q (oq_len_rd hls Tryz.underlying26 rfl) rfl rfl rfl ?_
                      refine WL.q (oq_lss rfl rfl) rfl rfl rfl ?_
                      refine WL.nil (WE.then_normal (WC.sub (fr' := [(0, _), (1, _), (2, _), (3, _), (4, _), (12, _), (13, _), (14, _), (15, _), (77, _)]) ?_ ⟨rfl, rfl, rfl, rfl, rfl, rfl, rfl, rfl, rfl, rfl, trivial⟩))
                      refine WC.cond rfl (fun q8 => ?_) (fun q8 => ?_)
                      ·
                        try simp only [Z1, Z2, Z3, Z4, Z5, Z6, Z7, Z8, Z9, Z0] at q8
                        refine WC.skip (WE.then_normal (WC.sub (fr' := [(0, _), (1, _), (2, _), (3, _), (4, _), (12, _), (13, _), (14, _), (15, _)]) ?_ ⟨rfl, rfl, rfl, rfl, rfl, rfl, rfl, rfl, rfl, trivial⟩))
                        refine WC.seq (WC.block (WC.seq (WC.region ?_)))
                        refine WL.q (oq_move rfl) rfl rfl rfl ?_
                        refine WL.q (oq_ixArr (i := si) Tryz.underlying27 ty26 rfl rfl (by (first | omega | (simp only [List.length_cons, List.length_nil, List.length_append, List.length_drop, List.length_take]; omega)))) rfl rfl rfl ?_
                        refine WL.q (oq_load flat26 rfl (.head _) (List.mem_singleton.2 rfl) (arr5_get vs si hs5)) rfl rfl rfl ?_
                        refine WL.q (oq_move rfl) rfl rfl rfl ?_
                        refine WL.q (oq_ixaddr hls Tryz.underlying26 ty9 rfl rfl (by (first | omega | (simp only [List.length_cons, List.length_nil, List.length_append, List.length_drop, List.length_take]; omega)))) rfl rfl rfl ?_
                        refine WL.q (oq_load_str hls (.tail _ (.head _)) flat9 rfl (by (first | omega | (simp only [List.length_cons, List.length_nil, List.length_append, List.length_drop, List.length_take]; omega))) (by first | exact Int.toNat_natCast _ | exact rfl)) rfl rfl rfl ?_
                        refine WL.q (oq_move rfl) rfl rfl rfl ?_
                        refine WL.q (oq_seql rfl rfl) rfl rfl rfl ?_
                        refine WL.nil (WE.then_normal (WC.sub (fr' := [(0, _), (1, _), (2, _), (3, _), (4, _), (12, _), (13, _), (14, _), (15, _), (87, _)]) ?_ ⟨rfl, rfl, rfl, rfl, rfl, rfl, rfl, rfl, rfl, rfl, trivial⟩))
                        refine WC.cond rfl (fun q10 => ?_) (fun q10 => ?_)
                        ·
                          try simp only [Z1, Z2, Z3, Z4, Z5, Z6, Z7, Z8, Z9, Z0] at q10
                          refine WC.seq (WC.region ?_)
                          refine WL.q (oq_move rfl) rfl rfl rfl ?_
                          refine WL.q (oq_assign rfl) rfl rfl rfl ?_
                          refine WL.nil (WE.then_normal (WC.sub (fr' := [(0, _), (1, _), (2, _), (3, _), (4, _), (12, _), (13, _), (14, _), (15, _)]) ?_ ⟨rfl, rfl, rfl, rfl, rfl, rfl, rfl, rfl, rfl, trivial⟩))
                          refine WC.region ?_
                          refine WL.q (oq_move rfl) rfl rfl rfl ?_
                          refine WL.q (oq_add rfl rfl (by rw [i64_lo, i64_hi]; (first | omega | (simp only [List.length_cons, List.length_nil, List.length_append, List.length_drop, List.length_take]; omega)))) rfl rfl rfl ?_
                          refine WL.q (oq_assign rfl) rfl rfl rfl ?_
                          refine WL.nil (WE.block_normal (WE.then_normal (WC.sub (fr' := [(0, _), (1, _), (2, _), (3, _), (4, _), (12, _), (13, _), (14, _), (15, _)]) ?_ ⟨rfl, rfl, rfl, rfl, rfl, rfl, rfl, rfl, rfl, trivial⟩)))
                          refine WC.region ?_
                          refine WL.q (oq_move rfl) rfl rfl rfl ?_
                          refine WL.q (oq_add rfl rfl (by rw [i64_lo, i64_hi]; (first | omega | (simp only [List.length_cons, List.length_nil, List.length_append, List.length_drop, List.length_take]; omega)))) rfl rfl rfl ?_
                          refine WL.q (oq_assign rfl) rfl rfl rfl ?_
                          refine WL.nil ?_
                          refine WE.again (j + 1, (j : Int), m + 1) ?_ ?_ ⟨rfl, rfl, rfl, rfl, rfl, rfl, rfl, rfl, rfl, trivial⟩ (List.Perm.refl _)
                          · try dsimp only   -- again 0
                            exact ⟨by omega, by rw [cnt_next (by omega), if_pos q10, ← hcnt], by omega, fun _ => ⟨by omega, by omega, by rw [Int.toNat_natCast]; exact q10⟩⟩
                          · (try dsimp only); omega
                        ·
                          try simp only [Z1, Z2, Z3, Z4, Z5, Z6, Z7, Z8, Z9, Z0] at q10
                          refine WC.skip (WE.block_normal (WE.then_normal (WC.sub (fr' := [(0, _), (1, _), (2, _), (3, _), (4, _), (12, _), (13, _), (14, _), (15, _)]) ?_ ⟨rfl, rfl, rfl, rfl, rfl, rfl, rfl, rfl, rfl, trivial⟩)))
                          refine WC.region ?_
                          refine WL.q (oq_move rfl) rfl rfl rfl ?_
                          refine WL.q (oq_add rfl rfl (by rw [i64_lo, i64_hi]; (first | omega | (simp only [List.length_cons, List.length_nil, List.length_append, List.length_drop, List.length_take]; omega)))) rfl rfl rfl ?_
                          refine WL.q (oq_assign rfl) rfl rfl rfl ?_
                          refine WL.nil ?_
                          refine WE.again (j + 1, a, m) ?_ ?_ ⟨rfl, rfl, rfl, rfl, rfl, rfl, rfl, rfl, rfl, trivial⟩ (List.Perm.refl _)
                          · try dsimp only   -- again 1
                            exact ⟨by omega, by rw [cnt_next (by omega), if_neg q10, ← hcnt]; rfl, by omega, fun h => by obtain ⟨h1, h2, h3⟩ := hma h; exact ⟨h1, by omega, h3⟩⟩
                          · (try dsimp only); omega
                      ·
                        try simp only [Z1, Z2, Z3, Z4, Z5, Z6, Z7, Z8, Z9, Z0] at q8
                        refine WC.exit (WE.then_exit (WE.then_exit (WE.block_same (WE.then_normal (WC.sub (fr' := [(0, _), (1, _), (2, _), (3, _), (4, _), (12, _), (13, _), (14, _)]) ?_ ⟨rfl, rfl, rfl, rfl, rfl, rfl, rfl, rfl, trivial⟩)))))
                        refine WC.seq (WC.seq (WC.region ?_))
                        refine WL.q (oq_move rfl) rfl rfl rfl ?_
                        refine WL.q (oq_neq rfl rfl) rfl rfl rfl ?_
                        refine WL.q (oq_move rfl) rfl rfl rfl ?_
                        refine WL.split 93 rfl (fun s13_2 => ?_) (fun s13_2 => ?_)
                        ·
                          try simp only [Z1, Z2, Z3, Z4, Z5, Z6, Z7, Z8, Z9, Z0] at s13_2
                          refine WL.skip rfl rfl rfl ?_
                          refine WL.skip rfl rfl rfl ?_
                          refine WL.skip rfl rfl rfl ?_
                          refine WL.q (oq_pick_t rfl rfl) rfl rfl rfl ?_
                          refine WL.q (oq_move rfl) rfl rfl rfl ?_
                          refine WL.skip rfl rfl rfl ?_
                          refine WL.skip rfl rfl rfl ?_
                          refine WL.skip rfl rfl rfl ?_
                          refine WL.q (oq_pick_t rfl rfl) rfl rfl rfl ?_
                          refine WL.nil (WE.then_normal (WC.sub (fr' := [(0, _), (1, _), (2, _), (3, _), (4, _), (12, _), (13, _), (102, _)]) ?_ ⟨rfl, rfl, rfl, rfl, rfl, rfl, rfl, rfl, trivial⟩))
                          refine WC.cond_t rfl ?_
                          refine WC.seq (WC.region ?_)
                          refine WL.qc (oq_call (wAwake) call10 rfl) rfl rfl rfl ?_
                          refine WL.q (oq_assign rfl) rfl rfl rfl ?_
                          refine WL.nil (WE.then_normal (WC.sub (fr' := [(10, _)]) ?_ ⟨rfl, trivial⟩))
                          refine WC.ret (WE.then_ret ?_)
                          refine WE.lose ho1 ?_
                          refine WE.forget hN5_1 ?_
                          refine WE.endR (.inl rfl) (res1 Tryz.results4 rfl) ?_
                          -- end 9
                          first | rfl | (exfalso; omega) | (rw [har1, decide_eq_true rfl]; done) | (exfalso; simp_all; done)
                        ·
                          try simp only [Z1, Z2, Z3, Z4, Z5, Z6, Z7, Z8, Z9, Z0] at s13_2
                          refine WL.q (oq_move rfl) rfl rfl rfl ?_
                          refine WL.q (oq_move rfl) rfl rfl rfl ?_
                          refine WL.q (oq_seql rfl rfl) rfl rfl rfl ?_
                          refine WL.q (oq_pick_f rfl rfl) rfl rfl rfl ?_
                          refine WL.q (oq_move rfl) rfl rfl rfl ?_
                          refine WL.split 98 rfl (fun s13_7 => ?_) (fun s13_7 => ?_)
                          ·
                            try simp only [Z1, Z2, Z3, Z4, Z5, Z6, Z7, Z8, Z9, Z0] at s13_7
                            refine WL.skip rfl rfl rfl ?_
                            refine WL.skip rfl rfl rfl ?_
                            refine WL.skip rfl rfl rfl ?_
                            refine WL.q (oq_pick_t rfl rfl) rfl rfl rfl ?_
                            refine WL.nil (WE.then_normal (WC.sub (fr' := [(0, _), (1, _), (2, _), (3, _), (4, _), (12, _), (13, _), (102, _)]) ?_ ⟨rfl, rfl, rfl, rfl, rfl, rfl, rfl, rfl, trivial⟩))
                            refine WC.cond_t rfl ?_
                            refine WC.seq (WC.region ?_)
                            refine WL.qc (oq_call (wAwake) call10 rfl) rfl rfl rfl ?_
                            refine WL.q (oq_assign rfl) rfl rfl rfl ?_
                            refine WL.nil (WE.then_normal (WC.sub (fr' := [(10, _)]) ?_ ⟨rfl, trivial⟩))
                            refine WC.ret (WE.then_ret ?_)
                            refine WE.lose ho1 ?_
                            refine WE.forget hN5_1 ?_
                            refine WE.endR (.inl rfl) (res1 Tryz.results4 rfl) ?_
                            -- end 10
                            first | rfl | (exfalso; omega) | (rw [har1, decide_eq_true rfl]; done) | (exfalso; simp_all; done)
                          ·
                            try simp only [Z1, Z2, Z3, Z4, Z5, Z6, Z7, Z8, Z9, Z0] at s13_7
                            refine WL.q (oq_move rfl) rfl rfl rfl ?_
                            refine WL.q (oq_move rfl) rfl rfl rfl ?_
                            refine WL.q (oq_seql rfl rfl) rfl rfl rfl ?_
                            refine WL.q (oq_pick_f rfl rfl) rfl rfl rfl ?_
                            refine WL.nil (WE.then_normal (WC.sub (fr' := [(0, _), (1, _), (2, _), (3, _), (4, _), (12, _), (13, _), (102, _)]) ?_ ⟨rfl, rfl, rfl, rfl, rfl, rfl, rfl, rfl, trivial⟩))
                            refine WC.cond rfl (fun q13 => ?_) (fun q13 => ?_)
                            ·
                              try simp only [Z1, Z2, Z3, Z4, Z5, Z6, Z7, Z8, Z9, Z0] at q13
                              refine WC.seq (WC.region ?_)
                              refine WL.qc (oq_call (wAwake) call10 rfl) rfl rfl rfl ?_
                              refine WL.q (oq_assign rfl) rfl rfl rfl ?_
                              refine WL.nil (WE.then_normal (WC.sub (fr' := [(10, _)]) ?_ ⟨rfl, trivial⟩))
                              refine WC.ret (WE.then_ret ?_)
                              refine WE.lose ho1 ?_
                              refine WE.forget hN5_1 ?_
                              refine WE.endR (.inl rfl) (res1 Tryz.results4 rfl) ?_
                              -- end 11
                              first | rfl | (exfalso; omega) | (rw [har1, decide_eq_true rfl]; done) | (exfalso; simp_all; done)
                            ·
                              try simp only [Z1, Z2, Z3, Z4, Z5, Z6, Z7, Z8, Z9, Z0] at q13
                              refine WC.skip (WE.then_normal (WC.sub (fr' := [(0, _), (1, _), (2, _), (3, _), (4, _), (12, _), (13, _)]) ?_ ⟨rfl, rfl, rfl, rfl, rfl, rfl, rfl, trivial⟩))
                              refine WC.seq ?_
                              obtain ⟨a0, rfl⟩ : ∃ a0 : Nat, a = (a0 : Int) := ⟨a.toNat, by have := hma (by omega); omega⟩
                              obtain ⟨_, ha2, ha3⟩ := hma (by omega)
                              rw [List.take_of_length_le (by omega)] at hcnt
                              obtain ⟨hsp, hAb, hBb⟩ := cnt_one (b := by_) (l := (wst l).1 si) (by omega) (show a0 < ((wst l).1 si).length by omega) (by rw [Int.toNat_natCast] at ha3; exact ha3)
                              have har := around (one := one) (two := two) hsp hAb (by first | assumption | (simp_all; done))
                              obtain ⟨har1, har2⟩ := har
                              obtain ⟨w1, hw1, hov1⟩ := slice_val (i := 0) (j := (a0 : Int)) hls ty9 (by omega)
                              obtain ⟨w2, hw2, hov2⟩ := slice_val (i := (a0 : Int) + 1) (j := (((wst l).1 si).length : Int)) hls ty9 (by omega)
                              rw [cut_strs0] at hw1
                              rw [cut_strsE] at hw2
                              have hok2 : ((l ++ [(⟨(si : Int), 1, one, by_, false⟩ : WO), (⟨(si : Int), 1, two, by_, true⟩ : WO)])).all lookP = true := by rw [List.all_append, hok]; simp only [List.all_cons, List.all_nil, Bool.true_and, Bool.and_true, Bool.and_eq_true]; exact ⟨decide_eq_true (by refine ⟨?_, ?_, ?_, ?_, ?_⟩ <;> first | omega | (dsimp only; omega)), decide_eq_true (by refine ⟨?_, ?_, ?_, ?_, ?_⟩ <;> first | omega | (dsimp only; omega))⟩
                              refine WC.region ?_
                              refine WL.build0 Tryz.underlying22 ty32 rfl rfl fun v15_0 A15_0 ho15_0 hne15_0 => ?_
                              refine WL.q (oq_move rfl) rfl rfl rfl ?_
                              refine WL.appendS ho15_0 Tryz.underlying22 ty32 rfl (by decide) rfl rfl hr (.tail _ (.tail _ (.head _))) (recsW_one _) (by unfold maxLen; omega) (by omega) rfl rfl fun v15 A15 ho15 hne15 => ?_
                              refine WL.q (oq_move rfl) rfl rfl rfl ?_
                              refine WL.q (oq_move rfl) rfl rfl rfl ?_
                              refine WL.q (oq_move rfl) rfl rfl rfl ?_
                              refine WL.q (oq_build #[_, _, _, _, _] str32 ty32 rfl rfl) rfl rfl rfl ?_
                              refine WL.q (oq_move rfl) rfl rfl rfl ?_
                              refine WL.q (oq_move rfl) rfl rfl rfl ?_
                              refine WL.q (oq_move rfl) rfl rfl rfl ?_
                              refine WL.q (oq_build #[_, _, _, _, _] str32 ty32 rfl rfl) rfl rfl rfl ?_
                              refine WL.buildSS ((wof (⟨(si : Int), 1, one, by_, false⟩ : WO) ++ wof (⟨(si : Int), 1, two, by_, true⟩ : WO)).toArray) Tryz.underlying22 ty32 rfl (by decide) (by decide) (by kernel_rfl) (by kernel_rfl) rfl rfl fun v15_11 A15_11 ho15_11 hne15_11 => ?_
                              refine WL.f1 ?_
                              refine WL.appendS ho15 Tryz.underlying22 ty32 rfl (by decide) rfl rfl ho15_11.rd (.head _) (recsW_one [(⟨(si : Int), 1, one, by_, false⟩ : WO), (⟨(si : Int), 1, two, by_, true⟩ : WO)]) (by unfold maxLen; omega) (by omega) rfl rfl fun v15 A15 ho15 hne15 => ?_
                              refine WL.q (oq_assign rfl) rfl rfl rfl ?_
                              refine WL.nil (WE.then_normal (WC.sub (fr' := [(1, _), (2, _), (3, _), (4, _), (12, _), (13, _), (16, _)]) ?_ ⟨rfl, rfl, rfl, rfl, rfl, rfl, rfl, trivial⟩))
                              refine WC.seq ?_
                              have hm2 : RdS 5 v15 A15 ((l ++ [(⟨(si : Int), 1, one, by_, false⟩ : WO), (⟨(si : Int), 1, two, by_, true⟩ : WO)])).length (recsV wof (l ++ [(⟨(si : Int), 1, one, by_, false⟩ : WO), (⟨(si : Int), 1, two, by_, true⟩ : WO)])) := rdN5 ho15.rd (by simp) (by rw [recsW_app, List.nil_append]; rfl)
                              refine WC.region ?_
                              refine WL.q (oq_move rfl) rfl rfl rfl ?_
                              refine WL.callA (wStack v15 A15 (l ++ [(⟨(si : Int), 1, one, by_, false⟩ : WO), (⟨(si : Int), 1, two, by_, true⟩ : WO)]) hm2 (by rw [List.length_append]; simp only [List.length_cons, List.length_nil]; omega) hok2) call13 rfl rfl rfl fun v16_1 N16_1 hR16_1 hN16_1 => ?_
                              obtain ⟨wv2, vs2, rfl, hwr2, hws2⟩ := hR16_1
                              refine WL.q (oq_move rfl) rfl rfl rfl ?_
                              refine WL.q (oq_extract rfl rfl) rfl rfl rfl ?_
                              refine WL.q (oq_extract rfl rfl) rfl rfl rfl ?_
                              refine WL.alloc ty27 rfl rfl fun o2 ho2 => ?_
                              refine WL.q (oq_assign rfl) rfl rfl rfl ?_
                              refine WL.storeS (arr5 vs2) ty27 rfl rfl (by kernel_rfl) (arr5_one fun j hj => rd_one (hws2 j hj)) (Nat.le_of_ble_eq_true rfl) (by kernel_rfl) rfl ?_
                              refine WL.nil (WE.then_normal (WC.sub (fr' := [(1, _), (2, _), (3, _), (4, _), (12, _), (13, _), (18, _)]) ?_ ⟨rfl, rfl, rfl, rfl, rfl, rfl, rfl, trivial⟩))
                              refine WC.seq (WC.region ?_)
                              refine WL.build0 Tryz.underlying26 ty9 rfl rfl fun v17_0 A17_0 ho17_0 hne17_0 => ?_
                              refine WL.q (oq_move rfl) rfl rfl rfl ?_
                              refine WL.q (oq_ixArr (i := si) Tryz.underlying27 ty26 rfl rfl (by (first | omega | (simp only [List.length_cons, List.length_nil, List.length_append, List.length_drop, List.length_take]; omega)))) rfl rfl rfl ?_
                              refine WL.q (oq_load flat26 rfl (.tail _ (.tail _ (.tail _ (.tail _ (.tail _ (.head _)))))) (List.mem_singleton.2 rfl) (arr5_get vs si hs5)) rfl rfl rfl ?_
                              refine WL.q (oq_move rfl) rfl rfl rfl ?_
                              refine WL.q (hov1 Tryz.underlying26 rfl rfl ⟨_, rfl⟩) rfl rfl rfl ?_
                              refine WL.appendS ho17_0 Tryz.underlying26 ty9 rfl (by decide) rfl rfl hw1 (.tail _ (.tail _ (.tail _ (.tail _ (.tail _ (.head _)))))) (strsV_one _) (by unfold maxLen; omega) (by omega) rfl rfl fun v17 A17 ho17 hne17 => ?_
                              refine WL.q (oq_move rfl) rfl rfl rfl ?_
                              refine WL.q (oq_move rfl) rfl rfl rfl ?_
                              refine WL.q (oq_move rfl) rfl rfl rfl ?_
                              refine WL.buildL Tryz.underlying26 ty9 rfl rfl (by decide) (by decide) rfl rfl rfl fun v17_10 A17_10 ho17_10 hne17_10 => ?_
                              refine WL.f1 ?_
                              refine WL.appendS ho17 Tryz.underlying26 ty9 rfl (by decide) rfl rfl ho17_10.rd (.head _) (fun u hu => by simp at hu; rcases hu with rfl | rfl | rfl <;> rfl) (by unfold maxLen; omega) (by omega) rfl rfl fun v17 A17 ho17 hne17 => ?_
                              refine WL.q (oq_assign rfl) rfl rfl rfl ?_
                              refine WL.nil (WE.then_normal (WC.sub (fr' := [(1, _), (12, _), (13, _), (18, _), (19, _)]) ?_ ⟨rfl, rfl, rfl, rfl, rfl, trivial⟩))
                              refine WC.seq (WC.region ?_)
                              refine WL.q (oq_move rfl) rfl rfl rfl ?_
                              refine WL.q (oq_move rfl) rfl rfl rfl ?_
                              refine WL.q (oq_ixArr (i := si) Tryz.underlying27 ty26 rfl rfl (by (first | omega | (simp only [List.length_cons, List.length_nil, List.length_append, List.length_drop, List.length_take]; omega)))) rfl rfl rfl ?_
                              refine WL.q (oq_load flat26 rfl (.tail _ (.tail _ (.tail _ (.tail _ (.tail _ (.tail _ (.head _))))))) (List.mem_singleton.2 rfl) (arr5_get vs si hs5)) rfl rfl rfl ?_
                              refine WL.q (oq_move rfl) rfl rfl rfl ?_
                              refine WL.q (oq_add rfl rfl (by rw [i64_lo, i64_hi]; (first | omega | (simp only [List.length_cons, List.length_nil, List.length_append, List.length_drop, List.length_take]; omega)))) rfl rfl rfl ?_
                              refine WL.q (hov2 Tryz.underlying26 rfl ⟨_, rfl⟩ rfl) rfl rfl rfl ?_
                              refine WL.appendS ho17 Tryz.underlying26 ty9 rfl (by decide) rfl rfl hw2 (.tail _ (.tail _ (.tail _ (.tail _ (.tail _ (.tail _ (.head _))))))) (strsV_one _) (by unfold maxLen; omega) (by omega) rfl rfl fun v18 A18 ho18 hne18 => ?_
                              refine WL.q (oq_assign rfl) rfl rfl rfl ?_
                              refine WL.nil (WE.then_normal (WC.sub (fr' := [(1, _), (12, _), (18, _), (19, _)]) ?_ ⟨rfl, rfl, rfl, rfl, trivial⟩))
                              refine WC.seq (WC.seq ?_)
                              refine WC.f3 ?_
                              refine WC.f7 ?_
                              refine WC.reg cat3 ?_
                              have hCf := fresh_cat hN5_1 (fresh_cat hN16_1 ho18.fresh)
                              have hs3 := fun j hj => (hws j hj).weaken (C := (N5_1 ++ (N16_1 ++ A18))) fun x hx => List.mem_append_left _ hx
                              have hs4 := fun j hj => (hws2 j hj).weaken (C := (N5_1 ++ (N16_1 ++ A18))) fun x hx => List.mem_append_right _ (List.mem_append_left _ hx)
                              have hwn := ho18.rd.weaken (C := (N5_1 ++ (N16_1 ++ A18))) fun x hx => List.mem_append_right _ (List.mem_append_right _ hx)
                              refine WC.region ?_
                              refine WL.q (oq_assign rfl) rfl rfl rfl ?_
                              refine WL.nil (WE.then_normal (WC.sub (fr' := [(1, _), (12, _), (18, _), (19, _), (20, _)]) ?_ ⟨rfl, rfl, rfl, rfl, rfl, trivial⟩))
                              refine WC.block ?_
                              refine WC.f1 ?_
                              refine WC.forget ho17_10.fresh ?_
                              refine WC.f2 ?_
                              refine WC.forget ho15.fresh ?_
                              refine WC.f2 ?_
                              refine WC.forget ho15_11.fresh ?_
                              refine WC.f3 ?_
                              refine WC.f2 ?_
                              refine WC.f3 ?_
                              refine WC.f3 ?_
                              refine WC.loop (ι := Nat) (fun (k : Nat) => [(1, I (si : Int)), (12, Pt o1 0), (18, Pt o2 0), (19, v18), (20, I (k : Int))]) (fun (k : Nat) => [(N5_1 ++ (N16_1 ++ A18)), [(o1, .cells (arr5 vs) 27 (0, 0))], [(o2, .cells (arr5 vs2) 27 (0, 0))], A]) (fun (k : Nat) => k ≤ 5) (fun (k : Nat) => 5 - k) (0) ?_ ⟨rfl, rfl, rfl, rfl, rfl, trivial⟩ (List.Perm.refl _) ?_
                              · try dsimp only
                                omega
                              · rintro k hp
                                try dsimp only at hp
                                show WC _ _ _ _ _ _ ([(1, I (si : Int)), (12, Pt o1 0), (18, Pt o2 0), (19, v18), (20, I (k : Int))]) ([(N5_1 ++ (N16_1 ++ A18)), [(o1, .cells (arr5 vs) 27 (0, 0))], [(o2, .cells (arr5 vs2) 27 (0, 0))], A])
                                have hk := hp
                                refine WC.seq (WC.seq (WC.region ?_))
                                refine WL.q (oq_move rfl) rfl rfl rfl ?_
                                refine WL.q (oq_lss rfl rfl) rfl rfl rfl ?_
                                refine WL.nil (WE.then_normal (WC.sub (fr' := [(1, _), (12, _), (18, _), (19, _), (20, _), (143, _)]) ?_ ⟨rfl, rfl, rfl, rfl, rfl, rfl, trivial⟩))
                                refine WC.cond rfl (fun q20 => ?_) (fun q20 => ?_)
                                ·
                                  try simp only [Z1, Z2, Z3, Z4, Z5, Z6, Z7, Z8, Z9, Z0] at q20
                                  refine WC.skip (WE.then_normal (WC.sub (fr' := [(1, _), (12, _), (18, _), (19, _), (20, _)]) ?_ ⟨rfl, rfl, rfl, rfl, rfl, trivial⟩))
                                  refine WC.seq (WC.block (WC.seq ?_))
                                  have hk5 : k < 5 := by omega
                                  refine WC.quiet (by kernel_rfl) (by kernel_rfl) ?_
                                  refine WQ.q (oq_move rfl) rfl rfl rfl ?_
                                  refine WQ.q (oq_move rfl) rfl rfl rfl ?_
                                  refine WQ.q (oq_neq rfl rfl) rfl rfl rfl ?_
                                  refine WQ.q (oq_move rfl) rfl rfl rfl ?_
                                  refine WQ.split 149 rfl (fun s22_3 => ?_) (fun s22_3 => ?_)
                                  ·
                                    try simp only [Z1, Z2, Z3, Z4, Z5, Z6, Z7, Z8, Z9, Z0] at s22_3
                                    refine WQ.q (oq_move rfl) rfl rfl rfl ?_
                                    refine WQ.q (oq_ixArr (i := k) Tryz.underlying27 ty26 rfl rfl (by (first | omega | (simp only [List.length_cons, List.length_nil, List.length_append, List.length_drop, List.length_take]; omega)))) rfl rfl rfl ?_
                                    refine WQ.q (oq_load flat26 rfl (.tail _ (.head _)) (List.mem_singleton.2 rfl) (arr5_get vs k hk5)) rfl rfl rfl ?_
                                    refine WQ.q (oq_move rfl) rfl rfl rfl ?_
                                    refine WQ.q (oq_ixArr (i := k) Tryz.underlying27 ty26 rfl rfl (by (first | omega | (simp only [List.length_cons, List.length_nil, List.length_append, List.length_drop, List.length_take]; omega)))) rfl rfl rfl ?_
                                    refine WQ.q (oq_load flat26 rfl (.tail _ (.tail _ (.head _))) (List.mem_singleton.2 rfl) (arr5_get vs2 k hk5)) rfl rfl rfl ?_
                                    refine WQ.qc (oq_callRm (wSame (vs k) (vs2 k) (N5_1 ++ (N16_1 ++ A18)) ((wst l).1 k) _ (hs3 k hk5) (hs4 k hk5) (by have := hwl k; omega)) (.head _) call14 rfl) rfl rfl rfl ?_
                                    refine WQ.q (oq_not rfl) rfl rfl rfl ?_
                                    refine WQ.q (oq_pick_t rfl rfl) rfl rfl rfl ?_
                                    refine WQ.nil (WE.then_normal (WC.sub (fr' := [(1, _), (12, _), (18, _), (19, _), (20, _), (158, _)]) ?_ ⟨rfl, rfl, rfl, rfl, rfl, rfl, trivial⟩))
                                    refine WC.cond rfl (fun q22 => ?_) (fun q22 => ?_)
                                    ·
                                      try simp only [Z1, Z2, Z3, Z4, Z5, Z6, Z7, Z8, Z9, Z0] at q22
                                      refine WC.seq ?_
                                      exact absurd ((har2 k (by omega)).symm) q22
                                    ·
                                      try simp only [Z1, Z2, Z3, Z4, Z5, Z6, Z7, Z8, Z9, Z0] at q22
                                      refine WC.skip (WE.block_normal (WE.then_normal (WC.sub (fr' := [(1, _), (12, _), (18, _), (19, _), (20, _)]) ?_ ⟨rfl, rfl, rfl, rfl, rfl, trivial⟩)))
                                      refine WC.region ?_
                                      refine WL.q (oq_move rfl) rfl rfl rfl ?_
                                      refine WL.q (oq_add rfl rfl (by rw [i64_lo, i64_hi]; (first | omega | (simp only [List.length_cons, List.length_nil, List.length_append, List.length_drop, List.length_take]; omega)))) rfl rfl rfl ?_
                                      refine WL.q (oq_assign rfl) rfl rfl rfl ?_
                                      refine WL.nil ?_
                                      refine WE.again (k + 1) ?_ ?_ ⟨rfl, rfl, rfl, rfl, rfl, trivial⟩ (List.Perm.refl _)
                                      · try dsimp only   -- again 0
                                        show k + 1 ≤ 5; omega
                                      · (try dsimp only); omega
                                  ·
                                    try simp only [Z1, Z2, Z3, Z4, Z5, Z6, Z7, Z8, Z9, Z0] at s22_3
                                    refine WQ.skip rfl rfl rfl ?_
                                    refine WQ.skip rfl rfl rfl ?_
                                    refine WQ.skip rfl rfl rfl ?_
                                    refine WQ.skip rfl rfl rfl ?_
                                    refine WQ.skip rfl rfl rfl ?_
                                    refine WQ.skip rfl rfl rfl ?_
                                    refine WQ.skip rfl rfl rfl ?_
                                    refine WQ.skip rfl rfl rfl ?_
                                    refine WQ.q (oq_pick_f rfl rfl) rfl rfl rfl ?_
                                    refine WQ.nil (WE.then_normal (WC.sub (fr' := [(1, _), (12, _), (18, _), (19, _), (20, _), (158, _)]) ?_ ⟨rfl, rfl, rfl, rfl, rfl, rfl, trivial⟩))
                                    refine WC.cond_f rfl ?_
                                    refine WC.skip (WE.block_normal (WE.then_normal (WC.sub (fr' := [(1, _), (12, _), (18, _), (19, _), (20, _)]) ?_ ⟨rfl, rfl, rfl, rfl, rfl, trivial⟩)))
                                    refine WC.region ?_
                                    refine WL.q (oq_move rfl) rfl rfl rfl ?_
                                    refine WL.q (oq_add rfl rfl (by rw [i64_lo, i64_hi]; (first | omega | (simp only [List.length_cons, List.length_nil, List.length_append, List.length_drop, List.length_take]; omega)))) rfl rfl rfl ?_
                                    refine WL.q (oq_assign rfl) rfl rfl rfl ?_
                                    refine WL.nil ?_
                                    refine WE.again (k + 1) ?_ ?_ ⟨rfl, rfl, rfl, rfl, rfl, trivial⟩ (List.Perm.refl _)
                                    · try dsimp only   -- again 1
                                      show k + 1 ≤ 5; omega
                                    · (try dsimp only); omega
                                ·
                                  try simp only [Z1, Z2, Z3, Z4, Z5, Z6, Z7, Z8, Z9, Z0] at q20
                                  refine WC.exit (WE.then_exit (WE.then_exit (WE.block_same (WE.then_normal (WC.sub (fr' := [(1, _), (18, _), (19, _)]) ?_ ⟨rfl, rfl, rfl, trivial⟩)))))
                                  refine WC.seq (WC.region ?_)
                                  refine WL.q (oq_move rfl) rfl rfl rfl ?_
                                  refine WL.q (oq_ixArr (i := si) Tryz.underlying27 ty26 rfl rfl (by (first | omega | (simp only [List.length_cons, List.length_nil, List.length_append, List.length_drop, List.length_take]; omega)))) rfl rfl rfl ?_
                                  refine WL.q (oq_load flat26 rfl (.tail _ (.tail _ (.head _))) (List.mem_singleton.2 rfl) (arr5_get vs2 si hs5)) rfl rfl rfl ?_
                                  refine WL.q (oq_move rfl) rfl rfl rfl ?_
                                  refine WL.qc (oq_callRm (wSame (vs2 si) v18 (N5_1 ++ (N16_1 ++ A18)) _ (((wst l).1 si).take a0 ++ one :: by_ :: two :: ((wst l).1 si).drop (a0 + 1)) (hs4 si hs5) (rdN hwn (by simp only [List.length_append, List.length_cons, List.length_take, List.length_drop]; omega) (by rw [Int.toNat_natCast, show ((a0 : Int) + 1).toNat = a0 + 1 by omega]; simp [strsV])) (by rw [har1]; simp only [List.length_append, List.length_cons, List.length_take, List.length_drop]; omega)) (.head _) call14 rfl) rfl rfl rfl ?_
                                  refine WL.q (oq_assign rfl) rfl rfl rfl ?_
                                  refine WL.nil (WE.then_normal (WC.sub (fr' := [(10, _)]) ?_ ⟨rfl, trivial⟩))
                                  refine WC.ret ?_
                                  refine WE.forget hCf ?_
                                  refine WE.lose ho1 ?_
                                  refine WE.lose ho2 ?_
                                  refine WE.endR (.inl rfl) (res1 Tryz.results4 rfl) ?_
                                  -- end 12
                                  first | rfl | (exfalso; omega) | (rw [har1, decide_eq_true rfl]; done) | (exfalso; simp_all; done)

end SH
end Go.Proofs.YtiegaefkahnfjaaGreat
