/- The law on values of a stack that are cleared, walked. -/
import Derived.Test.YtclafiglpcjhdaaGreatG4
namespace Go.Proofs.YtclafiglpcjhdaaGreat
open Go Go.RowKit V GA G1 G2 G3 G4
set_option linter.unusedSimpArgs false
set_option linter.unusedVariables false
set_option maxRecDepth 10000
namespace G5
theorem call5 : Callable Tryz.prog 5 := ⟨_, Tryz.func5, rfl, by kernel_rfl⟩
theorem call6 : Callable Tryz.prog 6 := ⟨_, Tryz.func6, rfl, by kernel_rfl⟩
theorem call7 : Callable Tryz.prog 7 := ⟨_, Tryz.func7, rfl, by kernel_rfl⟩
theorem call8 : Callable Tryz.prog 8 := ⟨_, Tryz.func8, rfl, by kernel_rfl⟩
theorem call9 : Callable Tryz.prog 9 := ⟨_, Tryz.func9, rfl, by kernel_rfl⟩
theorem flat4 : Flat Tryz.prog 4 := ⟨_, Tryz.underlying4, by simp⟩
theorem flat9 : Flat Tryz.prog 9 := ⟨_, Tryz.underlying9, by simp⟩
theorem flat22 : Flat Tryz.prog 22 := ⟨_, Tryz.underlying22, by simp⟩
theorem ty4 : Ty Tryz.prog 4 (.bool false) 1 1 := ty_of (by kernel_rfl)
theorem ty9 : Ty Tryz.prog 9 (S []) 1 16 := ty_of (by kernel_rfl)
theorem ty22 : Ty Tryz.prog 22 (.slice none 0 0) 1 24 := ty_of (by kernel_rfl)
theorem ty28 : Ty Tryz.prog 28 (.agg #[(S []), (S [])]) 2 32 := ty_of (by kernel_rfl)
theorem str28 : Str Tryz.prog 28 #[(0, 1), (1, 1)] := ⟨_, Tryz.underlying28, fun w => by kernel_rfl⟩
theorem fld28_0 : Fld Tryz.prog 28 0 0 9 := fld_of Tryz.underlying28 rfl rfl rfl ty9 (by decide)
theorem fld28_1 : Fld Tryz.prog 28 1 1 9 := fld_of Tryz.underlying28 rfl rfl rfl ty9 (by decide)

def sel {α : Type} (a b : α) (j : Nat) : α := if j = 0 then a else b
def CLRP : WP := ⟨clr, []⟩
theorem recsP_one (l : List WP) : ∀ u ∈ recsV pof l, u.oneCell' = true := by
  intro u hu
  obtain ⟨o, ho, hu⟩ := List.mem_flatMap.1 hu
  simp only [pof, List.mem_cons, List.not_mem_nil, or_false] at hu
  rcases hu with rfl | rfl <;> rfl
theorem recsP_app (a b : List WP) : recsV pof (a ++ b) = recsV pof a ++ recsV pof b := by unfold recsV; rw [List.flatMap_append]
theorem rdP {v : Value} {A : Hp} {n m : Nat} {xs ys : List Value} (h : RdS 2 v A n xs) (hn : n = m) (hx : xs = ys) : RdS 2 v A m ys := by subst hn; subst hx; exact h
theorem sel_rd {va vb : Value} {A : Hp} {la lb : List WP} (ha : RdS 2 va A la.length (recsV pof la)) (hb : RdS 2 vb A lb.length (recsV pof lb)) (j : Nat) : RdS 2 (sel va vb j) A (sel la lb j).length (recsV pof (sel la lb j)) := by
  unfold sel
  by_cases h : j = 0
  · rw [if_pos h, if_pos h]; exact ha
  · rw [if_neg h, if_neg h]; exact hb
theorem sel_at (va vb : Value) (j : Nat) (h : j < 2) : ([va, vb] : List Value)[((j : Int)).toNat]? = some (sel va vb j) := by
  rw [Int.toNat_natCast]
  match j, h with
  | 0, _ => rfl
  | 1, _ => rfl
theorem sel_fits {la lb : List WP} (ha : fits la = true) (hb : fits lb = true) (j : Nat) : fits (sel la lb j) = true := by
  unfold sel
  by_cases h : j = 0
  · rw [if_pos h]; exact ha
  · rw [if_neg h]; exact hb
theorem one2 {a b : Value} (ha : a.oneCell' = true) (hb : b.oneCell' = true) : ([a, b] : List Value).all Value.oneCell' = true := by simp [ha, hb]
theorem fits_len {l : List WP} (h : fits l = true) : (l.length : Int) ≤ 2147483647 := by
  unfold fits at h
  simp only [Bool.and_eq_true, decide_eq_true_eq] at h
  exact h.1
def okl (l : List WP) : Prop := ∀ x ∈ l, x.k ≠ clr
theorem sel_next {la lb : List WP} {j : Nat} (hj : j < 2) (h1 : 0 < j → okl la) (h : okl (sel la lb j)) : (0 < j + 1 → okl la) ∧ (1 < j + 1 → okl lb) := by
  match j, hj with
  | 0, _ => exact ⟨fun _ => h, fun h2 => absurd h2 (by decide)⟩
  | 1, _ => exact ⟨fun _ => h1 (by decide), fun _ => h⟩
/-- given.example/pub-tinwright/laws.FnWClears -/
theorem lawClears (va : Value) (A : Hp) (la : List WP) (ha : RdS 2 va A la.length (recsV pof la)) (vb : Value) (lb : List WP) (hb : RdS 2 vb A lb.length (recsV pof lb)) (vk : Value) (ks : List (List UInt8)) (hk : RdS 1 vk A ks.length (strsV ks))  : FnR Tryz.prog 3 [va, vb, vk] A (.bool true) := by
  refine FnR.enter (n := 138) Tryz.func3 rfl rfl fun w0 => ?_
  refine WC.sub (fr' := [(0, _), (1, _), (2, _)]) ?_ ⟨rfl, rfl, rfl, trivial⟩
  refine WC.seq (WC.region ?_)
  refine WL.q (oq_assign rfl) rfl rfl rfl ?_
  refine WL.nil (WE.then_normal (WC.sub (fr' := [(0, _), (1, _), (2, _)]) ?_ ⟨rfl, rfl, rfl, trivial⟩))
  refine WC.seq (WC.seq (WC.region ?_))
  refine WL.q (oq_move rfl) rfl rfl rfl ?_
  refine WL.qc (oq_callRm (fits20 _ A _ (by assumption)) (.head _) call5 rfl) rfl rfl rfl ?_
  refine WL.q (oq_not rfl) rfl rfl rfl ?_
  refine WL.q (oq_move rfl) rfl rfl rfl ?_
  refine WL.split 19 rfl (fun s1_3 => ?_) (fun s1_3 => ?_)
  ·
    try simp only [Z1, Z2, Z3, Z4, Z5, Z6, Z7, Z8, Z9, Z0] at s1_3
    refine WL.skip rfl rfl rfl ?_
    refine WL.skip rfl rfl rfl ?_
    refine WL.skip rfl rfl rfl ?_
    refine WL.q (oq_pick_t rfl rfl) rfl rfl rfl ?_
    refine WL.q (oq_move rfl) rfl rfl rfl ?_
    refine WL.skip rfl rfl rfl ?_
    refine WL.skip rfl rfl rfl ?_
    refine WL.skip rfl rfl rfl ?_
    refine WL.q (oq_pick_t rfl rfl) rfl rfl rfl ?_
    refine WL.nil (WE.then_normal (WC.sub (fr' := [(0, _), (1, _), (2, _), (28, _)]) ?_ ⟨rfl, rfl, rfl, rfl, trivial⟩))
    refine WC.cond_t rfl ?_
    refine WC.seq (WC.region ?_)
    refine WL.q (oq_assign rfl) rfl rfl rfl ?_
    refine WL.nil (WE.then_normal (WC.sub (fr' := [(6, _)]) ?_ ⟨rfl, trivial⟩))
    refine WC.ret (WE.then_ret ?_)
    refine WE.endR (.inl rfl) (res1 Tryz.results3 rfl) ?_
    -- end 0
    first | rfl | (exfalso; simp_all; done)
  ·
    try simp only [Z1, Z2, Z3, Z4, Z5, Z6, Z7, Z8, Z9, Z0] at s1_3
    refine WL.q (oq_move rfl) rfl rfl rfl ?_
    refine WL.qc (oq_callRm (fits20 _ A _ (by assumption)) (.head _) call5 rfl) rfl rfl rfl ?_
    refine WL.q (oq_not rfl) rfl rfl rfl ?_
    refine WL.q (oq_pick_f rfl rfl) rfl rfl rfl ?_
    refine WL.q (oq_move rfl) rfl rfl rfl ?_
    refine WL.split 24 rfl (fun s1_8 => ?_) (fun s1_8 => ?_)
    ·
      try simp only [Z1, Z2, Z3, Z4, Z5, Z6, Z7, Z8, Z9, Z0] at s1_8
      refine WL.skip rfl rfl rfl ?_
      refine WL.skip rfl rfl rfl ?_
      refine WL.skip rfl rfl rfl ?_
      refine WL.q (oq_pick_t rfl rfl) rfl rfl rfl ?_
      refine WL.nil (WE.then_normal (WC.sub (fr' := [(0, _), (1, _), (2, _), (28, _)]) ?_ ⟨rfl, rfl, rfl, rfl, trivial⟩))
      refine WC.cond_t rfl ?_
      refine WC.seq (WC.region ?_)
      refine WL.q (oq_assign rfl) rfl rfl rfl ?_
      refine WL.nil (WE.then_normal (WC.sub (fr' := [(6, _)]) ?_ ⟨rfl, trivial⟩))
      refine WC.ret (WE.then_ret ?_)
      refine WE.endR (.inl rfl) (res1 Tryz.results3 rfl) ?_
      -- end 1
      first | rfl | (exfalso; simp_all; done)
    ·
      try simp only [Z1, Z2, Z3, Z4, Z5, Z6, Z7, Z8, Z9, Z0] at s1_8
      refine WL.q (oq_move rfl) rfl rfl rfl ?_
      refine WL.qc (oq_callRm (fits2 A vk ks hk) (.head _) call6 rfl) rfl rfl rfl ?_
      refine WL.q (oq_not rfl) rfl rfl rfl ?_
      refine WL.q (oq_pick_f rfl rfl) rfl rfl rfl ?_
      refine WL.nil (WE.then_normal (WC.sub (fr' := [(0, _), (1, _), (2, _), (28, _)]) ?_ ⟨rfl, rfl, rfl, rfl, trivial⟩))
      refine WC.cond rfl (fun q1 => ?_) (fun q1 => ?_)
      ·
        try simp only [Z1, Z2, Z3, Z4, Z5, Z6, Z7, Z8, Z9, Z0] at q1
        refine WC.seq (WC.region ?_)
        refine WL.q (oq_assign rfl) rfl rfl rfl ?_
        refine WL.nil (WE.then_normal (WC.sub (fr' := [(6, _)]) ?_ ⟨rfl, trivial⟩))
        refine WC.ret (WE.then_ret ?_)
        refine WE.endR (.inl rfl) (res1 Tryz.results3 rfl) ?_
        -- end 2
        first | rfl | (exfalso; simp_all; done)
      ·
        try simp only [Z1, Z2, Z3, Z4, Z5, Z6, Z7, Z8, Z9, Z0] at q1
        refine WC.skip (WE.then_normal (WC.sub (fr' := [(0, _), (1, _), (2, _)]) ?_ ⟨rfl, rfl, rfl, trivial⟩))
        refine WC.seq (WC.seq ?_)
        have hla := fits_len s1_3
        have hlb := fits_len s1_8
        refine WC.region ?_
        refine WL.q (oq_move rfl) rfl rfl rfl ?_
        refine WL.q (oq_move rfl) rfl rfl rfl ?_
        refine WL.buildL Tryz.underlying26 ty22 rfl rfl (by decide) (by decide) (one2 (rd_one ha) (rd_one hb)) rfl rfl fun v3_2 A3_2 ho3_2 hne3_2 => ?_
        refine WL.q (oq_len_rd ho3_2.rd Tryz.underlying26 rfl) rfl rfl rfl ?_
        refine WL.q (oq_move rfl) rfl rfl rfl ?_
        refine WL.nil (WE.then_normal (WC.sub (fr' := [(0, _), (1, _), (2, _), (31, _), (32, _), (33, _)]) ?_ ⟨rfl, rfl, rfl, rfl, rfl, rfl, trivial⟩))
        refine WC.block ?_
        refine WC.loop (ι := Nat) (fun (j : Nat) => [(0, va), (1, vb), (2, vk), (31, v3_2), (32, I 2), (33, I (j : Int))]) (fun (j : Nat) => [A3_2, A]) (fun (j : Nat) => j ≤ 2 ∧ (0 < j → okl la) ∧ (1 < j → okl lb)) (fun (j : Nat) => 2 - j) (0) ?_ ⟨rfl, rfl, rfl, rfl, rfl, rfl, trivial⟩ (List.Perm.refl _) ?_
        · try dsimp only
          exact ⟨by omega, fun h => absurd h (by decide), fun h => absurd h (by decide)⟩
        · rintro j hp
          try dsimp only at hp
          obtain ⟨hj, hoa, hob⟩ := hp
          show WC _ _ _ _ _ _ ([(0, va), (1, vb), (2, vk), (31, v3_2), (32, I 2), (33, I (j : Int))]) ([A3_2, A])
          refine WC.seq (WC.region ?_)
          refine WL.q (oq_lss rfl rfl) rfl rfl rfl ?_
          refine WL.nil (WE.then_normal (WC.sub (fr' := [(0, _), (1, _), (2, _), (31, _), (32, _), (33, _), (34, _)]) ?_ ⟨rfl, rfl, rfl, rfl, rfl, rfl, rfl, trivial⟩))
          refine WC.seq ?_
          refine WC.cond rfl (fun q4 => ?_) (fun q4 => ?_)
          ·
            try simp only [Z1, Z2, Z3, Z4, Z5, Z6, Z7, Z8, Z9, Z0] at q4
            refine WC.skip (WE.then_normal (WC.sub (fr' := [(0, _), (1, _), (2, _), (31, _), (32, _), (33, _)]) ?_ ⟨rfl, rfl, rfl, rfl, rfl, rfl, trivial⟩))
            refine WC.seq (WC.block (WC.seq ?_))
            have hcur := sel_rd ha hb j
            refine WC.region ?_
            refine WL.q (oq_ixaddr ho3_2.rd Tryz.underlying26 ty22 rfl rfl (by (first | omega | (simp only [List.length_cons, List.length_nil, List.length_append, List.length_drop, List.length_take]; omega)))) rfl rfl rfl ?_
            refine WL.q (oq_load_el ho3_2.rd (.head _) flat22 rfl (by omega) (sel_at va vb j (by omega))) rfl rfl rfl ?_
            refine WL.q (oq_assign rfl) rfl rfl rfl ?_
            refine WL.nil (WE.then_normal (WC.sub (fr' := [(0, _), (1, _), (2, _), (8, _), (31, _), (32, _), (33, _)]) ?_ ⟨rfl, rfl, rfl, rfl, rfl, rfl, rfl, trivial⟩))
            refine WC.seq (WC.region ?_)
            refine WL.q (oq_assign rfl) rfl rfl rfl ?_
            refine WL.nil (WE.then_normal (WC.sub (fr' := [(0, _), (1, _), (2, _), (8, _), (9, _), (31, _), (32, _), (33, _)]) ?_ ⟨rfl, rfl, rfl, rfl, rfl, rfl, rfl, rfl, trivial⟩))
            refine WC.block ?_
            refine WC.loop (ι := Nat) (fun (i : Nat) => [(0, va), (1, vb), (2, vk), (8, sel va vb j), (9, I (i : Int)), (31, v3_2), (32, I 2), (33, I (j : Int))]) (fun (i : Nat) => [A3_2, A]) (fun (i : Nat) => i ≤ (sel la lb j).length ∧ ∀ x ∈ (sel la lb j).take i, x.k ≠ clr) (fun (i : Nat) => (sel la lb j).length - i) (0) ?_ ⟨rfl, rfl, rfl, rfl, rfl, rfl, rfl, rfl, trivial⟩ (List.Perm.refl _) ?_
            · try dsimp only
              exact ⟨by omega, fun x hx => nomatch hx⟩
            · rintro i hp
              try dsimp only at hp
              obtain ⟨hi, hnc⟩ := hp
              show WC _ _ _ _ _ _ ([(0, va), (1, vb), (2, vk), (8, sel va vb j), (9, I (i : Int)), (31, v3_2), (32, I 2), (33, I (j : Int))]) ([A3_2, A])
              refine WC.seq (WC.seq (WC.region ?_))
              refine WL.q (oq_move rfl) rfl rfl rfl ?_
              refine WL.q (oq_move rfl) rfl rfl rfl ?_
              refine WL.q (oq_len_rd hcur Tryz.underlying22 rfl) rfl rfl rfl ?_
              refine WL.q (oq_lss rfl rfl) rfl rfl rfl ?_
              refine WL.nil (WE.then_normal (WC.sub (fr' := [(0, _), (1, _), (2, _), (8, _), (9, _), (31, _), (32, _), (33, _), (40, _)]) ?_ ⟨rfl, rfl, rfl, rfl, rfl, rfl, rfl, rfl, rfl, trivial⟩))
              refine WC.cond rfl (fun q7 => ?_) (fun q7 => ?_)
              ·
                try simp only [Z1, Z2, Z3, Z4, Z5, Z6, Z7, Z8, Z9, Z0] at q7
                refine WC.skip (WE.then_normal (WC.sub (fr' := [(0, _), (1, _), (2, _), (8, _), (9, _), (31, _), (32, _), (33, _)]) ?_ ⟨rfl, rfl, rfl, rfl, rfl, rfl, rfl, rfl, trivial⟩))
                refine WC.seq (WC.block (WC.seq ?_))
                have hfe := fits_el (l := sel la lb j) (sel_fits s1_3 s1_8 j) (show i < (sel la lb j).length by omega)
                refine WC.quiet (by kernel_rfl) (by kernel_rfl) ?_
                refine WQ.q (oq_move rfl) rfl rfl rfl ?_
                refine WQ.q (oq_move rfl) rfl rfl rfl ?_
                refine WQ.q (oq_ixaddr hcur Tryz.underlying22 ty28 rfl rfl (by (first | omega | (simp only [List.length_cons, List.length_nil, List.length_append, List.length_drop, List.length_take]; omega)))) rfl rfl rfl ?_
                refine WQ.q (oq_fldEl fld28_0 hcur rfl (by (first | omega | (simp only [List.length_cons, List.length_nil, List.length_append, List.length_drop, List.length_take]; omega)))) rfl rfl rfl ?_
                refine WQ.q (oq_loadF (f := pof) WP0 (fun _ => rfl) flat9 hcur (.tail _ (.head _)) rfl (by (first | omega | (simp only [List.length_cons, List.length_nil, List.length_append, List.length_drop, List.length_take]; omega))) (by first | exact Int.toNat_natCast _ | exact rfl) (by decide) rfl) rfl rfl rfl ?_
                refine WQ.q (oq_seql rfl rfl) rfl rfl rfl ?_
                refine WQ.q (oq_move rfl) rfl rfl rfl ?_
                refine WQ.split 49 rfl (fun s9_6 => ?_) (fun s9_6 => ?_)
                ·
                  try simp only [Z1, Z2, Z3, Z4, Z5, Z6, Z7, Z8, Z9, Z0] at s9_6
                  refine WQ.skip rfl rfl rfl ?_
                  refine WQ.skip rfl rfl rfl ?_
                  refine WQ.skip rfl rfl rfl ?_
                  refine WQ.skip rfl rfl rfl ?_
                  refine WQ.skip rfl rfl rfl ?_
                  refine WQ.skip rfl rfl rfl ?_
                  refine WQ.skip rfl rfl rfl ?_
                  refine WQ.skip rfl rfl rfl ?_
                  refine WQ.skip rfl rfl rfl ?_
                  refine WQ.skip rfl rfl rfl ?_
                  refine WQ.skip rfl rfl rfl ?_
                  refine WQ.skip rfl rfl rfl ?_
                  refine WQ.skip rfl rfl rfl ?_
                  refine WQ.skip rfl rfl rfl ?_
                  refine WQ.q (oq_pick_t rfl rfl) rfl rfl rfl ?_
                  refine WQ.nil (WE.then_normal (WC.sub (fr' := [(0, _), (1, _), (2, _), (8, _), (9, _), (31, _), (32, _), (33, _), (64, _)]) ?_ ⟨rfl, rfl, rfl, rfl, rfl, rfl, rfl, rfl, rfl, trivial⟩))
                  refine WC.cond_t rfl ?_
                  refine WC.seq (WC.region ?_)
                  refine WL.qc (oq_call (SD.wAwake) call7 rfl) rfl rfl rfl ?_
                  refine WL.q (oq_assign rfl) rfl rfl rfl ?_
                  refine WL.nil (WE.then_normal (WC.sub (fr' := [(6, _)]) ?_ ⟨rfl, trivial⟩))
                  refine WC.ret (WE.block_ret (WE.then_ret (WE.then_ret (WE.block_ret (WE.block_ret (WE.then_ret (WE.then_ret (WE.block_ret (WE.then_ret ?_)))))))))
                  refine WE.forget ho3_2.fresh ?_
                  refine WE.endR (.inl rfl) (res1 Tryz.results3 rfl) ?_
                  -- end 3
                  first | rfl | (exfalso; simp_all; done)
                ·
                  try simp only [Z1, Z2, Z3, Z4, Z5, Z6, Z7, Z8, Z9, Z0] at s9_6
                  refine WQ.q (oq_move rfl) rfl rfl rfl ?_
                  refine WQ.q (oq_move rfl) rfl rfl rfl ?_
                  refine WQ.q (oq_ixaddr hcur Tryz.underlying22 ty28 rfl rfl (by (first | omega | (simp only [List.length_cons, List.length_nil, List.length_append, List.length_drop, List.length_take]; omega)))) rfl rfl rfl ?_
                  refine WQ.q (oq_fldEl fld28_0 hcur rfl (by (first | omega | (simp only [List.length_cons, List.length_nil, List.length_append, List.length_drop, List.length_take]; omega)))) rfl rfl rfl ?_
                  refine WQ.q (oq_loadF (f := pof) WP0 (fun _ => rfl) flat9 hcur (.tail _ (.head _)) rfl (by (first | omega | (simp only [List.length_cons, List.length_nil, List.length_append, List.length_drop, List.length_take]; omega))) (by first | exact Int.toNat_natCast _ | exact rfl) (by decide) rfl) rfl rfl rfl ?_
                  refine WQ.q (oq_len_s Tryz.underlying9 rfl) rfl rfl rfl ?_
                  refine WQ.q (oq_move rfl) rfl rfl rfl ?_
                  refine WQ.q (oq_move rfl) rfl rfl rfl ?_
                  refine WQ.q (oq_ixaddr hcur Tryz.underlying22 ty28 rfl rfl (by (first | omega | (simp only [List.length_cons, List.length_nil, List.length_append, List.length_drop, List.length_take]; omega)))) rfl rfl rfl ?_
                  refine WQ.q (oq_fldEl fld28_1 hcur rfl (by (first | omega | (simp only [List.length_cons, List.length_nil, List.length_append, List.length_drop, List.length_take]; omega)))) rfl rfl rfl ?_
                  refine WQ.q (oq_loadF (f := pof) WP0 (fun _ => rfl) flat9 hcur (.tail _ (.head _)) rfl (by (first | omega | (simp only [List.length_cons, List.length_nil, List.length_append, List.length_drop, List.length_take]; omega))) (by first | exact Int.toNat_natCast _ | exact rfl) (by decide) rfl) rfl rfl rfl ?_
                  refine WQ.q (oq_len_s Tryz.underlying9 rfl) rfl rfl rfl ?_
                  refine WQ.q (oq_add rfl rfl (by rw [i64_lo, i64_hi]; (first | omega | (simp only [List.length_cons, List.length_nil, List.length_append, List.length_drop, List.length_take]; omega)))) rfl rfl rfl ?_
                  refine WQ.q (oq_gtr rfl rfl) rfl rfl rfl ?_
                  refine WQ.q (oq_pick_f rfl rfl) rfl rfl rfl ?_
                  refine WQ.nil (WE.then_normal (WC.sub (fr' := [(0, _), (1, _), (2, _), (8, _), (9, _), (31, _), (32, _), (33, _), (64, _)]) ?_ ⟨rfl, rfl, rfl, rfl, rfl, rfl, rfl, rfl, rfl, trivial⟩))
                  refine WC.cond rfl (fun q9 => ?_) (fun q9 => ?_)
                  ·
                    try simp only [Z1, Z2, Z3, Z4, Z5, Z6, Z7, Z8, Z9, Z0] at q9
                    refine WC.seq (WC.region ?_)
                    refine WL.qc (oq_call (SD.wAwake) call7 rfl) rfl rfl rfl ?_
                    refine WL.q (oq_assign rfl) rfl rfl rfl ?_
                    refine WL.nil (WE.then_normal (WC.sub (fr' := [(6, _)]) ?_ ⟨rfl, trivial⟩))
                    refine WC.ret (WE.block_ret (WE.then_ret (WE.then_ret (WE.block_ret (WE.block_ret (WE.then_ret (WE.then_ret (WE.block_ret (WE.then_ret ?_)))))))))
                    refine WE.forget ho3_2.fresh ?_
                    refine WE.endR (.inl rfl) (res1 Tryz.results3 rfl) ?_
                    -- end 4
                    first | rfl | (exfalso; simp_all; done)
                  ·
                    try simp only [Z1, Z2, Z3, Z4, Z5, Z6, Z7, Z8, Z9, Z0] at q9
                    refine WC.skip (WE.block_normal (WE.then_normal (WC.sub (fr' := [(0, _), (1, _), (2, _), (8, _), (9, _), (31, _), (32, _), (33, _)]) ?_ ⟨rfl, rfl, rfl, rfl, rfl, rfl, rfl, rfl, trivial⟩)))
                    have hlj := fits_len (sel_fits s1_3 s1_8 j)
                    refine WC.region ?_
                    refine WL.q (oq_move rfl) rfl rfl rfl ?_
                    refine WL.q (oq_add rfl rfl (by rw [i64_lo, i64_hi]; (first | omega | (simp only [List.length_cons, List.length_nil, List.length_append, List.length_drop, List.length_take]; omega)))) rfl rfl rfl ?_
                    refine WL.q (oq_assign rfl) rfl rfl rfl ?_
                    refine WL.nil ?_
                    refine WE.again (i + 1) ?_ ?_ ⟨rfl, rfl, rfl, rfl, rfl, rfl, rfl, rfl, trivial⟩ (List.Perm.refl _)
                    · try dsimp only   -- again 0
                      exact ⟨by omega, take_all WP0 (by omega) hnc (by assumption)⟩
                    · (try dsimp only); omega
              ·
                try simp only [Z1, Z2, Z3, Z4, Z5, Z6, Z7, Z8, Z9, Z0] at q7
                refine WC.exit (WE.then_exit (WE.then_exit (WE.block_same (WE.block_normal (WE.then_normal (WC.sub (fr' := [(0, _), (1, _), (2, _), (31, _), (32, _), (33, _)]) ?_ ⟨rfl, rfl, rfl, rfl, rfl, rfl, trivial⟩))))))
                obtain rfl : i = (sel la lb j).length := by omega
                rw [List.take_length] at hnc
                refine WC.region ?_
                refine WL.q (oq_add rfl rfl (by rw [i64_lo, i64_hi]; (first | omega | (simp only [List.length_cons, List.length_nil, List.length_append, List.length_drop, List.length_take]; omega)))) rfl rfl rfl ?_
                refine WL.q (oq_move rfl) rfl rfl rfl ?_
                refine WL.nil ?_
                refine WE.again (j + 1) ?_ ?_ ⟨rfl, rfl, rfl, rfl, rfl, rfl, trivial⟩ (List.Perm.refl _)
                · try dsimp only   -- again 0
                  exact ⟨by omega, sel_next (by omega) hoa hnc⟩
                · (try dsimp only); omega
          ·
            try simp only [Z1, Z2, Z3, Z4, Z5, Z6, Z7, Z8, Z9, Z0] at q4
            refine WC.exit (WE.then_exit (WE.then_exit (WE.block_same (WE.then_normal (WC.sub (fr' := [(0, _), (1, _), (2, _)]) ?_ ⟨rfl, rfl, rfl, trivial⟩)))))
            refine WC.seq (WC.seq ?_)
            obtain rfl : j = 2 := by omega
            have hna := hoa (by decide)
            have hnb := hob (by decide)
            refine WC.region ?_
            refine WL.q (oq_move rfl) rfl rfl rfl ?_
            refine WL.q (oq_len_rd ha Tryz.underlying22 rfl) rfl rfl rfl ?_
            refine WL.q (oq_move rfl) rfl rfl rfl ?_
            refine WL.q (oq_len_rd hb Tryz.underlying22 rfl) rfl rfl rfl ?_
            refine WL.q (oq_add rfl rfl (by rw [i64_lo, i64_hi]; (first | omega | (simp only [List.length_cons, List.length_nil, List.length_append, List.length_drop, List.length_take]; omega)))) rfl rfl rfl ?_
            refine WL.q (oq_gtr rfl rfl) rfl rfl rfl ?_
            refine WL.q (oq_move rfl) rfl rfl rfl ?_
            refine WL.split 73 rfl (fun s12_6 => ?_) (fun s12_6 => ?_)
            ·
              try simp only [Z1, Z2, Z3, Z4, Z5, Z6, Z7, Z8, Z9, Z0] at s12_6
              refine WL.skip rfl rfl rfl ?_
              refine WL.skip rfl rfl rfl ?_
              refine WL.skip rfl rfl rfl ?_
              refine WL.q (oq_pick_t rfl rfl) rfl rfl rfl ?_
              refine WL.nil (WE.then_normal (WC.sub (fr' := [(0, _), (1, _), (2, _), (77, _)]) ?_ ⟨rfl, rfl, rfl, rfl, trivial⟩))
              refine WC.cond_t rfl ?_
              refine WC.seq (WC.region ?_)
              refine WL.qc (oq_call (SD.wAwake) call7 rfl) rfl rfl rfl ?_
              refine WL.q (oq_assign rfl) rfl rfl rfl ?_
              refine WL.nil (WE.then_normal (WC.sub (fr' := [(6, _)]) ?_ ⟨rfl, trivial⟩))
              refine WC.ret (WE.then_ret ?_)
              refine WE.forget ho3_2.fresh ?_
              refine WE.endR (.inl rfl) (res1 Tryz.results3 rfl) ?_
              -- end 5
              first | rfl | (exfalso; simp_all; done)
            ·
              try simp only [Z1, Z2, Z3, Z4, Z5, Z6, Z7, Z8, Z9, Z0] at s12_6
              refine WL.q (oq_move rfl) rfl rfl rfl ?_
              refine WL.q (oq_len_rd hk Tryz.underlying23 rfl) rfl rfl rfl ?_
              refine WL.q (oq_gtr rfl rfl) rfl rfl rfl ?_
              refine WL.q (oq_pick_f rfl rfl) rfl rfl rfl ?_
              refine WL.nil (WE.then_normal (WC.sub (fr' := [(0, _), (1, _), (2, _), (77, _)]) ?_ ⟨rfl, rfl, rfl, rfl, trivial⟩))
              refine WC.cond rfl (fun q12 => ?_) (fun q12 => ?_)
              ·
                try simp only [Z1, Z2, Z3, Z4, Z5, Z6, Z7, Z8, Z9, Z0] at q12
                refine WC.seq (WC.region ?_)
                refine WL.qc (oq_call (SD.wAwake) call7 rfl) rfl rfl rfl ?_
                refine WL.q (oq_assign rfl) rfl rfl rfl ?_
                refine WL.nil (WE.then_normal (WC.sub (fr' := [(6, _)]) ?_ ⟨rfl, trivial⟩))
                refine WC.ret (WE.then_ret ?_)
                refine WE.forget ho3_2.fresh ?_
                refine WE.endR (.inl rfl) (res1 Tryz.results3 rfl) ?_
                -- end 6
                first | rfl | (exfalso; simp_all; done)
              ·
                try simp only [Z1, Z2, Z3, Z4, Z5, Z6, Z7, Z8, Z9, Z0] at q12
                refine WC.skip (WE.then_normal (WC.sub (fr' := [(0, _), (1, _), (2, _)]) ?_ ⟨rfl, rfl, rfl, trivial⟩))
                refine WC.seq (WC.region ?_)
                refine WL.build0 Tryz.underlying22 ty28 rfl rfl fun v14_0 A14_0 ho14_0 hne14_0 => ?_
                refine WL.q (oq_move rfl) rfl rfl rfl ?_
                refine WL.appendS ho14_0 Tryz.underlying22 ty28 rfl (by decide) rfl rfl ha (.tail _ (.head _)) (recsP_one la) (by unfold maxLen; omega) (by omega) rfl rfl fun v14a A14a ho14a hne14a => ?_
                refine WL.q (oq_build ((pof CLRP).toArray) str28 ty28 rfl (by kernel_rfl)) rfl rfl rfl ?_
                refine WL.buildSS ((pof CLRP).toArray) Tryz.underlying22 ty28 rfl (by decide) (by decide) (by kernel_rfl) (by kernel_rfl) rfl rfl fun v14_4 A14_4 ho14_4 hne14_4 => ?_
                refine WL.f1 ?_
                refine WL.appendS ho14a Tryz.underlying22 ty28 rfl (by decide) rfl rfl ho14_4.rd (.head _) (recsP_one [CLRP]) (by unfold maxLen; omega) (by omega) rfl rfl fun v14b A14b ho14b hne14b => ?_
                refine WL.q (oq_move rfl) rfl rfl rfl ?_
                refine WL.appendS ho14b Tryz.underlying22 ty28 rfl (by decide) rfl rfl hb (.tail _ (.tail _ (.head _))) (recsP_one lb) (by unfold maxLen; omega) (by omega) rfl rfl fun v14c A14c ho14c hne14c => ?_
                refine WL.q (oq_assign rfl) rfl rfl rfl ?_
                refine WL.nil (WE.then_normal (WC.sub (fr' := [(1, _), (2, _), (10, _)]) ?_ ⟨rfl, rfl, rfl, trivial⟩))
                refine WC.seq ?_
                refine WC.f3 ?_
                refine WC.f1 ?_
                refine WC.cat ?_
                refine WC.region ?_
                refine WL.q (oq_move rfl) rfl rfl rfl ?_
                refine WL.q (oq_move rfl) rfl rfl rfl ?_
                refine WL.callA (wStackVals _ (A14c ++ A) (la ++ [CLRP] ++ lb) (rdP (ho14c.rd.weaken fun x hx => List.mem_append_left _ hx) (by simp only [List.length_append, List.length_cons, List.length_nil]; omega) (by rw [recsP_app, recsP_app]; simp [recsV])) vk ks (hk.weaken fun x hx => List.mem_append_right _ hx) (by simp only [List.length_append, List.length_cons, List.length_nil]; omega) (by omega)) call8 rfl rfl rfl fun v15_2 N15_2 hR15_2 hN15_2 => ?_
                obtain ⟨a1, b1, rfl, ha1, hb1⟩ := hR15_2
                have hsm : ∀ k, lk (stkf (la ++ [CLRP] ++ lb)) k = lastOf lb k := stk_clears rfl hnb
                simp only [hsm] at ha1 hb1
                refine WL.q (oq_move rfl) rfl rfl rfl ?_
                refine WL.q (oq_extract rfl rfl) rfl rfl rfl ?_
                refine WL.q (oq_extract rfl rfl) rfl rfl rfl ?_
                refine WL.q (oq_assign rfl) rfl rfl rfl ?_
                refine WL.q (oq_assign rfl) rfl rfl rfl ?_
                refine WL.nil (WE.then_normal (WC.sub (fr' := [(1, _), (2, _), (11, _), (12, _)]) ?_ ⟨rfl, rfl, rfl, rfl, trivial⟩))
                refine WC.seq (WC.seq ?_)
                refine WC.f1 ?_
                refine WC.reg (reg_out (List.Perm.refl _)) ?_
                refine WC.region ?_
                refine WL.q (oq_move rfl) rfl rfl rfl ?_
                refine WL.q (oq_len_rd ha1 Tryz.underlying23 rfl) rfl rfl rfl ?_
                refine WL.q (oq_move rfl) rfl rfl rfl ?_
                refine WL.q (oq_len_rd hk Tryz.underlying23 rfl) rfl rfl rfl ?_
                refine WL.q (oq_neq rfl rfl) rfl rfl rfl ?_
                refine WL.q (oq_move rfl) rfl rfl rfl ?_
                refine WL.split 98 rfl (fun s16_5 => ?_) (fun s16_5 => ?_)
                ·
                  try simp only [Z1, Z2, Z3, Z4, Z5, Z6, Z7, Z8, Z9, Z0] at s16_5
                  refine WL.skip rfl rfl rfl ?_
                  refine WL.skip rfl rfl rfl ?_
                  refine WL.skip rfl rfl rfl ?_
                  refine WL.skip rfl rfl rfl ?_
                  refine WL.skip rfl rfl rfl ?_
                  refine WL.q (oq_pick_t rfl rfl) rfl rfl rfl ?_
                  refine WL.nil (WE.then_normal (WC.sub (fr' := [(1, _), (2, _), (11, _), (12, _), (104, _)]) ?_ ⟨rfl, rfl, rfl, rfl, rfl, trivial⟩))
                  refine WC.cond_t rfl ?_
                  refine WC.seq ?_
                  first | contradiction | (exfalso; simp_all; done)
                ·
                  try simp only [Z1, Z2, Z3, Z4, Z5, Z6, Z7, Z8, Z9, Z0] at s16_5
                  refine WL.q (oq_move rfl) rfl rfl rfl ?_
                  refine WL.q (oq_len_rd hb1 Tryz.underlying30 rfl) rfl rfl rfl ?_
                  refine WL.q (oq_move rfl) rfl rfl rfl ?_
                  refine WL.q (oq_len_rd hk Tryz.underlying23 rfl) rfl rfl rfl ?_
                  refine WL.q (oq_neq rfl rfl) rfl rfl rfl ?_
                  refine WL.q (oq_pick_f rfl rfl) rfl rfl rfl ?_
                  refine WL.nil (WE.then_normal (WC.sub (fr' := [(1, _), (2, _), (11, _), (12, _), (104, _)]) ?_ ⟨rfl, rfl, rfl, rfl, rfl, trivial⟩))
                  refine WC.cond rfl (fun q16 => ?_) (fun q16 => ?_)
                  ·
                    try simp only [Z1, Z2, Z3, Z4, Z5, Z6, Z7, Z8, Z9, Z0] at q16
                    refine WC.seq ?_
                    first | contradiction | (exfalso; simp_all; done)
                  ·
                    try simp only [Z1, Z2, Z3, Z4, Z5, Z6, Z7, Z8, Z9, Z0] at q16
                    refine WC.skip (WE.then_normal (WC.sub (fr' := [(1, _), (2, _), (11, _), (12, _)]) ?_ ⟨rfl, rfl, rfl, rfl, trivial⟩))
                    refine WC.seq (WC.seq (WC.region ?_))
                    refine WL.q (oq_assign rfl) rfl rfl rfl ?_
                    refine WL.nil (WE.then_normal (WC.sub (fr' := [(1, _), (2, _), (11, _), (12, _), (13, _)]) ?_ ⟨rfl, rfl, rfl, rfl, rfl, trivial⟩))
                    refine WC.block ?_
                    refine WC.forget ho14c.fresh ?_
                    refine WC.f2 ?_
                    refine WC.forget ho14_4.fresh ?_
                    refine WC.f2 ?_
                    refine WC.forget ho3_2.fresh ?_
                    refine WC.f1 ?_
                    refine WC.loop (ι := Nat) (fun (j : Nat) => [(1, vb), (2, vk), (11, a1), (12, b1), (13, I (j : Int))]) (fun (j : Nat) => [N15_2, A]) (fun (j : Nat) => j ≤ ks.length) (fun (j : Nat) => ks.length - j) (0) ?_ ⟨rfl, rfl, rfl, rfl, rfl, trivial⟩ (List.Perm.refl _) ?_
                    · try dsimp only
                      omega
                    · rintro j hp
                      try dsimp only at hp
                      show WC _ _ _ _ _ _ ([(1, vb), (2, vk), (11, a1), (12, b1), (13, I (j : Int))]) ([N15_2, A])
                      have hj := hp
                      refine WC.seq (WC.seq (WC.region ?_))
                      refine WL.q (oq_move rfl) rfl rfl rfl ?_
                      refine WL.q (oq_move rfl) rfl rfl rfl ?_
                      refine WL.q (oq_len_rd hk Tryz.underlying23 rfl) rfl rfl rfl ?_
                      refine WL.q (oq_lss rfl rfl) rfl rfl rfl ?_
                      refine WL.nil (WE.then_normal (WC.sub (fr' := [(1, _), (2, _), (11, _), (12, _), (13, _), (108, _)]) ?_ ⟨rfl, rfl, rfl, rfl, rfl, rfl, trivial⟩))
                      refine WC.cond rfl (fun q19 => ?_) (fun q19 => ?_)
                      ·
                        try simp only [Z1, Z2, Z3, Z4, Z5, Z6, Z7, Z8, Z9, Z0] at q19
                        refine WC.skip (WE.then_normal (WC.sub (fr' := [(1, _), (2, _), (11, _), (12, _), (13, _)]) ?_ ⟨rfl, rfl, rfl, rfl, rfl, trivial⟩))
                        refine WC.seq (WC.block (WC.seq (WC.region ?_)))
                        refine WL.q (oq_move rfl) rfl rfl rfl ?_
                        refine WL.q (oq_move rfl) rfl rfl rfl ?_
                        refine WL.q (oq_move rfl) rfl rfl rfl ?_
                        refine WL.q (oq_ixaddr hk Tryz.underlying23 ty9 rfl rfl (by (first | omega | (simp only [List.length_cons, List.length_nil, List.length_append, List.length_drop, List.length_take]; omega)))) rfl rfl rfl ?_
                        refine WL.q (oq_load_str hk (.tail _ (.head _)) flat9 rfl (by (first | omega | (simp only [List.length_cons, List.length_nil, List.length_append, List.length_drop, List.length_take]; omega))) (by first | exact Int.toNat_natCast _ | exact rfl)) rfl rfl rfl ?_
                        refine WL.qc (oq_callRm (wLast vb A lb hb (ks.getD j []) (by omega)) (.tail _ (.head _)) call9 rfl) rfl rfl rfl ?_
                        refine WL.q (oq_move rfl) rfl rfl rfl ?_
                        refine WL.q (oq_extract rfl rfl) rfl rfl rfl ?_
                        refine WL.q (oq_extract rfl rfl) rfl rfl rfl ?_
                        refine WL.q (oq_assign rfl) rfl rfl rfl ?_
                        refine WL.q (oq_assign rfl) rfl rfl rfl ?_
                        refine WL.nil (WE.then_normal (WC.sub (fr' := [(1, _), (2, _), (11, _), (12, _), (13, _), (14, _), (15, _)]) ?_ ⟨rfl, rfl, rfl, rfl, rfl, rfl, rfl, trivial⟩))
                        refine WC.seq ?_
                        have hj2 : j < ks.length := by omega
                        have hmb := mapD (fun k => (lastOf lb k).isSome) ks false hj2
                        have hmt := mapD (fun k => (lastOf lb k).getD []) ks [] hj2
                        refine WC.region ?_
                        refine WL.q (oq_move rfl) rfl rfl rfl ?_
                        refine WL.q (oq_move rfl) rfl rfl rfl ?_
                        refine WL.q (oq_ixaddr hb1 Tryz.underlying30 ty4 rfl rfl (by (first | omega | (simp only [List.length_cons, List.length_nil, List.length_append, List.length_drop, List.length_take]; omega)))) rfl rfl rfl ?_
                        refine WL.q (oq_load_bool hb1 (.head _) flat4 rfl (by (first | omega | (simp only [List.length_cons, List.length_nil, List.length_append, List.length_drop, List.length_take]; omega))) (by first | exact Int.toNat_natCast _ | exact rfl)) rfl rfl rfl ?_
                        refine WL.q (oq_move rfl) rfl rfl rfl ?_
                        refine WL.q (oq_bneq Tryz.underlying4 rfl rfl) rfl rfl rfl ?_
                        refine WL.q (oq_move rfl) rfl rfl rfl ?_
                        refine WL.split 126 rfl (fun s22_6 => ?_) (fun s22_6 => ?_)
                        ·
                          try simp only [Z1, Z2, Z3, Z4, Z5, Z6, Z7, Z8, Z9, Z0] at s22_6
                          refine WL.skip rfl rfl rfl ?_
                          refine WL.skip rfl rfl rfl ?_
                          refine WL.skip rfl rfl rfl ?_
                          refine WL.skip rfl rfl rfl ?_
                          refine WL.skip rfl rfl rfl ?_
                          refine WL.skip rfl rfl rfl ?_
                          refine WL.skip rfl rfl rfl ?_
                          refine WL.skip rfl rfl rfl ?_
                          refine WL.skip rfl rfl rfl ?_
                          refine WL.q (oq_pick_t rfl rfl) rfl rfl rfl ?_
                          refine WL.nil (WE.then_normal (WC.sub (fr' := [(1, _), (2, _), (11, _), (12, _), (13, _), (136, _)]) ?_ ⟨rfl, rfl, rfl, rfl, rfl, rfl, trivial⟩))
                          refine WC.cond_t rfl ?_
                          refine WC.seq ?_
                          first | exact absurd hmb (by assumption) | exact absurd hmt (by assumption) | (exfalso; simp_all; done)
                        ·
                          try simp only [Z1, Z2, Z3, Z4, Z5, Z6, Z7, Z8, Z9, Z0] at s22_6
                          refine WL.q (oq_move rfl) rfl rfl rfl ?_
                          refine WL.q (oq_move rfl) rfl rfl rfl ?_
                          refine WL.split 128 rfl (fun s22_8 => ?_) (fun s22_8 => ?_)
                          ·
                            try simp only [Z1, Z2, Z3, Z4, Z5, Z6, Z7, Z8, Z9, Z0] at s22_8
                            refine WL.q (oq_move rfl) rfl rfl rfl ?_
                            refine WL.q (oq_move rfl) rfl rfl rfl ?_
                            refine WL.q (oq_ixaddr ha1 Tryz.underlying23 ty9 rfl rfl (by (first | omega | (simp only [List.length_cons, List.length_nil, List.length_append, List.length_drop, List.length_take]; omega)))) rfl rfl rfl ?_
                            refine WL.q (oq_load_str ha1 (.head _) flat9 rfl (by (first | omega | (simp only [List.length_cons, List.length_nil, List.length_append, List.length_drop, List.length_take]; omega))) (by first | exact Int.toNat_natCast _ | exact rfl)) rfl rfl rfl ?_
                            refine WL.q (oq_move rfl) rfl rfl rfl ?_
                            refine WL.q (oq_sneq rfl rfl) rfl rfl rfl ?_
                            refine WL.q (oq_pick_t rfl rfl) rfl rfl rfl ?_
                            refine WL.q (oq_pick_f rfl rfl) rfl rfl rfl ?_
                            refine WL.nil (WE.then_normal (WC.sub (fr' := [(1, _), (2, _), (11, _), (12, _), (13, _), (136, _)]) ?_ ⟨rfl, rfl, rfl, rfl, rfl, rfl, trivial⟩))
                            refine WC.cond rfl (fun q22 => ?_) (fun q22 => ?_)
                            ·
                              try simp only [Z1, Z2, Z3, Z4, Z5, Z6, Z7, Z8, Z9, Z0] at q22
                              refine WC.seq ?_
                              first | exact absurd hmb (by assumption) | exact absurd hmt (by assumption) | (exfalso; simp_all; done)
                            ·
                              try simp only [Z1, Z2, Z3, Z4, Z5, Z6, Z7, Z8, Z9, Z0] at q22
                              refine WC.skip (WE.block_normal (WE.then_normal (WC.sub (fr' := [(1, _), (2, _), (11, _), (12, _), (13, _)]) ?_ ⟨rfl, rfl, rfl, rfl, rfl, trivial⟩)))
                              refine WC.region ?_
                              refine WL.q (oq_move rfl) rfl rfl rfl ?_
                              refine WL.q (oq_add rfl rfl (by rw [i64_lo, i64_hi]; (first | omega | (simp only [List.length_cons, List.length_nil, List.length_append, List.length_drop, List.length_take]; omega)))) rfl rfl rfl ?_
                              refine WL.q (oq_assign rfl) rfl rfl rfl ?_
                              refine WL.nil ?_
                              refine WE.again (j + 1) ?_ ?_ ⟨rfl, rfl, rfl, rfl, rfl, trivial⟩ (List.Perm.refl _)
                              · try dsimp only   -- again 0
                                show j + 1 ≤ _; omega
                              · (try dsimp only); omega
                          ·
                            try simp only [Z1, Z2, Z3, Z4, Z5, Z6, Z7, Z8, Z9, Z0] at s22_8
                            refine WL.skip rfl rfl rfl ?_
                            refine WL.skip rfl rfl rfl ?_
                            refine WL.skip rfl rfl rfl ?_
                            refine WL.skip rfl rfl rfl ?_
                            refine WL.skip rfl rfl rfl ?_
                            refine WL.skip rfl rfl rfl ?_
                            refine WL.q (oq_pick_f rfl rfl) rfl rfl rfl ?_
                            refine WL.q (oq_pick_f rfl rfl) rfl rfl rfl ?_
                            refine WL.nil (WE.then_normal (WC.sub (fr' := [(1, _), (2, _), (11, _), (12, _), (13, _), (136, _)]) ?_ ⟨rfl, rfl, rfl, rfl, rfl, rfl, trivial⟩))
                            refine WC.cond_f rfl ?_
                            refine WC.skip (WE.block_normal (WE.then_normal (WC.sub (fr' := [(1, _), (2, _), (11, _), (12, _), (13, _)]) ?_ ⟨rfl, rfl, rfl, rfl, rfl, trivial⟩)))
                            refine WC.region ?_
                            refine WL.q (oq_move rfl) rfl rfl rfl ?_
                            refine WL.q (oq_add rfl rfl (by rw [i64_lo, i64_hi]; (first | omega | (simp only [List.length_cons, List.length_nil, List.length_append, List.length_drop, List.length_take]; omega)))) rfl rfl rfl ?_
                            refine WL.q (oq_assign rfl) rfl rfl rfl ?_
                            refine WL.nil ?_
                            refine WE.again (j + 1) ?_ ?_ ⟨rfl, rfl, rfl, rfl, rfl, trivial⟩ (List.Perm.refl _)
                            · try dsimp only   -- again 1
                              show j + 1 ≤ _; omega
                            · (try dsimp only); omega
                      ·
                        try simp only [Z1, Z2, Z3, Z4, Z5, Z6, Z7, Z8, Z9, Z0] at q19
                        refine WC.exit (WE.then_exit (WE.then_exit (WE.block_same (WE.then_normal (WC.sub (fr' := []) ?_ trivial)))))
                        refine WC.seq (WC.region ?_)
                        refine WL.qc (oq_call (SD.wAwake) call7 rfl) rfl rfl rfl ?_
                        refine WL.q (oq_assign rfl) rfl rfl rfl ?_
                        refine WL.nil (WE.then_normal (WC.sub (fr' := [(6, _)]) ?_ ⟨rfl, trivial⟩))
                        refine WC.ret ?_
                        refine WE.forget hN15_2 ?_
                        refine WE.endR (.inl rfl) (res1 Tryz.results3 rfl) ?_
                        -- end 7
                        first | rfl | (exfalso; simp_all; done)

end G5
end Go.Proofs.YtclafiglpcjhdaaGreat
