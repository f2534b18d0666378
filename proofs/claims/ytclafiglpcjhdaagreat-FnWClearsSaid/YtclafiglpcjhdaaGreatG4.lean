/- The laws on metadata and on the values of a stack, walked. -/
import Derived.Test.YtclafiglpcjhdaaGreatG3
import Derived.Test.YtclafiglpcjhdaaGreatSD
namespace Go.Proofs.YtclafiglpcjhdaaGreat
open Go Go.RowKit V GA G1 G2 G3
set_option linter.unusedSimpArgs false
set_option linter.unusedVariables false
set_option maxRecDepth 10000
namespace G4
theorem call5 : Callable Tryz.prog 5 := ⟨_, Tryz.func5, rfl, by kernel_rfl⟩
theorem call6 : Callable Tryz.prog 6 := ⟨_, Tryz.func6, rfl, by kernel_rfl⟩
theorem call7 : Callable Tryz.prog 7 := ⟨_, Tryz.func7, rfl, by kernel_rfl⟩
theorem call8 : Callable Tryz.prog 8 := ⟨_, Tryz.func8, rfl, by kernel_rfl⟩
theorem call9 : Callable Tryz.prog 9 := ⟨_, Tryz.func9, rfl, by kernel_rfl⟩
theorem call10 : Callable Tryz.prog 10 := ⟨_, Tryz.func10, rfl, by kernel_rfl⟩
theorem flat4 : Flat Tryz.prog 4 := ⟨_, Tryz.underlying4, by simp⟩
theorem flat9 : Flat Tryz.prog 9 := ⟨_, Tryz.underlying9, by simp⟩
theorem ty4 : Ty Tryz.prog 4 (.bool false) 1 1 := ty_of (by kernel_rfl)
theorem ty9 : Ty Tryz.prog 9 (S []) 1 16 := ty_of (by kernel_rfl)
theorem ty28 : Ty Tryz.prog 28 (.agg #[(S []), (S [])]) 2 32 := ty_of (by kernel_rfl)
theorem fld28_0 : Fld Tryz.prog 28 0 0 9 := fld_of Tryz.underlying28 rfl rfl rfl ty9 (by decide)
theorem fld28_1 : Fld Tryz.prog 28 1 1 9 := fld_of Tryz.underlying28 rfl rfl rfl ty9 (by decide)

theorem fits_el {l : List WP} (h : fits l = true) {i : Nat} (hi : i < l.length) : ((l.getD i WP0).k.length : Int) ≤ 2147483647 ∧ ((l.getD i WP0).v.length : Int) ≤ 2147483647 := by
  unfold fits at h
  rw [Bool.and_eq_true] at h
  have := all_el h.2 WP0 hi
  unfold fit1 at this
  simp only [Bool.and_eq_true, decide_eq_true_eq] at this
  exact this
theorem take_all {α : Type} {P : α → Prop} {l : List α} (d : α) {i : Nat} (hi : i < l.length) (h : ∀ x ∈ l.take i, P x) (hp : P (l.getD i d)) : ∀ x ∈ l.take (i + 1), P x := by
  intro x hx
  rw [List.take_succ_eq_append_getElem hi] at hx
  rcases List.mem_append.1 hx with hx | hx
  · exact h x hx
  · rw [List.mem_singleton.1 hx]
    rw [List.getD_eq_getElem?_getD, List.getElem?_eq_getElem hi] at hp
    exact hp
theorem mapD {α : Type} (f : List UInt8 → α) (ks : List (List UInt8)) (d : α) {j : Nat} (h : j < ks.length) : (ks.map f).getD j d = f (ks.getD j []) := by
  rw [List.getD_eq_getElem?_getD, List.getElem?_map, List.getElem?_eq_getElem h, List.getD_eq_getElem?_getD, List.getElem?_eq_getElem h]; rfl
/-- given.example/pub-tinwright/laws.FnWMeta -/
theorem lawMeta (va : Value) (A : Hp) (l : List WP) (ha : RdS 2 va A l.length (recsV pof l)) (vk : Value) (ks : List (List UInt8)) (hk : RdS 1 vk A ks.length (strsV ks))  : FnR Tryz.prog 4 [va, vk] A (.bool true) := by
  refine FnR.enter (n := 146) Tryz.func4 rfl rfl fun w0 => ?_
  refine WC.sub (fr' := [(0, _), (1, _)]) ?_ ⟨rfl, rfl, trivial⟩
  refine WC.seq (WC.region ?_)
  refine WL.q (oq_assign rfl) rfl rfl rfl ?_
  refine WL.nil (WE.then_normal (WC.sub (fr' := [(0, _), (1, _)]) ?_ ⟨rfl, rfl, trivial⟩))
  refine WC.seq (WC.seq (WC.region ?_))
  refine WL.q (oq_move rfl) rfl rfl rfl ?_
  refine WL.qc (oq_callRm (fits20 va A l ha) (.head _) call5 rfl) rfl rfl rfl ?_
  refine WL.q (oq_not rfl) rfl rfl rfl ?_
  refine WL.q (oq_move rfl) rfl rfl rfl ?_
  refine WL.split 16 rfl (fun s1_3 => ?_) (fun s1_3 => ?_)
  ·
    try simp only [Z1, Z2, Z3, Z4, Z5, Z6, Z7, Z8, Z9, Z0] at s1_3
    refine WL.skip rfl rfl rfl ?_
    refine WL.skip rfl rfl rfl ?_
    refine WL.skip rfl rfl rfl ?_
    refine WL.q (oq_pick_t rfl rfl) rfl rfl rfl ?_
    refine WL.nil (WE.then_normal (WC.sub (fr' := [(0, _), (1, _), (20, _)]) ?_ ⟨rfl, rfl, rfl, trivial⟩))
    refine WC.cond_t rfl ?_
    refine WC.seq (WC.region ?_)
    refine WL.q (oq_assign rfl) rfl rfl rfl ?_
    refine WL.nil (WE.then_normal (WC.sub (fr' := [(4, _)]) ?_ ⟨rfl, trivial⟩))
    refine WC.ret (WE.then_ret ?_)
    refine WE.endR (.inl rfl) (res1 Tryz.results4 rfl) ?_
    -- end 0
    first | rfl | (exfalso; simp_all; done)
  ·
    try simp only [Z1, Z2, Z3, Z4, Z5, Z6, Z7, Z8, Z9, Z0] at s1_3
    refine WL.q (oq_move rfl) rfl rfl rfl ?_
    refine WL.qc (oq_callRm (fits2 A vk ks hk) (.head _) call6 rfl) rfl rfl rfl ?_
    refine WL.q (oq_not rfl) rfl rfl rfl ?_
    refine WL.q (oq_pick_f rfl rfl) rfl rfl rfl ?_
    refine WL.nil (WE.then_normal (WC.sub (fr' := [(0, _), (1, _), (20, _)]) ?_ ⟨rfl, rfl, rfl, trivial⟩))
    refine WC.cond rfl (fun q1 => ?_) (fun q1 => ?_)
    ·
      try simp only [Z1, Z2, Z3, Z4, Z5, Z6, Z7, Z8, Z9, Z0] at q1
      refine WC.seq (WC.region ?_)
      refine WL.q (oq_assign rfl) rfl rfl rfl ?_
      refine WL.nil (WE.then_normal (WC.sub (fr' := [(4, _)]) ?_ ⟨rfl, trivial⟩))
      refine WC.ret (WE.then_ret ?_)
      refine WE.endR (.inl rfl) (res1 Tryz.results4 rfl) ?_
      -- end 1
      first | rfl | (exfalso; simp_all; done)
    ·
      try simp only [Z1, Z2, Z3, Z4, Z5, Z6, Z7, Z8, Z9, Z0] at q1
      refine WC.skip (WE.then_normal (WC.sub (fr' := [(0, _), (1, _)]) ?_ ⟨rfl, rfl, trivial⟩))
      refine WC.seq (WC.seq (WC.region ?_))
      refine WL.q (oq_move rfl) rfl rfl rfl ?_
      refine WL.q (oq_len_rd ha Tryz.underlying22 rfl) rfl rfl rfl ?_
      refine WL.q (oq_gtr rfl rfl) rfl rfl rfl ?_
      refine WL.q (oq_move rfl) rfl rfl rfl ?_
      refine WL.split 24 rfl (fun s3_3 => ?_) (fun s3_3 => ?_)
      ·
        try simp only [Z1, Z2, Z3, Z4, Z5, Z6, Z7, Z8, Z9, Z0] at s3_3
        refine WL.skip rfl rfl rfl ?_
        refine WL.skip rfl rfl rfl ?_
        refine WL.skip rfl rfl rfl ?_
        refine WL.q (oq_pick_t rfl rfl) rfl rfl rfl ?_
        refine WL.nil (WE.then_normal (WC.sub (fr' := [(0, _), (1, _), (28, _)]) ?_ ⟨rfl, rfl, rfl, trivial⟩))
        refine WC.cond_t rfl ?_
        refine WC.seq (WC.region ?_)
        refine WL.qc (oq_call (SD.wAwake) call7 rfl) rfl rfl rfl ?_
        refine WL.q (oq_assign rfl) rfl rfl rfl ?_
        refine WL.nil (WE.then_normal (WC.sub (fr' := [(4, _)]) ?_ ⟨rfl, trivial⟩))
        refine WC.ret (WE.then_ret ?_)
        refine WE.endR (.inl rfl) (res1 Tryz.results4 rfl) ?_
        -- end 2
        first | rfl | (exfalso; simp_all; done)
      ·
        try simp only [Z1, Z2, Z3, Z4, Z5, Z6, Z7, Z8, Z9, Z0] at s3_3
        refine WL.q (oq_move rfl) rfl rfl rfl ?_
        refine WL.q (oq_len_rd hk Tryz.underlying23 rfl) rfl rfl rfl ?_
        refine WL.q (oq_gtr rfl rfl) rfl rfl rfl ?_
        refine WL.q (oq_pick_f rfl rfl) rfl rfl rfl ?_
        refine WL.nil (WE.then_normal (WC.sub (fr' := [(0, _), (1, _), (28, _)]) ?_ ⟨rfl, rfl, rfl, trivial⟩))
        refine WC.cond rfl (fun q3 => ?_) (fun q3 => ?_)
        ·
          try simp only [Z1, Z2, Z3, Z4, Z5, Z6, Z7, Z8, Z9, Z0] at q3
          refine WC.seq (WC.region ?_)
          refine WL.qc (oq_call (SD.wAwake) call7 rfl) rfl rfl rfl ?_
          refine WL.q (oq_assign rfl) rfl rfl rfl ?_
          refine WL.nil (WE.then_normal (WC.sub (fr' := [(4, _)]) ?_ ⟨rfl, trivial⟩))
          refine WC.ret (WE.then_ret ?_)
          refine WE.endR (.inl rfl) (res1 Tryz.results4 rfl) ?_
          -- end 3
          first | rfl | (exfalso; simp_all; done)
        ·
          try simp only [Z1, Z2, Z3, Z4, Z5, Z6, Z7, Z8, Z9, Z0] at q3
          refine WC.skip (WE.then_normal (WC.sub (fr' := [(0, _), (1, _)]) ?_ ⟨rfl, rfl, trivial⟩))
          refine WC.seq (WC.seq (WC.region ?_))
          refine WL.q (oq_assign rfl) rfl rfl rfl ?_
          refine WL.nil (WE.then_normal (WC.sub (fr' := [(0, _), (1, _), (5, _)]) ?_ ⟨rfl, rfl, rfl, trivial⟩))
          refine WC.block ?_
          refine WC.loop (ι := Nat) (fun (i : Nat) => [(0, va), (1, vk), (5, I (i : Int))]) (fun (i : Nat) => [A]) (fun (i : Nat) => i ≤ l.length ∧ ∀ x ∈ l.take i, x.k ≠ clr) (fun (i : Nat) => l.length - i) (0) ?_ ⟨rfl, rfl, rfl, trivial⟩ (List.Perm.refl _) ?_
          · try dsimp only
            exact ⟨by omega, fun x hx => nomatch hx⟩
          · rintro i hp
            try dsimp only at hp
            obtain ⟨hi, hnc⟩ := hp
            show WC _ _ _ _ _ _ ([(0, va), (1, vk), (5, I (i : Int))]) ([A])
            refine WC.seq (WC.seq (WC.region ?_))
            refine WL.q (oq_move rfl) rfl rfl rfl ?_
            refine WL.q (oq_move rfl) rfl rfl rfl ?_
            refine WL.q (oq_len_rd ha Tryz.underlying22 rfl) rfl rfl rfl ?_
            refine WL.q (oq_lss rfl rfl) rfl rfl rfl ?_
            refine WL.nil (WE.then_normal (WC.sub (fr' := [(0, _), (1, _), (5, _), (33, _)]) ?_ ⟨rfl, rfl, rfl, rfl, trivial⟩))
            refine WC.cond rfl (fun q6 => ?_) (fun q6 => ?_)
            ·
              try simp only [Z1, Z2, Z3, Z4, Z5, Z6, Z7, Z8, Z9, Z0] at q6
              refine WC.skip (WE.then_normal (WC.sub (fr' := [(0, _), (1, _), (5, _)]) ?_ ⟨rfl, rfl, rfl, trivial⟩))
              refine WC.seq (WC.block (WC.seq ?_))
              have hfe := fits_el (l := l) (by first | assumption | (simp_all; done)) (show i < l.length by omega)
              refine WC.quiet (by kernel_rfl) (by kernel_rfl) ?_
              refine WQ.q (oq_move rfl) rfl rfl rfl ?_
              refine WQ.q (oq_move rfl) rfl rfl rfl ?_
              refine WQ.q (oq_ixaddr ha Tryz.underlying22 ty28 rfl rfl (by (first | omega | (simp only [List.length_cons, List.length_nil, List.length_append, List.length_drop, List.length_take]; omega)))) rfl rfl rfl ?_
              refine WQ.q (oq_fldEl fld28_0 ha rfl (by (first | omega | (simp only [List.length_cons, List.length_nil, List.length_append, List.length_drop, List.length_take]; omega)))) rfl rfl rfl ?_
              refine WQ.q (oq_loadF (f := pof) WP0 (fun _ => rfl) flat9 ha (.head _) rfl (by (first | omega | (simp only [List.length_cons, List.length_nil, List.length_append, List.length_drop, List.length_take]; omega))) (by first | exact Int.toNat_natCast _ | exact rfl) (by decide) rfl) rfl rfl rfl ?_
              refine WQ.q (oq_seql rfl rfl) rfl rfl rfl ?_
              refine WQ.q (oq_move rfl) rfl rfl rfl ?_
              refine WQ.split 42 rfl (fun s8_6 => ?_) (fun s8_6 => ?_)
              ·
                try simp only [Z1, Z2, Z3, Z4, Z5, Z6, Z7, Z8, Z9, Z0] at s8_6
                refine WQ.skip rfl rfl rfl ?_
                refine WQ.skip rfl rfl rfl ?_
                refine WQ.skip rfl rfl rfl ?_
                refine WQ.skip rfl rfl rfl ?_
                refine WQ.skip rfl rfl rfl ?_
                refine WQ.skip rfl rfl rfl ?_
                refine WQ.skip rfl rfl rfl ?_
                refine WQ.skip rfl rfl rfl ?_
                refine WQ.skip rfl rfl rfl ?_
                refine WQ.skip rfl rfl rfl ?_
                refine WQ.skip rfl rfl rfl ?_
                refine WQ.skip rfl rfl rfl ?_
                refine WQ.skip rfl rfl rfl ?_
                refine WQ.skip rfl rfl rfl ?_
                refine WQ.q (oq_pick_t rfl rfl) rfl rfl rfl ?_
                refine WQ.nil (WE.then_normal (WC.sub (fr' := [(0, _), (1, _), (5, _), (57, _)]) ?_ ⟨rfl, rfl, rfl, rfl, trivial⟩))
                refine WC.cond_t rfl ?_
                refine WC.seq (WC.region ?_)
                refine WL.qc (oq_call (SD.wAwake) call7 rfl) rfl rfl rfl ?_
                refine WL.q (oq_assign rfl) rfl rfl rfl ?_
                refine WL.nil (WE.then_normal (WC.sub (fr' := [(4, _)]) ?_ ⟨rfl, trivial⟩))
                refine WC.ret (WE.block_ret (WE.then_ret (WE.then_ret (WE.block_ret (WE.then_ret ?_)))))
                refine WE.endR (.inl rfl) (res1 Tryz.results4 rfl) ?_
                -- end 4
                first | rfl | (exfalso; simp_all; done)
              ·
                try simp only [Z1, Z2, Z3, Z4, Z5, Z6, Z7, Z8, Z9, Z0] at s8_6
                refine WQ.q (oq_move rfl) rfl rfl rfl ?_
                refine WQ.q (oq_move rfl) rfl rfl rfl ?_
                refine WQ.q (oq_ixaddr ha Tryz.underlying22 ty28 rfl rfl (by (first | omega | (simp only [List.length_cons, List.length_nil, List.length_append, List.length_drop, List.length_take]; omega)))) rfl rfl rfl ?_
                refine WQ.q (oq_fldEl fld28_0 ha rfl (by (first | omega | (simp only [List.length_cons, List.length_nil, List.length_append, List.length_drop, List.length_take]; omega)))) rfl rfl rfl ?_
                refine WQ.q (oq_loadF (f := pof) WP0 (fun _ => rfl) flat9 ha (.head _) rfl (by (first | omega | (simp only [List.length_cons, List.length_nil, List.length_append, List.length_drop, List.length_take]; omega))) (by first | exact Int.toNat_natCast _ | exact rfl) (by decide) rfl) rfl rfl rfl ?_
                refine WQ.q (oq_len_s Tryz.underlying9 rfl) rfl rfl rfl ?_
                refine WQ.q (oq_move rfl) rfl rfl rfl ?_
                refine WQ.q (oq_move rfl) rfl rfl rfl ?_
                refine WQ.q (oq_ixaddr ha Tryz.underlying22 ty28 rfl rfl (by (first | omega | (simp only [List.length_cons, List.length_nil, List.length_append, List.length_drop, List.length_take]; omega)))) rfl rfl rfl ?_
                refine WQ.q (oq_fldEl fld28_1 ha rfl (by (first | omega | (simp only [List.length_cons, List.length_nil, List.length_append, List.length_drop, List.length_take]; omega)))) rfl rfl rfl ?_
                refine WQ.q (oq_loadF (f := pof) WP0 (fun _ => rfl) flat9 ha (.head _) rfl (by (first | omega | (simp only [List.length_cons, List.length_nil, List.length_append, List.length_drop, List.length_take]; omega))) (by first | exact Int.toNat_natCast _ | exact rfl) (by decide) rfl) rfl rfl rfl ?_
                refine WQ.q (oq_len_s Tryz.underlying9 rfl) rfl rfl rfl ?_
                refine WQ.q (oq_add rfl rfl (by rw [i64_lo, i64_hi]; (first | omega | (simp only [List.length_cons, List.length_nil, List.length_append, List.length_drop, List.length_take]; omega)))) rfl rfl rfl ?_
                refine WQ.q (oq_gtr rfl rfl) rfl rfl rfl ?_
                refine WQ.q (oq_pick_f rfl rfl) rfl rfl rfl ?_
                refine WQ.nil (WE.then_normal (WC.sub (fr' := [(0, _), (1, _), (5, _), (57, _)]) ?_ ⟨rfl, rfl, rfl, rfl, trivial⟩))
                refine WC.cond rfl (fun q8 => ?_) (fun q8 => ?_)
                ·
                  try simp only [Z1, Z2, Z3, Z4, Z5, Z6, Z7, Z8, Z9, Z0] at q8
                  refine WC.seq (WC.region ?_)
                  refine WL.qc (oq_call (SD.wAwake) call7 rfl) rfl rfl rfl ?_
                  refine WL.q (oq_assign rfl) rfl rfl rfl ?_
                  refine WL.nil (WE.then_normal (WC.sub (fr' := [(4, _)]) ?_ ⟨rfl, trivial⟩))
                  refine WC.ret (WE.block_ret (WE.then_ret (WE.then_ret (WE.block_ret (WE.then_ret ?_)))))
                  refine WE.endR (.inl rfl) (res1 Tryz.results4 rfl) ?_
                  -- end 5
                  first | rfl | (exfalso; simp_all; done)
                ·
                  try simp only [Z1, Z2, Z3, Z4, Z5, Z6, Z7, Z8, Z9, Z0] at q8
                  refine WC.skip (WE.block_normal (WE.then_normal (WC.sub (fr' := [(0, _), (1, _), (5, _)]) ?_ ⟨rfl, rfl, rfl, trivial⟩)))
                  refine WC.region ?_
                  refine WL.q (oq_move rfl) rfl rfl rfl ?_
                  refine WL.q (oq_add rfl rfl (by rw [i64_lo, i64_hi]; (first | omega | (simp only [List.length_cons, List.length_nil, List.length_append, List.length_drop, List.length_take]; omega)))) rfl rfl rfl ?_
                  refine WL.q (oq_assign rfl) rfl rfl rfl ?_
                  refine WL.nil ?_
                  refine WE.again (i + 1) ?_ ?_ ⟨rfl, rfl, rfl, trivial⟩ (List.Perm.refl _)
                  · try dsimp only   -- again 0
                    exact ⟨by omega, take_all WP0 (by omega) hnc (by assumption)⟩
                  · (try dsimp only); omega
            ·
              try simp only [Z1, Z2, Z3, Z4, Z5, Z6, Z7, Z8, Z9, Z0] at q6
              refine WC.exit (WE.then_exit (WE.then_exit (WE.block_same (WE.then_normal (WC.sub (fr' := [(0, _), (1, _)]) ?_ ⟨rfl, rfl, trivial⟩)))))
              refine WC.seq ?_
              obtain rfl : i = l.length := by omega
              rw [List.take_length] at hnc
              refine WC.region ?_
              refine WL.q (oq_move rfl) rfl rfl rfl ?_
              refine WL.q (oq_move rfl) rfl rfl rfl ?_
              refine WL.callA (wMeta va A l ha vk ks hk (by omega) (by omega)) call10 rfl rfl rfl fun v10_2 N10_2 hR10_2 hN10_2 => ?_
              obtain ⟨a1, b1, rfl, ha1, hb1⟩ := hR10_2
              refine WL.q (oq_move rfl) rfl rfl rfl ?_
              refine WL.q (oq_extract rfl rfl) rfl rfl rfl ?_
              refine WL.q (oq_extract rfl rfl) rfl rfl rfl ?_
              refine WL.q (oq_assign rfl) rfl rfl rfl ?_
              refine WL.q (oq_assign rfl) rfl rfl rfl ?_
              refine WL.nil (WE.then_normal (WC.sub (fr' := [(0, _), (1, _), (6, _), (7, _)]) ?_ ⟨rfl, rfl, rfl, rfl, trivial⟩))
              refine WC.seq (WC.region ?_)
              refine WL.q (oq_move rfl) rfl rfl rfl ?_
              refine WL.q (oq_move rfl) rfl rfl rfl ?_
              refine WL.f1 ?_
              refine WL.callA (wStackVals va A l ha vk ks hk (by omega) (by omega)) call8 rfl rfl rfl fun v11_2 N11_2 hR11_2 hN11_2 => ?_
              obtain ⟨a2, b2, rfl, ha2, hb2⟩ := hR11_2
              have hsm : ∀ k, lk (stkf l) k = lastOf l k := stk_meta hnc
              simp only [hsm] at ha2 hb2
              refine WL.q (oq_move rfl) rfl rfl rfl ?_
              refine WL.q (oq_extract rfl rfl) rfl rfl rfl ?_
              refine WL.q (oq_extract rfl rfl) rfl rfl rfl ?_
              refine WL.q (oq_assign rfl) rfl rfl rfl ?_
              refine WL.q (oq_assign rfl) rfl rfl rfl ?_
              refine WL.nil (WE.then_normal (WC.sub (fr' := [(0, _), (1, _), (6, _), (7, _), (8, _), (9, _)]) ?_ ⟨rfl, rfl, rfl, rfl, rfl, rfl, trivial⟩))
              refine WC.seq (WC.seq (WC.region ?_))
              refine WL.q (oq_move rfl) rfl rfl rfl ?_
              refine WL.q (oq_len_rd ha1 Tryz.underlying23 rfl) rfl rfl rfl ?_
              refine WL.q (oq_move rfl) rfl rfl rfl ?_
              refine WL.q (oq_len_rd hk Tryz.underlying23 rfl) rfl rfl rfl ?_
              refine WL.q (oq_neq rfl rfl) rfl rfl rfl ?_
              refine WL.q (oq_move rfl) rfl rfl rfl ?_
              refine WL.split 76 rfl (fun s12_5 => ?_) (fun s12_5 => ?_)
              ·
                try simp only [Z1, Z2, Z3, Z4, Z5, Z6, Z7, Z8, Z9, Z0] at s12_5
                refine WL.skip rfl rfl rfl ?_
                refine WL.skip rfl rfl rfl ?_
                refine WL.skip rfl rfl rfl ?_
                refine WL.skip rfl rfl rfl ?_
                refine WL.skip rfl rfl rfl ?_
                refine WL.q (oq_pick_t rfl rfl) rfl rfl rfl ?_
                refine WL.q (oq_move rfl) rfl rfl rfl ?_
                refine WL.skip rfl rfl rfl ?_
                refine WL.skip rfl rfl rfl ?_
                refine WL.skip rfl rfl rfl ?_
                refine WL.skip rfl rfl rfl ?_
                refine WL.skip rfl rfl rfl ?_
                refine WL.q (oq_pick_t rfl rfl) rfl rfl rfl ?_
                refine WL.q (oq_move rfl) rfl rfl rfl ?_
                refine WL.skip rfl rfl rfl ?_
                refine WL.skip rfl rfl rfl ?_
                refine WL.skip rfl rfl rfl ?_
                refine WL.skip rfl rfl rfl ?_
                refine WL.skip rfl rfl rfl ?_
                refine WL.q (oq_pick_t rfl rfl) rfl rfl rfl ?_
                refine WL.nil (WE.then_normal (WC.sub (fr' := [(0, _), (1, _), (6, _), (7, _), (8, _), (9, _), (96, _)]) ?_ ⟨rfl, rfl, rfl, rfl, rfl, rfl, rfl, trivial⟩))
                refine WC.cond_t rfl ?_
                refine WC.seq ?_
                first | contradiction | (exfalso; simp_all; done)
              ·
                try simp only [Z1, Z2, Z3, Z4, Z5, Z6, Z7, Z8, Z9, Z0] at s12_5
                refine WL.q (oq_move rfl) rfl rfl rfl ?_
                refine WL.q (oq_len_rd ha2 Tryz.underlying23 rfl) rfl rfl rfl ?_
                refine WL.q (oq_move rfl) rfl rfl rfl ?_
                refine WL.q (oq_len_rd hk Tryz.underlying23 rfl) rfl rfl rfl ?_
                refine WL.q (oq_neq rfl rfl) rfl rfl rfl ?_
                refine WL.q (oq_pick_f rfl rfl) rfl rfl rfl ?_
                refine WL.q (oq_move rfl) rfl rfl rfl ?_
                refine WL.split 83 rfl (fun s12_12 => ?_) (fun s12_12 => ?_)
                ·
                  try simp only [Z1, Z2, Z3, Z4, Z5, Z6, Z7, Z8, Z9, Z0] at s12_12
                  refine WL.skip rfl rfl rfl ?_
                  refine WL.skip rfl rfl rfl ?_
                  refine WL.skip rfl rfl rfl ?_
                  refine WL.skip rfl rfl rfl ?_
                  refine WL.skip rfl rfl rfl ?_
                  refine WL.q (oq_pick_t rfl rfl) rfl rfl rfl ?_
                  refine WL.q (oq_move rfl) rfl rfl rfl ?_
                  refine WL.skip rfl rfl rfl ?_
                  refine WL.skip rfl rfl rfl ?_
                  refine WL.skip rfl rfl rfl ?_
                  refine WL.skip rfl rfl rfl ?_
                  refine WL.skip rfl rfl rfl ?_
                  refine WL.q (oq_pick_t rfl rfl) rfl rfl rfl ?_
                  refine WL.nil (WE.then_normal (WC.sub (fr' := [(0, _), (1, _), (6, _), (7, _), (8, _), (9, _), (96, _)]) ?_ ⟨rfl, rfl, rfl, rfl, rfl, rfl, rfl, trivial⟩))
                  refine WC.cond_t rfl ?_
                  refine WC.seq ?_
                  first | contradiction | (exfalso; simp_all; done)
                ·
                  try simp only [Z1, Z2, Z3, Z4, Z5, Z6, Z7, Z8, Z9, Z0] at s12_12
                  refine WL.q (oq_move rfl) rfl rfl rfl ?_
                  refine WL.q (oq_len_rd hb1 Tryz.underlying30 rfl) rfl rfl rfl ?_
                  refine WL.q (oq_move rfl) rfl rfl rfl ?_
                  refine WL.q (oq_len_rd hk Tryz.underlying23 rfl) rfl rfl rfl ?_
                  refine WL.q (oq_neq rfl rfl) rfl rfl rfl ?_
                  refine WL.q (oq_pick_f rfl rfl) rfl rfl rfl ?_
                  refine WL.q (oq_move rfl) rfl rfl rfl ?_
                  refine WL.split 90 rfl (fun s12_19 => ?_) (fun s12_19 => ?_)
                  ·
                    try simp only [Z1, Z2, Z3, Z4, Z5, Z6, Z7, Z8, Z9, Z0] at s12_19
                    refine WL.skip rfl rfl rfl ?_
                    refine WL.skip rfl rfl rfl ?_
                    refine WL.skip rfl rfl rfl ?_
                    refine WL.skip rfl rfl rfl ?_
                    refine WL.skip rfl rfl rfl ?_
                    refine WL.q (oq_pick_t rfl rfl) rfl rfl rfl ?_
                    refine WL.nil (WE.then_normal (WC.sub (fr' := [(0, _), (1, _), (6, _), (7, _), (8, _), (9, _), (96, _)]) ?_ ⟨rfl, rfl, rfl, rfl, rfl, rfl, rfl, trivial⟩))
                    refine WC.cond_t rfl ?_
                    refine WC.seq ?_
                    first | contradiction | (exfalso; simp_all; done)
                  ·
                    try simp only [Z1, Z2, Z3, Z4, Z5, Z6, Z7, Z8, Z9, Z0] at s12_19
                    refine WL.q (oq_move rfl) rfl rfl rfl ?_
                    refine WL.q (oq_len_rd hb2 Tryz.underlying30 rfl) rfl rfl rfl ?_
                    refine WL.q (oq_move rfl) rfl rfl rfl ?_
                    refine WL.q (oq_len_rd hk Tryz.underlying23 rfl) rfl rfl rfl ?_
                    refine WL.q (oq_neq rfl rfl) rfl rfl rfl ?_
                    refine WL.q (oq_pick_f rfl rfl) rfl rfl rfl ?_
                    refine WL.nil (WE.then_normal (WC.sub (fr' := [(0, _), (1, _), (6, _), (7, _), (8, _), (9, _), (96, _)]) ?_ ⟨rfl, rfl, rfl, rfl, rfl, rfl, rfl, trivial⟩))
                    refine WC.cond rfl (fun q12 => ?_) (fun q12 => ?_)
                    ·
                      try simp only [Z1, Z2, Z3, Z4, Z5, Z6, Z7, Z8, Z9, Z0] at q12
                      refine WC.seq ?_
                      first | contradiction | (exfalso; simp_all; done)
                    ·
                      try simp only [Z1, Z2, Z3, Z4, Z5, Z6, Z7, Z8, Z9, Z0] at q12
                      refine WC.skip (WE.then_normal (WC.sub (fr' := [(0, _), (1, _), (6, _), (7, _), (8, _), (9, _)]) ?_ ⟨rfl, rfl, rfl, rfl, rfl, rfl, trivial⟩))
                      refine WC.seq (WC.seq (WC.region ?_))
                      refine WL.q (oq_assign rfl) rfl rfl rfl ?_
                      refine WL.nil (WE.then_normal (WC.sub (fr' := [(0, _), (1, _), (6, _), (7, _), (8, _), (9, _), (10, _)]) ?_ ⟨rfl, rfl, rfl, rfl, rfl, rfl, rfl, trivial⟩))
                      refine WC.block ?_
                      refine WC.f1 ?_
                      refine WC.f2 ?_
                      refine WC.f2 ?_
                      refine WC.loop (ι := Nat) (fun (j : Nat) => [(0, va), (1, vk), (6, a1), (7, b1), (8, a2), (9, b2), (10, I (j : Int))]) (fun (j : Nat) => [N11_2, N10_2, A]) (fun (j : Nat) => j ≤ ks.length) (fun (j : Nat) => ks.length - j) (0) ?_ ⟨rfl, rfl, rfl, rfl, rfl, rfl, rfl, trivial⟩ (List.Perm.refl _) ?_
                      · try dsimp only
                        omega
                      · rintro j hp
                        try dsimp only at hp
                        show WC _ _ _ _ _ _ ([(0, va), (1, vk), (6, a1), (7, b1), (8, a2), (9, b2), (10, I (j : Int))]) ([N11_2, N10_2, A])
                        have hj := hp
                        refine WC.seq (WC.seq (WC.region ?_))
                        refine WL.q (oq_move rfl) rfl rfl rfl ?_
                        refine WL.q (oq_move rfl) rfl rfl rfl ?_
                        refine WL.q (oq_len_rd hk Tryz.underlying23 rfl) rfl rfl rfl ?_
                        refine WL.q (oq_lss rfl rfl) rfl rfl rfl ?_
                        refine WL.nil (WE.then_normal (WC.sub (fr' := [(0, _), (1, _), (6, _), (7, _), (8, _), (9, _), (10, _), (100, _)]) ?_ ⟨rfl, rfl, rfl, rfl, rfl, rfl, rfl, rfl, trivial⟩))
                        refine WC.cond rfl (fun q15 => ?_) (fun q15 => ?_)
                        ·
                          try simp only [Z1, Z2, Z3, Z4, Z5, Z6, Z7, Z8, Z9, Z0] at q15
                          refine WC.skip (WE.then_normal (WC.sub (fr' := [(0, _), (1, _), (6, _), (7, _), (8, _), (9, _), (10, _)]) ?_ ⟨rfl, rfl, rfl, rfl, rfl, rfl, rfl, trivial⟩))
                          refine WC.seq (WC.block (WC.seq (WC.region ?_)))
                          refine WL.q (oq_move rfl) rfl rfl rfl ?_
                          refine WL.q (oq_move rfl) rfl rfl rfl ?_
                          refine WL.q (oq_move rfl) rfl rfl rfl ?_
                          refine WL.q (oq_ixaddr hk Tryz.underlying23 ty9 rfl rfl (by (first | omega | (simp only [List.length_cons, List.length_nil, List.length_append, List.length_drop, List.length_take]; omega)))) rfl rfl rfl ?_
                          refine WL.q (oq_load_str hk (.tail _ (.tail _ (.head _))) flat9 rfl (by (first | omega | (simp only [List.length_cons, List.length_nil, List.length_append, List.length_drop, List.length_take]; omega))) (by first | exact Int.toNat_natCast _ | exact rfl)) rfl rfl rfl ?_
                          refine WL.qc (oq_callRm (wLast va A l ha (ks.getD j []) (by omega)) (.tail _ (.tail _ (.head _))) call9 rfl) rfl rfl rfl ?_
                          refine WL.q (oq_move rfl) rfl rfl rfl ?_
                          refine WL.q (oq_extract rfl rfl) rfl rfl rfl ?_
                          refine WL.q (oq_extract rfl rfl) rfl rfl rfl ?_
                          refine WL.q (oq_assign rfl) rfl rfl rfl ?_
                          refine WL.q (oq_assign rfl) rfl rfl rfl ?_
                          refine WL.nil (WE.then_normal (WC.sub (fr' := [(0, _), (1, _), (6, _), (7, _), (8, _), (9, _), (10, _), (11, _), (12, _)]) ?_ ⟨rfl, rfl, rfl, rfl, rfl, rfl, rfl, rfl, rfl, trivial⟩))
                          refine WC.seq ?_
                          have hj2 : j < ks.length := by omega
                          have hmb := mapD (fun k => (lastOf l k).isSome) ks false hj2
                          have hmt := mapD (fun k => (lastOf l k).getD []) ks [] hj2
                          refine WC.region ?_
                          refine WL.q (oq_move rfl) rfl rfl rfl ?_
                          refine WL.q (oq_move rfl) rfl rfl rfl ?_
                          refine WL.q (oq_ixaddr hb1 Tryz.underlying30 ty4 rfl rfl (by (first | omega | (simp only [List.length_cons, List.length_nil, List.length_append, List.length_drop, List.length_take]; omega)))) rfl rfl rfl ?_
                          refine WL.q (oq_load_bool hb1 (.tail _ (.head _)) flat4 rfl (by (first | omega | (simp only [List.length_cons, List.length_nil, List.length_append, List.length_drop, List.length_take]; omega))) (by first | exact Int.toNat_natCast _ | exact rfl)) rfl rfl rfl ?_
                          refine WL.q (oq_move rfl) rfl rfl rfl ?_
                          refine WL.q (oq_bneq Tryz.underlying4 rfl rfl) rfl rfl rfl ?_
                          refine WL.q (oq_move rfl) rfl rfl rfl ?_
                          refine WL.split 118 rfl (fun s18_6 => ?_) (fun s18_6 => ?_)
                          ·
                            try simp only [Z1, Z2, Z3, Z4, Z5, Z6, Z7, Z8, Z9, Z0] at s18_6
                            refine WL.skip rfl rfl rfl ?_
                            refine WL.skip rfl rfl rfl ?_
                            refine WL.skip rfl rfl rfl ?_
                            refine WL.skip rfl rfl rfl ?_
                            refine WL.skip rfl rfl rfl ?_
                            refine WL.skip rfl rfl rfl ?_
                            refine WL.q (oq_pick_t rfl rfl) rfl rfl rfl ?_
                            refine WL.q (oq_move rfl) rfl rfl rfl ?_
                            refine WL.skip rfl rfl rfl ?_
                            refine WL.skip rfl rfl rfl ?_
                            refine WL.skip rfl rfl rfl ?_
                            refine WL.skip rfl rfl rfl ?_
                            refine WL.skip rfl rfl rfl ?_
                            refine WL.skip rfl rfl rfl ?_
                            refine WL.skip rfl rfl rfl ?_
                            refine WL.skip rfl rfl rfl ?_
                            refine WL.skip rfl rfl rfl ?_
                            refine WL.skip rfl rfl rfl ?_
                            refine WL.skip rfl rfl rfl ?_
                            refine WL.skip rfl rfl rfl ?_
                            refine WL.skip rfl rfl rfl ?_
                            refine WL.skip rfl rfl rfl ?_
                            refine WL.skip rfl rfl rfl ?_
                            refine WL.skip rfl rfl rfl ?_
                            refine WL.skip rfl rfl rfl ?_
                            refine WL.q (oq_pick_t rfl rfl) rfl rfl rfl ?_
                            refine WL.nil (WE.then_normal (WC.sub (fr' := [(0, _), (1, _), (6, _), (7, _), (8, _), (9, _), (10, _), (144, _)]) ?_ ⟨rfl, rfl, rfl, rfl, rfl, rfl, rfl, rfl, trivial⟩))
                            refine WC.cond_t rfl ?_
                            refine WC.seq ?_
                            first | exact absurd hmb (by assumption) | exact absurd hmt (by assumption) | (exfalso; simp_all; done)
                          ·
                            try simp only [Z1, Z2, Z3, Z4, Z5, Z6, Z7, Z8, Z9, Z0] at s18_6
                            refine WL.q (oq_move rfl) rfl rfl rfl ?_
                            refine WL.q (oq_move rfl) rfl rfl rfl ?_
                            refine WL.q (oq_ixaddr hb2 Tryz.underlying30 ty4 rfl rfl (by (first | omega | (simp only [List.length_cons, List.length_nil, List.length_append, List.length_drop, List.length_take]; omega)))) rfl rfl rfl ?_
                            refine WL.q (oq_load_bool hb2 (.head _) flat4 rfl (by (first | omega | (simp only [List.length_cons, List.length_nil, List.length_append, List.length_drop, List.length_take]; omega))) (by first | exact Int.toNat_natCast _ | exact rfl)) rfl rfl rfl ?_
                            refine WL.q (oq_move rfl) rfl rfl rfl ?_
                            refine WL.q (oq_bneq Tryz.underlying4 rfl rfl) rfl rfl rfl ?_
                            refine WL.q (oq_pick_f rfl rfl) rfl rfl rfl ?_
                            refine WL.q (oq_move rfl) rfl rfl rfl ?_
                            refine WL.split 126 rfl (fun s18_14 => ?_) (fun s18_14 => ?_)
                            ·
                              try simp only [Z1, Z2, Z3, Z4, Z5, Z6, Z7, Z8, Z9, Z0] at s18_14
                              refine WL.skip rfl rfl rfl ?_
                              refine WL.skip rfl rfl rfl ?_
                              refine WL.skip rfl rfl rfl ?_
                              refine WL.skip rfl rfl rfl ?_
                              refine WL.skip rfl rfl rfl ?_
                              refine WL.skip rfl rfl rfl ?_
                              refine WL.skip rfl rfl rfl ?_
                              refine WL.skip rfl rfl rfl ?_
                              refine WL.skip rfl rfl rfl ?_
                              refine WL.skip rfl rfl rfl ?_
                              refine WL.skip rfl rfl rfl ?_
                              refine WL.skip rfl rfl rfl ?_
                              refine WL.skip rfl rfl rfl ?_
                              refine WL.skip rfl rfl rfl ?_
                              refine WL.skip rfl rfl rfl ?_
                              refine WL.skip rfl rfl rfl ?_
                              refine WL.skip rfl rfl rfl ?_
                              refine WL.q (oq_pick_t rfl rfl) rfl rfl rfl ?_
                              refine WL.nil (WE.then_normal (WC.sub (fr' := [(0, _), (1, _), (6, _), (7, _), (8, _), (9, _), (10, _), (144, _)]) ?_ ⟨rfl, rfl, rfl, rfl, rfl, rfl, rfl, rfl, trivial⟩))
                              refine WC.cond_t rfl ?_
                              refine WC.seq ?_
                              first | exact absurd hmb (by assumption) | exact absurd hmt (by assumption) | (exfalso; simp_all; done)
                            ·
                              try simp only [Z1, Z2, Z3, Z4, Z5, Z6, Z7, Z8, Z9, Z0] at s18_14
                              refine WL.q (oq_move rfl) rfl rfl rfl ?_
                              refine WL.q (oq_move rfl) rfl rfl rfl ?_
                              refine WL.split 128 rfl (fun s18_16 => ?_) (fun s18_16 => ?_)
                              ·
                                try simp only [Z1, Z2, Z3, Z4, Z5, Z6, Z7, Z8, Z9, Z0] at s18_16
                                refine WL.q (oq_move rfl) rfl rfl rfl ?_
                                refine WL.q (oq_move rfl) rfl rfl rfl ?_
                                refine WL.q (oq_ixaddr ha1 Tryz.underlying23 ty9 rfl rfl (by (first | omega | (simp only [List.length_cons, List.length_nil, List.length_append, List.length_drop, List.length_take]; omega)))) rfl rfl rfl ?_
                                refine WL.q (oq_load_str ha1 (.tail _ (.head _)) flat9 rfl (by (first | omega | (simp only [List.length_cons, List.length_nil, List.length_append, List.length_drop, List.length_take]; omega))) (by first | exact Int.toNat_natCast _ | exact rfl)) rfl rfl rfl ?_
                                refine WL.q (oq_move rfl) rfl rfl rfl ?_
                                refine WL.q (oq_sneq rfl rfl) rfl rfl rfl ?_
                                refine WL.q (oq_move rfl) rfl rfl rfl ?_
                                refine WL.split 135 rfl (fun s18_23 => ?_) (fun s18_23 => ?_)
                                ·
                                  try simp only [Z1, Z2, Z3, Z4, Z5, Z6, Z7, Z8, Z9, Z0] at s18_23
                                  refine WL.skip rfl rfl rfl ?_
                                  refine WL.skip rfl rfl rfl ?_
                                  refine WL.skip rfl rfl rfl ?_
                                  refine WL.skip rfl rfl rfl ?_
                                  refine WL.skip rfl rfl rfl ?_
                                  refine WL.skip rfl rfl rfl ?_
                                  refine WL.q (oq_pick_t rfl rfl) rfl rfl rfl ?_
                                  refine WL.q (oq_pick_t rfl rfl) rfl rfl rfl ?_
                                  refine WL.q (oq_pick_f rfl rfl) rfl rfl rfl ?_
                                  refine WL.nil (WE.then_normal (WC.sub (fr' := [(0, _), (1, _), (6, _), (7, _), (8, _), (9, _), (10, _), (144, _)]) ?_ ⟨rfl, rfl, rfl, rfl, rfl, rfl, rfl, rfl, trivial⟩))
                                  refine WC.cond_t rfl ?_
                                  refine WC.seq ?_
                                  first | exact absurd hmb (by assumption) | exact absurd hmt (by assumption) | (exfalso; simp_all; done)
                                ·
                                  try simp only [Z1, Z2, Z3, Z4, Z5, Z6, Z7, Z8, Z9, Z0] at s18_23
                                  refine WL.q (oq_move rfl) rfl rfl rfl ?_
                                  refine WL.q (oq_move rfl) rfl rfl rfl ?_
                                  refine WL.q (oq_ixaddr ha2 Tryz.underlying23 ty9 rfl rfl (by (first | omega | (simp only [List.length_cons, List.length_nil, List.length_append, List.length_drop, List.length_take]; omega)))) rfl rfl rfl ?_
                                  refine WL.q (oq_load_str ha2 (.head _) flat9 rfl (by (first | omega | (simp only [List.length_cons, List.length_nil, List.length_append, List.length_drop, List.length_take]; omega))) (by first | exact Int.toNat_natCast _ | exact rfl)) rfl rfl rfl ?_
                                  refine WL.q (oq_move rfl) rfl rfl rfl ?_
                                  refine WL.q (oq_sneq rfl rfl) rfl rfl rfl ?_
                                  refine WL.q (oq_pick_f rfl rfl) rfl rfl rfl ?_
                                  refine WL.q (oq_pick_t rfl rfl) rfl rfl rfl ?_
                                  refine WL.q (oq_pick_f rfl rfl) rfl rfl rfl ?_
                                  refine WL.nil (WE.then_normal (WC.sub (fr' := [(0, _), (1, _), (6, _), (7, _), (8, _), (9, _), (10, _), (144, _)]) ?_ ⟨rfl, rfl, rfl, rfl, rfl, rfl, rfl, rfl, trivial⟩))
                                  refine WC.cond rfl (fun q18 => ?_) (fun q18 => ?_)
                                  ·
                                    try simp only [Z1, Z2, Z3, Z4, Z5, Z6, Z7, Z8, Z9, Z0] at q18
                                    refine WC.seq ?_
                                    first | exact absurd hmb (by assumption) | exact absurd hmt (by assumption) | (exfalso; simp_all; done)
                                  ·
                                    try simp only [Z1, Z2, Z3, Z4, Z5, Z6, Z7, Z8, Z9, Z0] at q18
                                    refine WC.skip (WE.block_normal (WE.then_normal (WC.sub (fr' := [(0, _), (1, _), (6, _), (7, _), (8, _), (9, _), (10, _)]) ?_ ⟨rfl, rfl, rfl, rfl, rfl, rfl, rfl, trivial⟩)))
                                    refine WC.region ?_
                                    refine WL.q (oq_move rfl) rfl rfl rfl ?_
                                    refine WL.q (oq_add rfl rfl (by rw [i64_lo, i64_hi]; (first | omega | (simp only [List.length_cons, List.length_nil, List.length_append, List.length_drop, List.length_take]; omega)))) rfl rfl rfl ?_
                                    refine WL.q (oq_assign rfl) rfl rfl rfl ?_
                                    refine WL.nil ?_
                                    refine WE.again (j + 1) ?_ ?_ ⟨rfl, rfl, rfl, rfl, rfl, rfl, rfl, trivial⟩ (List.Perm.refl _)
                                    · try dsimp only   -- again 0
                                      show j + 1 ≤ _; omega
                                    · (try dsimp only); omega
                              ·
                                try simp only [Z1, Z2, Z3, Z4, Z5, Z6, Z7, Z8, Z9, Z0] at s18_16
                                refine WL.skip rfl rfl rfl ?_
                                refine WL.skip rfl rfl rfl ?_
                                refine WL.skip rfl rfl rfl ?_
                                refine WL.skip rfl rfl rfl ?_
                                refine WL.skip rfl rfl rfl ?_
                                refine WL.skip rfl rfl rfl ?_
                                refine WL.skip rfl rfl rfl ?_
                                refine WL.skip rfl rfl rfl ?_
                                refine WL.skip rfl rfl rfl ?_
                                refine WL.skip rfl rfl rfl ?_
                                refine WL.skip rfl rfl rfl ?_
                                refine WL.skip rfl rfl rfl ?_
                                refine WL.skip rfl rfl rfl ?_
                                refine WL.skip rfl rfl rfl ?_
                                refine WL.q (oq_pick_f rfl rfl) rfl rfl rfl ?_
                                refine WL.q (oq_pick_f rfl rfl) rfl rfl rfl ?_
                                refine WL.nil (WE.then_normal (WC.sub (fr' := [(0, _), (1, _), (6, _), (7, _), (8, _), (9, _), (10, _), (144, _)]) ?_ ⟨rfl, rfl, rfl, rfl, rfl, rfl, rfl, rfl, trivial⟩))
                                refine WC.cond_f rfl ?_
                                refine WC.skip (WE.block_normal (WE.then_normal (WC.sub (fr' := [(0, _), (1, _), (6, _), (7, _), (8, _), (9, _), (10, _)]) ?_ ⟨rfl, rfl, rfl, rfl, rfl, rfl, rfl, trivial⟩)))
                                refine WC.region ?_
                                refine WL.q (oq_move rfl) rfl rfl rfl ?_
                                refine WL.q (oq_add rfl rfl (by rw [i64_lo, i64_hi]; (first | omega | (simp only [List.length_cons, List.length_nil, List.length_append, List.length_drop, List.length_take]; omega)))) rfl rfl rfl ?_
                                refine WL.q (oq_assign rfl) rfl rfl rfl ?_
                                refine WL.nil ?_
                                refine WE.again (j + 1) ?_ ?_ ⟨rfl, rfl, rfl, rfl, rfl, rfl, rfl, trivial⟩ (List.Perm.refl _)
                                · try dsimp only   -- again 1
                                  show j + 1 ≤ _; omega
                                · (try dsimp only); omega
                        ·
                          try simp only [Z1, Z2, Z3, Z4, Z5, Z6, Z7, Z8, Z9, Z0] at q15
                          refine WC.exit (WE.then_exit (WE.then_exit (WE.block_same (WE.then_normal (WC.sub (fr' := []) ?_ trivial)))))
                          refine WC.seq (WC.region ?_)
                          refine WL.qc (oq_call (SD.wAwake) call7 rfl) rfl rfl rfl ?_
                          refine WL.q (oq_assign rfl) rfl rfl rfl ?_
                          refine WL.nil (WE.then_normal (WC.sub (fr' := [(4, _)]) ?_ ⟨rfl, trivial⟩))
                          refine WC.ret ?_
                          refine WE.forget hN11_2 ?_
                          refine WE.forget hN10_2 ?_
                          refine WE.endR (.inl rfl) (res1 Tryz.results4 rfl) ?_
                          -- end 6
                          first | rfl | (exfalso; simp_all; done)

end G4
end Go.Proofs.YtclafiglpcjhdaaGreat
