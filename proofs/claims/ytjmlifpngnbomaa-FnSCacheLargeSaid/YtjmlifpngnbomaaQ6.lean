/- The law of a cache with room for all, walked. -/
import Derived.Test.YtjmlifpngnbomaaQ4
namespace Go.Proofs.Ytjmlifpngnbomaa
open Go Go.RowKit V Q0 Q1 Q2 QC L2 Q4
set_option linter.unusedSimpArgs false
set_option linter.unusedVariables false
set_option maxRecDepth 10000
namespace Q6
theorem call5 : Callable Try.prog 5 := ⟨_, Try.func5, rfl, by kernel_rfl⟩
theorem call6 : Callable Try.prog 6 := ⟨_, Try.func6, rfl, by kernel_rfl⟩
theorem call7 : Callable Try.prog 7 := ⟨_, Try.func7, rfl, by kernel_rfl⟩
theorem call8 : Callable Try.prog 8 := ⟨_, Try.func8, rfl, by kernel_rfl⟩
theorem flat4 : Flat Try.prog 4 := ⟨_, Try.underlying4, by simp⟩
theorem flat9 : Flat Try.prog 9 := ⟨_, Try.underlying9, by simp⟩
theorem ty4 : Ty Try.prog 4 (.bool false) 1 1 := ty_of (by kernel_rfl)
theorem ty9 : Ty Try.prog 9 (S []) 1 16 := ty_of (by kernel_rfl)
theorem ty31 : Ty Try.prog 31 (.agg #[(.bool false), (S []), (S [])]) 3 40 := ty_of (by kernel_rfl)
theorem fld31_0 : Fld Try.prog 31 0 0 4 := fld_of Try.underlying31 rfl rfl rfl ty4 (by decide)
theorem fld31_1 : Fld Try.prog 31 1 1 9 := fld_of Try.underlying31 rfl rfl rfl ty9 (by decide)
theorem fld31_2 : Fld Try.prog 31 2 2 9 := fld_of Try.underlying31 rfl rfl rfl ty9 (by decide)

/-! ### A cache with room for all -/
def lp (key : List UInt8) (l : List SO) : Option (List UInt8) := l.foldl (fun r o => if o.g = false ∧ o.k = key then some o.v else r) none
theorem lp_next {key : List UInt8} {l : List SO} {i : Nat} (h : i < l.length) : lp key (l.take (i + 1)) = if (l.getD i SO0).g = false ∧ (l.getD i SO0).k = key then some (l.getD i SO0).v else lp key (l.take i) := by
  unfold lp
  rw [List.take_succ_eq_append_getElem h, List.foldl_append, List.getD_eq_getElem?_getD, List.getElem?_eq_getElem h]; rfl
theorem ldel_ne {k key : List UInt8} (h : key ≠ k) : ∀ (L : KV), lfind key (ldel k L) = lfind key L
  | [] => rfl
  | e :: r => by
    unfold ldel
    by_cases hk : k = e.1
    · rw [if_pos hk]
      show _ = if key = e.1 then _ else _
      rw [if_neg (fun h' => h (h'.trans hk.symm))]
    · rw [if_neg hk]
      show (if key = e.1 then _ else lfind key (ldel k r)) = if key = e.1 then _ else lfind key r
      rw [ldel_ne h r]
theorem sst_all (cap : Nat) (l : List SO) (hl : l.length ≤ cap) : ∀ i, i ≤ l.length → (sst cap (l.take i)).1.length ≤ i ∧ ∀ key, lfind key (sst cap (l.take i)).1 = lp key (l.take i)
  | 0, _ => ⟨by simp [sst], fun key => rfl⟩
  | i + 1, h => by
    obtain ⟨h1, h2⟩ := sst_all cap l hl i (by omega)
    rw [sst_next (by omega) rfl]
    show (snext cap (sst cap (l.take i)).1 (l.getD i SO0)).length ≤ i + 1 ∧ ∀ key, lfind key (snext cap (sst cap (l.take i)).1 (l.getD i SO0)) = _
    generalize hL : (sst cap (l.take i)).1 = L at h1 h2 ⊢
    generalize ho : l.getD i SO0 = o
    have hnx : ∀ key, lp key (l.take (i + 1)) = if o.g = false ∧ o.k = key then some o.v else lfind key L := fun key => by rw [lp_next (by omega), ho, h2 key]
    unfold snext
    cases hg : o.g with
    | true =>
      simp only [if_true]
      unfold getL
      cases hf : lfind o.k L with
      | none => exact ⟨by simp only; omega, fun key => by rw [hnx key, hg]; simp⟩
      | some v =>
        have := ldel_len L hf
        refine ⟨by simp only [List.length_cons]; omega, fun key => ?_⟩
        rw [hnx key, hg]
        simp only [Bool.true_eq_false, false_and, if_false]
        show (if key = o.k then some v else lfind key (ldel o.k L)) = _
        by_cases hk : key = o.k
        · rw [if_pos hk, hk, hf]
        · rw [if_neg hk, ldel_ne hk]
    | false =>
      simp only [Bool.false_eq_true, if_false]
      unfold putL
      cases hf : lfind o.k L with
      | none =>
        rw [if_neg (by omega)]
        refine ⟨by simp only [List.length_cons]; omega, fun key => ?_⟩
        rw [hnx key, hg]
        show (if key = o.k then some o.v else lfind key L) = _
        by_cases hk : key = o.k
        · rw [if_pos hk, if_pos ⟨rfl, hk.symm⟩]
        · rw [if_neg hk, if_neg (fun h' => hk h'.2.symm)]
      | some v =>
        have := ldel_len L hf
        refine ⟨by simp only [List.length_cons]; omega, fun key => ?_⟩
        rw [hnx key, hg]
        show (if key = o.k then some o.v else lfind key (ldel o.k L)) = _
        by_cases hk : key = o.k
        · rw [if_pos hk, if_pos ⟨rfl, hk.symm⟩]
        · rw [if_neg hk, if_neg (fun h' => hk h'.2.symm), ldel_ne hk]
theorem sst_pre (cap : Nat) (l : List SO) (i : Nat) : ∀ k, i + k ≤ l.length → ∃ r s, (sst cap (l.take (i + k))).2.1 = (sst cap (l.take i)).2.1 ++ r ∧ (sst cap (l.take (i + k))).2.2 = (sst cap (l.take i)).2.2 ++ s
  | 0, _ => ⟨[], [], by simp, by simp⟩
  | k + 1, h => by
    obtain ⟨r, s, h1, h2⟩ := sst_pre cap l i k (by omega)
    rw [show i + (k + 1) = (i + k) + 1 by omega, sst_next (by omega) rfl]
    show ∃ r s, (if (l.getD (i + k) SO0).g = true then _ else _ : List (List UInt8)) = _ ∧ (if (l.getD (i + k) SO0).g = true then _ else _ : List Bool) = _
    by_cases hg : (l.getD (i + k) SO0).g = true
    · exact ⟨_, _, by rw [if_pos hg, h1, List.append_assoc], by rw [if_pos hg, h2, List.append_assoc]⟩
    · exact ⟨r, s, by rw [if_neg hg]; exact h1, by rw [if_neg hg]; exact h2⟩
/-- the answer of a question -/
theorem sst_ans (cap : Nat) (l : List SO) (hl : l.length ≤ cap) (hc : 1 ≤ cap) (i : Nat) (h : i < l.length) (hg : (l.getD i SO0).g = true) :
    (sst cap (l.take i)).2.1.length < (sst cap l).2.1.length ∧ (sst cap l).2.1.getD (sst cap (l.take i)).2.1.length [] = (lp (l.getD i SO0).k (l.take i)).getD [] ∧ (sst cap l).2.2.getD (sst cap (l.take i)).2.1.length false = (lp (l.getD i SO0).k (l.take i)).isSome ∧ (sst cap (l.take (i + 1))).2.1.length = (sst cap (l.take i)).2.1.length + 1 := by
  obtain ⟨r, s, h1, h2⟩ := sst_pre cap l (i + 1) (l.length - (i + 1)) (by omega)
  rw [show i + 1 + (l.length - (i + 1)) = l.length by omega, List.take_length] at h1 h2
  have h3 := (sst_len cap hc l i (by omega)).2.2
  have h4 := (sst_all cap l hl i (by omega)).2 (l.getD i SO0).k
  have e1 : (sst cap (l.take (i + 1))).2.1 = (sst cap (l.take i)).2.1 ++ [sgot (sst cap (l.take i)).1 (l.getD i SO0)] := by
    rw [sst_next h rfl]; show (if _ then _ else _) = _; rw [if_pos hg]
  have e2 : (sst cap (l.take (i + 1))).2.2 = (sst cap (l.take i)).2.2 ++ [shas (sst cap (l.take i)).1 (l.getD i SO0)] := by
    rw [sst_next h rfl]; show (if _ then _ else _) = _; rw [if_pos hg]
  rw [h1, h2, e1, e2]
  unfold sgot shas
  rw [h4]
  refine ⟨by simp, ?_, ?_, by simp⟩
  · rw [List.getD_eq_getElem?_getD, List.getElem?_append_left (by simp), List.getElem?_append_right (Nat.le_refl _), Nat.sub_self]; rfl
  · rw [← h3, List.getD_eq_getElem?_getD, List.getElem?_append_left (by simp), List.getElem?_append_right (Nat.le_refl _), Nat.sub_self]; rfl
theorem sst_put (cap : Nat) (l : List SO) (i : Nat) (h : i < l.length) (hg : (l.getD i SO0).g = false) : (sst cap (l.take (i + 1))).2.1.length = (sst cap (l.take i)).2.1.length := by
  rw [sst_next h rfl]; show (if _ then _ else _ : List (List UInt8)).length = _; rw [if_neg (by rw [hg]; simp)]
/-- given.example/pub-tinwright/laws.FnSCacheLarge -/
theorem lawLarge (v : Value) (A : Hp) (l : List SO) (hr : RdS 3 v A l.length (recsV sof l)) : FnR Try.prog 4 [v] A (.bool true) := by
  refine FnR.enter (n := 106) Try.func4 rfl rfl fun w0 => ?_
  refine WC.sub (fr' := [(0, _)]) ?_ ⟨rfl, trivial⟩
  refine WC.seq ?_
  refine WC.region ?_
  refine WL.q (oq_assign rfl) rfl rfl rfl ?_
  refine WL.nil ?_
  refine WE.then_normal ?_
  refine WC.sub (fr' := [(0, _)]) ?_ ⟨rfl, trivial⟩
  refine WC.seq ?_
  refine WC.seq ?_
  refine WC.region ?_
  refine WL.q (oq_move rfl) rfl rfl rfl ?_
  refine WL.qc (oq_callRm (fits14 v A l hr) (.head _) call5 rfl) rfl rfl rfl ?_
  refine WL.q (oq_not rfl) rfl rfl rfl ?_
  refine WL.nil ?_
  refine WE.then_normal ?_
  refine WC.sub (fr' := [(0, _), (12, _)]) ?_ ⟨rfl, rfl, trivial⟩
  refine WC.cond rfl (fun q1 => ?_) (fun q1 => ?_)
  ·
    try simp only [Bool.not_eq_eq_eq_not, Bool.not_true, Bool.not_false, decide_eq_true_eq, decide_eq_false_iff_not, Int.not_lt, Int.not_le, ne_eq, Decidable.not_not, ← List.length_eq_zero_iff] at q1
    refine WC.seq ?_
    refine WC.region ?_
    refine WL.q (oq_assign rfl) rfl rfl rfl ?_
    refine WL.nil ?_
    refine WE.then_normal ?_
    refine WC.sub (fr' := [(2, _)]) ?_ ⟨rfl, trivial⟩
    refine WC.ret ?_
    refine WE.then_ret ?_
    refine WE.endR (.inl rfl) (res1 Try.results4 rfl) ?_
    -- end 0
    first | rfl | (exfalso; omega) | (exfalso; simp_all; done)
  ·
    try simp only [Bool.not_eq_eq_eq_not, Bool.not_true, Bool.not_false, decide_eq_true_eq, decide_eq_false_iff_not, Int.not_lt, Int.not_le, ne_eq, Decidable.not_not, ← List.length_eq_zero_iff] at q1
    refine WC.skip ?_
    refine WE.then_normal ?_
    refine WC.sub (fr' := [(0, _)]) ?_ ⟨rfl, trivial⟩
    refine WC.seq ?_
    refine WC.seq ?_
    refine WC.region ?_
    refine WL.q (oq_move rfl) rfl rfl rfl ?_
    refine WL.qc (oq_callRm (cached v A l hr q1 100 (by omega)) (.head _) call6 rfl) rfl rfl rfl ?_
    refine WL.q (oq_not rfl) rfl rfl rfl ?_
    refine WL.q (oq_move rfl) rfl rfl rfl ?_
    refine WL.split 16 rfl (fun s3_3 => ?_) (fun s3_3 => ?_)
    ·
      try simp only [Bool.not_eq_eq_eq_not, Bool.not_true, Bool.not_false, decide_eq_true_eq, decide_eq_false_iff_not, Int.not_lt, Int.not_le, ne_eq, Decidable.not_not, ← List.length_eq_zero_iff] at s3_3
      refine WL.skip rfl rfl rfl ?_
      refine WL.skip rfl rfl rfl ?_
      refine WL.skip rfl rfl rfl ?_
      refine WL.q (oq_pick_t rfl rfl) rfl rfl rfl ?_
      refine WL.nil ?_
      refine WE.then_normal ?_
      refine WC.sub (fr' := [(0, _), (20, _)]) ?_ ⟨rfl, rfl, trivial⟩
      refine WC.cond_t rfl ?_
      refine WC.seq ?_
      refine WC.region ?_
      refine WL.qc (oq_call (L2.eAwake) call7 rfl) rfl rfl rfl ?_
      refine WL.q (oq_assign rfl) rfl rfl rfl ?_
      refine WL.nil ?_
      refine WE.then_normal ?_
      refine WC.sub (fr' := [(2, _)]) ?_ ⟨rfl, trivial⟩
      refine WC.ret ?_
      refine WE.then_ret ?_
      refine WE.endR (.inl rfl) (res1 Try.results4 rfl) ?_
      -- end 1
      first | rfl | (exfalso; omega) | (exfalso; simp_all; done)
    ·
      try simp only [Bool.not_eq_eq_eq_not, Bool.not_true, Bool.not_false, decide_eq_true_eq, decide_eq_false_iff_not, Int.not_lt, Int.not_le, ne_eq, Decidable.not_not, ← List.length_eq_zero_iff] at s3_3
      refine WL.q (oq_move rfl) rfl rfl rfl ?_
      refine WL.q (oq_len_rd hr Try.underlying22 rfl) rfl rfl rfl ?_
      refine WL.q (oq_gtr rfl rfl) rfl rfl rfl ?_
      refine WL.q (oq_pick_f rfl rfl) rfl rfl rfl ?_
      refine WL.nil ?_
      refine WE.then_normal ?_
      refine WC.sub (fr' := [(0, _), (20, _)]) ?_ ⟨rfl, rfl, trivial⟩
      refine WC.cond rfl (fun q3 => ?_) (fun q3 => ?_)
      ·
        try simp only [Bool.not_eq_eq_eq_not, Bool.not_true, Bool.not_false, decide_eq_true_eq, decide_eq_false_iff_not, Int.not_lt, Int.not_le, ne_eq, Decidable.not_not, ← List.length_eq_zero_iff] at q3
        refine WC.seq ?_
        refine WC.region ?_
        refine WL.qc (oq_call (L2.eAwake) call7 rfl) rfl rfl rfl ?_
        refine WL.q (oq_assign rfl) rfl rfl rfl ?_
        refine WL.nil ?_
        refine WE.then_normal ?_
        refine WC.sub (fr' := [(2, _)]) ?_ ⟨rfl, trivial⟩
        refine WC.ret ?_
        refine WE.then_ret ?_
        refine WE.endR (.inl rfl) (res1 Try.results4 rfl) ?_
        -- end 2
        first | rfl | (exfalso; omega) | (exfalso; simp_all; done)
      ·
        try simp only [Bool.not_eq_eq_eq_not, Bool.not_true, Bool.not_false, decide_eq_true_eq, decide_eq_false_iff_not, Int.not_lt, Int.not_le, ne_eq, Decidable.not_not, ← List.length_eq_zero_iff] at q3
        refine WC.skip ?_
        refine WE.then_normal ?_
        refine WC.sub (fr' := [(0, _)]) ?_ ⟨rfl, trivial⟩
        refine WC.seq ?_
        have hcq : cachedS 100 l = true := by first | assumption | (simp_all; done)
        have hl1 : l.length ≤ 100 := by first | omega | (simp_all; omega)
        obtain ⟨_, hel⟩ := cached_el hcq
        have hrl := sst_len 100 (by omega) l l.length (Nat.le_refl _)
        rw [List.take_length] at hrl
        refine WC.region ?_
        refine WL.q (oq_move rfl) rfl rfl rfl ?_
        refine WL.callA (sCache v A l hr (by omega) hel 100 (by omega)) call8 rfl rfl rfl fun v5_1 N5_1 hR5_1 hN5_1 => ?_
        obtain ⟨vt, vl, T1, U1, rfl, rfl, hrt, hru⟩ := hR5_1
        have hNf := hN5_1
        have hrt3 : RdS 1 vt (T1 ++ U1) _ _ := hrt.weaken fun x hx => List.mem_append_left _ hx
        have hru3 : RdS 1 vl (T1 ++ U1) _ _ := hru.weaken fun x hx => List.mem_append_right _ hx
        refine WL.q (oq_move rfl) rfl rfl rfl ?_
        refine WL.q (oq_extract rfl rfl) rfl rfl rfl ?_
        refine WL.q (oq_extract rfl rfl) rfl rfl rfl ?_
        refine WL.q (oq_assign rfl) rfl rfl rfl ?_
        refine WL.q (oq_assign rfl) rfl rfl rfl ?_
        refine WL.nil ?_
        refine WE.then_normal ?_
        refine WC.sub (fr' := [(0, _), (3, _), (4, _)]) ?_ ⟨rfl, rfl, rfl, trivial⟩
        refine WC.seq ?_
        refine WC.region ?_
        refine WL.q (oq_assign rfl) rfl rfl rfl ?_
        refine WL.nil ?_
        refine WE.then_normal ?_
        refine WC.sub (fr' := [(0, _), (3, _), (4, _), (5, _)]) ?_ ⟨rfl, rfl, rfl, rfl, trivial⟩
        refine WC.seq ?_
        refine WC.seq ?_
        refine WC.region ?_
        refine WL.q (oq_assign rfl) rfl rfl rfl ?_
        refine WL.nil ?_
        refine WE.then_normal ?_
        refine WC.sub (fr' := [(0, _), (3, _), (4, _), (5, _), (6, _)]) ?_ ⟨rfl, rfl, rfl, rfl, rfl, trivial⟩
        refine WC.block ?_
        refine WC.loop (ι := Nat × Nat) (fun i_ => (fun (i : Nat) (m : Nat) => [(0, v), (3, vt), (4, vl), (5, I (m : Int)), (6, I (i : Int))]) i_.1 i_.2) (fun i_ => (fun (i : Nat) (m : Nat) => [(T1 ++ U1), A]) i_.1 i_.2) (fun i_ => (fun (i : Nat) (m : Nat) => i ≤ l.length ∧ m = (sst 100 (l.take i)).2.1.length) i_.1 i_.2) (fun i_ => (fun (i : Nat) (m : Nat) => l.length - i) i_.1 i_.2) ((0, 0)) ?_ ⟨rfl, rfl, rfl, rfl, rfl, trivial⟩ (List.Perm.refl _) ?_
        · try dsimp only
          exact ⟨by omega, rfl⟩
        · rintro ⟨i, m⟩ hp
          try dsimp only at hp
          obtain ⟨hi, hm⟩ := hp
          show WC _ _ _ _ _ _ ([(0, v), (3, vt), (4, vl), (5, I (m : Int)), (6, I (i : Int))]) ([(T1 ++ U1), A])
          refine WC.seq ?_
          refine WC.seq ?_
          refine WC.region ?_
          refine WL.q (oq_move rfl) rfl rfl rfl ?_
          refine WL.q (oq_move rfl) rfl rfl rfl ?_
          refine WL.q (oq_len_rd hr Try.underlying22 rfl) rfl rfl rfl ?_
          refine WL.q (oq_lss rfl rfl) rfl rfl rfl ?_
          refine WL.nil ?_
          refine WE.then_normal ?_
          refine WC.sub (fr' := [(0, _), (3, _), (4, _), (5, _), (6, _), (30, _)]) ?_ ⟨rfl, rfl, rfl, rfl, rfl, rfl, trivial⟩
          refine WC.cond rfl (fun q8 => ?_) (fun q8 => ?_)
          ·
            try simp only [Bool.not_eq_eq_eq_not, Bool.not_true, Bool.not_false, decide_eq_true_eq, decide_eq_false_iff_not, Int.not_lt, Int.not_le, ne_eq, Decidable.not_not, ← List.length_eq_zero_iff] at q8
            refine WC.skip ?_
            refine WE.then_normal ?_
            refine WC.sub (fr' := [(0, _), (3, _), (4, _), (5, _), (6, _)]) ?_ ⟨rfl, rfl, rfl, rfl, rfl, trivial⟩
            refine WC.seq ?_
            refine WC.block ?_
            refine WC.seq ?_
            refine WC.seq ?_
            refine WC.region ?_
            refine WL.q (oq_move rfl) rfl rfl rfl ?_
            refine WL.q (oq_move rfl) rfl rfl rfl ?_
            refine WL.q (oq_ixaddr hr Try.underlying22 ty31 rfl rfl (by (first | omega | (simp only [List.length_cons, List.length_nil, List.length_append, List.length_drop, List.length_take]; omega)))) rfl rfl rfl ?_
            refine WL.q (oq_fldEl fld31_0 hr rfl (by (first | omega | (simp only [List.length_cons, List.length_nil, List.length_append, List.length_drop, List.length_take]; omega)))) rfl rfl rfl ?_
            refine WL.q (oq_loadF (f := sof) SO0 (fun _ => rfl) flat4 hr (.tail _ (.head _)) rfl (by (first | omega | (simp only [List.length_cons, List.length_nil, List.length_append, List.length_drop, List.length_take]; omega))) (by first | exact Int.toNat_natCast _ | exact rfl) (by decide) rfl) rfl rfl rfl ?_
            refine WL.q (oq_not rfl) rfl rfl rfl ?_
            refine WL.nil ?_
            refine WE.then_normal ?_
            refine WC.sub (fr' := [(0, _), (3, _), (4, _), (5, _), (6, _), (38, _)]) ?_ ⟨rfl, rfl, rfl, rfl, rfl, rfl, trivial⟩
            refine WC.cond rfl (fun q10 => ?_) (fun q10 => ?_)
            ·
              try simp only [Bool.not_eq_eq_eq_not, Bool.not_true, Bool.not_false, decide_eq_true_eq, decide_eq_false_iff_not, Int.not_lt, Int.not_le, ne_eq, Decidable.not_not, ← List.length_eq_zero_iff] at q10
              refine WC.exit ?_
              refine WE.then_exit ?_
              refine WE.block_same ?_
              refine WE.then_normal ?_
              refine WC.sub (fr' := [(0, _), (3, _), (4, _), (5, _), (6, _)]) ?_ ⟨rfl, rfl, rfl, rfl, rfl, trivial⟩
              refine WC.region ?_
              refine WL.q (oq_move rfl) rfl rfl rfl ?_
              refine WL.q (oq_add rfl rfl (by rw [i64_lo, i64_hi]; (first | omega | (simp only [List.length_cons, List.length_nil, List.length_append, List.length_drop, List.length_take]; omega)))) rfl rfl rfl ?_
              refine WL.q (oq_assign rfl) rfl rfl rfl ?_
              refine WL.nil ?_
              refine WE.again (i + 1, m) ?_ ?_ ⟨rfl, rfl, rfl, rfl, rfl, trivial⟩ (List.Perm.refl _)
              · try dsimp only   -- again 0
                exact ⟨by omega, by rw [hm]; exact (sst_put 100 l i (by omega) q10).symm⟩
              · (try dsimp only); omega
            ·
              try simp only [Bool.not_eq_eq_eq_not, Bool.not_true, Bool.not_false, decide_eq_true_eq, decide_eq_false_iff_not, Int.not_lt, Int.not_le, ne_eq, Decidable.not_not, ← List.length_eq_zero_iff] at q10
              refine WC.skip ?_
              refine WE.then_normal ?_
              refine WC.sub (fr' := [(0, _), (3, _), (4, _), (5, _), (6, _)]) ?_ ⟨rfl, rfl, rfl, rfl, rfl, trivial⟩
              refine WC.seq ?_
              refine WC.region ?_
              refine WL.q (oq_assign rfl) rfl rfl rfl ?_
              refine WL.q (oq_assign rfl) rfl rfl rfl ?_
              refine WL.nil ?_
              refine WE.then_normal ?_
              refine WC.sub (fr' := [(0, _), (3, _), (4, _), (5, _), (6, _), (7, _), (8, _)]) ?_ ⟨rfl, rfl, rfl, rfl, rfl, rfl, rfl, trivial⟩
              refine WC.seq ?_
              refine WC.seq ?_
              refine WC.region ?_
              refine WL.q (oq_assign rfl) rfl rfl rfl ?_
              refine WL.nil ?_
              refine WE.then_normal ?_
              refine WC.sub (fr' := [(0, _), (3, _), (4, _), (5, _), (6, _), (7, _), (8, _), (9, _)]) ?_ ⟨rfl, rfl, rfl, rfl, rfl, rfl, rfl, rfl, trivial⟩
              refine WC.block ?_
              refine WC.loop (ι := Nat × (Option (List UInt8))) (fun i_ => (fun (j : Nat) (r : Option (List UInt8)) => [(0, v), (3, vt), (4, vl), (5, I (m : Int)), (6, I (i : Int)), (7, S (r.getD [])), (8, .bool r.isSome), (9, I (j : Int))]) i_.1 i_.2) (fun i_ => (fun (j : Nat) (r : Option (List UInt8)) => [(T1 ++ U1), A]) i_.1 i_.2) (fun i_ => (fun (j : Nat) (r : Option (List UInt8)) => j ≤ i ∧ r = lp (l.getD i SO0).k (l.take j)) i_.1 i_.2) (fun i_ => (fun (j : Nat) (r : Option (List UInt8)) => i - j) i_.1 i_.2) ((0, none)) ?_ ⟨rfl, rfl, rfl, rfl, rfl, rfl, rfl, rfl, trivial⟩ (List.Perm.refl _) ?_
              · try dsimp only
                exact ⟨by omega, rfl⟩
              · rintro ⟨j, r⟩ hp
                try dsimp only at hp
                obtain ⟨hj, hr2⟩ := hp
                show WC _ _ _ _ _ _ ([(0, v), (3, vt), (4, vl), (5, I (m : Int)), (6, I (i : Int)), (7, S (r.getD [])), (8, .bool r.isSome), (9, I (j : Int))]) ([(T1 ++ U1), A])
                refine WC.seq ?_
                refine WC.seq ?_
                refine WC.region ?_
                refine WL.q (oq_move rfl) rfl rfl rfl ?_
                refine WL.q (oq_move rfl) rfl rfl rfl ?_
                refine WL.q (oq_lss rfl rfl) rfl rfl rfl ?_
                refine WL.nil ?_
                refine WE.then_normal ?_
                refine WC.sub (fr' := [(0, _), (3, _), (4, _), (5, _), (6, _), (7, _), (8, _), (9, _), (41, _)]) ?_ ⟨rfl, rfl, rfl, rfl, rfl, rfl, rfl, rfl, rfl, trivial⟩
                refine WC.cond rfl (fun q13 => ?_) (fun q13 => ?_)
                ·
                  try simp only [Bool.not_eq_eq_eq_not, Bool.not_true, Bool.not_false, decide_eq_true_eq, decide_eq_false_iff_not, Int.not_lt, Int.not_le, ne_eq, Decidable.not_not, ← List.length_eq_zero_iff] at q13
                  refine WC.skip ?_
                  refine WE.then_normal ?_
                  refine WC.sub (fr' := [(0, _), (3, _), (4, _), (5, _), (6, _), (7, _), (8, _), (9, _)]) ?_ ⟨rfl, rfl, rfl, rfl, rfl, rfl, rfl, rfl, trivial⟩
                  refine WC.seq ?_
                  refine WC.block ?_
                  refine WC.seq ?_
                  refine WC.quiet (by kernel_rfl) (by kernel_rfl) ?_
                  refine WQ.q (oq_move rfl) rfl rfl rfl ?_
                  refine WQ.q (oq_move rfl) rfl rfl rfl ?_
                  refine WQ.q (oq_ixaddr hr Try.underlying22 ty31 rfl rfl (by (first | omega | (simp only [List.length_cons, List.length_nil, List.length_append, List.length_drop, List.length_take]; omega)))) rfl rfl rfl ?_
                  refine WQ.q (oq_fldEl fld31_0 hr rfl (by (first | omega | (simp only [List.length_cons, List.length_nil, List.length_append, List.length_drop, List.length_take]; omega)))) rfl rfl rfl ?_
                  refine WQ.q (oq_loadF (f := sof) SO0 (fun _ => rfl) flat4 hr (.tail _ (.head _)) rfl (by (first | omega | (simp only [List.length_cons, List.length_nil, List.length_append, List.length_drop, List.length_take]; omega))) (by first | exact Int.toNat_natCast _ | exact rfl) (by decide) rfl) rfl rfl rfl ?_
                  refine WQ.q (oq_not rfl) rfl rfl rfl ?_
                  refine WQ.q (oq_move rfl) rfl rfl rfl ?_
                  refine WQ.split 50 rfl (fun s15_6 => ?_) (fun s15_6 => ?_)
                  ·
                    try simp only [Bool.not_eq_eq_eq_not, Bool.not_true, Bool.not_false, decide_eq_true_eq, decide_eq_false_iff_not, Int.not_lt, Int.not_le, ne_eq, Decidable.not_not, ← List.length_eq_zero_iff] at s15_6
                    refine WQ.q (oq_move rfl) rfl rfl rfl ?_
                    refine WQ.q (oq_move rfl) rfl rfl rfl ?_
                    refine WQ.q (oq_ixaddr hr Try.underlying22 ty31 rfl rfl (by (first | omega | (simp only [List.length_cons, List.length_nil, List.length_append, List.length_drop, List.length_take]; omega)))) rfl rfl rfl ?_
                    refine WQ.q (oq_fldEl fld31_1 hr rfl (by (first | omega | (simp only [List.length_cons, List.length_nil, List.length_append, List.length_drop, List.length_take]; omega)))) rfl rfl rfl ?_
                    refine WQ.q (oq_loadF (f := sof) SO0 (fun _ => rfl) flat9 hr (.tail _ (.head _)) rfl (by (first | omega | (simp only [List.length_cons, List.length_nil, List.length_append, List.length_drop, List.length_take]; omega))) (by first | exact Int.toNat_natCast _ | exact rfl) (by decide) rfl) rfl rfl rfl ?_
                    refine WQ.q (oq_move rfl) rfl rfl rfl ?_
                    refine WQ.q (oq_move rfl) rfl rfl rfl ?_
                    refine WQ.q (oq_ixaddr hr Try.underlying22 ty31 rfl rfl (by (first | omega | (simp only [List.length_cons, List.length_nil, List.length_append, List.length_drop, List.length_take]; omega)))) rfl rfl rfl ?_
                    refine WQ.q (oq_fldEl fld31_1 hr rfl (by (first | omega | (simp only [List.length_cons, List.length_nil, List.length_append, List.length_drop, List.length_take]; omega)))) rfl rfl rfl ?_
                    refine WQ.q (oq_loadF (f := sof) SO0 (fun _ => rfl) flat9 hr (.tail _ (.head _)) rfl (by (first | omega | (simp only [List.length_cons, List.length_nil, List.length_append, List.length_drop, List.length_take]; omega))) (by first | exact Int.toNat_natCast _ | exact rfl) (by decide) rfl) rfl rfl rfl ?_
                    refine WQ.q (oq_seql rfl rfl) rfl rfl rfl ?_
                    refine WQ.q (oq_pick_t rfl rfl) rfl rfl rfl ?_
                    refine WQ.nil ?_
                    refine WE.then_normal ?_
                    refine WC.sub (fr' := [(0, _), (3, _), (4, _), (5, _), (6, _), (7, _), (8, _), (9, _), (62, _)]) ?_ ⟨rfl, rfl, rfl, rfl, rfl, rfl, rfl, rfl, rfl, trivial⟩
                    refine WC.cond rfl (fun q15 => ?_) (fun q15 => ?_)
                    ·
                      try simp only [Bool.not_eq_eq_eq_not, Bool.not_true, Bool.not_false, decide_eq_true_eq, decide_eq_false_iff_not, Int.not_lt, Int.not_le, ne_eq, Decidable.not_not, ← List.length_eq_zero_iff] at q15
                      refine WC.region ?_
                      refine WL.q (oq_move rfl) rfl rfl rfl ?_
                      refine WL.q (oq_move rfl) rfl rfl rfl ?_
                      refine WL.q (oq_ixaddr hr Try.underlying22 ty31 rfl rfl (by (first | omega | (simp only [List.length_cons, List.length_nil, List.length_append, List.length_drop, List.length_take]; omega)))) rfl rfl rfl ?_
                      refine WL.q (oq_fldEl fld31_2 hr rfl (by (first | omega | (simp only [List.length_cons, List.length_nil, List.length_append, List.length_drop, List.length_take]; omega)))) rfl rfl rfl ?_
                      refine WL.q (oq_loadF (f := sof) SO0 (fun _ => rfl) flat9 hr (.tail _ (.head _)) rfl (by (first | omega | (simp only [List.length_cons, List.length_nil, List.length_append, List.length_drop, List.length_take]; omega))) (by first | exact Int.toNat_natCast _ | exact rfl) (by decide) rfl) rfl rfl rfl ?_
                      refine WL.q (oq_assign rfl) rfl rfl rfl ?_
                      refine WL.q (oq_assign rfl) rfl rfl rfl ?_
                      refine WL.nil ?_
                      refine WE.block_normal ?_
                      refine WE.then_normal ?_
                      refine WC.sub (fr' := [(0, _), (3, _), (4, _), (5, _), (6, _), (7, _), (8, _), (9, _)]) ?_ ⟨rfl, rfl, rfl, rfl, rfl, rfl, rfl, rfl, trivial⟩
                      refine WC.region ?_
                      refine WL.q (oq_move rfl) rfl rfl rfl ?_
                      refine WL.q (oq_add rfl rfl (by rw [i64_lo, i64_hi]; (first | omega | (simp only [List.length_cons, List.length_nil, List.length_append, List.length_drop, List.length_take]; omega)))) rfl rfl rfl ?_
                      refine WL.q (oq_assign rfl) rfl rfl rfl ?_
                      refine WL.nil ?_
                      refine WE.again (j + 1, some (l.getD j SO0).v) ?_ ?_ ⟨rfl, rfl, rfl, rfl, rfl, rfl, rfl, rfl, trivial⟩ (List.Perm.refl _)
                      · try dsimp only   -- again 0
                        exact ⟨by omega, by rw [lp_next (by omega), if_pos (by first | exact ⟨by assumption, by assumption⟩ | (simp_all; done))]⟩
                      · (try dsimp only); omega
                    ·
                      try simp only [Bool.not_eq_eq_eq_not, Bool.not_true, Bool.not_false, decide_eq_true_eq, decide_eq_false_iff_not, Int.not_lt, Int.not_le, ne_eq, Decidable.not_not, ← List.length_eq_zero_iff] at q15
                      refine WC.skip ?_
                      refine WE.block_normal ?_
                      refine WE.then_normal ?_
                      refine WC.sub (fr' := [(0, _), (3, _), (4, _), (5, _), (6, _), (7, _), (8, _), (9, _)]) ?_ ⟨rfl, rfl, rfl, rfl, rfl, rfl, rfl, rfl, trivial⟩
                      refine WC.region ?_
                      refine WL.q (oq_move rfl) rfl rfl rfl ?_
                      refine WL.q (oq_add rfl rfl (by rw [i64_lo, i64_hi]; (first | omega | (simp only [List.length_cons, List.length_nil, List.length_append, List.length_drop, List.length_take]; omega)))) rfl rfl rfl ?_
                      refine WL.q (oq_assign rfl) rfl rfl rfl ?_
                      refine WL.nil ?_
                      refine WE.again (j + 1, r) ?_ ?_ ⟨rfl, rfl, rfl, rfl, rfl, rfl, rfl, rfl, trivial⟩ (List.Perm.refl _)
                      · try dsimp only   -- again 1
                        exact ⟨by omega, by rw [lp_next (by omega), if_neg (by first | (rintro ⟨x1, x2⟩; simp_all; done) | (simp_all; done))]; exact hr2⟩
                      · (try dsimp only); omega
                  ·
                    try simp only [Bool.not_eq_eq_eq_not, Bool.not_true, Bool.not_false, decide_eq_true_eq, decide_eq_false_iff_not, Int.not_lt, Int.not_le, ne_eq, Decidable.not_not, ← List.length_eq_zero_iff] at s15_6
                    refine WQ.skip rfl rfl rfl ?_
                    refine WQ.skip rfl rfl rfl ?_
                    refine WQ.skip rfl rfl rfl ?_
                    refine WQ.skip rfl rfl rfl ?_
                    refine WQ.skip rfl rfl rfl ?_
                    refine WQ.skip rfl rfl rfl ?_
                    refine WQ.skip rfl rfl rfl ?_
                    refine WQ.skip rfl rfl rfl ?_
                    refine WQ.skip rfl rfl rfl ?_
                    refine WQ.skip rfl rfl rfl ?_
                    refine WQ.skip rfl rfl rfl ?_
                    refine WQ.q (oq_pick_f rfl rfl) rfl rfl rfl ?_
                    refine WQ.nil ?_
                    refine WE.then_normal ?_
                    refine WC.sub (fr' := [(0, _), (3, _), (4, _), (5, _), (6, _), (7, _), (8, _), (9, _), (62, _)]) ?_ ⟨rfl, rfl, rfl, rfl, rfl, rfl, rfl, rfl, rfl, trivial⟩
                    refine WC.cond_f rfl ?_
                    refine WC.skip ?_
                    refine WE.block_normal ?_
                    refine WE.then_normal ?_
                    refine WC.sub (fr' := [(0, _), (3, _), (4, _), (5, _), (6, _), (7, _), (8, _), (9, _)]) ?_ ⟨rfl, rfl, rfl, rfl, rfl, rfl, rfl, rfl, trivial⟩
                    refine WC.region ?_
                    refine WL.q (oq_move rfl) rfl rfl rfl ?_
                    refine WL.q (oq_add rfl rfl (by rw [i64_lo, i64_hi]; (first | omega | (simp only [List.length_cons, List.length_nil, List.length_append, List.length_drop, List.length_take]; omega)))) rfl rfl rfl ?_
                    refine WL.q (oq_assign rfl) rfl rfl rfl ?_
                    refine WL.nil ?_
                    refine WE.again (j + 1, r) ?_ ?_ ⟨rfl, rfl, rfl, rfl, rfl, rfl, rfl, rfl, trivial⟩ (List.Perm.refl _)
                    · try dsimp only   -- again 2
                      exact ⟨by omega, by rw [lp_next (by omega), if_neg (by first | (rintro ⟨x1, x2⟩; simp_all; done) | (simp_all; done))]; exact hr2⟩
                    · (try dsimp only); omega
                ·
                  try simp only [Bool.not_eq_eq_eq_not, Bool.not_true, Bool.not_false, decide_eq_true_eq, decide_eq_false_iff_not, Int.not_lt, Int.not_le, ne_eq, Decidable.not_not, ← List.length_eq_zero_iff] at q13
                  refine WC.exit ?_
                  refine WE.then_exit ?_
                  refine WE.then_exit ?_
                  refine WE.block_same ?_
                  refine WE.then_normal ?_
                  refine WC.sub (fr' := [(0, _), (3, _), (4, _), (5, _), (6, _), (7, _), (8, _)]) ?_ ⟨rfl, rfl, rfl, rfl, rfl, rfl, rfl, trivial⟩
                  refine WC.seq ?_
                  refine WC.seq ?_
                  obtain rfl : i = j := by omega
                  obtain ⟨ha1, ha2, ha3, ha4⟩ := sst_ans 100 l hl1 (by omega) i (by omega) q10
                  rw [← hm] at ha1 ha2 ha3
                  refine WC.region ?_
                  refine WL.q (oq_move rfl) rfl rfl rfl ?_
                  refine WL.q (oq_move rfl) rfl rfl rfl ?_
                  refine WL.q (oq_len_rd hrt3 Try.underlying26 rfl) rfl rfl rfl ?_
                  refine WL.q (oq_geq rfl rfl) rfl rfl rfl ?_
                  refine WL.q (oq_move rfl) rfl rfl rfl ?_
                  refine WL.split 72 rfl (fun s17_4 => ?_) (fun s17_4 => ?_)
                  ·
                    try simp only [Bool.not_eq_eq_eq_not, Bool.not_true, Bool.not_false, decide_eq_true_eq, decide_eq_false_iff_not, Int.not_lt, Int.not_le, ne_eq, Decidable.not_not, ← List.length_eq_zero_iff] at s17_4
                    refine WL.skip rfl rfl rfl ?_
                    refine WL.skip rfl rfl rfl ?_
                    refine WL.skip rfl rfl rfl ?_
                    refine WL.skip rfl rfl rfl ?_
                    refine WL.q (oq_pick_t rfl rfl) rfl rfl rfl ?_
                    refine WL.q (oq_move rfl) rfl rfl rfl ?_
                    refine WL.skip rfl rfl rfl ?_
                    refine WL.skip rfl rfl rfl ?_
                    refine WL.skip rfl rfl rfl ?_
                    refine WL.skip rfl rfl rfl ?_
                    refine WL.skip rfl rfl rfl ?_
                    refine WL.skip rfl rfl rfl ?_
                    refine WL.q (oq_pick_t rfl rfl) rfl rfl rfl ?_
                    refine WL.q (oq_move rfl) rfl rfl rfl ?_
                    refine WL.skip rfl rfl rfl ?_
                    refine WL.skip rfl rfl rfl ?_
                    refine WL.skip rfl rfl rfl ?_
                    refine WL.skip rfl rfl rfl ?_
                    refine WL.skip rfl rfl rfl ?_
                    refine WL.skip rfl rfl rfl ?_
                    refine WL.skip rfl rfl rfl ?_
                    refine WL.skip rfl rfl rfl ?_
                    refine WL.skip rfl rfl rfl ?_
                    refine WL.q (oq_pick_t rfl rfl) rfl rfl rfl ?_
                    refine WL.nil ?_
                    refine WE.then_normal ?_
                    refine WC.sub (fr' := [(0, _), (3, _), (4, _), (5, _), (6, _), (96, _)]) ?_ ⟨rfl, rfl, rfl, rfl, rfl, rfl, trivial⟩
                    refine WC.cond_t rfl ?_
                    refine WC.seq ?_
                    refine WC.region ?_
                    refine WL.q (oq_assign rfl) rfl rfl rfl ?_
                    refine WL.nil ?_
                    refine WE.then_normal ?_
                    refine WC.sub (fr' := [(2, _)]) ?_ ⟨rfl, trivial⟩
                    refine WC.ret ?_
                    refine WE.then_ret ?_
                    refine WE.block_ret ?_
                    refine WE.then_ret ?_
                    refine WE.then_ret ?_
                    refine WE.block_ret ?_
                    refine WE.then_ret ?_
                    refine WE.forget hNf ?_
                    refine WE.endR (.inl rfl) (res1 Try.results4 rfl) ?_
                    -- end 3
                    first | rfl | (exfalso; omega) | (exfalso; simp_all; done)
                  ·
                    try simp only [Bool.not_eq_eq_eq_not, Bool.not_true, Bool.not_false, decide_eq_true_eq, decide_eq_false_iff_not, Int.not_lt, Int.not_le, ne_eq, Decidable.not_not, ← List.length_eq_zero_iff] at s17_4
                    refine WL.q (oq_move rfl) rfl rfl rfl ?_
                    refine WL.q (oq_move rfl) rfl rfl rfl ?_
                    refine WL.q (oq_len_rd hru3 Try.underlying27 rfl) rfl rfl rfl ?_
                    refine WL.q (oq_geq rfl rfl) rfl rfl rfl ?_
                    refine WL.q (oq_pick_f rfl rfl) rfl rfl rfl ?_
                    refine WL.q (oq_move rfl) rfl rfl rfl ?_
                    refine WL.split 78 rfl (fun s17_10 => ?_) (fun s17_10 => ?_)
                    ·
                      try simp only [Bool.not_eq_eq_eq_not, Bool.not_true, Bool.not_false, decide_eq_true_eq, decide_eq_false_iff_not, Int.not_lt, Int.not_le, ne_eq, Decidable.not_not, ← List.length_eq_zero_iff] at s17_10
                      refine WL.skip rfl rfl rfl ?_
                      refine WL.skip rfl rfl rfl ?_
                      refine WL.skip rfl rfl rfl ?_
                      refine WL.skip rfl rfl rfl ?_
                      refine WL.skip rfl rfl rfl ?_
                      refine WL.skip rfl rfl rfl ?_
                      refine WL.q (oq_pick_t rfl rfl) rfl rfl rfl ?_
                      refine WL.q (oq_move rfl) rfl rfl rfl ?_
                      refine WL.skip rfl rfl rfl ?_
                      refine WL.skip rfl rfl rfl ?_
                      refine WL.skip rfl rfl rfl ?_
                      refine WL.skip rfl rfl rfl ?_
                      refine WL.skip rfl rfl rfl ?_
                      refine WL.skip rfl rfl rfl ?_
                      refine WL.skip rfl rfl rfl ?_
                      refine WL.skip rfl rfl rfl ?_
                      refine WL.skip rfl rfl rfl ?_
                      refine WL.q (oq_pick_t rfl rfl) rfl rfl rfl ?_
                      refine WL.nil ?_
                      refine WE.then_normal ?_
                      refine WC.sub (fr' := [(0, _), (3, _), (4, _), (5, _), (6, _), (96, _)]) ?_ ⟨rfl, rfl, rfl, rfl, rfl, rfl, trivial⟩
                      refine WC.cond_t rfl ?_
                      refine WC.seq ?_
                      refine WC.region ?_
                      refine WL.q (oq_assign rfl) rfl rfl rfl ?_
                      refine WL.nil ?_
                      refine WE.then_normal ?_
                      refine WC.sub (fr' := [(2, _)]) ?_ ⟨rfl, trivial⟩
                      refine WC.ret ?_
                      refine WE.then_ret ?_
                      refine WE.block_ret ?_
                      refine WE.then_ret ?_
                      refine WE.then_ret ?_
                      refine WE.block_ret ?_
                      refine WE.then_ret ?_
                      refine WE.forget hNf ?_
                      refine WE.endR (.inl rfl) (res1 Try.results4 rfl) ?_
                      -- end 4
                      first | rfl | (exfalso; omega) | (exfalso; simp_all; done)
                    ·
                      try simp only [Bool.not_eq_eq_eq_not, Bool.not_true, Bool.not_false, decide_eq_true_eq, decide_eq_false_iff_not, Int.not_lt, Int.not_le, ne_eq, Decidable.not_not, ← List.length_eq_zero_iff] at s17_10
                      refine WL.q (oq_move rfl) rfl rfl rfl ?_
                      refine WL.q (oq_move rfl) rfl rfl rfl ?_
                      refine WL.q (oq_ixaddr hru3 Try.underlying27 ty4 rfl rfl (by (first | omega | (simp only [List.length_cons, List.length_nil, List.length_append, List.length_drop, List.length_take]; omega)))) rfl rfl rfl ?_
                      refine WL.q (oq_load_bool hru3 (.head _) flat4 rfl (by (first | omega | (simp only [List.length_cons, List.length_nil, List.length_append, List.length_drop, List.length_take]; omega))) (by first | exact Int.toNat_natCast _ | exact rfl)) rfl rfl rfl ?_
                      refine WL.q (oq_move rfl) rfl rfl rfl ?_
                      refine WL.q (oq_bneq Try.underlying4 rfl rfl) rfl rfl rfl ?_
                      refine WL.q (oq_pick_f rfl rfl) rfl rfl rfl ?_
                      refine WL.q (oq_move rfl) rfl rfl rfl ?_
                      refine WL.split 86 rfl (fun s17_18 => ?_) (fun s17_18 => ?_)
                      ·
                        try simp only [Bool.not_eq_eq_eq_not, Bool.not_true, Bool.not_false, decide_eq_true_eq, decide_eq_false_iff_not, Int.not_lt, Int.not_le, ne_eq, Decidable.not_not, ← List.length_eq_zero_iff] at s17_18
                        refine WL.skip rfl rfl rfl ?_
                        refine WL.skip rfl rfl rfl ?_
                        refine WL.skip rfl rfl rfl ?_
                        refine WL.skip rfl rfl rfl ?_
                        refine WL.skip rfl rfl rfl ?_
                        refine WL.skip rfl rfl rfl ?_
                        refine WL.skip rfl rfl rfl ?_
                        refine WL.skip rfl rfl rfl ?_
                        refine WL.skip rfl rfl rfl ?_
                        refine WL.q (oq_pick_t rfl rfl) rfl rfl rfl ?_
                        refine WL.nil ?_
                        refine WE.then_normal ?_
                        refine WC.sub (fr' := [(0, _), (3, _), (4, _), (5, _), (6, _), (96, _)]) ?_ ⟨rfl, rfl, rfl, rfl, rfl, rfl, trivial⟩
                        refine WC.cond_t rfl ?_
                        refine WC.seq ?_
                        refine WC.region ?_
                        refine WL.q (oq_assign rfl) rfl rfl rfl ?_
                        refine WL.nil ?_
                        refine WE.then_normal ?_
                        refine WC.sub (fr' := [(2, _)]) ?_ ⟨rfl, trivial⟩
                        refine WC.ret ?_
                        refine WE.then_ret ?_
                        refine WE.block_ret ?_
                        refine WE.then_ret ?_
                        refine WE.then_ret ?_
                        refine WE.block_ret ?_
                        refine WE.then_ret ?_
                        refine WE.forget hNf ?_
                        refine WE.endR (.inl rfl) (res1 Try.results4 rfl) ?_
                        -- end 5
                        first | rfl | (exfalso; omega) | (exfalso; simp_all; done)
                      ·
                        try simp only [Bool.not_eq_eq_eq_not, Bool.not_true, Bool.not_false, decide_eq_true_eq, decide_eq_false_iff_not, Int.not_lt, Int.not_le, ne_eq, Decidable.not_not, ← List.length_eq_zero_iff] at s17_18
                        refine WL.q (oq_move rfl) rfl rfl rfl ?_
                        refine WL.q (oq_move rfl) rfl rfl rfl ?_
                        refine WL.split 88 rfl (fun s17_20 => ?_) (fun s17_20 => ?_)
                        ·
                          try simp only [Bool.not_eq_eq_eq_not, Bool.not_true, Bool.not_false, decide_eq_true_eq, decide_eq_false_iff_not, Int.not_lt, Int.not_le, ne_eq, Decidable.not_not, ← List.length_eq_zero_iff] at s17_20
                          refine WL.q (oq_move rfl) rfl rfl rfl ?_
                          refine WL.q (oq_move rfl) rfl rfl rfl ?_
                          refine WL.q (oq_ixaddr hrt3 Try.underlying26 ty9 rfl rfl (by (first | omega | (simp only [List.length_cons, List.length_nil, List.length_append, List.length_drop, List.length_take]; omega)))) rfl rfl rfl ?_
                          refine WL.q (oq_load_str hrt3 (.head _) flat9 rfl (by (first | omega | (simp only [List.length_cons, List.length_nil, List.length_append, List.length_drop, List.length_take]; omega))) (by first | exact Int.toNat_natCast _ | exact rfl)) rfl rfl rfl ?_
                          refine WL.q (oq_move rfl) rfl rfl rfl ?_
                          refine WL.q (oq_sneq rfl rfl) rfl rfl rfl ?_
                          refine WL.q (oq_pick_t rfl rfl) rfl rfl rfl ?_
                          refine WL.q (oq_pick_f rfl rfl) rfl rfl rfl ?_
                          refine WL.nil ?_
                          refine WE.then_normal ?_
                          refine WC.sub (fr' := [(0, _), (3, _), (4, _), (5, _), (6, _), (96, _)]) ?_ ⟨rfl, rfl, rfl, rfl, rfl, rfl, trivial⟩
                          refine WC.cond rfl (fun q17 => ?_) (fun q17 => ?_)
                          ·
                            try simp only [Bool.not_eq_eq_eq_not, Bool.not_true, Bool.not_false, decide_eq_true_eq, decide_eq_false_iff_not, Int.not_lt, Int.not_le, ne_eq, Decidable.not_not, ← List.length_eq_zero_iff] at q17
                            refine WC.seq ?_
                            refine WC.region ?_
                            refine WL.q (oq_assign rfl) rfl rfl rfl ?_
                            refine WL.nil ?_
                            refine WE.then_normal ?_
                            refine WC.sub (fr' := [(2, _)]) ?_ ⟨rfl, trivial⟩
                            refine WC.ret ?_
                            refine WE.then_ret ?_
                            refine WE.block_ret ?_
                            refine WE.then_ret ?_
                            refine WE.then_ret ?_
                            refine WE.block_ret ?_
                            refine WE.then_ret ?_
                            refine WE.forget hNf ?_
                            refine WE.endR (.inl rfl) (res1 Try.results4 rfl) ?_
                            -- end 6
                            first | rfl | (exfalso; omega) | (exfalso; simp_all; done)
                          ·
                            try simp only [Bool.not_eq_eq_eq_not, Bool.not_true, Bool.not_false, decide_eq_true_eq, decide_eq_false_iff_not, Int.not_lt, Int.not_le, ne_eq, Decidable.not_not, ← List.length_eq_zero_iff] at q17
                            refine WC.skip ?_
                            refine WE.then_normal ?_
                            refine WC.sub (fr' := [(0, _), (3, _), (4, _), (5, _), (6, _)]) ?_ ⟨rfl, rfl, rfl, rfl, rfl, trivial⟩
                            refine WC.region ?_
                            refine WL.q (oq_move rfl) rfl rfl rfl ?_
                            refine WL.q (oq_add rfl rfl (by rw [i64_lo, i64_hi]; (first | omega | (simp only [List.length_cons, List.length_nil, List.length_append, List.length_drop, List.length_take]; omega)))) rfl rfl rfl ?_
                            refine WL.q (oq_assign rfl) rfl rfl rfl ?_
                            refine WL.nil ?_
                            refine WE.block_normal ?_
                            refine WE.then_normal ?_
                            refine WC.sub (fr' := [(0, _), (3, _), (4, _), (5, _), (6, _)]) ?_ ⟨rfl, rfl, rfl, rfl, rfl, trivial⟩
                            refine WC.region ?_
                            refine WL.q (oq_move rfl) rfl rfl rfl ?_
                            refine WL.q (oq_add rfl rfl (by rw [i64_lo, i64_hi]; (first | omega | (simp only [List.length_cons, List.length_nil, List.length_append, List.length_drop, List.length_take]; omega)))) rfl rfl rfl ?_
                            refine WL.q (oq_assign rfl) rfl rfl rfl ?_
                            refine WL.nil ?_
                            refine WE.again (i + 1, m + 1) ?_ ?_ ⟨rfl, rfl, rfl, rfl, rfl, trivial⟩ (List.Perm.refl _)
                            · try dsimp only   -- again 1
                              exact ⟨by omega, by rw [ha4, hm]⟩
                            · (try dsimp only); omega
                        ·
                          try simp only [Bool.not_eq_eq_eq_not, Bool.not_true, Bool.not_false, decide_eq_true_eq, decide_eq_false_iff_not, Int.not_lt, Int.not_le, ne_eq, Decidable.not_not, ← List.length_eq_zero_iff] at s17_20
                          refine WL.skip rfl rfl rfl ?_
                          refine WL.skip rfl rfl rfl ?_
                          refine WL.skip rfl rfl rfl ?_
                          refine WL.skip rfl rfl rfl ?_
                          refine WL.skip rfl rfl rfl ?_
                          refine WL.skip rfl rfl rfl ?_
                          refine WL.q (oq_pick_f rfl rfl) rfl rfl rfl ?_
                          refine WL.q (oq_pick_f rfl rfl) rfl rfl rfl ?_
                          refine WL.nil ?_
                          refine WE.then_normal ?_
                          refine WC.sub (fr' := [(0, _), (3, _), (4, _), (5, _), (6, _), (96, _)]) ?_ ⟨rfl, rfl, rfl, rfl, rfl, rfl, trivial⟩
                          refine WC.cond_f rfl ?_
                          refine WC.skip ?_
                          refine WE.then_normal ?_
                          refine WC.sub (fr' := [(0, _), (3, _), (4, _), (5, _), (6, _)]) ?_ ⟨rfl, rfl, rfl, rfl, rfl, trivial⟩
                          refine WC.region ?_
                          refine WL.q (oq_move rfl) rfl rfl rfl ?_
                          refine WL.q (oq_add rfl rfl (by rw [i64_lo, i64_hi]; (first | omega | (simp only [List.length_cons, List.length_nil, List.length_append, List.length_drop, List.length_take]; omega)))) rfl rfl rfl ?_
                          refine WL.q (oq_assign rfl) rfl rfl rfl ?_
                          refine WL.nil ?_
                          refine WE.block_normal ?_
                          refine WE.then_normal ?_
                          refine WC.sub (fr' := [(0, _), (3, _), (4, _), (5, _), (6, _)]) ?_ ⟨rfl, rfl, rfl, rfl, rfl, trivial⟩
                          refine WC.region ?_
                          refine WL.q (oq_move rfl) rfl rfl rfl ?_
                          refine WL.q (oq_add rfl rfl (by rw [i64_lo, i64_hi]; (first | omega | (simp only [List.length_cons, List.length_nil, List.length_append, List.length_drop, List.length_take]; omega)))) rfl rfl rfl ?_
                          refine WL.q (oq_assign rfl) rfl rfl rfl ?_
                          refine WL.nil ?_
                          refine WE.again (i + 1, m + 1) ?_ ?_ ⟨rfl, rfl, rfl, rfl, rfl, trivial⟩ (List.Perm.refl _)
                          · try dsimp only   -- again 2
                            exact ⟨by omega, by rw [ha4, hm]⟩
                          · (try dsimp only); omega
          ·
            try simp only [Bool.not_eq_eq_eq_not, Bool.not_true, Bool.not_false, decide_eq_true_eq, decide_eq_false_iff_not, Int.not_lt, Int.not_le, ne_eq, Decidable.not_not, ← List.length_eq_zero_iff] at q8
            refine WC.exit ?_
            refine WE.then_exit ?_
            refine WE.then_exit ?_
            refine WE.block_same ?_
            refine WE.then_normal ?_
            refine WC.sub (fr' := [(3, _), (5, _)]) ?_ ⟨rfl, rfl, trivial⟩
            refine WC.seq ?_
            have hi2 : i = l.length := by omega
            rw [hi2, List.take_length] at hm
            refine WC.region ?_
            refine WL.q (oq_move rfl) rfl rfl rfl ?_
            refine WL.q (oq_move rfl) rfl rfl rfl ?_
            refine WL.q (oq_len_rd hrt3 Try.underlying26 rfl) rfl rfl rfl ?_
            refine WL.q (oq_eql rfl rfl) rfl rfl rfl ?_
            refine WL.q (oq_move rfl) rfl rfl rfl ?_
            refine WL.split 103 rfl (fun s20_4 => ?_) (fun s20_4 => ?_)
            ·
              try simp only [Bool.not_eq_eq_eq_not, Bool.not_true, Bool.not_false, decide_eq_true_eq, decide_eq_false_iff_not, Int.not_lt, Int.not_le, ne_eq, Decidable.not_not, ← List.length_eq_zero_iff] at s20_4
              refine WL.qc (oq_call (L2.eAwake) call7 rfl) rfl rfl rfl ?_
              refine WL.q (oq_pick_t rfl rfl) rfl rfl rfl ?_
              refine WL.q (oq_assign rfl) rfl rfl rfl ?_
              refine WL.nil ?_
              refine WE.then_normal ?_
              refine WC.sub (fr' := [(2, _)]) ?_ ⟨rfl, trivial⟩
              refine WC.ret ?_
              refine WE.forget hNf ?_
              refine WE.endR (.inl rfl) (res1 Try.results4 rfl) ?_
              -- end 7
              first | rfl | (exfalso; omega) | (exfalso; simp_all; done)
            ·
              try simp only [Bool.not_eq_eq_eq_not, Bool.not_true, Bool.not_false, decide_eq_true_eq, decide_eq_false_iff_not, Int.not_lt, Int.not_le, ne_eq, Decidable.not_not, ← List.length_eq_zero_iff] at s20_4
              refine WL.skip rfl rfl rfl ?_
              refine WL.q (oq_pick_f rfl rfl) rfl rfl rfl ?_
              refine WL.q (oq_assign rfl) rfl rfl rfl ?_
              refine WL.nil ?_
              refine WE.then_normal ?_
              refine WC.sub (fr' := [(2, _)]) ?_ ⟨rfl, trivial⟩
              refine WC.ret ?_
              refine WE.forget hNf ?_
              refine WE.endR (.inl rfl) (res1 Try.results4 rfl) ?_
              -- end 8
              first | rfl | (exfalso; omega) | (exfalso; simp_all; done)

end Q6
end Go.Proofs.Ytjmlifpngnbomaa
