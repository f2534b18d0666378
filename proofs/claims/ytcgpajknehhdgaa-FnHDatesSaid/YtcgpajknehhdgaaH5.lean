/- Walks of the reading of dates out of lists in headers. -/
import Derived.Test.YtcgpajknehhdgaaH4
import Derived.Test.YtcgpajknehhdgaaL2
namespace Go.Proofs.Ytcgpajknehhdgaa
open Go Go.RowKit V L2 L1 H0 H1 H2 H3 H4
set_option linter.unusedSimpArgs false
set_option linter.unusedVariables false
set_option maxRecDepth 10000
namespace H5
theorem call19 : Callable Try.prog 19 := ⟨_, Try.func19, rfl, by kernel_rfl⟩
theorem call25 : Callable Try.prog 25 := ⟨_, Try.func25, rfl, by kernel_rfl⟩
theorem call26 : Callable Try.prog 26 := ⟨_, Try.func26, rfl, by kernel_rfl⟩
theorem flat9 : Flat Try.prog 9 := ⟨_, Try.underlying9, by simp⟩
theorem ty9 : Ty Try.prog 9 (S []) 1 16 := ty_of (by kernel_rfl)

theorem gathered_some {ls : List (List UInt8)} (h : allRight ls = true) : gathered ls = some (allDates ls) := if_pos h
theorem gathered_none {ls : List (List UInt8)} (h : allRight ls = false) : gathered ls = none := if_neg (by rw [h]; simp)
theorem gathered_is (ls : List (List UInt8)) : (gathered ls).isSome = allRight ls := by
  unfold gathered; cases allRight ls <;> rfl
theorem bytes_asc (s : List UInt8) (i : Nat) (h : ∀ j, j < i → byteAt s j < 128) (hi : s.length ≤ i) : Asc s := fun j hj => h j (by omega)
/-- given.example/pub-tinwright/pub/smithy/transport/http.splitHeaderListValues -/
theorem splitAll (v : Value) (A : Hp) (ls : List (List UInt8)) (hr : RdS 1 v A ls.length (strsV ls)) (hn : ls.length ≤ 20) (hall : ∀ k, k < ls.length → (ls.getD k []).length ≤ 500 ∧ Asc (ls.getD k [])) : FnA Try.prog 25 [v, .func (.func 26) #[] #[]] A (DRes (gathered ls)) := by
  refine FnA.enter (n := 35) Try.func25 rfl rfl fun w0 => ?_
  refine WC.sub (fr' := [(0, _), (1, _)]) ?_ ⟨rfl, rfl, trivial⟩
  refine WC.seq ?_
  refine WC.region ?_
  refine WL.q (oq_assign rfl) rfl rfl rfl ?_
  refine WL.q (oq_assign rfl) rfl rfl rfl ?_
  refine WL.nil ?_
  refine WE.then_normal ?_
  refine WC.sub (fr' := [(0, _), (1, _)]) ?_ ⟨rfl, rfl, trivial⟩
  refine WC.seq ?_
  refine WC.region ?_
  refine WL.q (oq_move rfl) rfl rfl rfl ?_
  refine WL.q (oq_len_rd hr Try.underlying22 rfl) rfl rfl rfl ?_
  refine WL.make0 Try.underlying22 ty9 rfl rfl (by omega) (by unfold maxLen; omega) rfl rfl fun v1_2 A1_2 ho1_2 hne1_2 => ?_
  refine WL.q (oq_assign rfl) rfl rfl rfl ?_
  refine WL.nil ?_
  refine WE.then_normal ?_
  refine WC.sub (fr' := [(0, _), (1, _), (6, _)]) ?_ ⟨rfl, rfl, rfl, trivial⟩
  refine WC.seq ?_
  refine WC.seq ?_
  refine WC.region ?_
  refine WL.q (oq_assign rfl) rfl rfl rfl ?_
  refine WL.nil ?_
  refine WE.then_normal ?_
  refine WC.sub (fr' := [(0, _), (1, _), (6, _), (7, _)]) ?_ ⟨rfl, rfl, rfl, rfl, trivial⟩
  refine WC.block ?_
  refine WC.f1 ?_
  refine WC.loop (ι := Nat × Value × Hp × (List (List UInt8))) (fun i_ => (fun (i : Nat) (vo : Value) (B : Hp) (acc : List (List UInt8)) => [(0, v), (1, .func (.func 26) #[] #[]), (6, vo), (7, I (i : Int))]) i_.1 i_.2.1 i_.2.2.1 i_.2.2.2) (fun i_ => (fun (i : Nat) (vo : Value) (B : Hp) (acc : List (List UInt8)) => [A, B]) i_.1 i_.2.1 i_.2.2.1 i_.2.2.2) (fun i_ => (fun (i : Nat) (vo : Value) (B : Hp) (acc : List (List UInt8)) => i ≤ ls.length ∧ acc.length ≤ i * 501 ∧ OwS w0.heap.size 9 1 vo B acc.length (strsV acc) ∧ acc ++ allDates (ls.drop i) = allDates ls ∧ allRight (ls.drop i) = allRight ls) i_.1 i_.2.1 i_.2.2.1 i_.2.2.2) (fun i_ => (fun (i : Nat) (vo : Value) (B : Hp) (acc : List (List UInt8)) => ls.length - i) i_.1 i_.2.1 i_.2.2.1 i_.2.2.2) ((0, _, _, [])) ?_ ⟨rfl, rfl, rfl, rfl, trivial⟩ (List.Perm.refl _) ?_
  · try dsimp only
    exact ⟨by omega, by simp, ho1_2, by simp, by simp⟩
  · rintro ⟨i, vo, B, acc⟩ hp
    try dsimp only at hp
    obtain ⟨hi, hc, ho, ht, hri⟩ := hp
    show WC _ _ _ _ _ _ ([(0, v), (1, .func (.func 26) #[] #[]), (6, vo), (7, I (i : Int))]) ([A, B])
    refine WC.seq ?_
    refine WC.seq ?_
    refine WC.region ?_
    refine WL.q (oq_move rfl) rfl rfl rfl ?_
    refine WL.q (oq_move rfl) rfl rfl rfl ?_
    refine WL.q (oq_len_rd hr Try.underlying22 rfl) rfl rfl rfl ?_
    refine WL.q (oq_lss rfl rfl) rfl rfl rfl ?_
    refine WL.nil ?_
    refine WE.then_normal ?_
    refine WC.sub (fr' := [(0, _), (1, _), (6, _), (7, _), (16, _)]) ?_ ⟨rfl, rfl, rfl, rfl, rfl, trivial⟩
    refine WC.cond rfl (fun q3 => ?_) (fun q3 => ?_)
    ·
      try simp only [Bool.not_eq_eq_eq_not, Bool.not_true, Bool.not_false, decide_eq_true_eq, decide_eq_false_iff_not, Int.not_lt, Int.not_le, ne_eq, Decidable.not_not, ← List.length_eq_zero_iff] at q3
      refine WC.skip ?_
      refine WE.then_normal ?_
      refine WC.sub (fr' := [(0, _), (1, _), (6, _), (7, _)]) ?_ ⟨rfl, rfl, rfl, rfl, trivial⟩
      refine WC.seq ?_
      refine WC.block ?_
      refine WC.seq ?_
      refine WC.region ?_
      refine WL.q (oq_move rfl) rfl rfl rfl ?_
      refine WL.q (oq_move rfl) rfl rfl rfl ?_
      refine WL.q (oq_move rfl) rfl rfl rfl ?_
      refine WL.q (oq_ixaddr hr Try.underlying22 ty9 rfl rfl (by (first | omega | (simp only [List.length_cons, List.length_nil, List.length_append, List.length_drop, List.length_take]; omega)))) rfl rfl rfl ?_
      refine WL.q (oq_load_str hr (.head _) flat9 rfl (by (first | omega | (simp only [List.length_cons, List.length_nil, List.length_append, List.length_drop, List.length_take]; omega))) (by first | exact Int.toNat_natCast _ | exact rfl)) rfl rfl rfl ?_
      refine WL.callAv0 (splitDate _ (by have := (hall i (by omega)).1; omega) (hall i (by omega)).2) call26 rfl rfl rfl rfl fun v5_5 N5_5 hR5_5 hN5_5 => ?_
      obtain ⟨u5_5, e5_5, rfl, h1_5_5, h2_5_5⟩ := hR5_5
      have he5_5 := nilI_of (fun h => (h1_5_5 h).1) h2_5_5
      refine WL.q (oq_move rfl) rfl rfl rfl ?_
      refine WL.q (oq_extract rfl rfl) rfl rfl rfl ?_
      refine WL.q (oq_extract rfl rfl) rfl rfl rfl ?_
      refine WL.q (oq_assign rfl) rfl rfl rfl ?_
      refine WL.q (oq_assign rfl) rfl rfl rfl ?_
      refine WL.nil ?_
      refine WE.then_normal ?_
      refine WC.sub (fr' := [(0, _), (1, _), (6, _), (7, _), (8, _), (9, _)]) ?_ ⟨rfl, rfl, rfl, rfl, rfl, rfl, trivial⟩
      refine WC.seq ?_
      refine WC.seq ?_
      refine WC.region ?_
      refine WL.q (oq_move rfl) rfl rfl rfl ?_
      refine WL.q (oq_ineq Try.underlying41 rfl (he5_5.1)) rfl rfl rfl ?_
      refine WL.nil ?_
      refine WE.then_normal ?_
      refine WC.sub (fr' := [(0, _), (1, _), (6, _), (7, _), (8, _), (9, _), (29, _)]) ?_ ⟨rfl, rfl, rfl, rfl, rfl, rfl, rfl, trivial⟩
      refine WC.cond rfl (fun q6 => ?_) (fun q6 => ?_)
      ·
        try simp only [Bool.not_eq_eq_eq_not, Bool.not_true, Bool.not_false, decide_eq_true_eq, decide_eq_false_iff_not, Int.not_lt, Int.not_le, ne_eq, Decidable.not_not, ← List.length_eq_zero_iff] at q6
        refine WC.seq ?_
        have hst := dates_step ls i (by omega)
        refine WC.region ?_
        refine WL.q (oq_move rfl) rfl rfl rfl ?_
        refine WL.q (oq_assign rfl) rfl rfl rfl ?_
        refine WL.q (oq_assign rfl) rfl rfl rfl ?_
        refine WL.nil ?_
        refine WE.then_normal ?_
        refine WC.sub (fr' := [(4, _), (5, _)]) ?_ ⟨rfl, rfl, trivial⟩
        refine WC.ret ?_
        refine WE.then_ret ?_
        refine WE.block_ret ?_
        refine WE.then_ret ?_
        refine WE.then_ret ?_
        refine WE.block_ret ?_
        refine WE.then_ret ?_
        refine WE.forget hN5_5 ?_
        refine WE.f1 ?_
        refine WE.forget ho.fresh ?_
        refine WE.add0 ?_
        refine WE.endA (.inl rfl) (res2 Try.results25 rfl rfl) ?_ fresh0
        -- end 0
        rw [he5_5.2] at q6
        rw [q6, Bool.false_and] at hst
        exact ⟨_, _, rfl, fun h => by (rw [gathered_is, ← hri, hst.2] at h; cases h), fun _ => h2_5_5 q6⟩
      ·
        try simp only [Bool.not_eq_eq_eq_not, Bool.not_true, Bool.not_false, decide_eq_true_eq, decide_eq_false_iff_not, Int.not_lt, Int.not_le, ne_eq, Decidable.not_not, ← List.length_eq_zero_iff] at q6
        refine WC.skip ?_
        refine WE.then_normal ?_
        refine WC.sub (fr' := [(0, _), (1, _), (6, _), (7, _), (8, _)]) ?_ ⟨rfl, rfl, rfl, rfl, rfl, trivial⟩
        have hst := dates_step ls i (by omega)
        have hdl := dates_len (ls.getD i [])
        have hel := (hall i (by omega)).1
        rw [he5_5.2] at q6
        have hoP := (h1_5_5 q6).2.rebase hN5_5
        refine WC.region ?_
        refine WL.q (oq_move rfl) rfl rfl rfl ?_
        refine WL.q (oq_move rfl) rfl rfl rfl ?_
        refine WL.f2 ?_
        refine WL.appendS ho Try.underlying22 ty9 rfl (by decide) rfl rfl hoP.rd (.head _) (strsV_one _) (by unfold maxLen; omega) (by omega) rfl rfl fun v8 A8 ho8 hne8 => ?_
        refine WL.q (oq_assign rfl) rfl rfl rfl ?_
        refine WL.nil ?_
        refine WE.block_normal ?_
        refine WE.then_normal ?_
        refine WC.sub (fr' := [(0, _), (1, _), (6, _), (7, _)]) ?_ ⟨rfl, rfl, rfl, rfl, trivial⟩
        refine WC.region ?_
        refine WL.q (oq_move rfl) rfl rfl rfl ?_
        refine WL.q (oq_add rfl rfl (by rw [i64_lo, i64_hi]; (first | omega | (simp only [List.length_cons, List.length_nil, List.length_append, List.length_drop, List.length_take]; omega)))) rfl rfl rfl ?_
        refine WL.q (oq_assign rfl) rfl rfl rfl ?_
        refine WL.nil ?_
        refine WE.f1 ?_
        refine WE.forget hN5_5 ?_
        refine WE.f1 ?_
        refine WE.again (i + 1, _, _, acc ++ (dates (ls.getD i [])).getD []) ?_ ?_ ⟨rfl, rfl, rfl, rfl, trivial⟩ (List.Perm.refl _)
        · try dsimp only   -- again 0
          refine ⟨by omega, by rw [List.length_append, Nat.add_mul]; omega, strs_eq ho8 (by simp) (by simp [strsV]), ?_, ?_⟩
          · rw [← ht, hst.1, List.append_assoc]
          · rw [← hri, hst.2, q6, Bool.true_and]
        · (try dsimp only); omega
    ·
      try simp only [Bool.not_eq_eq_eq_not, Bool.not_true, Bool.not_false, decide_eq_true_eq, decide_eq_false_iff_not, Int.not_lt, Int.not_le, ne_eq, Decidable.not_not, ← List.length_eq_zero_iff] at q3
      refine WC.exit ?_
      refine WE.then_exit ?_
      refine WE.then_exit ?_
      refine WE.block_same ?_
      refine WE.then_normal ?_
      refine WC.sub (fr' := [(6, _)]) ?_ ⟨rfl, trivial⟩
      refine WC.seq ?_
      refine WC.region ?_
      refine WL.q (oq_move rfl) rfl rfl rfl ?_
      refine WL.q (oq_assign rfl) rfl rfl rfl ?_
      refine WL.q (oq_assign rfl) rfl rfl rfl ?_
      refine WL.nil ?_
      refine WE.then_normal ?_
      refine WC.sub (fr' := [(4, _), (5, _)]) ?_ ⟨rfl, rfl, trivial⟩
      refine WC.ret ?_
      refine WE.f1 ?_
      refine WE.endA (.inl rfl) (res2 Try.results25 rfl rfl) ?_ (ho.fresh)
      -- end 1
      have hl : ls.drop i = [] := List.drop_eq_nil_of_le (by omega)
      rw [hl] at ht hri
      have hg := gathered_some hri.symm
      exact ⟨_, _, rfl, fun _ => ⟨rfl, own_eq ho (by rw [hg, ← ht]; simp [allDates])⟩, fun h => by rw [hg] at h; cases h⟩

/-- given.example/pub-tinwright/pub/smithy/transport/http.SplitHTTPDateTimestampHeaderListValues -/
theorem splitDates (v : Value) (A : Hp) (ls : List (List UInt8)) (hr : RdS 1 v A ls.length (strsV ls)) (hn : ls.length ≤ 20) (hall : ∀ k, k < ls.length → (ls.getD k []).length ≤ 500 ∧ Asc (ls.getD k [])) : FnA Try.prog 19 [v] A (DRes (gathered ls)) := by
  refine FnA.enter (n := 8) Try.func19 rfl rfl fun w0 => ?_
  refine WC.sub (fr' := [(0, _)]) ?_ ⟨rfl, trivial⟩
  refine WC.seq ?_
  refine WC.region ?_
  refine WL.q (oq_assign rfl) rfl rfl rfl ?_
  refine WL.q (oq_assign rfl) rfl rfl rfl ?_
  refine WL.nil ?_
  refine WE.then_normal ?_
  refine WC.sub (fr' := [(0, _)]) ?_ ⟨rfl, trivial⟩
  refine WC.seq ?_
  refine WC.region ?_
  refine WL.q (oq_move rfl) rfl rfl rfl ?_
  refine WL.callA (splitAll v A ls hr hn hall) call25 rfl rfl rfl fun v1_1 N1_1 hR1_1 hN1_1 => ?_
  obtain ⟨u1_1, e1_1, rfl, h1_1_1, h2_1_1⟩ := hR1_1
  refine WL.q (oq_extract rfl rfl) rfl rfl rfl ?_
  refine WL.q (oq_extract rfl rfl) rfl rfl rfl ?_
  refine WL.q (oq_assign rfl) rfl rfl rfl ?_
  refine WL.q (oq_assign rfl) rfl rfl rfl ?_
  refine WL.nil ?_
  refine WE.then_normal ?_
  refine WC.sub (fr' := [(2, _), (3, _)]) ?_ ⟨rfl, rfl, trivial⟩
  refine WC.ret ?_
  refine WE.endA (.inl rfl) (res2 Try.results19 rfl rfl) ?_ (hN1_1)
  -- end 0
  exact ⟨_, _, rfl, h1_1_1, h2_1_1⟩

/-- given.example/pub-tinwright/impl.HSplitDates -/
theorem hSplitDates (v : Value) (A : Hp) (ls : List (List UInt8)) (hr : RdS 1 v A ls.length (strsV ls)) (hn : ls.length ≤ 20) (hall : ∀ k, k < ls.length → (ls.getD k []).length ≤ 500 ∧ Asc (ls.getD k [])) : FnA Try.prog 9 [v] A (BRes (gathered ls)) := by
  refine FnA.enter (n := 14) Try.func9 rfl rfl fun w0 => ?_
  refine WC.sub (fr' := [(0, _)]) ?_ ⟨rfl, trivial⟩
  refine WC.seq ?_
  refine WC.region ?_
  refine WL.q (oq_assign rfl) rfl rfl rfl ?_
  refine WL.q (oq_assign rfl) rfl rfl rfl ?_
  refine WL.nil ?_
  refine WE.then_normal ?_
  refine WC.sub (fr' := [(0, _)]) ?_ ⟨rfl, trivial⟩
  refine WC.seq ?_
  refine WC.region ?_
  refine WL.q (oq_move rfl) rfl rfl rfl ?_
  refine WL.callA (splitDates v A ls hr hn hall) call19 rfl rfl rfl fun v1_1 N1_1 hR1_1 hN1_1 => ?_
  obtain ⟨u1_1, e1_1, rfl, h1_1_1, h2_1_1⟩ := hR1_1
  have he1_1 := nilI_of (fun h => (h1_1_1 h).1) h2_1_1
  refine WL.q (oq_move rfl) rfl rfl rfl ?_
  refine WL.q (oq_extract rfl rfl) rfl rfl rfl ?_
  refine WL.q (oq_extract rfl rfl) rfl rfl rfl ?_
  refine WL.q (oq_assign rfl) rfl rfl rfl ?_
  refine WL.q (oq_assign rfl) rfl rfl rfl ?_
  refine WL.nil ?_
  refine WE.then_normal ?_
  refine WC.sub (fr' := [(4, _), (5, _)]) ?_ ⟨rfl, rfl, trivial⟩
  refine WC.seq ?_
  refine WC.seq ?_
  refine WC.region ?_
  refine WL.q (oq_move rfl) rfl rfl rfl ?_
  refine WL.q (oq_ineq Try.underlying41 rfl (he1_1.1)) rfl rfl rfl ?_
  refine WL.nil ?_
  refine WE.then_normal ?_
  refine WC.sub (fr' := [(4, _), (12, _)]) ?_ ⟨rfl, rfl, trivial⟩
  refine WC.cond rfl (fun q2 => ?_) (fun q2 => ?_)
  ·
    try simp only [Bool.not_eq_eq_eq_not, Bool.not_true, Bool.not_false, decide_eq_true_eq, decide_eq_false_iff_not, Int.not_lt, Int.not_le, ne_eq, Decidable.not_not, ← List.length_eq_zero_iff] at q2
    refine WC.seq ?_
    refine WC.region ?_
    refine WL.q (oq_assign rfl) rfl rfl rfl ?_
    refine WL.q (oq_assign rfl) rfl rfl rfl ?_
    refine WL.nil ?_
    refine WE.then_normal ?_
    refine WC.sub (fr' := [(2, _), (3, _)]) ?_ ⟨rfl, rfl, trivial⟩
    refine WC.ret ?_
    refine WE.then_ret ?_
    refine WE.forget hN1_1 ?_
    refine WE.add0 ?_
    refine WE.endA (.inl rfl) (res2 Try.results9 rfl rfl) ?_ fresh0
    -- end 0
    rw [he1_1.2] at q2
    refine ⟨_, by rw [q2], ?_⟩
    cases hg : gathered ls with
    | none => exact OwS.nil _ _ _
    | some x => rw [hg] at q2; cases q2
  ·
    try simp only [Bool.not_eq_eq_eq_not, Bool.not_true, Bool.not_false, decide_eq_true_eq, decide_eq_false_iff_not, Int.not_lt, Int.not_le, ne_eq, Decidable.not_not, ← List.length_eq_zero_iff] at q2
    refine WC.skip ?_
    refine WE.then_normal ?_
    refine WC.sub (fr' := [(4, _)]) ?_ ⟨rfl, trivial⟩
    refine WC.seq ?_
    refine WC.region ?_
    refine WL.q (oq_move rfl) rfl rfl rfl ?_
    refine WL.q (oq_assign rfl) rfl rfl rfl ?_
    refine WL.q (oq_assign rfl) rfl rfl rfl ?_
    refine WL.nil ?_
    refine WE.then_normal ?_
    refine WC.sub (fr' := [(2, _), (3, _)]) ?_ ⟨rfl, rfl, trivial⟩
    refine WC.ret ?_
    refine WE.endA (.inl rfl) (res2 Try.results9 rfl rfl) ?_ (hN1_1)
    -- end 1
    rw [he1_1.2] at q2
    exact ⟨_, by rw [q2], (h1_1_1 q2).2⟩

end H5
end Go.Proofs.Ytcgpajknehhdgaa
