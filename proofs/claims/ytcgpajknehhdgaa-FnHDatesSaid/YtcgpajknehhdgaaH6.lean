/- Walks of the law on dates in headers. -/
import Derived.Test.YtcgpajknehhdgaaH5
import Derived.Test.YtcgpajknehhdgaaE0
import Derived.Test.YtcgpajknehhdgaaJ0
namespace Go.Proofs.Ytcgpajknehhdgaa
open Go Go.RowKit V L2 L1 H0 H1 H2 H3 H4 H5
set_option linter.unusedSimpArgs false
set_option linter.unusedVariables false
set_option maxRecDepth 10000
namespace H6
theorem call6 : Callable Try.prog 6 := ⟨_, Try.func6, rfl, by kernel_rfl⟩
theorem call7 : Callable Try.prog 7 := ⟨_, Try.func7, rfl, by kernel_rfl⟩
theorem call8 : Callable Try.prog 8 := ⟨_, Try.func8, rfl, by kernel_rfl⟩
theorem call9 : Callable Try.prog 9 := ⟨_, Try.func9, rfl, by kernel_rfl⟩
theorem call10 : Callable Try.prog 10 := ⟨_, Try.func10, rfl, by kernel_rfl⟩
theorem flat9 : Flat Try.prog 9 := ⟨_, Try.underlying9, by simp⟩
theorem ty9 : Ty Try.prog 9 (S []) 1 16 := ty_of (by kernel_rfl)

theorem take_eq {la lb : List (List UInt8)} {i : Nat} (h : la.take i = lb.take i) (ha : i < la.length) (hb : i < lb.length) (e : la.getD i [] = lb.getD i []) : la.take (i + 1) = lb.take (i + 1) := by
  rw [List.getD_eq_getElem?_getD, List.getD_eq_getElem?_getD, List.getElem?_eq_getElem ha, List.getElem?_eq_getElem hb] at e
  rw [List.take_succ_eq_append_getElem ha, List.take_succ_eq_append_getElem hb, h]
  simp at e; rw [e]
theorem gath_len (ls : List (List UInt8)) (h : ∀ k, k < ls.length → (ls.getD k []).length ≤ 500 ∧ Asc (ls.getD k [])) : ((gathered ls).getD []).length ≤ ls.length * 501 := by
  unfold gathered
  split
  · refine allDates_len ls fun s hs => ?_
    obtain ⟨k, hk, rfl⟩ := List.mem_iff_getElem.1 hs
    have := (h k hk).1
    rwa [List.getD_eq_getElem?_getD, List.getElem?_eq_getElem hk] at this
  · simp
/-- given.example/pub-tinwright/laws.wSame -/
theorem wSame (va vb : Value) (C : Hp) (la lb : List (List UInt8)) (ha : RdS 1 va C la.length (strsV la)) (hb : RdS 1 vb C lb.length (strsV lb)) (hl : la.length ≤ 9000000000) : FnR Try.prog 10 [va, vb] C (.bool (decide (la = lb))) := by
  refine FnR.enter (n := 26) Try.func10 rfl rfl fun w0 => ?_
  refine WC.sub (fr' := [(0, _), (1, _)]) ?_ ⟨rfl, rfl, trivial⟩
  refine WC.seq ?_
  refine WC.region ?_
  refine WL.q (oq_assign rfl) rfl rfl rfl ?_
  refine WL.nil ?_
  refine WE.then_normal ?_
  refine WC.sub (fr' := [(0, _), (1, _)]) ?_ ⟨rfl, rfl, trivial⟩
  refine WC.seq ?_
  refine WC.seq ?_
  refine WC.region ?_
  refine WL.q (oq_move rfl) rfl rfl rfl ?_
  refine WL.q (oq_len_rd ha Try.underlying22 rfl) rfl rfl rfl ?_
  refine WL.q (oq_move rfl) rfl rfl rfl ?_
  refine WL.q (oq_len_rd hb Try.underlying22 rfl) rfl rfl rfl ?_
  refine WL.q (oq_neq rfl rfl) rfl rfl rfl ?_
  refine WL.nil ?_
  refine WE.then_normal ?_
  refine WC.sub (fr' := [(0, _), (1, _), (10, _)]) ?_ ⟨rfl, rfl, rfl, trivial⟩
  refine WC.cond rfl (fun q1 => ?_) (fun q1 => ?_)
  ·
    try simp only [Bool.not_eq_eq_eq_not, Bool.not_true, Bool.not_false, decide_eq_true_eq, decide_eq_false_iff_not, Int.not_lt, Int.not_le, ne_eq, Decidable.not_not, ← List.length_eq_zero_iff] at q1
    refine WC.seq ?_
    refine WC.region ?_
    refine WL.q (oq_assign rfl) rfl rfl rfl ?_
    refine WL.nil ?_
    refine WE.then_normal ?_
    refine WC.sub (fr' := [(4, _)]) ?_ ⟨rfl, trivial⟩
    refine WC.ret ?_
    refine WE.then_ret ?_
    refine WE.endR (.inl rfl) (res1 Try.results10 rfl) ?_
    -- end 0
    rw [decide_eq_false (fun e => q1 (by rw [e]))]
  ·
    try simp only [Bool.not_eq_eq_eq_not, Bool.not_true, Bool.not_false, decide_eq_true_eq, decide_eq_false_iff_not, Int.not_lt, Int.not_le, ne_eq, Decidable.not_not, ← List.length_eq_zero_iff] at q1
    refine WC.skip ?_
    refine WE.then_normal ?_
    refine WC.sub (fr' := [(0, _), (1, _)]) ?_ ⟨rfl, rfl, trivial⟩
    refine WC.seq ?_
    refine WC.seq ?_
    refine WC.region ?_
    refine WL.q (oq_assign rfl) rfl rfl rfl ?_
    refine WL.nil ?_
    refine WE.then_normal ?_
    refine WC.sub (fr' := [(0, _), (1, _), (5, _)]) ?_ ⟨rfl, rfl, rfl, trivial⟩
    refine WC.block ?_
    refine WC.loop (ι := Nat) (fun (i : Nat) => [(0, va), (1, vb), (5, I (i : Int))]) (fun (i : Nat) => [C]) (fun (i : Nat) => i ≤ la.length ∧ la.take i = lb.take i) (fun (i : Nat) => la.length - i) (0) ?_ ⟨rfl, rfl, rfl, trivial⟩ (List.Perm.refl _) ?_
    · try dsimp only
      exact ⟨by omega, rfl⟩
    · rintro i hp
      try dsimp only at hp
      obtain ⟨hi, hf⟩ := hp
      show WC _ _ _ _ _ _ ([(0, va), (1, vb), (5, I (i : Int))]) ([C])
      refine WC.seq ?_
      refine WC.seq ?_
      refine WC.region ?_
      refine WL.q (oq_move rfl) rfl rfl rfl ?_
      refine WL.q (oq_move rfl) rfl rfl rfl ?_
      refine WL.q (oq_len_rd ha Try.underlying22 rfl) rfl rfl rfl ?_
      refine WL.q (oq_lss rfl rfl) rfl rfl rfl ?_
      refine WL.nil ?_
      refine WE.then_normal ?_
      refine WC.sub (fr' := [(0, _), (1, _), (5, _), (14, _)]) ?_ ⟨rfl, rfl, rfl, rfl, trivial⟩
      refine WC.cond rfl (fun q4 => ?_) (fun q4 => ?_)
      ·
        try simp only [Bool.not_eq_eq_eq_not, Bool.not_true, Bool.not_false, decide_eq_true_eq, decide_eq_false_iff_not, Int.not_lt, Int.not_le, ne_eq, Decidable.not_not, ← List.length_eq_zero_iff] at q4
        refine WC.skip ?_
        refine WE.then_normal ?_
        refine WC.sub (fr' := [(0, _), (1, _), (5, _)]) ?_ ⟨rfl, rfl, rfl, trivial⟩
        refine WC.seq ?_
        refine WC.block ?_
        refine WC.seq ?_
        refine WC.quiet (by kernel_rfl) (by kernel_rfl) ?_
        refine WQ.q (oq_move rfl) rfl rfl rfl ?_
        refine WQ.q (oq_move rfl) rfl rfl rfl ?_
        refine WQ.q (oq_ixaddr ha Try.underlying22 ty9 rfl rfl (by (first | omega | (simp only [List.length_cons, List.length_nil, List.length_append, List.length_drop, List.length_take]; omega)))) rfl rfl rfl ?_
        refine WQ.q (oq_load_str ha (.head _) flat9 rfl (by (first | omega | (simp only [List.length_cons, List.length_nil, List.length_append, List.length_drop, List.length_take]; omega))) (by first | exact Int.toNat_natCast _ | exact rfl)) rfl rfl rfl ?_
        refine WQ.q (oq_move rfl) rfl rfl rfl ?_
        refine WQ.q (oq_move rfl) rfl rfl rfl ?_
        refine WQ.q (oq_ixaddr hb Try.underlying22 ty9 rfl rfl (by (first | omega | (simp only [List.length_cons, List.length_nil, List.length_append, List.length_drop, List.length_take]; omega)))) rfl rfl rfl ?_
        refine WQ.q (oq_load_str hb (.head _) flat9 rfl (by (first | omega | (simp only [List.length_cons, List.length_nil, List.length_append, List.length_drop, List.length_take]; omega))) (by first | exact Int.toNat_natCast _ | exact rfl)) rfl rfl rfl ?_
        refine WQ.q (oq_sneq rfl rfl) rfl rfl rfl ?_
        refine WQ.nil ?_
        refine WE.then_normal ?_
        refine WC.sub (fr' := [(0, _), (1, _), (5, _), (25, _)]) ?_ ⟨rfl, rfl, rfl, rfl, trivial⟩
        refine WC.cond rfl (fun q6 => ?_) (fun q6 => ?_)
        ·
          try simp only [Bool.not_eq_eq_eq_not, Bool.not_true, Bool.not_false, decide_eq_true_eq, decide_eq_false_iff_not, Int.not_lt, Int.not_le, ne_eq, Decidable.not_not, ← List.length_eq_zero_iff] at q6
          refine WC.seq ?_
          refine WC.region ?_
          refine WL.q (oq_assign rfl) rfl rfl rfl ?_
          refine WL.nil ?_
          refine WE.then_normal ?_
          refine WC.sub (fr' := [(4, _)]) ?_ ⟨rfl, trivial⟩
          refine WC.ret ?_
          refine WE.block_ret ?_
          refine WE.then_ret ?_
          refine WE.then_ret ?_
          refine WE.block_ret ?_
          refine WE.then_ret ?_
          refine WE.endR (.inl rfl) (res1 Try.results10 rfl) ?_
          -- end 1
          rw [decide_eq_false (fun e => q6 (by rw [e]))]
        ·
          try simp only [Bool.not_eq_eq_eq_not, Bool.not_true, Bool.not_false, decide_eq_true_eq, decide_eq_false_iff_not, Int.not_lt, Int.not_le, ne_eq, Decidable.not_not, ← List.length_eq_zero_iff] at q6
          refine WC.skip ?_
          refine WE.block_normal ?_
          refine WE.then_normal ?_
          refine WC.sub (fr' := [(0, _), (1, _), (5, _)]) ?_ ⟨rfl, rfl, rfl, trivial⟩
          refine WC.region ?_
          refine WL.q (oq_move rfl) rfl rfl rfl ?_
          refine WL.q (oq_add rfl rfl (by rw [i64_lo, i64_hi]; (first | omega | (simp only [List.length_cons, List.length_nil, List.length_append, List.length_drop, List.length_take]; omega)))) rfl rfl rfl ?_
          refine WL.q (oq_assign rfl) rfl rfl rfl ?_
          refine WL.nil ?_
          refine WE.again (i + 1) ?_ ?_ ⟨rfl, rfl, rfl, trivial⟩ (List.Perm.refl _)
          · try dsimp only   -- again 0
            exact ⟨by omega, take_eq hf (by omega) (by omega) q6⟩
          · (try dsimp only); omega
      ·
        try simp only [Bool.not_eq_eq_eq_not, Bool.not_true, Bool.not_false, decide_eq_true_eq, decide_eq_false_iff_not, Int.not_lt, Int.not_le, ne_eq, Decidable.not_not, ← List.length_eq_zero_iff] at q4
        refine WC.exit ?_
        refine WE.then_exit ?_
        refine WE.then_exit ?_
        refine WE.block_same ?_
        refine WE.then_normal ?_
        refine WC.sub (fr' := []) ?_ trivial
        refine WC.seq ?_
        refine WC.region ?_
        refine WL.q (oq_assign rfl) rfl rfl rfl ?_
        refine WL.nil ?_
        refine WE.then_normal ?_
        refine WC.sub (fr' := [(4, _)]) ?_ ⟨rfl, trivial⟩
        refine WC.ret ?_
        refine WE.endR (.inl rfl) (res1 Try.results10 rfl) ?_
        -- end 2
        rw [decide_eq_true]; rwa [List.take_of_length_le (by omega), List.take_of_length_le (by omega)] at hf

/-- given.example/pub-tinwright/laws.FnHDates -/
theorem law (v : Value) (A : Hp) (ls : List (List UInt8)) (hr : RdS 1 v A ls.length (strsV ls)) : FnR Try.prog 3 [v] A (.bool true) := by
  refine FnR.enter (n := 83) Try.func3 rfl rfl fun w0 => ?_
  refine WC.sub (fr' := [(0, _)]) ?_ ⟨rfl, trivial⟩
  refine WC.seq ?_
  refine WC.region ?_
  refine WL.q (oq_assign rfl) rfl rfl rfl ?_
  refine WL.nil ?_
  refine WE.then_normal ?_
  refine WC.sub (fr' := [(0, _)]) ?_ ⟨rfl, trivial⟩
  refine WC.seq ?_
  refine WC.seq ?_
  refine WC.region ?_
  refine WL.q (oq_move rfl) rfl rfl rfl ?_
  refine WL.qc (oq_callRm (E0.fits2 v A ls hr) (.head _) call6 rfl) rfl rfl rfl ?_
  refine WL.q (oq_not rfl) rfl rfl rfl ?_
  refine WL.nil ?_
  refine WE.then_normal ?_
  refine WC.sub (fr' := [(0, _), (13, _)]) ?_ ⟨rfl, rfl, trivial⟩
  refine WC.cond rfl (fun q1 => ?_) (fun q1 => ?_)
  ·
    try simp only [Bool.not_eq_eq_eq_not, Bool.not_true, Bool.not_false, decide_eq_true_eq, decide_eq_false_iff_not, Int.not_lt, Int.not_le, ne_eq, Decidable.not_not, ← List.length_eq_zero_iff] at q1
    refine WC.seq ?_
    refine WC.region ?_
    refine WL.q (oq_assign rfl) rfl rfl rfl ?_
    refine WL.nil ?_
    refine WE.then_normal ?_
    refine WC.sub (fr' := [(2, _)]) ?_ ⟨rfl, trivial⟩
    refine WC.ret ?_
    refine WE.then_ret ?_
    refine WE.endR (.inl rfl) (res1 Try.results3 rfl) ?_
    -- end 0
    first | rfl | (rw [gathered_is] at *; first | (exfalso; simp_all; done) | (rw [hri] at *; simp_all; done) | (simp_all [gathered_some]; done))
  ·
    try simp only [Bool.not_eq_eq_eq_not, Bool.not_true, Bool.not_false, decide_eq_true_eq, decide_eq_false_iff_not, Int.not_lt, Int.not_le, ne_eq, Decidable.not_not, ← List.length_eq_zero_iff] at q1
    refine WC.skip ?_
    refine WE.then_normal ?_
    refine WC.sub (fr' := [(0, _)]) ?_ ⟨rfl, trivial⟩
    refine WC.seq ?_
    refine WC.add0 ?_
    refine WC.region ?_
    refine WL.q (oq_assign rfl) rfl rfl rfl ?_
    refine WL.nil ?_
    refine WE.then_normal ?_
    refine WC.sub (fr' := [(0, _), (3, _)]) ?_ ⟨rfl, rfl, trivial⟩
    refine WC.seq ?_
    refine WC.region ?_
    refine WL.q (oq_assign rfl) rfl rfl rfl ?_
    refine WL.nil ?_
    refine WE.then_normal ?_
    refine WC.sub (fr' := [(0, _), (3, _), (4, _)]) ?_ ⟨rfl, rfl, rfl, trivial⟩
    refine WC.seq ?_
    refine WC.seq ?_
    refine WC.region ?_
    refine WL.q (oq_move rfl) rfl rfl rfl ?_
    refine WL.q (oq_len_rd hr Try.underlying22 rfl) rfl rfl rfl ?_
    refine WL.q (oq_gtr rfl rfl) rfl rfl rfl ?_
    refine WL.nil ?_
    refine WE.then_normal ?_
    refine WC.sub (fr' := [(0, _), (3, _), (4, _), (16, _)]) ?_ ⟨rfl, rfl, rfl, rfl, trivial⟩
    refine WC.cond rfl (fun q5 => ?_) (fun q5 => ?_)
    ·
      try simp only [Bool.not_eq_eq_eq_not, Bool.not_true, Bool.not_false, decide_eq_true_eq, decide_eq_false_iff_not, Int.not_lt, Int.not_le, ne_eq, Decidable.not_not, ← List.length_eq_zero_iff] at q5
      refine WC.seq ?_
      refine WC.region ?_
      refine WL.qc (oq_call (J0.hAwake) call7 rfl) rfl rfl rfl ?_
      refine WL.q (oq_assign rfl) rfl rfl rfl ?_
      refine WL.nil ?_
      refine WE.then_normal ?_
      refine WC.sub (fr' := [(2, _)]) ?_ ⟨rfl, trivial⟩
      refine WC.ret ?_
      refine WE.then_ret ?_
      refine WE.nil0 ?_
      refine WE.endR (.inl rfl) (res1 Try.results3 rfl) ?_
      -- end 1
      first | rfl | (rw [gathered_is] at *; first | (exfalso; simp_all; done) | (rw [hri] at *; simp_all; done) | (simp_all [gathered_some]; done))
    ·
      try simp only [Bool.not_eq_eq_eq_not, Bool.not_true, Bool.not_false, decide_eq_true_eq, decide_eq_false_iff_not, Int.not_lt, Int.not_le, ne_eq, Decidable.not_not, ← List.length_eq_zero_iff] at q5
      refine WC.skip ?_
      refine WE.then_normal ?_
      refine WC.sub (fr' := [(0, _), (3, _), (4, _)]) ?_ ⟨rfl, rfl, rfl, trivial⟩
      refine WC.seq ?_
      refine WC.seq ?_
      refine WC.region ?_
      refine WL.q (oq_assign rfl) rfl rfl rfl ?_
      refine WL.nil ?_
      refine WE.then_normal ?_
      refine WC.sub (fr' := [(0, _), (3, _), (4, _), (5, _)]) ?_ ⟨rfl, rfl, rfl, rfl, trivial⟩
      refine WC.block ?_
      refine WC.f1 ?_
      refine WC.loop (ι := Nat × Value × Hp × (List (List UInt8)) × Bool) (fun i_ => (fun (i : Nat) (vw : Value) (B : Hp) (acc : List (List UInt8)) (r : Bool) => [(0, v), (3, vw), (4, .bool r), (5, I (i : Int))]) i_.1 i_.2.1 i_.2.2.1 i_.2.2.2.1 i_.2.2.2.2) (fun i_ => (fun (i : Nat) (vw : Value) (B : Hp) (acc : List (List UInt8)) (r : Bool) => [A, B]) i_.1 i_.2.1 i_.2.2.1 i_.2.2.2.1 i_.2.2.2.2) (fun i_ => (fun (i : Nat) (vw : Value) (B : Hp) (acc : List (List UInt8)) (r : Bool) => i ≤ ls.length ∧ (∀ k, k < i → (ls.getD k []).length ≤ 500 ∧ Asc (ls.getD k [])) ∧ acc.length ≤ i * 501 ∧ OwS w0.heap.size 9 1 vw B acc.length (strsV acc) ∧ acc ++ allDates (ls.drop i) = allDates ls ∧ (r && allRight (ls.drop i)) = allRight ls) i_.1 i_.2.1 i_.2.2.1 i_.2.2.2.1 i_.2.2.2.2) (fun i_ => (fun (i : Nat) (vw : Value) (B : Hp) (acc : List (List UInt8)) (r : Bool) => ls.length - i) i_.1 i_.2.1 i_.2.2.1 i_.2.2.2.1 i_.2.2.2.2) ((0, _, _, [], true)) ?_ ⟨rfl, rfl, rfl, rfl, trivial⟩ (List.Perm.refl _) ?_
      · try dsimp only
        exact ⟨by omega, fun k hk => by omega, by simp, OwS.nil _ _ _, by simp, by simp⟩
      · rintro ⟨i, vw, B, acc, r⟩ hp
        try dsimp only at hp
        obtain ⟨hi, hok, hc, ho, ht, hrr⟩ := hp
        show WC _ _ _ _ _ _ ([(0, v), (3, vw), (4, .bool r), (5, I (i : Int))]) ([A, B])
        refine WC.seq ?_
        refine WC.seq ?_
        refine WC.region ?_
        refine WL.q (oq_move rfl) rfl rfl rfl ?_
        refine WL.q (oq_move rfl) rfl rfl rfl ?_
        refine WL.q (oq_len_rd hr Try.underlying22 rfl) rfl rfl rfl ?_
        refine WL.q (oq_lss rfl rfl) rfl rfl rfl ?_
        refine WL.nil ?_
        refine WE.then_normal ?_
        refine WC.sub (fr' := [(0, _), (3, _), (4, _), (5, _), (21, _)]) ?_ ⟨rfl, rfl, rfl, rfl, rfl, trivial⟩
        refine WC.cond rfl (fun q8 => ?_) (fun q8 => ?_)
        ·
          try simp only [Bool.not_eq_eq_eq_not, Bool.not_true, Bool.not_false, decide_eq_true_eq, decide_eq_false_iff_not, Int.not_lt, Int.not_le, ne_eq, Decidable.not_not, ← List.length_eq_zero_iff] at q8
          refine WC.skip ?_
          refine WE.then_normal ?_
          refine WC.sub (fr' := [(0, _), (3, _), (4, _), (5, _)]) ?_ ⟨rfl, rfl, rfl, rfl, trivial⟩
          refine WC.seq ?_
          refine WC.block ?_
          refine WC.seq ?_
          refine WC.seq ?_
          refine WC.region ?_
          refine WL.q (oq_move rfl) rfl rfl rfl ?_
          refine WL.q (oq_move rfl) rfl rfl rfl ?_
          refine WL.q (oq_ixaddr hr Try.underlying22 ty9 rfl rfl (by (first | omega | (simp only [List.length_cons, List.length_nil, List.length_append, List.length_drop, List.length_take]; omega)))) rfl rfl rfl ?_
          refine WL.q (oq_load_str hr (.head _) flat9 rfl (by (first | omega | (simp only [List.length_cons, List.length_nil, List.length_append, List.length_drop, List.length_take]; omega))) (by first | exact Int.toNat_natCast _ | exact rfl)) rfl rfl rfl ?_
          refine WL.q (oq_len_s Try.underlying9 rfl) rfl rfl rfl ?_
          refine WL.q (oq_gtr rfl rfl) rfl rfl rfl ?_
          refine WL.nil ?_
          refine WE.then_normal ?_
          refine WC.sub (fr' := [(0, _), (3, _), (4, _), (5, _), (29, _)]) ?_ ⟨rfl, rfl, rfl, rfl, rfl, trivial⟩
          refine WC.cond rfl (fun q10 => ?_) (fun q10 => ?_)
          ·
            try simp only [Bool.not_eq_eq_eq_not, Bool.not_true, Bool.not_false, decide_eq_true_eq, decide_eq_false_iff_not, Int.not_lt, Int.not_le, ne_eq, Decidable.not_not, ← List.length_eq_zero_iff] at q10
            refine WC.seq ?_
            refine WC.region ?_
            refine WL.qc (oq_call (J0.hAwake) call7 rfl) rfl rfl rfl ?_
            refine WL.q (oq_assign rfl) rfl rfl rfl ?_
            refine WL.nil ?_
            refine WE.then_normal ?_
            refine WC.sub (fr' := [(2, _)]) ?_ ⟨rfl, trivial⟩
            refine WC.ret ?_
            refine WE.then_ret ?_
            refine WE.block_ret ?_
            refine WE.then_ret ?_
            refine WE.then_ret ?_
            refine WE.block_ret ?_
            refine WE.then_ret ?_
            refine WE.f1 ?_
            refine WE.forget ho.fresh ?_
            refine WE.endR (.inl rfl) (res1 Try.results3 rfl) ?_
            -- end 2
            first | rfl | (rw [gathered_is] at *; first | (exfalso; simp_all; done) | (rw [hri] at *; simp_all; done) | (simp_all [gathered_some]; done))
          ·
            try simp only [Bool.not_eq_eq_eq_not, Bool.not_true, Bool.not_false, decide_eq_true_eq, decide_eq_false_iff_not, Int.not_lt, Int.not_le, ne_eq, Decidable.not_not, ← List.length_eq_zero_iff] at q10
            refine WC.skip ?_
            refine WE.then_normal ?_
            refine WC.sub (fr' := [(0, _), (3, _), (4, _), (5, _)]) ?_ ⟨rfl, rfl, rfl, rfl, trivial⟩
            refine WC.seq ?_
            refine WC.seq ?_
            refine WC.region ?_
            refine WL.q (oq_assign rfl) rfl rfl rfl ?_
            refine WL.nil ?_
            refine WE.then_normal ?_
            refine WC.sub (fr' := [(0, _), (3, _), (4, _), (5, _), (6, _)]) ?_ ⟨rfl, rfl, rfl, rfl, rfl, trivial⟩
            refine WC.block ?_
            refine WC.loop (ι := Nat) (fun (kk : Nat) => [(0, v), (3, vw), (4, .bool r), (5, I (i : Int)), (6, I (kk : Int))]) (fun (kk : Nat) => [A, B]) (fun (kk : Nat) => kk ≤ (ls.getD i []).length ∧ ∀ j, j < kk → byteAt (ls.getD i []) j < 128) (fun (kk : Nat) => (ls.getD i []).length - kk) (0) ?_ ⟨rfl, rfl, rfl, rfl, rfl, trivial⟩ (List.Perm.refl _) ?_
            · try dsimp only
              exact ⟨by omega, fun j hj => by omega⟩
            · rintro kk hp
              try dsimp only at hp
              obtain ⟨hkk, hba⟩ := hp
              show WC _ _ _ _ _ _ ([(0, v), (3, vw), (4, .bool r), (5, I (i : Int)), (6, I (kk : Int))]) ([A, B])
              refine WC.seq ?_
              refine WC.seq ?_
              refine WC.region ?_
              refine WL.q (oq_move rfl) rfl rfl rfl ?_
              refine WL.q (oq_move rfl) rfl rfl rfl ?_
              refine WL.q (oq_move rfl) rfl rfl rfl ?_
              refine WL.q (oq_ixaddr hr Try.underlying22 ty9 rfl rfl (by (first | omega | (simp only [List.length_cons, List.length_nil, List.length_append, List.length_drop, List.length_take]; omega)))) rfl rfl rfl ?_
              refine WL.q (oq_load_str hr (.head _) flat9 rfl (by (first | omega | (simp only [List.length_cons, List.length_nil, List.length_append, List.length_drop, List.length_take]; omega))) (by first | exact Int.toNat_natCast _ | exact rfl)) rfl rfl rfl ?_
              refine WL.q (oq_len_s Try.underlying9 rfl) rfl rfl rfl ?_
              refine WL.q (oq_lss rfl rfl) rfl rfl rfl ?_
              refine WL.nil ?_
              refine WE.then_normal ?_
              refine WC.sub (fr' := [(0, _), (3, _), (4, _), (5, _), (6, _), (37, _)]) ?_ ⟨rfl, rfl, rfl, rfl, rfl, rfl, trivial⟩
              refine WC.cond rfl (fun q13 => ?_) (fun q13 => ?_)
              ·
                try simp only [Bool.not_eq_eq_eq_not, Bool.not_true, Bool.not_false, decide_eq_true_eq, decide_eq_false_iff_not, Int.not_lt, Int.not_le, ne_eq, Decidable.not_not, ← List.length_eq_zero_iff] at q13
                refine WC.skip ?_
                refine WE.then_normal ?_
                refine WC.sub (fr' := [(0, _), (3, _), (4, _), (5, _), (6, _)]) ?_ ⟨rfl, rfl, rfl, rfl, rfl, trivial⟩
                refine WC.seq ?_
                refine WC.block ?_
                refine WC.seq ?_
                refine WC.region ?_
                refine WL.q (oq_move rfl) rfl rfl rfl ?_
                refine WL.q (oq_move rfl) rfl rfl rfl ?_
                refine WL.q (oq_ixaddr hr Try.underlying22 ty9 rfl rfl (by (first | omega | (simp only [List.length_cons, List.length_nil, List.length_append, List.length_drop, List.length_take]; omega)))) rfl rfl rfl ?_
                refine WL.q (oq_load_str hr (.head _) flat9 rfl (by (first | omega | (simp only [List.length_cons, List.length_nil, List.length_append, List.length_drop, List.length_take]; omega))) (by first | exact Int.toNat_natCast _ | exact rfl)) rfl rfl rfl ?_
                refine WL.q (oq_move rfl) rfl rfl rfl ?_
                refine WL.index_s Try.underlying9 rfl rfl (by (first | omega | (simp only [List.length_cons, List.length_nil, List.length_append, List.length_drop, List.length_take]; omega))) rfl rfl fun c15_5 hc15_5 hc15_5l hc15_5u => ?_
                refine WL.q (oq_geq rfl rfl) rfl rfl rfl ?_
                refine WL.nil ?_
                refine WE.then_normal ?_
                refine WC.sub (fr' := [(0, _), (3, _), (4, _), (5, _), (6, _), (46, _)]) ?_ ⟨rfl, rfl, rfl, rfl, rfl, rfl, trivial⟩
                refine WC.cond rfl (fun q15 => ?_) (fun q15 => ?_)
                ·
                  try simp only [Bool.not_eq_eq_eq_not, Bool.not_true, Bool.not_false, decide_eq_true_eq, decide_eq_false_iff_not, Int.not_lt, Int.not_le, ne_eq, Decidable.not_not, ← List.length_eq_zero_iff] at q15
                  refine WC.seq ?_
                  refine WC.region ?_
                  refine WL.qc (oq_call (J0.hAwake) call7 rfl) rfl rfl rfl ?_
                  refine WL.q (oq_assign rfl) rfl rfl rfl ?_
                  refine WL.nil ?_
                  refine WE.then_normal ?_
                  refine WC.sub (fr' := [(2, _)]) ?_ ⟨rfl, trivial⟩
                  refine WC.ret ?_
                  refine WE.block_ret ?_
                  refine WE.then_ret ?_
                  refine WE.then_ret ?_
                  refine WE.block_ret ?_
                  refine WE.then_ret ?_
                  refine WE.block_ret ?_
                  refine WE.then_ret ?_
                  refine WE.then_ret ?_
                  refine WE.block_ret ?_
                  refine WE.then_ret ?_
                  refine WE.f1 ?_
                  refine WE.forget ho.fresh ?_
                  refine WE.endR (.inl rfl) (res1 Try.results3 rfl) ?_
                  -- end 3
                  first | rfl | (rw [gathered_is] at *; first | (exfalso; simp_all; done) | (rw [hri] at *; simp_all; done) | (simp_all [gathered_some]; done))
                ·
                  try simp only [Bool.not_eq_eq_eq_not, Bool.not_true, Bool.not_false, decide_eq_true_eq, decide_eq_false_iff_not, Int.not_lt, Int.not_le, ne_eq, Decidable.not_not, ← List.length_eq_zero_iff] at q15
                  refine WC.skip ?_
                  refine WE.block_normal ?_
                  refine WE.then_normal ?_
                  refine WC.sub (fr' := [(0, _), (3, _), (4, _), (5, _), (6, _)]) ?_ ⟨rfl, rfl, rfl, rfl, rfl, trivial⟩
                  refine WC.region ?_
                  refine WL.q (oq_move rfl) rfl rfl rfl ?_
                  refine WL.q (oq_add rfl rfl (by rw [i64_lo, i64_hi]; (first | omega | (simp only [List.length_cons, List.length_nil, List.length_append, List.length_drop, List.length_take]; omega)))) rfl rfl rfl ?_
                  refine WL.q (oq_assign rfl) rfl rfl rfl ?_
                  refine WL.nil ?_
                  refine WE.again (kk + 1) ?_ ?_ ⟨rfl, rfl, rfl, rfl, rfl, trivial⟩ (List.Perm.refl _)
                  · try dsimp only   -- again 0
                    refine ⟨by omega, fun j hj => ?_⟩
                    rcases Nat.lt_or_ge j kk with h | h
                    · exact hba j h
                    · rw [show j = kk by omega, ← hc15_5]; omega
                  · (try dsimp only); omega
              ·
                try simp only [Bool.not_eq_eq_eq_not, Bool.not_true, Bool.not_false, decide_eq_true_eq, decide_eq_false_iff_not, Int.not_lt, Int.not_le, ne_eq, Decidable.not_not, ← List.length_eq_zero_iff] at q13
                refine WC.exit ?_
                refine WE.then_exit ?_
                refine WE.then_exit ?_
                refine WE.block_same ?_
                refine WE.then_normal ?_
                refine WC.sub (fr' := [(0, _), (3, _), (4, _), (5, _)]) ?_ ⟨rfl, rfl, rfl, rfl, trivial⟩
                refine WC.seq ?_
                refine WC.region ?_
                refine WL.q (oq_move rfl) rfl rfl rfl ?_
                refine WL.q (oq_move rfl) rfl rfl rfl ?_
                refine WL.q (oq_ixaddr hr Try.underlying22 ty9 rfl rfl (by (first | omega | (simp only [List.length_cons, List.length_nil, List.length_append, List.length_drop, List.length_take]; omega)))) rfl rfl rfl ?_
                refine WL.q (oq_load_str hr (.head _) flat9 rfl (by (first | omega | (simp only [List.length_cons, List.length_nil, List.length_append, List.length_drop, List.length_take]; omega))) (by first | exact Int.toNat_natCast _ | exact rfl)) rfl rfl rfl ?_
                refine WL.callA0 (hDates (ls.getD i []) (by omega)) call8 rfl rfl rfl fun v17_4 N17_4 hR17_4 hN17_4 => ?_
                obtain ⟨ud, rfl, hod0⟩ := hR17_4
                have hod := hod0.rebase hN17_4
                refine WL.q (oq_move rfl) rfl rfl rfl ?_
                refine WL.q (oq_extract rfl rfl) rfl rfl rfl ?_
                refine WL.q (oq_extract rfl rfl) rfl rfl rfl ?_
                refine WL.q (oq_assign rfl) rfl rfl rfl ?_
                refine WL.q (oq_assign rfl) rfl rfl rfl ?_
                refine WL.nil ?_
                refine WE.then_normal ?_
                refine WC.sub (fr' := [(0, _), (3, _), (4, _), (5, _), (7, _), (8, _)]) ?_ ⟨rfl, rfl, rfl, rfl, rfl, rfl, trivial⟩
                refine WC.seq ?_
                refine WC.region ?_
                refine WL.q (oq_move rfl) rfl rfl rfl ?_
                refine WL.q (oq_move rfl) rfl rfl rfl ?_
                refine WL.split 57 rfl (fun s18_1 => ?_) (fun s18_1 => ?_)
                ·
                  try simp only [Bool.not_eq_eq_eq_not, Bool.not_true, Bool.not_false, decide_eq_true_eq, decide_eq_false_iff_not, Int.not_lt, Int.not_le, ne_eq, Decidable.not_not, ← List.length_eq_zero_iff] at s18_1
                  refine WL.q (oq_move rfl) rfl rfl rfl ?_
                  refine WL.q (oq_pick_t rfl rfl) rfl rfl rfl ?_
                  refine WL.q (oq_assign rfl) rfl rfl rfl ?_
                  refine WL.nil ?_
                  refine WE.then_normal ?_
                  refine WC.sub (fr' := [(0, _), (3, _), (4, _), (5, _), (7, _)]) ?_ ⟨rfl, rfl, rfl, rfl, rfl, trivial⟩
                  have hdl := dates_len (ls.getD i [])
                  refine WC.region ?_
                  refine WL.q (oq_move rfl) rfl rfl rfl ?_
                  refine WL.q (oq_move rfl) rfl rfl rfl ?_
                  refine WL.f2 ?_
                  refine WL.appendS ho Try.underlying22 ty9 rfl (by decide) rfl rfl hod.rd (.head _) (strsV_one _) (by unfold maxLen; omega) (by omega) rfl rfl fun v19 A19 ho19 hne19 => ?_
                  refine WL.q (oq_assign rfl) rfl rfl rfl ?_
                  refine WL.nil ?_
                  refine WE.block_normal ?_
                  refine WE.then_normal ?_
                  refine WC.sub (fr' := [(0, _), (3, _), (4, _), (5, _)]) ?_ ⟨rfl, rfl, rfl, rfl, trivial⟩
                  refine WC.region ?_
                  refine WL.q (oq_move rfl) rfl rfl rfl ?_
                  refine WL.q (oq_add rfl rfl (by rw [i64_lo, i64_hi]; (first | omega | (simp only [List.length_cons, List.length_nil, List.length_append, List.length_drop, List.length_take]; omega)))) rfl rfl rfl ?_
                  refine WL.q (oq_assign rfl) rfl rfl rfl ?_
                  refine WL.nil ?_
                  refine WE.f1 ?_
                  refine WE.forget hN17_4 ?_
                  refine WE.f1 ?_
                  refine WE.again (i + 1, _, _, acc ++ (dates (ls.getD i [])).getD [], _) ?_ ?_ ⟨rfl, rfl, rfl, rfl, trivial⟩ (List.Perm.refl _)
                  · try dsimp only   -- again 0
                    have hst := dates_step ls i (by omega)
                    refine ⟨by omega, fun k hk => ?_, by rw [List.length_append, Nat.add_mul]; omega, strs_eq ho19 (by simp) (by simp [strsV]), ?_, ?_⟩
                    · rcases Nat.lt_or_ge k i with h | h
                      · exact hok k h
                      · rw [show k = i by omega]; exact ⟨by omega, bytes_asc _ kk hba (by omega)⟩
                    · rw [← ht, hst.1, List.append_assoc]
                    · rw [← hrr, hst.2]; first | rfl | (rw [s18_1]; rfl) | simp_all
                  · (try dsimp only); omega
                ·
                  try simp only [Bool.not_eq_eq_eq_not, Bool.not_true, Bool.not_false, decide_eq_true_eq, decide_eq_false_iff_not, Int.not_lt, Int.not_le, ne_eq, Decidable.not_not, ← List.length_eq_zero_iff] at s18_1
                  refine WL.skip rfl rfl rfl ?_
                  refine WL.q (oq_pick_f rfl rfl) rfl rfl rfl ?_
                  refine WL.q (oq_assign rfl) rfl rfl rfl ?_
                  refine WL.nil ?_
                  refine WE.then_normal ?_
                  refine WC.sub (fr' := [(0, _), (3, _), (4, _), (5, _), (7, _)]) ?_ ⟨rfl, rfl, rfl, rfl, rfl, trivial⟩
                  have hdl := dates_len (ls.getD i [])
                  refine WC.region ?_
                  refine WL.q (oq_move rfl) rfl rfl rfl ?_
                  refine WL.q (oq_move rfl) rfl rfl rfl ?_
                  refine WL.f2 ?_
                  refine WL.appendS ho Try.underlying22 ty9 rfl (by decide) rfl rfl hod.rd (.head _) (strsV_one _) (by unfold maxLen; omega) (by omega) rfl rfl fun v19 A19 ho19 hne19 => ?_
                  refine WL.q (oq_assign rfl) rfl rfl rfl ?_
                  refine WL.nil ?_
                  refine WE.block_normal ?_
                  refine WE.then_normal ?_
                  refine WC.sub (fr' := [(0, _), (3, _), (4, _), (5, _)]) ?_ ⟨rfl, rfl, rfl, rfl, trivial⟩
                  refine WC.region ?_
                  refine WL.q (oq_move rfl) rfl rfl rfl ?_
                  refine WL.q (oq_add rfl rfl (by rw [i64_lo, i64_hi]; (first | omega | (simp only [List.length_cons, List.length_nil, List.length_append, List.length_drop, List.length_take]; omega)))) rfl rfl rfl ?_
                  refine WL.q (oq_assign rfl) rfl rfl rfl ?_
                  refine WL.nil ?_
                  refine WE.f1 ?_
                  refine WE.forget hN17_4 ?_
                  refine WE.f1 ?_
                  refine WE.again (i + 1, _, _, acc ++ (dates (ls.getD i [])).getD [], _) ?_ ?_ ⟨rfl, rfl, rfl, rfl, trivial⟩ (List.Perm.refl _)
                  · try dsimp only   -- again 1
                    have hst := dates_step ls i (by omega)
                    refine ⟨by omega, fun k hk => ?_, by rw [List.length_append, Nat.add_mul]; omega, strs_eq ho19 (by simp) (by simp [strsV]), ?_, ?_⟩
                    · rcases Nat.lt_or_ge k i with h | h
                      · exact hok k h
                      · rw [show k = i by omega]; exact ⟨by omega, bytes_asc _ kk hba (by omega)⟩
                    · rw [← ht, hst.1, List.append_assoc]
                    · rw [← hrr, hst.2]; first | rfl | (rw [s18_1]; rfl) | simp_all
                  · (try dsimp only); omega
        ·
          try simp only [Bool.not_eq_eq_eq_not, Bool.not_true, Bool.not_false, decide_eq_true_eq, decide_eq_false_iff_not, Int.not_lt, Int.not_le, ne_eq, Decidable.not_not, ← List.length_eq_zero_iff] at q8
          refine WC.exit ?_
          refine WE.then_exit ?_
          refine WE.then_exit ?_
          refine WE.block_same ?_
          refine WE.then_normal ?_
          refine WC.sub (fr' := [(0, _), (3, _), (4, _)]) ?_ ⟨rfl, rfl, rfl, trivial⟩
          refine WC.seq ?_
          have hall : ∀ k, k < ls.length → (ls.getD k []).length ≤ 500 ∧ Asc (ls.getD k []) := fun k hk => hok k (by omega)
          have hdr : ls.drop i = [] := List.drop_eq_nil_of_le (by omega)
          rw [hdr] at ht hrr
          have hri : r = allRight ls := by rw [← hrr]; cases r <;> rfl
          have hac : acc = allDates ls := by rw [← ht]; simp [allDates]
          have hgl := gath_len ls hall
          refine WC.region ?_
          refine WL.q (oq_move rfl) rfl rfl rfl ?_
          refine WL.callA (hSplitDates v A ls hr (by omega) hall) call9 rfl rfl rfl fun v20_1 N20_1 hR20_1 hN20_1 => ?_
          obtain ⟨ug, rfl, hog0⟩ := hR20_1
          have hog := hog0.rebase hN20_1
          refine WL.q (oq_move rfl) rfl rfl rfl ?_
          refine WL.q (oq_extract rfl rfl) rfl rfl rfl ?_
          refine WL.q (oq_extract rfl rfl) rfl rfl rfl ?_
          refine WL.q (oq_assign rfl) rfl rfl rfl ?_
          refine WL.q (oq_assign rfl) rfl rfl rfl ?_
          refine WL.nil ?_
          refine WE.then_normal ?_
          refine WC.sub (fr' := [(3, _), (4, _), (9, _), (10, _)]) ?_ ⟨rfl, rfl, rfl, rfl, trivial⟩
          refine WC.seq ?_
          refine WC.region ?_
          refine WL.q (oq_move rfl) rfl rfl rfl ?_
          refine WL.q (oq_move rfl) rfl rfl rfl ?_
          refine WL.q (oq_beql Try.underlying4 rfl rfl) rfl rfl rfl ?_
          refine WL.q (oq_move rfl) rfl rfl rfl ?_
          refine WL.split 71 rfl (fun s21_3 => ?_) (fun s21_3 => ?_)
          ·
            try simp only [Bool.not_eq_eq_eq_not, Bool.not_true, Bool.not_false, decide_eq_true_eq, decide_eq_false_iff_not, Int.not_lt, Int.not_le, ne_eq, Decidable.not_not, ← List.length_eq_zero_iff] at s21_3
            refine WL.q (oq_move rfl) rfl rfl rfl ?_
            refine WL.q (oq_not rfl) rfl rfl rfl ?_
            refine WL.q (oq_move rfl) rfl rfl rfl ?_
            refine WL.split 74 rfl (fun s21_6 => ?_) (fun s21_6 => ?_)
            ·
              try simp only [Bool.not_eq_eq_eq_not, Bool.not_true, Bool.not_false, decide_eq_true_eq, decide_eq_false_iff_not, Int.not_lt, Int.not_le, ne_eq, Decidable.not_not, ← List.length_eq_zero_iff] at s21_6
              refine WL.skip rfl rfl rfl ?_
              refine WL.skip rfl rfl rfl ?_
              refine WL.skip rfl rfl rfl ?_
              refine WL.q (oq_pick_t rfl rfl) rfl rfl rfl ?_
              refine WL.q (oq_pick_t rfl rfl) rfl rfl rfl ?_
              refine WL.q (oq_move rfl) rfl rfl rfl ?_
              refine WL.qc (oq_call (J0.hAwake) call7 rfl) rfl rfl rfl ?_
              refine WL.q (oq_pick_t rfl rfl) rfl rfl rfl ?_
              refine WL.q (oq_assign rfl) rfl rfl rfl ?_
              refine WL.nil ?_
              refine WE.then_normal ?_
              refine WC.sub (fr' := [(2, _)]) ?_ ⟨rfl, trivial⟩
              refine WC.ret ?_
              refine WE.forget hN20_1 ?_
              refine WE.f1 ?_
              refine WE.forget ho.fresh ?_
              refine WE.endR (.inl rfl) (res1 Try.results3 rfl) ?_
              -- end 4
              first | rfl | (rw [gathered_is] at *; first | (exfalso; simp_all; done) | (rw [hri] at *; simp_all; done) | (simp_all [gathered_some]; done))
            ·
              try simp only [Bool.not_eq_eq_eq_not, Bool.not_true, Bool.not_false, decide_eq_true_eq, decide_eq_false_iff_not, Int.not_lt, Int.not_le, ne_eq, Decidable.not_not, ← List.length_eq_zero_iff] at s21_6
              refine WL.q (oq_move rfl) rfl rfl rfl ?_
              refine WL.q (oq_move rfl) rfl rfl rfl ?_
              refine WL.f2 ?_
              refine WL.f1 ?_
              refine WL.cat ?_
              refine WL.qc (oq_callRm (wSame _ _ (N20_1 ++ B) ((gathered ls).getD []) acc (RdS.weaken hog.rd fun x hx => List.mem_append_left _ hx) (RdS.weaken ho.rd fun x hx => List.mem_append_right _ hx) (by omega)) (.head _) call10 rfl) rfl rfl rfl ?_
              refine WL.q (oq_pick_f rfl rfl) rfl rfl rfl ?_
              refine WL.q (oq_pick_t rfl rfl) rfl rfl rfl ?_
              refine WL.q (oq_move rfl) rfl rfl rfl ?_
              refine WL.split 80 rfl (fun s21_12 => ?_) (fun s21_12 => ?_)
              ·
                try simp only [Bool.not_eq_eq_eq_not, Bool.not_true, Bool.not_false, decide_eq_true_eq, decide_eq_false_iff_not, Int.not_lt, Int.not_le, ne_eq, Decidable.not_not, ← List.length_eq_zero_iff] at s21_12
                refine WL.qc (oq_call (J0.hAwake) call7 rfl) rfl rfl rfl ?_
                refine WL.q (oq_pick_t rfl rfl) rfl rfl rfl ?_
                refine WL.q (oq_assign rfl) rfl rfl rfl ?_
                refine WL.nil ?_
                refine WE.then_normal ?_
                refine WC.sub (fr' := [(2, _)]) ?_ ⟨rfl, trivial⟩
                refine WC.ret ?_
                refine WE.forget (fresh_cat hog.fresh ho.fresh) ?_
                refine WE.endR (.inl rfl) (res1 Try.results3 rfl) ?_
                -- end 5
                first | rfl | (rw [gathered_is] at *; first | (exfalso; simp_all; done) | (rw [hri] at *; simp_all; done) | (simp_all [gathered_some]; done))
              ·
                try simp only [Bool.not_eq_eq_eq_not, Bool.not_true, Bool.not_false, decide_eq_true_eq, decide_eq_false_iff_not, Int.not_lt, Int.not_le, ne_eq, Decidable.not_not, ← List.length_eq_zero_iff] at s21_12
                refine WL.skip rfl rfl rfl ?_
                refine WL.q (oq_pick_f rfl rfl) rfl rfl rfl ?_
                refine WL.q (oq_assign rfl) rfl rfl rfl ?_
                refine WL.nil ?_
                refine WE.then_normal ?_
                refine WC.sub (fr' := [(2, _)]) ?_ ⟨rfl, trivial⟩
                refine WC.ret ?_
                refine WE.forget (fresh_cat hog.fresh ho.fresh) ?_
                refine WE.endR (.inl rfl) (res1 Try.results3 rfl) ?_
                -- end 6
                first | rfl | (rw [gathered_is] at *; first | (exfalso; simp_all; done) | (rw [hri] at *; simp_all; done) | (simp_all [gathered_some]; done))
          ·
            try simp only [Bool.not_eq_eq_eq_not, Bool.not_true, Bool.not_false, decide_eq_true_eq, decide_eq_false_iff_not, Int.not_lt, Int.not_le, ne_eq, Decidable.not_not, ← List.length_eq_zero_iff] at s21_3
            refine WL.skip rfl rfl rfl ?_
            refine WL.skip rfl rfl rfl ?_
            refine WL.skip rfl rfl rfl ?_
            refine WL.skip rfl rfl rfl ?_
            refine WL.skip rfl rfl rfl ?_
            refine WL.skip rfl rfl rfl ?_
            refine WL.skip rfl rfl rfl ?_
            refine WL.q (oq_pick_f rfl rfl) rfl rfl rfl ?_
            refine WL.q (oq_move rfl) rfl rfl rfl ?_
            refine WL.skip rfl rfl rfl ?_
            refine WL.q (oq_pick_f rfl rfl) rfl rfl rfl ?_
            refine WL.q (oq_assign rfl) rfl rfl rfl ?_
            refine WL.nil ?_
            refine WE.then_normal ?_
            refine WC.sub (fr' := [(2, _)]) ?_ ⟨rfl, trivial⟩
            refine WC.ret ?_
            refine WE.forget hN20_1 ?_
            refine WE.f1 ?_
            refine WE.forget ho.fresh ?_
            refine WE.endR (.inl rfl) (res1 Try.results3 rfl) ?_
            -- end 7
            first | rfl | (rw [gathered_is] at *; first | (exfalso; simp_all; done) | (rw [hri] at *; simp_all; done) | (simp_all [gathered_some]; done))

end H6
end Go.Proofs.Ytcgpajknehhdgaa
