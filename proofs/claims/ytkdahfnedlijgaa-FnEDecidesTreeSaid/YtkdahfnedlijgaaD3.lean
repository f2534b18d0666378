/- The walk of the law on diagrams of one question. -/
import Derived.Test.YtkdahfnedlijgaaD2
namespace Go.Proofs.Ytkdahfnedlijgaa
open Go Go.RowKit V L2 D0 D1 D2
set_option linter.unusedSimpArgs false
set_option linter.unusedVariables false
set_option maxRecDepth 10000
namespace D3
theorem call5 : Callable Try.prog 5 := ⟨_, Try.func5, rfl, by kernel_rfl⟩
theorem call6 : Callable Try.prog 6 := ⟨_, Try.func6, rfl, by kernel_rfl⟩
theorem flat4 : Flat Try.prog 4 := ⟨_, Try.underlying4, by simp⟩
theorem ty4 : Ty Try.prog 4 (.bool false) 1 1 := ty_of (by kernel_rfl)
theorem ty21 : Ty Try.prog 21 (.int .i32 0) 1 4 := ty_of (by kernel_rfl)

theorem tree_val (h l a : Int) (ts : List Bool) (b : Bool) (root want : Int) (hh : 0 ≤ h ∧ h ≤ 1000000) (hl : 0 ≤ l ∧ l ≤ 1000000) (ha : 0 ≤ a ∧ a < (ts.length : Int)) (hr : root = if b then -2 else 2) (hw : want = if (ts.getD a.toNat false != b) = true then h else l) :
    edec [-1, 1, -1, a, 100000000 + h, 100000000 + l] ts ([-1, 1, -1, a, 100000000 + h, 100000000 + l] : List Int).length root = want := by
  have key : ∀ x : Int, 0 ≤ x → edec [-1, 1, -1, a, 100000000 + h, 100000000 + l] ts 5 (100000000 + x) = x := fun x hx => by
    rw [edec_step, estep_res (by omega)]; omega
  show edec [-1, 1, -1, a, 100000000 + h, 100000000 + l] ts (5 + 1) root = want
  have hb : decide (root < 0) = b := by cases b <;> simp at hr <;> subst hr <;> rfl
  have e := edec_next (ns := [-1, 1, -1, a, 100000000 + h, 100000000 + l]) (ts := ts) (ref := root) (at_ := 2) (k := 5) (by rw [hr]; split <;> omega) (by rw [hr]; cases b <;> rfl) (by rw [hr]; cases b <;> decide) (by simp) (by
    show ¬ (a < 0 ∨ (ts.length : Int) ≤ a); omega) rfl
  rw [e, hw, bne_comm, ← hb, bne_comm]
  show edec _ ts 5 (if (decide (root < 0) != ts.getD a.toNat false) = true then 100000000 + h else 100000000 + l) = _
  split
  · rw [key h hh.1, bne_comm]; rename_i hc; rw [if_pos hc]
  · rw [key l hl.1, bne_comm]; rename_i hc; rw [if_neg hc]
/-- given.example/pub-tinwright/laws.FnEDecidesTree -/
theorem law (h l x : Int) (vt : Value) (A : Hp) (ts : List Bool) (b : Bool) (hrt : RdS 1 vt A ts.length (boolsV ts)) (hh : -2147483648 ≤ h ∧ h ≤ 2147483647) (hl : -2147483648 ≤ l ∧ l ≤ 2147483647) (hx : -9223372036854775808 ≤ x ∧ x ≤ 9223372036854775807) : FnR Try.prog 4 [.int .i32 h, .int .i32 l, I x, vt, .bool b] A (.bool true) := by
  refine FnR.enter (n := 73) Try.func4 rfl rfl fun w0 => ?_
  refine WC.sub (fr' := [(0, _), (1, _), (2, _), (3, _), (4, _)]) ?_ ⟨rfl, rfl, rfl, rfl, rfl, trivial⟩
  refine WC.seq ?_
  refine WC.region ?_
  refine WL.q (oq_assign rfl) rfl rfl rfl ?_
  refine WL.nil ?_
  refine WE.then_normal ?_
  refine WC.sub (fr' := [(0, _), (1, _), (2, _), (3, _), (4, _)]) ?_ ⟨rfl, rfl, rfl, rfl, rfl, trivial⟩
  refine WC.seq ?_
  refine WC.seq ?_
  refine WC.region ?_
  refine WL.q (oq_move rfl) rfl rfl rfl ?_
  refine WL.q (oq_len_rd hrt Try.underlying23 rfl) rfl rfl rfl ?_
  refine WL.q (oq_gtr rfl rfl) rfl rfl rfl ?_
  refine WL.nil ?_
  refine WE.then_normal ?_
  refine WC.sub (fr' := [(0, _), (1, _), (2, _), (3, _), (4, _), (16, _)]) ?_ ⟨rfl, rfl, rfl, rfl, rfl, rfl, trivial⟩
  refine WC.cond rfl (fun q1 => ?_) (fun q1 => ?_)
  ·
    try simp only [Bool.not_eq_eq_eq_not, Bool.not_true, Bool.not_false, decide_eq_true_eq, decide_eq_false_iff_not, Int.not_lt, Int.not_le, ne_eq, Decidable.not_not, ← List.length_eq_zero_iff] at q1
    refine WC.seq ?_
    refine WC.region ?_
    refine WL.q (oq_assign rfl) rfl rfl rfl ?_
    refine WL.nil ?_
    refine WE.then_normal ?_
    refine WC.sub (fr' := [(10, _)]) ?_ ⟨rfl, trivial⟩
    refine WC.ret ?_
    refine WE.then_ret ?_
    refine WE.endR (.inl rfl) (res1 Try.results4 rfl) ?_
    -- end 0
    first | rfl | (exfalso; exact s11_5 he) | (exfalso; simp_all; done)
  ·
    try simp only [Bool.not_eq_eq_eq_not, Bool.not_true, Bool.not_false, decide_eq_true_eq, decide_eq_false_iff_not, Int.not_lt, Int.not_le, ne_eq, Decidable.not_not, ← List.length_eq_zero_iff] at q1
    refine WC.skip ?_
    refine WE.then_normal ?_
    refine WC.sub (fr' := [(0, _), (1, _), (2, _), (3, _), (4, _)]) ?_ ⟨rfl, rfl, rfl, rfl, rfl, trivial⟩
    refine WC.seq ?_
    refine WC.seq ?_
    refine WC.region ?_
    refine WL.q (oq_move rfl) rfl rfl rfl ?_
    refine WL.q (oq_lss rfl rfl) rfl rfl rfl ?_
    refine WL.q (oq_move rfl) rfl rfl rfl ?_
    refine WL.split 19 rfl (fun s3_2 => ?_) (fun s3_2 => ?_)
    ·
      try simp only [Bool.not_eq_eq_eq_not, Bool.not_true, Bool.not_false, decide_eq_true_eq, decide_eq_false_iff_not, Int.not_lt, Int.not_le, ne_eq, Decidable.not_not, ← List.length_eq_zero_iff] at s3_2
      refine WL.skip rfl rfl rfl ?_
      refine WL.skip rfl rfl rfl ?_
      refine WL.q (oq_pick_t rfl rfl) rfl rfl rfl ?_
      refine WL.q (oq_move rfl) rfl rfl rfl ?_
      refine WL.skip rfl rfl rfl ?_
      refine WL.skip rfl rfl rfl ?_
      refine WL.q (oq_pick_t rfl rfl) rfl rfl rfl ?_
      refine WL.q (oq_move rfl) rfl rfl rfl ?_
      refine WL.skip rfl rfl rfl ?_
      refine WL.skip rfl rfl rfl ?_
      refine WL.q (oq_pick_t rfl rfl) rfl rfl rfl ?_
      refine WL.q (oq_move rfl) rfl rfl rfl ?_
      refine WL.skip rfl rfl rfl ?_
      refine WL.skip rfl rfl rfl ?_
      refine WL.skip rfl rfl rfl ?_
      refine WL.q (oq_pick_t rfl rfl) rfl rfl rfl ?_
      refine WL.q (oq_move rfl) rfl rfl rfl ?_
      refine WL.skip rfl rfl rfl ?_
      refine WL.skip rfl rfl rfl ?_
      refine WL.q (oq_pick_t rfl rfl) rfl rfl rfl ?_
      refine WL.q (oq_move rfl) rfl rfl rfl ?_
      refine WL.skip rfl rfl rfl ?_
      refine WL.skip rfl rfl rfl ?_
      refine WL.skip rfl rfl rfl ?_
      refine WL.skip rfl rfl rfl ?_
      refine WL.q (oq_pick_t rfl rfl) rfl rfl rfl ?_
      refine WL.nil ?_
      refine WE.then_normal ?_
      refine WC.sub (fr' := [(0, _), (1, _), (2, _), (3, _), (4, _), (45, _)]) ?_ ⟨rfl, rfl, rfl, rfl, rfl, rfl, trivial⟩
      refine WC.cond_t rfl ?_
      refine WC.seq ?_
      refine WC.region ?_
      refine WL.qc (oq_call (L2.eAwake) call5 rfl) rfl rfl rfl ?_
      refine WL.q (oq_assign rfl) rfl rfl rfl ?_
      refine WL.nil ?_
      refine WE.then_normal ?_
      refine WC.sub (fr' := [(10, _)]) ?_ ⟨rfl, trivial⟩
      refine WC.ret ?_
      refine WE.then_ret ?_
      refine WE.endR (.inl rfl) (res1 Try.results4 rfl) ?_
      -- end 1
      first | rfl | (exfalso; exact s11_5 he) | (exfalso; simp_all; done)
    ·
      try simp only [Bool.not_eq_eq_eq_not, Bool.not_true, Bool.not_false, decide_eq_true_eq, decide_eq_false_iff_not, Int.not_lt, Int.not_le, ne_eq, Decidable.not_not, ← List.length_eq_zero_iff] at s3_2
      refine WL.q (oq_move rfl) rfl rfl rfl ?_
      refine WL.q (oq_lss rfl rfl) rfl rfl rfl ?_
      refine WL.q (oq_pick_f rfl rfl) rfl rfl rfl ?_
      refine WL.q (oq_move rfl) rfl rfl rfl ?_
      refine WL.split 23 rfl (fun s3_6 => ?_) (fun s3_6 => ?_)
      ·
        try simp only [Bool.not_eq_eq_eq_not, Bool.not_true, Bool.not_false, decide_eq_true_eq, decide_eq_false_iff_not, Int.not_lt, Int.not_le, ne_eq, Decidable.not_not, ← List.length_eq_zero_iff] at s3_6
        refine WL.skip rfl rfl rfl ?_
        refine WL.skip rfl rfl rfl ?_
        refine WL.q (oq_pick_t rfl rfl) rfl rfl rfl ?_
        refine WL.q (oq_move rfl) rfl rfl rfl ?_
        refine WL.skip rfl rfl rfl ?_
        refine WL.skip rfl rfl rfl ?_
        refine WL.q (oq_pick_t rfl rfl) rfl rfl rfl ?_
        refine WL.q (oq_move rfl) rfl rfl rfl ?_
        refine WL.skip rfl rfl rfl ?_
        refine WL.skip rfl rfl rfl ?_
        refine WL.skip rfl rfl rfl ?_
        refine WL.q (oq_pick_t rfl rfl) rfl rfl rfl ?_
        refine WL.q (oq_move rfl) rfl rfl rfl ?_
        refine WL.skip rfl rfl rfl ?_
        refine WL.skip rfl rfl rfl ?_
        refine WL.q (oq_pick_t rfl rfl) rfl rfl rfl ?_
        refine WL.q (oq_move rfl) rfl rfl rfl ?_
        refine WL.skip rfl rfl rfl ?_
        refine WL.skip rfl rfl rfl ?_
        refine WL.skip rfl rfl rfl ?_
        refine WL.skip rfl rfl rfl ?_
        refine WL.q (oq_pick_t rfl rfl) rfl rfl rfl ?_
        refine WL.nil ?_
        refine WE.then_normal ?_
        refine WC.sub (fr' := [(0, _), (1, _), (2, _), (3, _), (4, _), (45, _)]) ?_ ⟨rfl, rfl, rfl, rfl, rfl, rfl, trivial⟩
        refine WC.cond_t rfl ?_
        refine WC.seq ?_
        refine WC.region ?_
        refine WL.qc (oq_call (L2.eAwake) call5 rfl) rfl rfl rfl ?_
        refine WL.q (oq_assign rfl) rfl rfl rfl ?_
        refine WL.nil ?_
        refine WE.then_normal ?_
        refine WC.sub (fr' := [(10, _)]) ?_ ⟨rfl, trivial⟩
        refine WC.ret ?_
        refine WE.then_ret ?_
        refine WE.endR (.inl rfl) (res1 Try.results4 rfl) ?_
        -- end 2
        first | rfl | (exfalso; exact s11_5 he) | (exfalso; simp_all; done)
      ·
        try simp only [Bool.not_eq_eq_eq_not, Bool.not_true, Bool.not_false, decide_eq_true_eq, decide_eq_false_iff_not, Int.not_lt, Int.not_le, ne_eq, Decidable.not_not, ← List.length_eq_zero_iff] at s3_6
        refine WL.q (oq_move rfl) rfl rfl rfl ?_
        refine WL.q (oq_gtr rfl rfl) rfl rfl rfl ?_
        refine WL.q (oq_pick_f rfl rfl) rfl rfl rfl ?_
        refine WL.q (oq_move rfl) rfl rfl rfl ?_
        refine WL.split 27 rfl (fun s3_10 => ?_) (fun s3_10 => ?_)
        ·
          try simp only [Bool.not_eq_eq_eq_not, Bool.not_true, Bool.not_false, decide_eq_true_eq, decide_eq_false_iff_not, Int.not_lt, Int.not_le, ne_eq, Decidable.not_not, ← List.length_eq_zero_iff] at s3_10
          refine WL.skip rfl rfl rfl ?_
          refine WL.skip rfl rfl rfl ?_
          refine WL.q (oq_pick_t rfl rfl) rfl rfl rfl ?_
          refine WL.q (oq_move rfl) rfl rfl rfl ?_
          refine WL.skip rfl rfl rfl ?_
          refine WL.skip rfl rfl rfl ?_
          refine WL.skip rfl rfl rfl ?_
          refine WL.q (oq_pick_t rfl rfl) rfl rfl rfl ?_
          refine WL.q (oq_move rfl) rfl rfl rfl ?_
          refine WL.skip rfl rfl rfl ?_
          refine WL.skip rfl rfl rfl ?_
          refine WL.q (oq_pick_t rfl rfl) rfl rfl rfl ?_
          refine WL.q (oq_move rfl) rfl rfl rfl ?_
          refine WL.skip rfl rfl rfl ?_
          refine WL.skip rfl rfl rfl ?_
          refine WL.skip rfl rfl rfl ?_
          refine WL.skip rfl rfl rfl ?_
          refine WL.q (oq_pick_t rfl rfl) rfl rfl rfl ?_
          refine WL.nil ?_
          refine WE.then_normal ?_
          refine WC.sub (fr' := [(0, _), (1, _), (2, _), (3, _), (4, _), (45, _)]) ?_ ⟨rfl, rfl, rfl, rfl, rfl, rfl, trivial⟩
          refine WC.cond_t rfl ?_
          refine WC.seq ?_
          refine WC.region ?_
          refine WL.qc (oq_call (L2.eAwake) call5 rfl) rfl rfl rfl ?_
          refine WL.q (oq_assign rfl) rfl rfl rfl ?_
          refine WL.nil ?_
          refine WE.then_normal ?_
          refine WC.sub (fr' := [(10, _)]) ?_ ⟨rfl, trivial⟩
          refine WC.ret ?_
          refine WE.then_ret ?_
          refine WE.endR (.inl rfl) (res1 Try.results4 rfl) ?_
          -- end 3
          first | rfl | (exfalso; exact s11_5 he) | (exfalso; simp_all; done)
        ·
          try simp only [Bool.not_eq_eq_eq_not, Bool.not_true, Bool.not_false, decide_eq_true_eq, decide_eq_false_iff_not, Int.not_lt, Int.not_le, ne_eq, Decidable.not_not, ← List.length_eq_zero_iff] at s3_10
          refine WL.q (oq_move rfl) rfl rfl rfl ?_
          refine WL.q (oq_gtr rfl rfl) rfl rfl rfl ?_
          refine WL.q (oq_pick_f rfl rfl) rfl rfl rfl ?_
          refine WL.q (oq_move rfl) rfl rfl rfl ?_
          refine WL.split 31 rfl (fun s3_14 => ?_) (fun s3_14 => ?_)
          ·
            try simp only [Bool.not_eq_eq_eq_not, Bool.not_true, Bool.not_false, decide_eq_true_eq, decide_eq_false_iff_not, Int.not_lt, Int.not_le, ne_eq, Decidable.not_not, ← List.length_eq_zero_iff] at s3_14
            refine WL.skip rfl rfl rfl ?_
            refine WL.skip rfl rfl rfl ?_
            refine WL.skip rfl rfl rfl ?_
            refine WL.q (oq_pick_t rfl rfl) rfl rfl rfl ?_
            refine WL.q (oq_move rfl) rfl rfl rfl ?_
            refine WL.skip rfl rfl rfl ?_
            refine WL.skip rfl rfl rfl ?_
            refine WL.q (oq_pick_t rfl rfl) rfl rfl rfl ?_
            refine WL.q (oq_move rfl) rfl rfl rfl ?_
            refine WL.skip rfl rfl rfl ?_
            refine WL.skip rfl rfl rfl ?_
            refine WL.skip rfl rfl rfl ?_
            refine WL.skip rfl rfl rfl ?_
            refine WL.q (oq_pick_t rfl rfl) rfl rfl rfl ?_
            refine WL.nil ?_
            refine WE.then_normal ?_
            refine WC.sub (fr' := [(0, _), (1, _), (2, _), (3, _), (4, _), (45, _)]) ?_ ⟨rfl, rfl, rfl, rfl, rfl, rfl, trivial⟩
            refine WC.cond_t rfl ?_
            refine WC.seq ?_
            refine WC.region ?_
            refine WL.qc (oq_call (L2.eAwake) call5 rfl) rfl rfl rfl ?_
            refine WL.q (oq_assign rfl) rfl rfl rfl ?_
            refine WL.nil ?_
            refine WE.then_normal ?_
            refine WC.sub (fr' := [(10, _)]) ?_ ⟨rfl, trivial⟩
            refine WC.ret ?_
            refine WE.then_ret ?_
            refine WE.endR (.inl rfl) (res1 Try.results4 rfl) ?_
            -- end 4
            first | rfl | (exfalso; exact s11_5 he) | (exfalso; simp_all; done)
          ·
            try simp only [Bool.not_eq_eq_eq_not, Bool.not_true, Bool.not_false, decide_eq_true_eq, decide_eq_false_iff_not, Int.not_lt, Int.not_le, ne_eq, Decidable.not_not, ← List.length_eq_zero_iff] at s3_14
            refine WL.q (oq_move rfl) rfl rfl rfl ?_
            refine WL.q (oq_len_rd hrt Try.underlying23 rfl) rfl rfl rfl ?_
            refine WL.q (oq_gtr rfl rfl) rfl rfl rfl ?_
            refine WL.q (oq_pick_f rfl rfl) rfl rfl rfl ?_
            refine WL.q (oq_move rfl) rfl rfl rfl ?_
            refine WL.split 36 rfl (fun s3_19 => ?_) (fun s3_19 => ?_)
            ·
              try simp only [Bool.not_eq_eq_eq_not, Bool.not_true, Bool.not_false, decide_eq_true_eq, decide_eq_false_iff_not, Int.not_lt, Int.not_le, ne_eq, Decidable.not_not, ← List.length_eq_zero_iff] at s3_19
              refine WL.skip rfl rfl rfl ?_
              refine WL.skip rfl rfl rfl ?_
              refine WL.q (oq_pick_t rfl rfl) rfl rfl rfl ?_
              refine WL.q (oq_move rfl) rfl rfl rfl ?_
              refine WL.skip rfl rfl rfl ?_
              refine WL.skip rfl rfl rfl ?_
              refine WL.skip rfl rfl rfl ?_
              refine WL.skip rfl rfl rfl ?_
              refine WL.q (oq_pick_t rfl rfl) rfl rfl rfl ?_
              refine WL.nil ?_
              refine WE.then_normal ?_
              refine WC.sub (fr' := [(0, _), (1, _), (2, _), (3, _), (4, _), (45, _)]) ?_ ⟨rfl, rfl, rfl, rfl, rfl, rfl, trivial⟩
              refine WC.cond_t rfl ?_
              refine WC.seq ?_
              refine WC.region ?_
              refine WL.qc (oq_call (L2.eAwake) call5 rfl) rfl rfl rfl ?_
              refine WL.q (oq_assign rfl) rfl rfl rfl ?_
              refine WL.nil ?_
              refine WE.then_normal ?_
              refine WC.sub (fr' := [(10, _)]) ?_ ⟨rfl, trivial⟩
              refine WC.ret ?_
              refine WE.then_ret ?_
              refine WE.endR (.inl rfl) (res1 Try.results4 rfl) ?_
              -- end 5
              first | rfl | (exfalso; exact s11_5 he) | (exfalso; simp_all; done)
            ·
              try simp only [Bool.not_eq_eq_eq_not, Bool.not_true, Bool.not_false, decide_eq_true_eq, decide_eq_false_iff_not, Int.not_lt, Int.not_le, ne_eq, Decidable.not_not, ← List.length_eq_zero_iff] at s3_19
              refine WL.q (oq_move rfl) rfl rfl rfl ?_
              refine WL.q (oq_lss rfl rfl) rfl rfl rfl ?_
              refine WL.q (oq_pick_f rfl rfl) rfl rfl rfl ?_
              refine WL.q (oq_move rfl) rfl rfl rfl ?_
              refine WL.split 40 rfl (fun s3_23 => ?_) (fun s3_23 => ?_)
              ·
                try simp only [Bool.not_eq_eq_eq_not, Bool.not_true, Bool.not_false, decide_eq_true_eq, decide_eq_false_iff_not, Int.not_lt, Int.not_le, ne_eq, Decidable.not_not, ← List.length_eq_zero_iff] at s3_23
                refine WL.skip rfl rfl rfl ?_
                refine WL.skip rfl rfl rfl ?_
                refine WL.skip rfl rfl rfl ?_
                refine WL.skip rfl rfl rfl ?_
                refine WL.q (oq_pick_t rfl rfl) rfl rfl rfl ?_
                refine WL.nil ?_
                refine WE.then_normal ?_
                refine WC.sub (fr' := [(0, _), (1, _), (2, _), (3, _), (4, _), (45, _)]) ?_ ⟨rfl, rfl, rfl, rfl, rfl, rfl, trivial⟩
                refine WC.cond_t rfl ?_
                refine WC.seq ?_
                refine WC.region ?_
                refine WL.qc (oq_call (L2.eAwake) call5 rfl) rfl rfl rfl ?_
                refine WL.q (oq_assign rfl) rfl rfl rfl ?_
                refine WL.nil ?_
                refine WE.then_normal ?_
                refine WC.sub (fr' := [(10, _)]) ?_ ⟨rfl, trivial⟩
                refine WC.ret ?_
                refine WE.then_ret ?_
                refine WE.endR (.inl rfl) (res1 Try.results4 rfl) ?_
                -- end 6
                first | rfl | (exfalso; exact s11_5 he) | (exfalso; simp_all; done)
              ·
                try simp only [Bool.not_eq_eq_eq_not, Bool.not_true, Bool.not_false, decide_eq_true_eq, decide_eq_false_iff_not, Int.not_lt, Int.not_le, ne_eq, Decidable.not_not, ← List.length_eq_zero_iff] at s3_23
                refine WL.q (oq_move rfl) rfl rfl rfl ?_
                refine WL.q (oq_move rfl) rfl rfl rfl ?_
                refine WL.q (oq_len_rd hrt Try.underlying23 rfl) rfl rfl rfl ?_
                refine WL.q (oq_geq rfl rfl) rfl rfl rfl ?_
                refine WL.q (oq_pick_f rfl rfl) rfl rfl rfl ?_
                refine WL.nil ?_
                refine WE.then_normal ?_
                refine WC.sub (fr' := [(0, _), (1, _), (2, _), (3, _), (4, _), (45, _)]) ?_ ⟨rfl, rfl, rfl, rfl, rfl, rfl, trivial⟩
                refine WC.cond rfl (fun q3 => ?_) (fun q3 => ?_)
                ·
                  try simp only [Bool.not_eq_eq_eq_not, Bool.not_true, Bool.not_false, decide_eq_true_eq, decide_eq_false_iff_not, Int.not_lt, Int.not_le, ne_eq, Decidable.not_not, ← List.length_eq_zero_iff] at q3
                  refine WC.seq ?_
                  refine WC.region ?_
                  refine WL.qc (oq_call (L2.eAwake) call5 rfl) rfl rfl rfl ?_
                  refine WL.q (oq_assign rfl) rfl rfl rfl ?_
                  refine WL.nil ?_
                  refine WE.then_normal ?_
                  refine WC.sub (fr' := [(10, _)]) ?_ ⟨rfl, trivial⟩
                  refine WC.ret ?_
                  refine WE.then_ret ?_
                  refine WE.endR (.inl rfl) (res1 Try.results4 rfl) ?_
                  -- end 7
                  first | rfl | (exfalso; exact s11_5 he) | (exfalso; simp_all; done)
                ·
                  try simp only [Bool.not_eq_eq_eq_not, Bool.not_true, Bool.not_false, decide_eq_true_eq, decide_eq_false_iff_not, Int.not_lt, Int.not_le, ne_eq, Decidable.not_not, ← List.length_eq_zero_iff] at q3
                  refine WC.skip ?_
                  refine WE.then_normal ?_
                  refine WC.sub (fr' := [(0, _), (1, _), (2, _), (3, _), (4, _)]) ?_ ⟨rfl, rfl, rfl, rfl, rfl, trivial⟩
                  refine WC.seq ?_
                  refine WC.region ?_
                  refine WL.q (oq_move rfl) rfl rfl rfl ?_
                  refine WL.q (oq_conv Try.underlying3 Try.underlying21 rfl (by rw [i32_lo, i32_hi]; (first | omega | (simp only [List.length_cons, List.length_nil, List.length_append, List.length_drop, List.length_take]; omega)))) rfl rfl rfl ?_
                  refine WL.q (oq_move rfl) rfl rfl rfl ?_
                  refine WL.q (oq_add rfl rfl (by rw [i32_lo, i32_hi]; (first | omega | (simp only [List.length_cons, List.length_nil, List.length_append, List.length_drop, List.length_take]; omega)))) rfl rfl rfl ?_
                  refine WL.q (oq_move rfl) rfl rfl rfl ?_
                  refine WL.q (oq_add rfl rfl (by rw [i32_lo, i32_hi]; (first | omega | (simp only [List.length_cons, List.length_nil, List.length_append, List.length_drop, List.length_take]; omega)))) rfl rfl rfl ?_
                  refine WL.buildL Try.underlying22 ty21 rfl rfl (by decide) (by decide) rfl rfl rfl fun v5 A5 ho5 hne5 => ?_
                  refine WL.q (oq_assign rfl) rfl rfl rfl ?_
                  refine WL.nil ?_
                  refine WE.then_normal ?_
                  refine WC.sub (fr' := [(0, _), (1, _), (2, _), (3, _), (4, _), (11, _)]) ?_ ⟨rfl, rfl, rfl, rfl, rfl, rfl, trivial⟩
                  refine WC.seq ?_
                  refine WC.region ?_
                  refine WL.q (oq_move rfl) rfl rfl rfl ?_
                  refine WL.q (oq_assign rfl) rfl rfl rfl ?_
                  refine WL.q (oq_assign rfl) rfl rfl rfl ?_
                  refine WL.nil ?_
                  refine WE.then_normal ?_
                  refine WC.sub (fr' := [(0, _), (2, _), (3, _), (4, _), (11, _), (12, _), (13, _)]) ?_ ⟨rfl, rfl, rfl, rfl, rfl, rfl, rfl, trivial⟩
                  refine WC.cut (ι := Int × Value × Hp) (fun i_ => (fun (root : Int) (vn : Value) (N : Hp) => [(0, .int .i32 h), (2, I x), (3, vt), (4, .bool b), (11, vn), (12, .int .i32 root), (13, .int .i32 l)]) i_.1 i_.2.1 i_.2.2) (fun i_ => (fun (root : Int) (vn : Value) (N : Hp) => [N, A]) i_.1 i_.2.1 i_.2.2) (fun i_ => (fun (root : Int) (vn : Value) (N : Hp) => OwS w0.heap.size 21 1 vn N 6 (intsV .i32 [-1, 1, -1, x, 100000000 + h, 100000000 + l]) ∧ (0 ≤ h ∧ h ≤ 1000000) ∧ (0 ≤ l ∧ l ≤ 1000000) ∧ (0 ≤ x ∧ x < (ts.length : Int)) ∧ root = (if b then -2 else 2)) i_.1 i_.2.1 i_.2.2) ?_ ?_
                  ·
                    refine WC.seq ?_
                    refine WC.region ?_
                    refine WL.q (oq_move rfl) rfl rfl rfl ?_
                    refine WL.nil ?_
                    refine WE.then_normal ?_
                    refine WC.sub (fr' := [(0, _), (2, _), (3, _), (4, _), (11, _), (12, _), (13, _), (55, _)]) ?_ ⟨rfl, rfl, rfl, rfl, rfl, rfl, rfl, rfl, trivial⟩
                    refine WC.cond rfl (fun q7 => ?_) (fun q7 => ?_)
                    ·
                      try simp only [Bool.not_eq_eq_eq_not, Bool.not_true, Bool.not_false, decide_eq_true_eq, decide_eq_false_iff_not, Int.not_lt, Int.not_le, ne_eq, Decidable.not_not, ← List.length_eq_zero_iff] at q7
                      refine WC.region ?_
                      refine WL.q (oq_assign rfl) rfl rfl rfl ?_
                      refine WL.nil ?_
                      refine WE.meet (_, _, _) ?_ ⟨rfl, rfl, rfl, rfl, rfl, rfl, rfl, trivial⟩ (List.Perm.refl _)
                      try dsimp only
                      exact ⟨ho5, by omega, by omega, by omega, by first | rw [if_pos q7] | rw [if_neg (by simpa using q7)]⟩   -- meet 0
                    ·
                      try simp only [Bool.not_eq_eq_eq_not, Bool.not_true, Bool.not_false, decide_eq_true_eq, decide_eq_false_iff_not, Int.not_lt, Int.not_le, ne_eq, Decidable.not_not, ← List.length_eq_zero_iff] at q7
                      refine WC.skip ?_
                      refine WE.meet (_, _, _) ?_ ⟨rfl, rfl, rfl, rfl, rfl, rfl, rfl, trivial⟩ (List.Perm.refl _)
                      try dsimp only
                      exact ⟨ho5, by omega, by omega, by omega, by first | rw [if_pos q7] | rw [if_neg (by simpa using q7)]⟩   -- meet 1
                  · rintro ⟨root, vn, N⟩ hp
                    try dsimp only at hp
                    obtain ⟨ho, hh1, hl1, hx1, hroot⟩ := hp
                    show WC _ _ _ _ _ _ ([(0, .int .i32 h), (2, I x), (3, vt), (4, .bool b), (11, vn), (12, .int .i32 root), (13, .int .i32 l)]) ([N, A])
                    refine WC.cut (ι := Int) (fun (want : Int) => [(3, vt), (11, vn), (12, .int .i32 root), (13, .int .i32 want)]) (fun (want : Int) => [N, A]) (fun (want : Int) => want = if (ts.getD x.toNat false != b) = true then h else l) ?_ ?_
                    ·
                      refine WC.seq ?_
                      refine WC.region ?_
                      refine WL.q (oq_move rfl) rfl rfl rfl ?_
                      refine WL.q (oq_move rfl) rfl rfl rfl ?_
                      refine WL.q (oq_ixaddr hrt Try.underlying23 ty4 rfl rfl (by (first | omega | (simp only [List.length_cons, List.length_nil, List.length_append, List.length_drop, List.length_take]; omega)))) rfl rfl rfl ?_
                      refine WL.q (oq_load_bool hrt (.tail _ (.head _)) flat4 rfl (by (first | omega | (simp only [List.length_cons, List.length_nil, List.length_append, List.length_drop, List.length_take]; omega))) (by exact Eq.refl (Int.toNat _))) rfl rfl rfl ?_
                      refine WL.q (oq_move rfl) rfl rfl rfl ?_
                      refine WL.q (oq_bneq Try.underlying4 rfl rfl) rfl rfl rfl ?_
                      refine WL.nil ?_
                      refine WE.then_normal ?_
                      refine WC.sub (fr' := [(0, _), (3, _), (11, _), (12, _), (13, _), (61, _)]) ?_ ⟨rfl, rfl, rfl, rfl, rfl, rfl, trivial⟩
                      refine WC.cond rfl (fun q9 => ?_) (fun q9 => ?_)
                      ·
                        try simp only [Bool.not_eq_eq_eq_not, Bool.not_true, Bool.not_false, decide_eq_true_eq, decide_eq_false_iff_not, Int.not_lt, Int.not_le, ne_eq, Decidable.not_not, ← List.length_eq_zero_iff] at q9
                        refine WC.region ?_
                        refine WL.q (oq_move rfl) rfl rfl rfl ?_
                        refine WL.q (oq_assign rfl) rfl rfl rfl ?_
                        refine WL.nil ?_
                        refine WE.meet _ ?_ ⟨rfl, rfl, rfl, rfl, trivial⟩ (List.Perm.refl _)
                        try dsimp only
                        first | rw [if_pos (by simpa using q9)] | rw [if_neg (by simpa using q9)]   -- meet 0
                      ·
                        try simp only [Bool.not_eq_eq_eq_not, Bool.not_true, Bool.not_false, decide_eq_true_eq, decide_eq_false_iff_not, Int.not_lt, Int.not_le, ne_eq, Decidable.not_not, ← List.length_eq_zero_iff] at q9
                        refine WC.skip ?_
                        refine WE.meet _ ?_ ⟨rfl, rfl, rfl, rfl, trivial⟩ (List.Perm.refl _)
                        try dsimp only
                        first | rw [if_pos (by simpa using q9)] | rw [if_neg (by simpa using q9)]   -- meet 1
                    · rintro want hp
                      try dsimp only at hp
                      show WC _ _ _ _ _ _ ([(3, vt), (11, vn), (12, .int .i32 root), (13, .int .i32 want)]) ([N, A])
                      have hwant := hp
                      have he := tree_val h l x ts b root want hh1 hl1 hx1 hroot hwant
                      have hrg : -100000000 ≤ root ∧ root ≤ 2147483647 := by rw [hroot]; split <;> omega
                      have hnn : ∀ z ∈ ([-1, 1, -1, x, 100000000 + h, 100000000 + l] : List Int), -100000000 ≤ z ∧ z ≤ 2147483647 := by intro z hz; simp at hz; omega
                      refine WC.seq ?_
                      refine WC.region ?_
                      refine WL.q (oq_move rfl) rfl rfl rfl ?_
                      refine WL.q (oq_move rfl) rfl rfl rfl ?_
                      refine WL.q (oq_move rfl) rfl rfl rfl ?_
                      refine WL.f1 ?_
                      refine WL.f1 ?_
                      refine WL.cat ?_
                      refine WL.qc (oq_callRm (edecide vn vt (N ++ A) [-1, 1, -1, x, 100000000 + h, 100000000 + l] ts (RdS.weaken ho.rd fun x hx => List.mem_append_left _ hx) (RdS.weaken hrt fun x hx => List.mem_append_right _ hx) (by simp) hnn root hrg) (.head _) call6 rfl) rfl rfl rfl ?_
                      refine WL.uncat ?_
                      refine WL.q (oq_move rfl) rfl rfl rfl ?_
                      refine WL.q (oq_eql rfl rfl) rfl rfl rfl ?_
                      refine WL.q (oq_move rfl) rfl rfl rfl ?_
                      refine WL.split 69 rfl (fun s11_6 => ?_) (fun s11_6 => ?_)
                      ·
                        try simp only [Bool.not_eq_eq_eq_not, Bool.not_true, Bool.not_false, decide_eq_true_eq, decide_eq_false_iff_not, Int.not_lt, Int.not_le, ne_eq, Decidable.not_not, ← List.length_eq_zero_iff] at s11_6
                        refine WL.add0 ?_
                        refine WL.qc (oq_callRm (edecide _ _ [] [] [] nilN nilT (by decide) (fun z hz => by cases hz) 100000005 (by decide)) (.head _) call6 rfl) rfl rfl rfl ?_
                        refine WL.nil0 ?_
                        refine WL.q (oq_eql rfl rfl) rfl rfl rfl ?_
                        refine WL.q (oq_pick_t rfl rfl) rfl rfl rfl ?_
                        refine WL.q (oq_assign rfl) rfl rfl rfl ?_
                        refine WL.nil ?_
                        refine WE.then_normal ?_
                        refine WC.sub (fr' := [(10, _)]) ?_ ⟨rfl, trivial⟩
                        refine WC.ret ?_
                        refine WE.forget ho.fresh ?_
                        refine WE.endR (.inl rfl) (res1 Try.results4 rfl) ?_
                        -- end 8
                        first | rfl | (exfalso; exact s11_5 he) | (exfalso; simp_all; done)
                      ·
                        try simp only [Bool.not_eq_eq_eq_not, Bool.not_true, Bool.not_false, decide_eq_true_eq, decide_eq_false_iff_not, Int.not_lt, Int.not_le, ne_eq, Decidable.not_not, ← List.length_eq_zero_iff] at s11_6
                        refine WL.skip rfl rfl rfl ?_
                        refine WL.skip rfl rfl rfl ?_
                        refine WL.q (oq_pick_f rfl rfl) rfl rfl rfl ?_
                        refine WL.q (oq_assign rfl) rfl rfl rfl ?_
                        refine WL.nil ?_
                        refine WE.then_normal ?_
                        refine WC.sub (fr' := [(10, _)]) ?_ ⟨rfl, trivial⟩
                        refine WC.ret ?_
                        refine WE.forget ho.fresh ?_
                        refine WE.endR (.inl rfl) (res1 Try.results4 rfl) ?_
                        -- end 9
                        first | rfl | (exfalso; exact s11_5 he) | (exfalso; simp_all; done)

end D3
end Go.Proofs.Ytkdahfnedlijgaa
