/- Walks of the counting of commas and of white space. -/
import Derived.Test.YtcgpajknehhdgaaDoorP3
import Derived.Test.YtcgpajknehhdgaaDoorVA
import Derived.Test.YtcgpajknehhdgaaDoorProg
namespace Go.Proofs.YtcgpajknehhdgaaDoor
open Go Go.RowKit V
set_option linter.unusedSimpArgs false
set_option linter.unusedVariables false
set_option maxRecDepth 10000
namespace H1


def cm (s : List UInt8) : Nat := (s.filter (· == 44)).length
theorem cm_step (s : List UInt8) (i : Nat) (h : i < s.length) : cm (s.drop i) = (if s[i] = 44 then 1 else 0) + cm (s.drop (i + 1)) := by
  unfold cm
  rw [List.drop_eq_getElem_cons h]
  by_cases hc : s[i] = 44
  · rw [List.filter_cons_of_pos (by simpa using hc), if_pos hc, List.length_cons]; omega
  · rw [List.filter_cons_of_neg (by simpa using hc), if_neg hc]; omega
theorem cut_le {α : Type} (l : List α) (i j : Int) : (cut l i j).length ≤ l.length := by
  unfold cut; rw [List.length_drop, List.length_take]; omega
theorem cut_one (s : List UInt8) (i : Nat) (h : i < s.length) : cut s (i : Int) ((i : Int) + ((1 : Nat) : Int)) = [s[i]] := by
  rw [cut_nat s i 1, List.drop_eq_getElem_cons h]; rfl
/-- given.example/pub-tinwright/pub/smithy/transport/http.zzIsSpace -/
theorem isSpace (r : Int) (h0 : 0 ≤ r) (h1 : r < 128) : Fn0 Tryd.prog 83 [.int .i32 r] (.bool (blk r)) := by
  refine Fn0.enter (n := 34) Tryd.func83 rfl rfl fun w0 => ?_
  refine WC.sub (fr' := [(0, _)]) ?_ ⟨rfl, trivial⟩
  refine WC.seq ?_
  refine WC.region ?_
  refine WL.q (oq_assign rfl) rfl rfl rfl ?_
  refine WL.nil ?_
  refine WE.then_normal ?_
  refine WC.sub (fr' := [(0, _)]) ?_ ⟨rfl, trivial⟩
  refine WC.seq ?_
  refine WC.block ?_
  refine WC.seq ?_
  refine WC.seq ?_
  refine WC.region ?_
  refine WL.q (oq_move rfl) rfl rfl rfl ?_
  refine WL.q (oq_geq rfl rfl) rfl rfl rfl ?_
  refine WL.q (oq_move rfl) rfl rfl rfl ?_
  refine WL.split 6 rfl (fun s1_2 => ?_) (fun s1_2 => ?_)
  ·
    try simp only [Bool.not_eq_eq_eq_not, Bool.not_true, Bool.not_false, decide_eq_true_eq, decide_eq_false_iff_not, Int.not_lt, Int.not_le, ne_eq, Decidable.not_not, ← List.length_eq_zero_iff] at s1_2
    refine WL.q (oq_move rfl) rfl rfl rfl ?_
    refine WL.q (oq_leq rfl rfl) rfl rfl rfl ?_
    refine WL.q (oq_pick_t rfl rfl) rfl rfl rfl ?_
    refine WL.q (oq_assign rfl) rfl rfl rfl ?_
    refine WL.nil ?_
    refine WE.then_normal ?_
    refine WC.sub (fr' := [(0, _), (3, _)]) ?_ ⟨rfl, rfl, trivial⟩
    refine WC.cond rfl (fun q1 => ?_) (fun q1 => ?_)
    ·
      try simp only [Bool.not_eq_eq_eq_not, Bool.not_true, Bool.not_false, decide_eq_true_eq, decide_eq_false_iff_not, Int.not_lt, Int.not_le, ne_eq, Decidable.not_not, ← List.length_eq_zero_iff] at q1
      refine WC.skip ?_
      refine WE.then_normal ?_
      refine WC.sub (fr' := [(3, _)]) ?_ ⟨rfl, trivial⟩
      refine WC.cond rfl (fun q1 => ?_) (fun q1 => ?_)
      ·
        try simp only [Bool.not_eq_eq_eq_not, Bool.not_true, Bool.not_false, decide_eq_true_eq, decide_eq_false_iff_not, Int.not_lt, Int.not_le, ne_eq, Decidable.not_not, ← List.length_eq_zero_iff] at q1
        refine WC.seq ?_
        refine WC.region ?_
        refine WL.q (oq_assign rfl) rfl rfl rfl ?_
        refine WL.nil ?_
        refine WE.then_normal ?_
        refine WC.sub (fr' := [(2, _)]) ?_ ⟨rfl, trivial⟩
        refine WC.ret ?_
        refine WE.block_ret ?_
        refine WE.then_ret ?_
        refine WE.end0 (.inl rfl) (res1 Tryd.results83 rfl) ?_
        -- end 0
        unfold blk; first | exact congrArg Value.bool (decide_eq_true (by omega)).symm | exact congrArg Value.bool (decide_eq_false (by omega)).symm | (exfalso; omega)
      ·
        try simp only [Bool.not_eq_eq_eq_not, Bool.not_true, Bool.not_false, decide_eq_true_eq, decide_eq_false_iff_not, Int.not_lt, Int.not_le, ne_eq, Decidable.not_not, ← List.length_eq_zero_iff] at q1
        refine WC.skip ?_
        refine WE.block_normal ?_
        refine WE.then_normal ?_
        refine WC.sub (fr' := []) ?_ trivial
        refine WC.seq ?_
        refine WC.region ?_
        refine WL.q (oq_assign rfl) rfl rfl rfl ?_
        refine WL.nil ?_
        refine WE.then_normal ?_
        refine WC.sub (fr' := [(2, _)]) ?_ ⟨rfl, trivial⟩
        refine WC.ret ?_
        refine WE.end0 (.inl rfl) (res1 Tryd.results83 rfl) ?_
        -- end 1
        unfold blk; first | exact congrArg Value.bool (decide_eq_true (by omega)).symm | exact congrArg Value.bool (decide_eq_false (by omega)).symm | (exfalso; omega)
    ·
      try simp only [Bool.not_eq_eq_eq_not, Bool.not_true, Bool.not_false, decide_eq_true_eq, decide_eq_false_iff_not, Int.not_lt, Int.not_le, ne_eq, Decidable.not_not, ← List.length_eq_zero_iff] at q1
      refine WC.seq ?_
      refine WC.region ?_
      refine WL.q (oq_move rfl) rfl rfl rfl ?_
      refine WL.q (oq_eql rfl rfl) rfl rfl rfl ?_
      refine WL.q (oq_assign rfl) rfl rfl rfl ?_
      refine WL.nil ?_
      refine WE.then_normal ?_
      refine WC.sub (fr' := [(0, _), (3, _)]) ?_ ⟨rfl, rfl, trivial⟩
      refine WC.cond rfl (fun q2 => ?_) (fun q2 => ?_)
      ·
        try simp only [Bool.not_eq_eq_eq_not, Bool.not_true, Bool.not_false, decide_eq_true_eq, decide_eq_false_iff_not, Int.not_lt, Int.not_le, ne_eq, Decidable.not_not, ← List.length_eq_zero_iff] at q2
        refine WC.skip ?_
        refine WE.then_normal ?_
        refine WC.sub (fr' := [(3, _)]) ?_ ⟨rfl, trivial⟩
        refine WC.cond rfl (fun q2 => ?_) (fun q2 => ?_)
        ·
          try simp only [Bool.not_eq_eq_eq_not, Bool.not_true, Bool.not_false, decide_eq_true_eq, decide_eq_false_iff_not, Int.not_lt, Int.not_le, ne_eq, Decidable.not_not, ← List.length_eq_zero_iff] at q2
          refine WC.seq ?_
          refine WC.region ?_
          refine WL.q (oq_assign rfl) rfl rfl rfl ?_
          refine WL.nil ?_
          refine WE.then_normal ?_
          refine WC.sub (fr' := [(2, _)]) ?_ ⟨rfl, trivial⟩
          refine WC.ret ?_
          refine WE.block_ret ?_
          refine WE.then_ret ?_
          refine WE.end0 (.inl rfl) (res1 Tryd.results83 rfl) ?_
          -- end 2
          unfold blk; first | exact congrArg Value.bool (decide_eq_true (by omega)).symm | exact congrArg Value.bool (decide_eq_false (by omega)).symm | (exfalso; omega)
        ·
          try simp only [Bool.not_eq_eq_eq_not, Bool.not_true, Bool.not_false, decide_eq_true_eq, decide_eq_false_iff_not, Int.not_lt, Int.not_le, ne_eq, Decidable.not_not, ← List.length_eq_zero_iff] at q2
          refine WC.skip ?_
          refine WE.block_normal ?_
          refine WE.then_normal ?_
          refine WC.sub (fr' := []) ?_ trivial
          refine WC.seq ?_
          refine WC.region ?_
          refine WL.q (oq_assign rfl) rfl rfl rfl ?_
          refine WL.nil ?_
          refine WE.then_normal ?_
          refine WC.sub (fr' := [(2, _)]) ?_ ⟨rfl, trivial⟩
          refine WC.ret ?_
          refine WE.end0 (.inl rfl) (res1 Tryd.results83 rfl) ?_
          -- end 3
          unfold blk; first | exact congrArg Value.bool (decide_eq_true (by omega)).symm | exact congrArg Value.bool (decide_eq_false (by omega)).symm | (exfalso; omega)
      ·
        try simp only [Bool.not_eq_eq_eq_not, Bool.not_true, Bool.not_false, decide_eq_true_eq, decide_eq_false_iff_not, Int.not_lt, Int.not_le, ne_eq, Decidable.not_not, ← List.length_eq_zero_iff] at q2
        refine WC.seq ?_
        refine WC.region ?_
        refine WL.q (oq_move rfl) rfl rfl rfl ?_
        refine WL.q (oq_eql rfl rfl) rfl rfl rfl ?_
        refine WL.q (oq_assign rfl) rfl rfl rfl ?_
        refine WL.nil ?_
        refine WE.then_normal ?_
        refine WC.sub (fr' := [(0, _), (3, _)]) ?_ ⟨rfl, rfl, trivial⟩
        refine WC.cond rfl (fun q3 => ?_) (fun q3 => ?_)
        ·
          try simp only [Bool.not_eq_eq_eq_not, Bool.not_true, Bool.not_false, decide_eq_true_eq, decide_eq_false_iff_not, Int.not_lt, Int.not_le, ne_eq, Decidable.not_not, ← List.length_eq_zero_iff] at q3
          refine WC.skip ?_
          refine WE.then_normal ?_
          refine WC.sub (fr' := [(3, _)]) ?_ ⟨rfl, trivial⟩
          refine WC.cond rfl (fun q3 => ?_) (fun q3 => ?_)
          ·
            try simp only [Bool.not_eq_eq_eq_not, Bool.not_true, Bool.not_false, decide_eq_true_eq, decide_eq_false_iff_not, Int.not_lt, Int.not_le, ne_eq, Decidable.not_not, ← List.length_eq_zero_iff] at q3
            refine WC.seq ?_
            refine WC.region ?_
            refine WL.q (oq_assign rfl) rfl rfl rfl ?_
            refine WL.nil ?_
            refine WE.then_normal ?_
            refine WC.sub (fr' := [(2, _)]) ?_ ⟨rfl, trivial⟩
            refine WC.ret ?_
            refine WE.block_ret ?_
            refine WE.then_ret ?_
            refine WE.end0 (.inl rfl) (res1 Tryd.results83 rfl) ?_
            -- end 4
            unfold blk; first | exact congrArg Value.bool (decide_eq_true (by omega)).symm | exact congrArg Value.bool (decide_eq_false (by omega)).symm | (exfalso; omega)
          ·
            try simp only [Bool.not_eq_eq_eq_not, Bool.not_true, Bool.not_false, decide_eq_true_eq, decide_eq_false_iff_not, Int.not_lt, Int.not_le, ne_eq, Decidable.not_not, ← List.length_eq_zero_iff] at q3
            refine WC.skip ?_
            refine WE.block_normal ?_
            refine WE.then_normal ?_
            refine WC.sub (fr' := []) ?_ trivial
            refine WC.seq ?_
            refine WC.region ?_
            refine WL.q (oq_assign rfl) rfl rfl rfl ?_
            refine WL.nil ?_
            refine WE.then_normal ?_
            refine WC.sub (fr' := [(2, _)]) ?_ ⟨rfl, trivial⟩
            refine WC.ret ?_
            refine WE.end0 (.inl rfl) (res1 Tryd.results83 rfl) ?_
            -- end 5
            unfold blk; first | exact congrArg Value.bool (decide_eq_true (by omega)).symm | exact congrArg Value.bool (decide_eq_false (by omega)).symm | (exfalso; omega)
        ·
          try simp only [Bool.not_eq_eq_eq_not, Bool.not_true, Bool.not_false, decide_eq_true_eq, decide_eq_false_iff_not, Int.not_lt, Int.not_le, ne_eq, Decidable.not_not, ← List.length_eq_zero_iff] at q3
          refine WC.seq ?_
          refine WC.region ?_
          refine WL.q (oq_move rfl) rfl rfl rfl ?_
          refine WL.q (oq_eql rfl rfl) rfl rfl rfl ?_
          refine WL.q (oq_assign rfl) rfl rfl rfl ?_
          refine WL.nil ?_
          refine WE.then_normal ?_
          refine WC.sub (fr' := [(0, _), (3, _)]) ?_ ⟨rfl, rfl, trivial⟩
          refine WC.cond rfl (fun q4 => ?_) (fun q4 => ?_)
          ·
            try simp only [Bool.not_eq_eq_eq_not, Bool.not_true, Bool.not_false, decide_eq_true_eq, decide_eq_false_iff_not, Int.not_lt, Int.not_le, ne_eq, Decidable.not_not, ← List.length_eq_zero_iff] at q4
            refine WC.skip ?_
            refine WE.then_normal ?_
            refine WC.sub (fr' := [(3, _)]) ?_ ⟨rfl, trivial⟩
            refine WC.cond rfl (fun q4 => ?_) (fun q4 => ?_)
            ·
              try simp only [Bool.not_eq_eq_eq_not, Bool.not_true, Bool.not_false, decide_eq_true_eq, decide_eq_false_iff_not, Int.not_lt, Int.not_le, ne_eq, Decidable.not_not, ← List.length_eq_zero_iff] at q4
              refine WC.seq ?_
              refine WC.region ?_
              refine WL.q (oq_assign rfl) rfl rfl rfl ?_
              refine WL.nil ?_
              refine WE.then_normal ?_
              refine WC.sub (fr' := [(2, _)]) ?_ ⟨rfl, trivial⟩
              refine WC.ret ?_
              refine WE.block_ret ?_
              refine WE.then_ret ?_
              refine WE.end0 (.inl rfl) (res1 Tryd.results83 rfl) ?_
              -- end 6
              unfold blk; first | exact congrArg Value.bool (decide_eq_true (by omega)).symm | exact congrArg Value.bool (decide_eq_false (by omega)).symm | (exfalso; omega)
            ·
              try simp only [Bool.not_eq_eq_eq_not, Bool.not_true, Bool.not_false, decide_eq_true_eq, decide_eq_false_iff_not, Int.not_lt, Int.not_le, ne_eq, Decidable.not_not, ← List.length_eq_zero_iff] at q4
              refine WC.skip ?_
              refine WE.block_normal ?_
              refine WE.then_normal ?_
              refine WC.sub (fr' := []) ?_ trivial
              refine WC.seq ?_
              refine WC.region ?_
              refine WL.q (oq_assign rfl) rfl rfl rfl ?_
              refine WL.nil ?_
              refine WE.then_normal ?_
              refine WC.sub (fr' := [(2, _)]) ?_ ⟨rfl, trivial⟩
              refine WC.ret ?_
              refine WE.end0 (.inl rfl) (res1 Tryd.results83 rfl) ?_
              -- end 7
              unfold blk; first | exact congrArg Value.bool (decide_eq_true (by omega)).symm | exact congrArg Value.bool (decide_eq_false (by omega)).symm | (exfalso; omega)
          ·
            try simp only [Bool.not_eq_eq_eq_not, Bool.not_true, Bool.not_false, decide_eq_true_eq, decide_eq_false_iff_not, Int.not_lt, Int.not_le, ne_eq, Decidable.not_not, ← List.length_eq_zero_iff] at q4
            refine WC.seq ?_
            refine WC.region ?_
            refine WL.q (oq_move rfl) rfl rfl rfl ?_
            refine WL.q (oq_eql rfl rfl) rfl rfl rfl ?_
            refine WL.q (oq_assign rfl) rfl rfl rfl ?_
            refine WL.nil ?_
            refine WE.then_normal ?_
            refine WC.sub (fr' := [(0, _), (3, _)]) ?_ ⟨rfl, rfl, trivial⟩
            refine WC.cond rfl (fun q5 => ?_) (fun q5 => ?_)
            ·
              try simp only [Bool.not_eq_eq_eq_not, Bool.not_true, Bool.not_false, decide_eq_true_eq, decide_eq_false_iff_not, Int.not_lt, Int.not_le, ne_eq, Decidable.not_not, ← List.length_eq_zero_iff] at q5
              refine WC.skip ?_
              refine WE.then_normal ?_
              refine WC.sub (fr' := [(3, _)]) ?_ ⟨rfl, trivial⟩
              refine WC.cond rfl (fun q5 => ?_) (fun q5 => ?_)
              ·
                try simp only [Bool.not_eq_eq_eq_not, Bool.not_true, Bool.not_false, decide_eq_true_eq, decide_eq_false_iff_not, Int.not_lt, Int.not_le, ne_eq, Decidable.not_not, ← List.length_eq_zero_iff] at q5
                refine WC.seq ?_
                refine WC.region ?_
                refine WL.q (oq_assign rfl) rfl rfl rfl ?_
                refine WL.nil ?_
                refine WE.then_normal ?_
                refine WC.sub (fr' := [(2, _)]) ?_ ⟨rfl, trivial⟩
                refine WC.ret ?_
                refine WE.block_ret ?_
                refine WE.then_ret ?_
                refine WE.end0 (.inl rfl) (res1 Tryd.results83 rfl) ?_
                -- end 8
                unfold blk; first | exact congrArg Value.bool (decide_eq_true (by omega)).symm | exact congrArg Value.bool (decide_eq_false (by omega)).symm | (exfalso; omega)
              ·
                try simp only [Bool.not_eq_eq_eq_not, Bool.not_true, Bool.not_false, decide_eq_true_eq, decide_eq_false_iff_not, Int.not_lt, Int.not_le, ne_eq, Decidable.not_not, ← List.length_eq_zero_iff] at q5
                refine WC.skip ?_
                refine WE.block_normal ?_
                refine WE.then_normal ?_
                refine WC.sub (fr' := []) ?_ trivial
                refine WC.seq ?_
                refine WC.region ?_
                refine WL.q (oq_assign rfl) rfl rfl rfl ?_
                refine WL.nil ?_
                refine WE.then_normal ?_
                refine WC.sub (fr' := [(2, _)]) ?_ ⟨rfl, trivial⟩
                refine WC.ret ?_
                refine WE.end0 (.inl rfl) (res1 Tryd.results83 rfl) ?_
                -- end 9
                unfold blk; first | exact congrArg Value.bool (decide_eq_true (by omega)).symm | exact congrArg Value.bool (decide_eq_false (by omega)).symm | (exfalso; omega)
            ·
              try simp only [Bool.not_eq_eq_eq_not, Bool.not_true, Bool.not_false, decide_eq_true_eq, decide_eq_false_iff_not, Int.not_lt, Int.not_le, ne_eq, Decidable.not_not, ← List.length_eq_zero_iff] at q5
              refine WC.seq ?_
              refine WC.region ?_
              refine WL.q (oq_move rfl) rfl rfl rfl ?_
              refine WL.q (oq_geq rfl rfl) rfl rfl rfl ?_
              refine WL.q (oq_move rfl) rfl rfl rfl ?_
              refine WL.split 20 rfl (fun s6_2 => ?_) (fun s6_2 => ?_)
              ·
                try simp only [Bool.not_eq_eq_eq_not, Bool.not_true, Bool.not_false, decide_eq_true_eq, decide_eq_false_iff_not, Int.not_lt, Int.not_le, ne_eq, Decidable.not_not, ← List.length_eq_zero_iff] at s6_2
                refine WL.q (oq_move rfl) rfl rfl rfl ?_
                refine WL.q (oq_leq rfl rfl) rfl rfl rfl ?_
                refine WL.q (oq_pick_t rfl rfl) rfl rfl rfl ?_
                refine WL.q (oq_assign rfl) rfl rfl rfl ?_
                refine WL.nil ?_
                refine WE.then_normal ?_
                refine WC.sub (fr' := [(0, _), (3, _)]) ?_ ⟨rfl, rfl, trivial⟩
                refine WC.cond rfl (fun q6 => ?_) (fun q6 => ?_)
                ·
                  try simp only [Bool.not_eq_eq_eq_not, Bool.not_true, Bool.not_false, decide_eq_true_eq, decide_eq_false_iff_not, Int.not_lt, Int.not_le, ne_eq, Decidable.not_not, ← List.length_eq_zero_iff] at q6
                  refine WC.skip ?_
                  refine WE.then_normal ?_
                  refine WC.sub (fr' := [(3, _)]) ?_ ⟨rfl, trivial⟩
                  refine WC.cond rfl (fun q6 => ?_) (fun q6 => ?_)
                  ·
                    try simp only [Bool.not_eq_eq_eq_not, Bool.not_true, Bool.not_false, decide_eq_true_eq, decide_eq_false_iff_not, Int.not_lt, Int.not_le, ne_eq, Decidable.not_not, ← List.length_eq_zero_iff] at q6
                    refine WC.seq ?_
                    refine WC.region ?_
                    refine WL.q (oq_assign rfl) rfl rfl rfl ?_
                    refine WL.nil ?_
                    refine WE.then_normal ?_
                    refine WC.sub (fr' := [(2, _)]) ?_ ⟨rfl, trivial⟩
                    refine WC.ret ?_
                    refine WE.block_ret ?_
                    refine WE.then_ret ?_
                    refine WE.end0 (.inl rfl) (res1 Tryd.results83 rfl) ?_
                    -- end 10
                    unfold blk; first | exact congrArg Value.bool (decide_eq_true (by omega)).symm | exact congrArg Value.bool (decide_eq_false (by omega)).symm | (exfalso; omega)
                  ·
                    try simp only [Bool.not_eq_eq_eq_not, Bool.not_true, Bool.not_false, decide_eq_true_eq, decide_eq_false_iff_not, Int.not_lt, Int.not_le, ne_eq, Decidable.not_not, ← List.length_eq_zero_iff] at q6
                    refine WC.skip ?_
                    refine WE.block_normal ?_
                    refine WE.then_normal ?_
                    refine WC.sub (fr' := []) ?_ trivial
                    refine WC.seq ?_
                    refine WC.region ?_
                    refine WL.q (oq_assign rfl) rfl rfl rfl ?_
                    refine WL.nil ?_
                    refine WE.then_normal ?_
                    refine WC.sub (fr' := [(2, _)]) ?_ ⟨rfl, trivial⟩
                    refine WC.ret ?_
                    refine WE.end0 (.inl rfl) (res1 Tryd.results83 rfl) ?_
                    -- end 11
                    unfold blk; first | exact congrArg Value.bool (decide_eq_true (by omega)).symm | exact congrArg Value.bool (decide_eq_false (by omega)).symm | (exfalso; omega)
                ·
                  try simp only [Bool.not_eq_eq_eq_not, Bool.not_true, Bool.not_false, decide_eq_true_eq, decide_eq_false_iff_not, Int.not_lt, Int.not_le, ne_eq, Decidable.not_not, ← List.length_eq_zero_iff] at q6
                  refine WC.seq ?_
                  refine WC.region ?_
                  refine WL.q (oq_move rfl) rfl rfl rfl ?_
                  refine WL.q (oq_eql rfl rfl) rfl rfl rfl ?_
                  refine WL.q (oq_assign rfl) rfl rfl rfl ?_
                  refine WL.nil ?_
                  refine WE.then_normal ?_
                  refine WC.sub (fr' := [(0, _), (3, _)]) ?_ ⟨rfl, rfl, trivial⟩
                  refine WC.cond rfl (fun q7 => ?_) (fun q7 => ?_)
                  ·
                    try simp only [Bool.not_eq_eq_eq_not, Bool.not_true, Bool.not_false, decide_eq_true_eq, decide_eq_false_iff_not, Int.not_lt, Int.not_le, ne_eq, Decidable.not_not, ← List.length_eq_zero_iff] at q7
                    refine WC.skip ?_
                    refine WE.then_normal ?_
                    refine WC.sub (fr' := [(3, _)]) ?_ ⟨rfl, trivial⟩
                    refine WC.cond rfl (fun q7 => ?_) (fun q7 => ?_)
                    ·
                      try simp only [Bool.not_eq_eq_eq_not, Bool.not_true, Bool.not_false, decide_eq_true_eq, decide_eq_false_iff_not, Int.not_lt, Int.not_le, ne_eq, Decidable.not_not, ← List.length_eq_zero_iff] at q7
                      refine WC.seq ?_
                      refine WC.region ?_
                      refine WL.q (oq_assign rfl) rfl rfl rfl ?_
                      refine WL.nil ?_
                      refine WE.then_normal ?_
                      refine WC.sub (fr' := [(2, _)]) ?_ ⟨rfl, trivial⟩
                      refine WC.ret ?_
                      refine WE.block_ret ?_
                      refine WE.then_ret ?_
                      refine WE.end0 (.inl rfl) (res1 Tryd.results83 rfl) ?_
                      -- end 12
                      unfold blk; first | exact congrArg Value.bool (decide_eq_true (by omega)).symm | exact congrArg Value.bool (decide_eq_false (by omega)).symm | (exfalso; omega)
                    ·
                      try simp only [Bool.not_eq_eq_eq_not, Bool.not_true, Bool.not_false, decide_eq_true_eq, decide_eq_false_iff_not, Int.not_lt, Int.not_le, ne_eq, Decidable.not_not, ← List.length_eq_zero_iff] at q7
                      refine WC.skip ?_
                      refine WE.block_normal ?_
                      refine WE.then_normal ?_
                      refine WC.sub (fr' := []) ?_ trivial
                      refine WC.seq ?_
                      refine WC.region ?_
                      refine WL.q (oq_assign rfl) rfl rfl rfl ?_
                      refine WL.nil ?_
                      refine WE.then_normal ?_
                      refine WC.sub (fr' := [(2, _)]) ?_ ⟨rfl, trivial⟩
                      refine WC.ret ?_
                      refine WE.end0 (.inl rfl) (res1 Tryd.results83 rfl) ?_
                      -- end 13
                      unfold blk; first | exact congrArg Value.bool (decide_eq_true (by omega)).symm | exact congrArg Value.bool (decide_eq_false (by omega)).symm | (exfalso; omega)
                  ·
                    try simp only [Bool.not_eq_eq_eq_not, Bool.not_true, Bool.not_false, decide_eq_true_eq, decide_eq_false_iff_not, Int.not_lt, Int.not_le, ne_eq, Decidable.not_not, ← List.length_eq_zero_iff] at q7
                    refine WC.seq ?_
                    refine WC.region ?_
                    refine WL.q (oq_move rfl) rfl rfl rfl ?_
                    refine WL.q (oq_eql rfl rfl) rfl rfl rfl ?_
                    refine WL.q (oq_assign rfl) rfl rfl rfl ?_
                    refine WL.nil ?_
                    refine WE.then_normal ?_
                    refine WC.sub (fr' := [(0, _), (3, _)]) ?_ ⟨rfl, rfl, trivial⟩
                    refine WC.cond rfl (fun q8 => ?_) (fun q8 => ?_)
                    ·
                      try simp only [Bool.not_eq_eq_eq_not, Bool.not_true, Bool.not_false, decide_eq_true_eq, decide_eq_false_iff_not, Int.not_lt, Int.not_le, ne_eq, Decidable.not_not, ← List.length_eq_zero_iff] at q8
                      refine WC.skip ?_
                      refine WE.then_normal ?_
                      refine WC.sub (fr' := [(3, _)]) ?_ ⟨rfl, trivial⟩
                      refine WC.cond rfl (fun q8 => ?_) (fun q8 => ?_)
                      ·
                        try simp only [Bool.not_eq_eq_eq_not, Bool.not_true, Bool.not_false, decide_eq_true_eq, decide_eq_false_iff_not, Int.not_lt, Int.not_le, ne_eq, Decidable.not_not, ← List.length_eq_zero_iff] at q8
                        refine WC.seq ?_
                        refine WC.region ?_
                        refine WL.q (oq_assign rfl) rfl rfl rfl ?_
                        refine WL.nil ?_
                        refine WE.then_normal ?_
                        refine WC.sub (fr' := [(2, _)]) ?_ ⟨rfl, trivial⟩
                        refine WC.ret ?_
                        refine WE.block_ret ?_
                        refine WE.then_ret ?_
                        refine WE.end0 (.inl rfl) (res1 Tryd.results83 rfl) ?_
                        -- end 14
                        unfold blk; first | exact congrArg Value.bool (decide_eq_true (by omega)).symm | exact congrArg Value.bool (decide_eq_false (by omega)).symm | (exfalso; omega)
                      ·
                        try simp only [Bool.not_eq_eq_eq_not, Bool.not_true, Bool.not_false, decide_eq_true_eq, decide_eq_false_iff_not, Int.not_lt, Int.not_le, ne_eq, Decidable.not_not, ← List.length_eq_zero_iff] at q8
                        refine WC.skip ?_
                        refine WE.block_normal ?_
                        refine WE.then_normal ?_
                        refine WC.sub (fr' := []) ?_ trivial
                        refine WC.seq ?_
                        refine WC.region ?_
                        refine WL.q (oq_assign rfl) rfl rfl rfl ?_
                        refine WL.nil ?_
                        refine WE.then_normal ?_
                        refine WC.sub (fr' := [(2, _)]) ?_ ⟨rfl, trivial⟩
                        refine WC.ret ?_
                        refine WE.end0 (.inl rfl) (res1 Tryd.results83 rfl) ?_
                        -- end 15
                        unfold blk; first | exact congrArg Value.bool (decide_eq_true (by omega)).symm | exact congrArg Value.bool (decide_eq_false (by omega)).symm | (exfalso; omega)
                    ·
                      try simp only [Bool.not_eq_eq_eq_not, Bool.not_true, Bool.not_false, decide_eq_true_eq, decide_eq_false_iff_not, Int.not_lt, Int.not_le, ne_eq, Decidable.not_not, ← List.length_eq_zero_iff] at q8
                      refine WC.seq ?_
                      refine WC.region ?_
                      refine WL.q (oq_move rfl) rfl rfl rfl ?_
                      refine WL.q (oq_eql rfl rfl) rfl rfl rfl ?_
                      refine WL.q (oq_assign rfl) rfl rfl rfl ?_
                      refine WL.nil ?_
                      refine WE.then_normal ?_
                      refine WC.sub (fr' := [(0, _), (3, _)]) ?_ ⟨rfl, rfl, trivial⟩
                      refine WC.cond rfl (fun q9 => ?_) (fun q9 => ?_)
                      ·
                        try simp only [Bool.not_eq_eq_eq_not, Bool.not_true, Bool.not_false, decide_eq_true_eq, decide_eq_false_iff_not, Int.not_lt, Int.not_le, ne_eq, Decidable.not_not, ← List.length_eq_zero_iff] at q9
                        refine WC.skip ?_
                        refine WE.then_normal ?_
                        refine WC.sub (fr' := [(3, _)]) ?_ ⟨rfl, trivial⟩
                        refine WC.cond rfl (fun q9 => ?_) (fun q9 => ?_)
                        ·
                          try simp only [Bool.not_eq_eq_eq_not, Bool.not_true, Bool.not_false, decide_eq_true_eq, decide_eq_false_iff_not, Int.not_lt, Int.not_le, ne_eq, Decidable.not_not, ← List.length_eq_zero_iff] at q9
                          refine WC.seq ?_
                          refine WC.region ?_
                          refine WL.q (oq_assign rfl) rfl rfl rfl ?_
                          refine WL.nil ?_
                          refine WE.then_normal ?_
                          refine WC.sub (fr' := [(2, _)]) ?_ ⟨rfl, trivial⟩
                          refine WC.ret ?_
                          refine WE.block_ret ?_
                          refine WE.then_ret ?_
                          refine WE.end0 (.inl rfl) (res1 Tryd.results83 rfl) ?_
                          -- end 16
                          unfold blk; first | exact congrArg Value.bool (decide_eq_true (by omega)).symm | exact congrArg Value.bool (decide_eq_false (by omega)).symm | (exfalso; omega)
                        ·
                          try simp only [Bool.not_eq_eq_eq_not, Bool.not_true, Bool.not_false, decide_eq_true_eq, decide_eq_false_iff_not, Int.not_lt, Int.not_le, ne_eq, Decidable.not_not, ← List.length_eq_zero_iff] at q9
                          refine WC.skip ?_
                          refine WE.block_normal ?_
                          refine WE.then_normal ?_
                          refine WC.sub (fr' := []) ?_ trivial
                          refine WC.seq ?_
                          refine WC.region ?_
                          refine WL.q (oq_assign rfl) rfl rfl rfl ?_
                          refine WL.nil ?_
                          refine WE.then_normal ?_
                          refine WC.sub (fr' := [(2, _)]) ?_ ⟨rfl, trivial⟩
                          refine WC.ret ?_
                          refine WE.end0 (.inl rfl) (res1 Tryd.results83 rfl) ?_
                          -- end 17
                          unfold blk; first | exact congrArg Value.bool (decide_eq_true (by omega)).symm | exact congrArg Value.bool (decide_eq_false (by omega)).symm | (exfalso; omega)
                      ·
                        try simp only [Bool.not_eq_eq_eq_not, Bool.not_true, Bool.not_false, decide_eq_true_eq, decide_eq_false_iff_not, Int.not_lt, Int.not_le, ne_eq, Decidable.not_not, ← List.length_eq_zero_iff] at q9
                        refine WC.seq ?_
                        refine WC.region ?_
                        refine WL.q (oq_move rfl) rfl rfl rfl ?_
                        refine WL.q (oq_eql rfl rfl) rfl rfl rfl ?_
                        refine WL.q (oq_assign rfl) rfl rfl rfl ?_
                        refine WL.nil ?_
                        refine WE.then_normal ?_
                        refine WC.sub (fr' := [(0, _), (3, _)]) ?_ ⟨rfl, rfl, trivial⟩
                        refine WC.cond rfl (fun q10 => ?_) (fun q10 => ?_)
                        ·
                          try simp only [Bool.not_eq_eq_eq_not, Bool.not_true, Bool.not_false, decide_eq_true_eq, decide_eq_false_iff_not, Int.not_lt, Int.not_le, ne_eq, Decidable.not_not, ← List.length_eq_zero_iff] at q10
                          refine WC.skip ?_
                          refine WE.then_normal ?_
                          refine WC.sub (fr' := [(3, _)]) ?_ ⟨rfl, trivial⟩
                          refine WC.cond rfl (fun q10 => ?_) (fun q10 => ?_)
                          ·
                            try simp only [Bool.not_eq_eq_eq_not, Bool.not_true, Bool.not_false, decide_eq_true_eq, decide_eq_false_iff_not, Int.not_lt, Int.not_le, ne_eq, Decidable.not_not, ← List.length_eq_zero_iff] at q10
                            refine WC.seq ?_
                            refine WC.region ?_
                            refine WL.q (oq_assign rfl) rfl rfl rfl ?_
                            refine WL.nil ?_
                            refine WE.then_normal ?_
                            refine WC.sub (fr' := [(2, _)]) ?_ ⟨rfl, trivial⟩
                            refine WC.ret ?_
                            refine WE.block_ret ?_
                            refine WE.then_ret ?_
                            refine WE.end0 (.inl rfl) (res1 Tryd.results83 rfl) ?_
                            -- end 18
                            unfold blk; first | exact congrArg Value.bool (decide_eq_true (by omega)).symm | exact congrArg Value.bool (decide_eq_false (by omega)).symm | (exfalso; omega)
                          ·
                            try simp only [Bool.not_eq_eq_eq_not, Bool.not_true, Bool.not_false, decide_eq_true_eq, decide_eq_false_iff_not, Int.not_lt, Int.not_le, ne_eq, Decidable.not_not, ← List.length_eq_zero_iff] at q10
                            refine WC.skip ?_
                            refine WE.block_normal ?_
                            refine WE.then_normal ?_
                            refine WC.sub (fr' := []) ?_ trivial
                            refine WC.seq ?_
                            refine WC.region ?_
                            refine WL.q (oq_assign rfl) rfl rfl rfl ?_
                            refine WL.nil ?_
                            refine WE.then_normal ?_
                            refine WC.sub (fr' := [(2, _)]) ?_ ⟨rfl, trivial⟩
                            refine WC.ret ?_
                            refine WE.end0 (.inl rfl) (res1 Tryd.results83 rfl) ?_
                            -- end 19
                            unfold blk; first | exact congrArg Value.bool (decide_eq_true (by omega)).symm | exact congrArg Value.bool (decide_eq_false (by omega)).symm | (exfalso; omega)
                        ·
                          try simp only [Bool.not_eq_eq_eq_not, Bool.not_true, Bool.not_false, decide_eq_true_eq, decide_eq_false_iff_not, Int.not_lt, Int.not_le, ne_eq, Decidable.not_not, ← List.length_eq_zero_iff] at q10
                          refine WC.region ?_
                          refine WL.q (oq_move rfl) rfl rfl rfl ?_
                          refine WL.q (oq_eql rfl rfl) rfl rfl rfl ?_
                          refine WL.q (oq_assign rfl) rfl rfl rfl ?_
                          refine WL.nil ?_
                          refine WE.then_normal ?_
                          refine WC.sub (fr' := [(3, _)]) ?_ ⟨rfl, trivial⟩
                          refine WC.cond rfl (fun q11 => ?_) (fun q11 => ?_)
                          ·
                            try simp only [Bool.not_eq_eq_eq_not, Bool.not_true, Bool.not_false, decide_eq_true_eq, decide_eq_false_iff_not, Int.not_lt, Int.not_le, ne_eq, Decidable.not_not, ← List.length_eq_zero_iff] at q11
                            refine WC.seq ?_
                            refine WC.region ?_
                            refine WL.q (oq_assign rfl) rfl rfl rfl ?_
                            refine WL.nil ?_
                            refine WE.then_normal ?_
                            refine WC.sub (fr' := [(2, _)]) ?_ ⟨rfl, trivial⟩
                            refine WC.ret ?_
                            refine WE.block_ret ?_
                            refine WE.then_ret ?_
                            refine WE.end0 (.inl rfl) (res1 Tryd.results83 rfl) ?_
                            -- end 20
                            unfold blk; first | exact congrArg Value.bool (decide_eq_true (by omega)).symm | exact congrArg Value.bool (decide_eq_false (by omega)).symm | (exfalso; omega)
                          ·
                            try simp only [Bool.not_eq_eq_eq_not, Bool.not_true, Bool.not_false, decide_eq_true_eq, decide_eq_false_iff_not, Int.not_lt, Int.not_le, ne_eq, Decidable.not_not, ← List.length_eq_zero_iff] at q11
                            refine WC.skip ?_
                            refine WE.block_normal ?_
                            refine WE.then_normal ?_
                            refine WC.sub (fr' := []) ?_ trivial
                            refine WC.seq ?_
                            refine WC.region ?_
                            refine WL.q (oq_assign rfl) rfl rfl rfl ?_
                            refine WL.nil ?_
                            refine WE.then_normal ?_
                            refine WC.sub (fr' := [(2, _)]) ?_ ⟨rfl, trivial⟩
                            refine WC.ret ?_
                            refine WE.end0 (.inl rfl) (res1 Tryd.results83 rfl) ?_
                            -- end 21
                            unfold blk; first | exact congrArg Value.bool (decide_eq_true (by omega)).symm | exact congrArg Value.bool (decide_eq_false (by omega)).symm | (exfalso; omega)
              ·
                try simp only [Bool.not_eq_eq_eq_not, Bool.not_true, Bool.not_false, decide_eq_true_eq, decide_eq_false_iff_not, Int.not_lt, Int.not_le, ne_eq, Decidable.not_not, ← List.length_eq_zero_iff] at s6_2
                refine WL.skip rfl rfl rfl ?_
                refine WL.skip rfl rfl rfl ?_
                refine WL.q (oq_pick_f rfl rfl) rfl rfl rfl ?_
                refine WL.q (oq_assign rfl) rfl rfl rfl ?_
                refine WL.nil ?_
                refine WE.then_normal ?_
                refine WC.sub (fr' := [(0, _), (3, _)]) ?_ ⟨rfl, rfl, trivial⟩
                refine WC.cond_f rfl ?_
                refine WC.seq ?_
                refine WC.region ?_
                refine WL.q (oq_move rfl) rfl rfl rfl ?_
                refine WL.q (oq_eql rfl rfl) rfl rfl rfl ?_
                refine WL.q (oq_assign rfl) rfl rfl rfl ?_
                refine WL.nil ?_
                refine WE.then_normal ?_
                refine WC.sub (fr' := [(0, _), (3, _)]) ?_ ⟨rfl, rfl, trivial⟩
                refine WC.cond rfl (fun q7 => ?_) (fun q7 => ?_)
                ·
                  try simp only [Bool.not_eq_eq_eq_not, Bool.not_true, Bool.not_false, decide_eq_true_eq, decide_eq_false_iff_not, Int.not_lt, Int.not_le, ne_eq, Decidable.not_not, ← List.length_eq_zero_iff] at q7
                  refine WC.skip ?_
                  refine WE.then_normal ?_
                  refine WC.sub (fr' := [(3, _)]) ?_ ⟨rfl, trivial⟩
                  refine WC.cond rfl (fun q7 => ?_) (fun q7 => ?_)
                  ·
                    try simp only [Bool.not_eq_eq_eq_not, Bool.not_true, Bool.not_false, decide_eq_true_eq, decide_eq_false_iff_not, Int.not_lt, Int.not_le, ne_eq, Decidable.not_not, ← List.length_eq_zero_iff] at q7
                    refine WC.seq ?_
                    refine WC.region ?_
                    refine WL.q (oq_assign rfl) rfl rfl rfl ?_
                    refine WL.nil ?_
                    refine WE.then_normal ?_
                    refine WC.sub (fr' := [(2, _)]) ?_ ⟨rfl, trivial⟩
                    refine WC.ret ?_
                    refine WE.block_ret ?_
                    refine WE.then_ret ?_
                    refine WE.end0 (.inl rfl) (res1 Tryd.results83 rfl) ?_
                    -- end 22
                    unfold blk; first | exact congrArg Value.bool (decide_eq_true (by omega)).symm | exact congrArg Value.bool (decide_eq_false (by omega)).symm | (exfalso; omega)
                  ·
                    try simp only [Bool.not_eq_eq_eq_not, Bool.not_true, Bool.not_false, decide_eq_true_eq, decide_eq_false_iff_not, Int.not_lt, Int.not_le, ne_eq, Decidable.not_not, ← List.length_eq_zero_iff] at q7
                    refine WC.skip ?_
                    refine WE.block_normal ?_
                    refine WE.then_normal ?_
                    refine WC.sub (fr' := []) ?_ trivial
                    refine WC.seq ?_
                    refine WC.region ?_
                    refine WL.q (oq_assign rfl) rfl rfl rfl ?_
                    refine WL.nil ?_
                    refine WE.then_normal ?_
                    refine WC.sub (fr' := [(2, _)]) ?_ ⟨rfl, trivial⟩
                    refine WC.ret ?_
                    refine WE.end0 (.inl rfl) (res1 Tryd.results83 rfl) ?_
                    -- end 23
                    unfold blk; first | exact congrArg Value.bool (decide_eq_true (by omega)).symm | exact congrArg Value.bool (decide_eq_false (by omega)).symm | (exfalso; omega)
                ·
                  try simp only [Bool.not_eq_eq_eq_not, Bool.not_true, Bool.not_false, decide_eq_true_eq, decide_eq_false_iff_not, Int.not_lt, Int.not_le, ne_eq, Decidable.not_not, ← List.length_eq_zero_iff] at q7
                  refine WC.seq ?_
                  refine WC.region ?_
                  refine WL.q (oq_move rfl) rfl rfl rfl ?_
                  refine WL.q (oq_eql rfl rfl) rfl rfl rfl ?_
                  refine WL.q (oq_assign rfl) rfl rfl rfl ?_
                  refine WL.nil ?_
                  refine WE.then_normal ?_
                  refine WC.sub (fr' := [(0, _), (3, _)]) ?_ ⟨rfl, rfl, trivial⟩
                  refine WC.cond rfl (fun q8 => ?_) (fun q8 => ?_)
                  ·
                    try simp only [Bool.not_eq_eq_eq_not, Bool.not_true, Bool.not_false, decide_eq_true_eq, decide_eq_false_iff_not, Int.not_lt, Int.not_le, ne_eq, Decidable.not_not, ← List.length_eq_zero_iff] at q8
                    refine WC.skip ?_
                    refine WE.then_normal ?_
                    refine WC.sub (fr' := [(3, _)]) ?_ ⟨rfl, trivial⟩
                    refine WC.cond rfl (fun q8 => ?_) (fun q8 => ?_)
                    ·
                      try simp only [Bool.not_eq_eq_eq_not, Bool.not_true, Bool.not_false, decide_eq_true_eq, decide_eq_false_iff_not, Int.not_lt, Int.not_le, ne_eq, Decidable.not_not, ← List.length_eq_zero_iff] at q8
                      refine WC.seq ?_
                      refine WC.region ?_
                      refine WL.q (oq_assign rfl) rfl rfl rfl ?_
                      refine WL.nil ?_
                      refine WE.then_normal ?_
                      refine WC.sub (fr' := [(2, _)]) ?_ ⟨rfl, trivial⟩
                      refine WC.ret ?_
                      refine WE.block_ret ?_
                      refine WE.then_ret ?_
                      refine WE.end0 (.inl rfl) (res1 Tryd.results83 rfl) ?_
                      -- end 24
                      unfold blk; first | exact congrArg Value.bool (decide_eq_true (by omega)).symm | exact congrArg Value.bool (decide_eq_false (by omega)).symm | (exfalso; omega)
                    ·
                      try simp only [Bool.not_eq_eq_eq_not, Bool.not_true, Bool.not_false, decide_eq_true_eq, decide_eq_false_iff_not, Int.not_lt, Int.not_le, ne_eq, Decidable.not_not, ← List.length_eq_zero_iff] at q8
                      refine WC.skip ?_
                      refine WE.block_normal ?_
                      refine WE.then_normal ?_
                      refine WC.sub (fr' := []) ?_ trivial
                      refine WC.seq ?_
                      refine WC.region ?_
                      refine WL.q (oq_assign rfl) rfl rfl rfl ?_
                      refine WL.nil ?_
                      refine WE.then_normal ?_
                      refine WC.sub (fr' := [(2, _)]) ?_ ⟨rfl, trivial⟩
                      refine WC.ret ?_
                      refine WE.end0 (.inl rfl) (res1 Tryd.results83 rfl) ?_
                      -- end 25
                      unfold blk; first | exact congrArg Value.bool (decide_eq_true (by omega)).symm | exact congrArg Value.bool (decide_eq_false (by omega)).symm | (exfalso; omega)
                  ·
                    try simp only [Bool.not_eq_eq_eq_not, Bool.not_true, Bool.not_false, decide_eq_true_eq, decide_eq_false_iff_not, Int.not_lt, Int.not_le, ne_eq, Decidable.not_not, ← List.length_eq_zero_iff] at q8
                    refine WC.seq ?_
                    refine WC.region ?_
                    refine WL.q (oq_move rfl) rfl rfl rfl ?_
                    refine WL.q (oq_eql rfl rfl) rfl rfl rfl ?_
                    refine WL.q (oq_assign rfl) rfl rfl rfl ?_
                    refine WL.nil ?_
                    refine WE.then_normal ?_
                    refine WC.sub (fr' := [(0, _), (3, _)]) ?_ ⟨rfl, rfl, trivial⟩
                    refine WC.cond rfl (fun q9 => ?_) (fun q9 => ?_)
                    ·
                      try simp only [Bool.not_eq_eq_eq_not, Bool.not_true, Bool.not_false, decide_eq_true_eq, decide_eq_false_iff_not, Int.not_lt, Int.not_le, ne_eq, Decidable.not_not, ← List.length_eq_zero_iff] at q9
                      refine WC.skip ?_
                      refine WE.then_normal ?_
                      refine WC.sub (fr' := [(3, _)]) ?_ ⟨rfl, trivial⟩
                      refine WC.cond rfl (fun q9 => ?_) (fun q9 => ?_)
                      ·
                        try simp only [Bool.not_eq_eq_eq_not, Bool.not_true, Bool.not_false, decide_eq_true_eq, decide_eq_false_iff_not, Int.not_lt, Int.not_le, ne_eq, Decidable.not_not, ← List.length_eq_zero_iff] at q9
                        refine WC.seq ?_
                        refine WC.region ?_
                        refine WL.q (oq_assign rfl) rfl rfl rfl ?_
                        refine WL.nil ?_
                        refine WE.then_normal ?_
                        refine WC.sub (fr' := [(2, _)]) ?_ ⟨rfl, trivial⟩
                        refine WC.ret ?_
                        refine WE.block_ret ?_
                        refine WE.then_ret ?_
                        refine WE.end0 (.inl rfl) (res1 Tryd.results83 rfl) ?_
                        -- end 26
                        unfold blk; first | exact congrArg Value.bool (decide_eq_true (by omega)).symm | exact congrArg Value.bool (decide_eq_false (by omega)).symm | (exfalso; omega)
                      ·
                        try simp only [Bool.not_eq_eq_eq_not, Bool.not_true, Bool.not_false, decide_eq_true_eq, decide_eq_false_iff_not, Int.not_lt, Int.not_le, ne_eq, Decidable.not_not, ← List.length_eq_zero_iff] at q9
                        refine WC.skip ?_
                        refine WE.block_normal ?_
                        refine WE.then_normal ?_
                        refine WC.sub (fr' := []) ?_ trivial
                        refine WC.seq ?_
                        refine WC.region ?_
                        refine WL.q (oq_assign rfl) rfl rfl rfl ?_
                        refine WL.nil ?_
                        refine WE.then_normal ?_
                        refine WC.sub (fr' := [(2, _)]) ?_ ⟨rfl, trivial⟩
                        refine WC.ret ?_
                        refine WE.end0 (.inl rfl) (res1 Tryd.results83 rfl) ?_
                        -- end 27
                        unfold blk; first | exact congrArg Value.bool (decide_eq_true (by omega)).symm | exact congrArg Value.bool (decide_eq_false (by omega)).symm | (exfalso; omega)
                    ·
                      try simp only [Bool.not_eq_eq_eq_not, Bool.not_true, Bool.not_false, decide_eq_true_eq, decide_eq_false_iff_not, Int.not_lt, Int.not_le, ne_eq, Decidable.not_not, ← List.length_eq_zero_iff] at q9
                      refine WC.seq ?_
                      refine WC.region ?_
                      refine WL.q (oq_move rfl) rfl rfl rfl ?_
                      refine WL.q (oq_eql rfl rfl) rfl rfl rfl ?_
                      refine WL.q (oq_assign rfl) rfl rfl rfl ?_
                      refine WL.nil ?_
                      refine WE.then_normal ?_
                      refine WC.sub (fr' := [(0, _), (3, _)]) ?_ ⟨rfl, rfl, trivial⟩
                      refine WC.cond rfl (fun q10 => ?_) (fun q10 => ?_)
                      ·
                        try simp only [Bool.not_eq_eq_eq_not, Bool.not_true, Bool.not_false, decide_eq_true_eq, decide_eq_false_iff_not, Int.not_lt, Int.not_le, ne_eq, Decidable.not_not, ← List.length_eq_zero_iff] at q10
                        refine WC.skip ?_
                        refine WE.then_normal ?_
                        refine WC.sub (fr' := [(3, _)]) ?_ ⟨rfl, trivial⟩
                        refine WC.cond rfl (fun q10 => ?_) (fun q10 => ?_)
                        ·
                          try simp only [Bool.not_eq_eq_eq_not, Bool.not_true, Bool.not_false, decide_eq_true_eq, decide_eq_false_iff_not, Int.not_lt, Int.not_le, ne_eq, Decidable.not_not, ← List.length_eq_zero_iff] at q10
                          refine WC.seq ?_
                          refine WC.region ?_
                          refine WL.q (oq_assign rfl) rfl rfl rfl ?_
                          refine WL.nil ?_
                          refine WE.then_normal ?_
                          refine WC.sub (fr' := [(2, _)]) ?_ ⟨rfl, trivial⟩
                          refine WC.ret ?_
                          refine WE.block_ret ?_
                          refine WE.then_ret ?_
                          refine WE.end0 (.inl rfl) (res1 Tryd.results83 rfl) ?_
                          -- end 28
                          unfold blk; first | exact congrArg Value.bool (decide_eq_true (by omega)).symm | exact congrArg Value.bool (decide_eq_false (by omega)).symm | (exfalso; omega)
                        ·
                          try simp only [Bool.not_eq_eq_eq_not, Bool.not_true, Bool.not_false, decide_eq_true_eq, decide_eq_false_iff_not, Int.not_lt, Int.not_le, ne_eq, Decidable.not_not, ← List.length_eq_zero_iff] at q10
                          refine WC.skip ?_
                          refine WE.block_normal ?_
                          refine WE.then_normal ?_
                          refine WC.sub (fr' := []) ?_ trivial
                          refine WC.seq ?_
                          refine WC.region ?_
                          refine WL.q (oq_assign rfl) rfl rfl rfl ?_
                          refine WL.nil ?_
                          refine WE.then_normal ?_
                          refine WC.sub (fr' := [(2, _)]) ?_ ⟨rfl, trivial⟩
                          refine WC.ret ?_
                          refine WE.end0 (.inl rfl) (res1 Tryd.results83 rfl) ?_
                          -- end 29
                          unfold blk; first | exact congrArg Value.bool (decide_eq_true (by omega)).symm | exact congrArg Value.bool (decide_eq_false (by omega)).symm | (exfalso; omega)
                      ·
                        try simp only [Bool.not_eq_eq_eq_not, Bool.not_true, Bool.not_false, decide_eq_true_eq, decide_eq_false_iff_not, Int.not_lt, Int.not_le, ne_eq, Decidable.not_not, ← List.length_eq_zero_iff] at q10
                        refine WC.region ?_
                        refine WL.q (oq_move rfl) rfl rfl rfl ?_
                        refine WL.q (oq_eql rfl rfl) rfl rfl rfl ?_
                        refine WL.q (oq_assign rfl) rfl rfl rfl ?_
                        refine WL.nil ?_
                        refine WE.then_normal ?_
                        refine WC.sub (fr' := [(3, _)]) ?_ ⟨rfl, trivial⟩
                        refine WC.cond rfl (fun q11 => ?_) (fun q11 => ?_)
                        ·
                          try simp only [Bool.not_eq_eq_eq_not, Bool.not_true, Bool.not_false, decide_eq_true_eq, decide_eq_false_iff_not, Int.not_lt, Int.not_le, ne_eq, Decidable.not_not, ← List.length_eq_zero_iff] at q11
                          refine WC.seq ?_
                          refine WC.region ?_
                          refine WL.q (oq_assign rfl) rfl rfl rfl ?_
                          refine WL.nil ?_
                          refine WE.then_normal ?_
                          refine WC.sub (fr' := [(2, _)]) ?_ ⟨rfl, trivial⟩
                          refine WC.ret ?_
                          refine WE.block_ret ?_
                          refine WE.then_ret ?_
                          refine WE.end0 (.inl rfl) (res1 Tryd.results83 rfl) ?_
                          -- end 30
                          unfold blk; first | exact congrArg Value.bool (decide_eq_true (by omega)).symm | exact congrArg Value.bool (decide_eq_false (by omega)).symm | (exfalso; omega)
                        ·
                          try simp only [Bool.not_eq_eq_eq_not, Bool.not_true, Bool.not_false, decide_eq_true_eq, decide_eq_false_iff_not, Int.not_lt, Int.not_le, ne_eq, Decidable.not_not, ← List.length_eq_zero_iff] at q11
                          refine WC.skip ?_
                          refine WE.block_normal ?_
                          refine WE.then_normal ?_
                          refine WC.sub (fr' := []) ?_ trivial
                          refine WC.seq ?_
                          refine WC.region ?_
                          refine WL.q (oq_assign rfl) rfl rfl rfl ?_
                          refine WL.nil ?_
                          refine WE.then_normal ?_
                          refine WC.sub (fr' := [(2, _)]) ?_ ⟨rfl, trivial⟩
                          refine WC.ret ?_
                          refine WE.end0 (.inl rfl) (res1 Tryd.results83 rfl) ?_
                          -- end 31
                          unfold blk; first | exact congrArg Value.bool (decide_eq_true (by omega)).symm | exact congrArg Value.bool (decide_eq_false (by omega)).symm | (exfalso; omega)
  ·
    try simp only [Bool.not_eq_eq_eq_not, Bool.not_true, Bool.not_false, decide_eq_true_eq, decide_eq_false_iff_not, Int.not_lt, Int.not_le, ne_eq, Decidable.not_not, ← List.length_eq_zero_iff] at s1_2
    refine WL.skip rfl rfl rfl ?_
    refine WL.skip rfl rfl rfl ?_
    refine WL.q (oq_pick_f rfl rfl) rfl rfl rfl ?_
    refine WL.q (oq_assign rfl) rfl rfl rfl ?_
    refine WL.nil ?_
    refine WE.then_normal ?_
    refine WC.sub (fr' := [(0, _), (3, _)]) ?_ ⟨rfl, rfl, trivial⟩
    refine WC.cond_f rfl ?_
    refine WC.seq ?_
    refine WC.region ?_
    refine WL.q (oq_move rfl) rfl rfl rfl ?_
    refine WL.q (oq_eql rfl rfl) rfl rfl rfl ?_
    refine WL.q (oq_assign rfl) rfl rfl rfl ?_
    refine WL.nil ?_
    refine WE.then_normal ?_
    refine WC.sub (fr' := [(0, _), (3, _)]) ?_ ⟨rfl, rfl, trivial⟩
    refine WC.cond rfl (fun q2 => ?_) (fun q2 => ?_)
    ·
      try simp only [Bool.not_eq_eq_eq_not, Bool.not_true, Bool.not_false, decide_eq_true_eq, decide_eq_false_iff_not, Int.not_lt, Int.not_le, ne_eq, Decidable.not_not, ← List.length_eq_zero_iff] at q2
      refine WC.skip ?_
      refine WE.then_normal ?_
      refine WC.sub (fr' := [(3, _)]) ?_ ⟨rfl, trivial⟩
      refine WC.cond rfl (fun q2 => ?_) (fun q2 => ?_)
      ·
        try simp only [Bool.not_eq_eq_eq_not, Bool.not_true, Bool.not_false, decide_eq_true_eq, decide_eq_false_iff_not, Int.not_lt, Int.not_le, ne_eq, Decidable.not_not, ← List.length_eq_zero_iff] at q2
        refine WC.seq ?_
        refine WC.region ?_
        refine WL.q (oq_assign rfl) rfl rfl rfl ?_
        refine WL.nil ?_
        refine WE.then_normal ?_
        refine WC.sub (fr' := [(2, _)]) ?_ ⟨rfl, trivial⟩
        refine WC.ret ?_
        refine WE.block_ret ?_
        refine WE.then_ret ?_
        refine WE.end0 (.inl rfl) (res1 Tryd.results83 rfl) ?_
        -- end 32
        unfold blk; first | exact congrArg Value.bool (decide_eq_true (by omega)).symm | exact congrArg Value.bool (decide_eq_false (by omega)).symm | (exfalso; omega)
      ·
        try simp only [Bool.not_eq_eq_eq_not, Bool.not_true, Bool.not_false, decide_eq_true_eq, decide_eq_false_iff_not, Int.not_lt, Int.not_le, ne_eq, Decidable.not_not, ← List.length_eq_zero_iff] at q2
        refine WC.skip ?_
        refine WE.block_normal ?_
        refine WE.then_normal ?_
        refine WC.sub (fr' := []) ?_ trivial
        refine WC.seq ?_
        refine WC.region ?_
        refine WL.q (oq_assign rfl) rfl rfl rfl ?_
        refine WL.nil ?_
        refine WE.then_normal ?_
        refine WC.sub (fr' := [(2, _)]) ?_ ⟨rfl, trivial⟩
        refine WC.ret ?_
        refine WE.end0 (.inl rfl) (res1 Tryd.results83 rfl) ?_
        -- end 33
        unfold blk; first | exact congrArg Value.bool (decide_eq_true (by omega)).symm | exact congrArg Value.bool (decide_eq_false (by omega)).symm | (exfalso; omega)
    ·
      try simp only [Bool.not_eq_eq_eq_not, Bool.not_true, Bool.not_false, decide_eq_true_eq, decide_eq_false_iff_not, Int.not_lt, Int.not_le, ne_eq, Decidable.not_not, ← List.length_eq_zero_iff] at q2
      refine WC.seq ?_
      refine WC.region ?_
      refine WL.q (oq_move rfl) rfl rfl rfl ?_
      refine WL.q (oq_eql rfl rfl) rfl rfl rfl ?_
      refine WL.q (oq_assign rfl) rfl rfl rfl ?_
      refine WL.nil ?_
      refine WE.then_normal ?_
      refine WC.sub (fr' := [(0, _), (3, _)]) ?_ ⟨rfl, rfl, trivial⟩
      refine WC.cond rfl (fun q3 => ?_) (fun q3 => ?_)
      ·
        try simp only [Bool.not_eq_eq_eq_not, Bool.not_true, Bool.not_false, decide_eq_true_eq, decide_eq_false_iff_not, Int.not_lt, Int.not_le, ne_eq, Decidable.not_not, ← List.length_eq_zero_iff] at q3
        refine WC.skip ?_
        refine WE.then_normal ?_
        refine WC.sub (fr' := [(3, _)]) ?_ ⟨rfl, trivial⟩
        refine WC.cond rfl (fun q3 => ?_) (fun q3 => ?_)
        ·
          try simp only [Bool.not_eq_eq_eq_not, Bool.not_true, Bool.not_false, decide_eq_true_eq, decide_eq_false_iff_not, Int.not_lt, Int.not_le, ne_eq, Decidable.not_not, ← List.length_eq_zero_iff] at q3
          refine WC.seq ?_
          refine WC.region ?_
          refine WL.q (oq_assign rfl) rfl rfl rfl ?_
          refine WL.nil ?_
          refine WE.then_normal ?_
          refine WC.sub (fr' := [(2, _)]) ?_ ⟨rfl, trivial⟩
          refine WC.ret ?_
          refine WE.block_ret ?_
          refine WE.then_ret ?_
          refine WE.end0 (.inl rfl) (res1 Tryd.results83 rfl) ?_
          -- end 34
          unfold blk; first | exact congrArg Value.bool (decide_eq_true (by omega)).symm | exact congrArg Value.bool (decide_eq_false (by omega)).symm | (exfalso; omega)
        ·
          try simp only [Bool.not_eq_eq_eq_not, Bool.not_true, Bool.not_false, decide_eq_true_eq, decide_eq_false_iff_not, Int.not_lt, Int.not_le, ne_eq, Decidable.not_not, ← List.length_eq_zero_iff] at q3
          refine WC.skip ?_
          refine WE.block_normal ?_
          refine WE.then_normal ?_
          refine WC.sub (fr' := []) ?_ trivial
          refine WC.seq ?_
          refine WC.region ?_
          refine WL.q (oq_assign rfl) rfl rfl rfl ?_
          refine WL.nil ?_
          refine WE.then_normal ?_
          refine WC.sub (fr' := [(2, _)]) ?_ ⟨rfl, trivial⟩
          refine WC.ret ?_
          refine WE.end0 (.inl rfl) (res1 Tryd.results83 rfl) ?_
          -- end 35
          unfold blk; first | exact congrArg Value.bool (decide_eq_true (by omega)).symm | exact congrArg Value.bool (decide_eq_false (by omega)).symm | (exfalso; omega)
      ·
        try simp only [Bool.not_eq_eq_eq_not, Bool.not_true, Bool.not_false, decide_eq_true_eq, decide_eq_false_iff_not, Int.not_lt, Int.not_le, ne_eq, Decidable.not_not, ← List.length_eq_zero_iff] at q3
        refine WC.seq ?_
        refine WC.region ?_
        refine WL.q (oq_move rfl) rfl rfl rfl ?_
        refine WL.q (oq_eql rfl rfl) rfl rfl rfl ?_
        refine WL.q (oq_assign rfl) rfl rfl rfl ?_
        refine WL.nil ?_
        refine WE.then_normal ?_
        refine WC.sub (fr' := [(0, _), (3, _)]) ?_ ⟨rfl, rfl, trivial⟩
        refine WC.cond rfl (fun q4 => ?_) (fun q4 => ?_)
        ·
          try simp only [Bool.not_eq_eq_eq_not, Bool.not_true, Bool.not_false, decide_eq_true_eq, decide_eq_false_iff_not, Int.not_lt, Int.not_le, ne_eq, Decidable.not_not, ← List.length_eq_zero_iff] at q4
          refine WC.skip ?_
          refine WE.then_normal ?_
          refine WC.sub (fr' := [(3, _)]) ?_ ⟨rfl, trivial⟩
          refine WC.cond rfl (fun q4 => ?_) (fun q4 => ?_)
          ·
            try simp only [Bool.not_eq_eq_eq_not, Bool.not_true, Bool.not_false, decide_eq_true_eq, decide_eq_false_iff_not, Int.not_lt, Int.not_le, ne_eq, Decidable.not_not, ← List.length_eq_zero_iff] at q4
            refine WC.seq ?_
            refine WC.region ?_
            refine WL.q (oq_assign rfl) rfl rfl rfl ?_
            refine WL.nil ?_
            refine WE.then_normal ?_
            refine WC.sub (fr' := [(2, _)]) ?_ ⟨rfl, trivial⟩
            refine WC.ret ?_
            refine WE.block_ret ?_
            refine WE.then_ret ?_
            refine WE.end0 (.inl rfl) (res1 Tryd.results83 rfl) ?_
            -- end 36
            unfold blk; first | exact congrArg Value.bool (decide_eq_true (by omega)).symm | exact congrArg Value.bool (decide_eq_false (by omega)).symm | (exfalso; omega)
          ·
            try simp only [Bool.not_eq_eq_eq_not, Bool.not_true, Bool.not_false, decide_eq_true_eq, decide_eq_false_iff_not, Int.not_lt, Int.not_le, ne_eq, Decidable.not_not, ← List.length_eq_zero_iff] at q4
            refine WC.skip ?_
            refine WE.block_normal ?_
            refine WE.then_normal ?_
            refine WC.sub (fr' := []) ?_ trivial
            refine WC.seq ?_
            refine WC.region ?_
            refine WL.q (oq_assign rfl) rfl rfl rfl ?_
            refine WL.nil ?_
            refine WE.then_normal ?_
            refine WC.sub (fr' := [(2, _)]) ?_ ⟨rfl, trivial⟩
            refine WC.ret ?_
            refine WE.end0 (.inl rfl) (res1 Tryd.results83 rfl) ?_
            -- end 37
            unfold blk; first | exact congrArg Value.bool (decide_eq_true (by omega)).symm | exact congrArg Value.bool (decide_eq_false (by omega)).symm | (exfalso; omega)
        ·
          try simp only [Bool.not_eq_eq_eq_not, Bool.not_true, Bool.not_false, decide_eq_true_eq, decide_eq_false_iff_not, Int.not_lt, Int.not_le, ne_eq, Decidable.not_not, ← List.length_eq_zero_iff] at q4
          refine WC.seq ?_
          refine WC.region ?_
          refine WL.q (oq_move rfl) rfl rfl rfl ?_
          refine WL.q (oq_eql rfl rfl) rfl rfl rfl ?_
          refine WL.q (oq_assign rfl) rfl rfl rfl ?_
          refine WL.nil ?_
          refine WE.then_normal ?_
          refine WC.sub (fr' := [(0, _), (3, _)]) ?_ ⟨rfl, rfl, trivial⟩
          refine WC.cond rfl (fun q5 => ?_) (fun q5 => ?_)
          ·
            try simp only [Bool.not_eq_eq_eq_not, Bool.not_true, Bool.not_false, decide_eq_true_eq, decide_eq_false_iff_not, Int.not_lt, Int.not_le, ne_eq, Decidable.not_not, ← List.length_eq_zero_iff] at q5
            refine WC.skip ?_
            refine WE.then_normal ?_
            refine WC.sub (fr' := [(3, _)]) ?_ ⟨rfl, trivial⟩
            refine WC.cond rfl (fun q5 => ?_) (fun q5 => ?_)
            ·
              try simp only [Bool.not_eq_eq_eq_not, Bool.not_true, Bool.not_false, decide_eq_true_eq, decide_eq_false_iff_not, Int.not_lt, Int.not_le, ne_eq, Decidable.not_not, ← List.length_eq_zero_iff] at q5
              refine WC.seq ?_
              refine WC.region ?_
              refine WL.q (oq_assign rfl) rfl rfl rfl ?_
              refine WL.nil ?_
              refine WE.then_normal ?_
              refine WC.sub (fr' := [(2, _)]) ?_ ⟨rfl, trivial⟩
              refine WC.ret ?_
              refine WE.block_ret ?_
              refine WE.then_ret ?_
              refine WE.end0 (.inl rfl) (res1 Tryd.results83 rfl) ?_
              -- end 38
              unfold blk; first | exact congrArg Value.bool (decide_eq_true (by omega)).symm | exact congrArg Value.bool (decide_eq_false (by omega)).symm | (exfalso; omega)
            ·
              try simp only [Bool.not_eq_eq_eq_not, Bool.not_true, Bool.not_false, decide_eq_true_eq, decide_eq_false_iff_not, Int.not_lt, Int.not_le, ne_eq, Decidable.not_not, ← List.length_eq_zero_iff] at q5
              refine WC.skip ?_
              refine WE.block_normal ?_
              refine WE.then_normal ?_
              refine WC.sub (fr' := []) ?_ trivial
              refine WC.seq ?_
              refine WC.region ?_
              refine WL.q (oq_assign rfl) rfl rfl rfl ?_
              refine WL.nil ?_
              refine WE.then_normal ?_
              refine WC.sub (fr' := [(2, _)]) ?_ ⟨rfl, trivial⟩
              refine WC.ret ?_
              refine WE.end0 (.inl rfl) (res1 Tryd.results83 rfl) ?_
              -- end 39
              unfold blk; first | exact congrArg Value.bool (decide_eq_true (by omega)).symm | exact congrArg Value.bool (decide_eq_false (by omega)).symm | (exfalso; omega)
          ·
            try simp only [Bool.not_eq_eq_eq_not, Bool.not_true, Bool.not_false, decide_eq_true_eq, decide_eq_false_iff_not, Int.not_lt, Int.not_le, ne_eq, Decidable.not_not, ← List.length_eq_zero_iff] at q5
            refine WC.seq ?_
            refine WC.region ?_
            refine WL.q (oq_move rfl) rfl rfl rfl ?_
            refine WL.q (oq_geq rfl rfl) rfl rfl rfl ?_
            refine WL.q (oq_move rfl) rfl rfl rfl ?_
            refine WL.split 20 rfl (fun s6_2 => ?_) (fun s6_2 => ?_)
            ·
              try simp only [Bool.not_eq_eq_eq_not, Bool.not_true, Bool.not_false, decide_eq_true_eq, decide_eq_false_iff_not, Int.not_lt, Int.not_le, ne_eq, Decidable.not_not, ← List.length_eq_zero_iff] at s6_2
              refine WL.q (oq_move rfl) rfl rfl rfl ?_
              refine WL.q (oq_leq rfl rfl) rfl rfl rfl ?_
              refine WL.q (oq_pick_t rfl rfl) rfl rfl rfl ?_
              refine WL.q (oq_assign rfl) rfl rfl rfl ?_
              refine WL.nil ?_
              refine WE.then_normal ?_
              refine WC.sub (fr' := [(0, _), (3, _)]) ?_ ⟨rfl, rfl, trivial⟩
              refine WC.cond rfl (fun q6 => ?_) (fun q6 => ?_)
              ·
                try simp only [Bool.not_eq_eq_eq_not, Bool.not_true, Bool.not_false, decide_eq_true_eq, decide_eq_false_iff_not, Int.not_lt, Int.not_le, ne_eq, Decidable.not_not, ← List.length_eq_zero_iff] at q6
                refine WC.skip ?_
                refine WE.then_normal ?_
                refine WC.sub (fr' := [(3, _)]) ?_ ⟨rfl, trivial⟩
                refine WC.cond rfl (fun q6 => ?_) (fun q6 => ?_)
                ·
                  try simp only [Bool.not_eq_eq_eq_not, Bool.not_true, Bool.not_false, decide_eq_true_eq, decide_eq_false_iff_not, Int.not_lt, Int.not_le, ne_eq, Decidable.not_not, ← List.length_eq_zero_iff] at q6
                  refine WC.seq ?_
                  refine WC.region ?_
                  refine WL.q (oq_assign rfl) rfl rfl rfl ?_
                  refine WL.nil ?_
                  refine WE.then_normal ?_
                  refine WC.sub (fr' := [(2, _)]) ?_ ⟨rfl, trivial⟩
                  refine WC.ret ?_
                  refine WE.block_ret ?_
                  refine WE.then_ret ?_
                  refine WE.end0 (.inl rfl) (res1 Tryd.results83 rfl) ?_
                  -- end 40
                  unfold blk; first | exact congrArg Value.bool (decide_eq_true (by omega)).symm | exact congrArg Value.bool (decide_eq_false (by omega)).symm | (exfalso; omega)
                ·
                  try simp only [Bool.not_eq_eq_eq_not, Bool.not_true, Bool.not_false, decide_eq_true_eq, decide_eq_false_iff_not, Int.not_lt, Int.not_le, ne_eq, Decidable.not_not, ← List.length_eq_zero_iff] at q6
                  refine WC.skip ?_
                  refine WE.block_normal ?_
                  refine WE.then_normal ?_
                  refine WC.sub (fr' := []) ?_ trivial
                  refine WC.seq ?_
                  refine WC.region ?_
                  refine WL.q (oq_assign rfl) rfl rfl rfl ?_
                  refine WL.nil ?_
                  refine WE.then_normal ?_
                  refine WC.sub (fr' := [(2, _)]) ?_ ⟨rfl, trivial⟩
                  refine WC.ret ?_
                  refine WE.end0 (.inl rfl) (res1 Tryd.results83 rfl) ?_
                  -- end 41
                  unfold blk; first | exact congrArg Value.bool (decide_eq_true (by omega)).symm | exact congrArg Value.bool (decide_eq_false (by omega)).symm | (exfalso; omega)
              ·
                try simp only [Bool.not_eq_eq_eq_not, Bool.not_true, Bool.not_false, decide_eq_true_eq, decide_eq_false_iff_not, Int.not_lt, Int.not_le, ne_eq, Decidable.not_not, ← List.length_eq_zero_iff] at q6
                refine WC.seq ?_
                refine WC.region ?_
                refine WL.q (oq_move rfl) rfl rfl rfl ?_
                refine WL.q (oq_eql rfl rfl) rfl rfl rfl ?_
                refine WL.q (oq_assign rfl) rfl rfl rfl ?_
                refine WL.nil ?_
                refine WE.then_normal ?_
                refine WC.sub (fr' := [(0, _), (3, _)]) ?_ ⟨rfl, rfl, trivial⟩
                refine WC.cond rfl (fun q7 => ?_) (fun q7 => ?_)
                ·
                  try simp only [Bool.not_eq_eq_eq_not, Bool.not_true, Bool.not_false, decide_eq_true_eq, decide_eq_false_iff_not, Int.not_lt, Int.not_le, ne_eq, Decidable.not_not, ← List.length_eq_zero_iff] at q7
                  refine WC.skip ?_
                  refine WE.then_normal ?_
                  refine WC.sub (fr' := [(3, _)]) ?_ ⟨rfl, trivial⟩
                  refine WC.cond rfl (fun q7 => ?_) (fun q7 => ?_)
                  ·
                    try simp only [Bool.not_eq_eq_eq_not, Bool.not_true, Bool.not_false, decide_eq_true_eq, decide_eq_false_iff_not, Int.not_lt, Int.not_le, ne_eq, Decidable.not_not, ← List.length_eq_zero_iff] at q7
                    refine WC.seq ?_
                    refine WC.region ?_
                    refine WL.q (oq_assign rfl) rfl rfl rfl ?_
                    refine WL.nil ?_
                    refine WE.then_normal ?_
                    refine WC.sub (fr' := [(2, _)]) ?_ ⟨rfl, trivial⟩
                    refine WC.ret ?_
                    refine WE.block_ret ?_
                    refine WE.then_ret ?_
                    refine WE.end0 (.inl rfl) (res1 Tryd.results83 rfl) ?_
                    -- end 42
                    unfold blk; first | exact congrArg Value.bool (decide_eq_true (by omega)).symm | exact congrArg Value.bool (decide_eq_false (by omega)).symm | (exfalso; omega)
                  ·
                    try simp only [Bool.not_eq_eq_eq_not, Bool.not_true, Bool.not_false, decide_eq_true_eq, decide_eq_false_iff_not, Int.not_lt, Int.not_le, ne_eq, Decidable.not_not, ← List.length_eq_zero_iff] at q7
                    refine WC.skip ?_
                    refine WE.block_normal ?_
                    refine WE.then_normal ?_
                    refine WC.sub (fr' := []) ?_ trivial
                    refine WC.seq ?_
                    refine WC.region ?_
                    refine WL.q (oq_assign rfl) rfl rfl rfl ?_
                    refine WL.nil ?_
                    refine WE.then_normal ?_
                    refine WC.sub (fr' := [(2, _)]) ?_ ⟨rfl, trivial⟩
                    refine WC.ret ?_
                    refine WE.end0 (.inl rfl) (res1 Tryd.results83 rfl) ?_
                    -- end 43
                    unfold blk; first | exact congrArg Value.bool (decide_eq_true (by omega)).symm | exact congrArg Value.bool (decide_eq_false (by omega)).symm | (exfalso; omega)
                ·
                  try simp only [Bool.not_eq_eq_eq_not, Bool.not_true, Bool.not_false, decide_eq_true_eq, decide_eq_false_iff_not, Int.not_lt, Int.not_le, ne_eq, Decidable.not_not, ← List.length_eq_zero_iff] at q7
                  refine WC.seq ?_
                  refine WC.region ?_
                  refine WL.q (oq_move rfl) rfl rfl rfl ?_
                  refine WL.q (oq_eql rfl rfl) rfl rfl rfl ?_
                  refine WL.q (oq_assign rfl) rfl rfl rfl ?_
                  refine WL.nil ?_
                  refine WE.then_normal ?_
                  refine WC.sub (fr' := [(0, _), (3, _)]) ?_ ⟨rfl, rfl, trivial⟩
                  refine WC.cond rfl (fun q8 => ?_) (fun q8 => ?_)
                  ·
                    try simp only [Bool.not_eq_eq_eq_not, Bool.not_true, Bool.not_false, decide_eq_true_eq, decide_eq_false_iff_not, Int.not_lt, Int.not_le, ne_eq, Decidable.not_not, ← List.length_eq_zero_iff] at q8
                    refine WC.skip ?_
                    refine WE.then_normal ?_
                    refine WC.sub (fr' := [(3, _)]) ?_ ⟨rfl, trivial⟩
                    refine WC.cond rfl (fun q8 => ?_) (fun q8 => ?_)
                    ·
                      try simp only [Bool.not_eq_eq_eq_not, Bool.not_true, Bool.not_false, decide_eq_true_eq, decide_eq_false_iff_not, Int.not_lt, Int.not_le, ne_eq, Decidable.not_not, ← List.length_eq_zero_iff] at q8
                      refine WC.seq ?_
                      refine WC.region ?_
                      refine WL.q (oq_assign rfl) rfl rfl rfl ?_
                      refine WL.nil ?_
                      refine WE.then_normal ?_
                      refine WC.sub (fr' := [(2, _)]) ?_ ⟨rfl, trivial⟩
                      refine WC.ret ?_
                      refine WE.block_ret ?_
                      refine WE.then_ret ?_
                      refine WE.end0 (.inl rfl) (res1 Tryd.results83 rfl) ?_
                      -- end 44
                      unfold blk; first | exact congrArg Value.bool (decide_eq_true (by omega)).symm | exact congrArg Value.bool (decide_eq_false (by omega)).symm | (exfalso; omega)
                    ·
                      try simp only [Bool.not_eq_eq_eq_not, Bool.not_true, Bool.not_false, decide_eq_true_eq, decide_eq_false_iff_not, Int.not_lt, Int.not_le, ne_eq, Decidable.not_not, ← List.length_eq_zero_iff] at q8
                      refine WC.skip ?_
                      refine WE.block_normal ?_
                      refine WE.then_normal ?_
                      refine WC.sub (fr' := []) ?_ trivial
                      refine WC.seq ?_
                      refine WC.region ?_
                      refine WL.q (oq_assign rfl) rfl rfl rfl ?_
                      refine WL.nil ?_
                      refine WE.then_normal ?_
                      refine WC.sub (fr' := [(2, _)]) ?_ ⟨rfl, trivial⟩
                      refine WC.ret ?_
                      refine WE.end0 (.inl rfl) (res1 Tryd.results83 rfl) ?_
                      -- end 45
                      unfold blk; first | exact congrArg Value.bool (decide_eq_true (by omega)).symm | exact congrArg Value.bool (decide_eq_false (by omega)).symm | (exfalso; omega)
                  ·
                    try simp only [Bool.not_eq_eq_eq_not, Bool.not_true, Bool.not_false, decide_eq_true_eq, decide_eq_false_iff_not, Int.not_lt, Int.not_le, ne_eq, Decidable.not_not, ← List.length_eq_zero_iff] at q8
                    refine WC.seq ?_
                    refine WC.region ?_
                    refine WL.q (oq_move rfl) rfl rfl rfl ?_
                    refine WL.q (oq_eql rfl rfl) rfl rfl rfl ?_
                    refine WL.q (oq_assign rfl) rfl rfl rfl ?_
                    refine WL.nil ?_
                    refine WE.then_normal ?_
                    refine WC.sub (fr' := [(0, _), (3, _)]) ?_ ⟨rfl, rfl, trivial⟩
                    refine WC.cond rfl (fun q9 => ?_) (fun q9 => ?_)
                    ·
                      try simp only [Bool.not_eq_eq_eq_not, Bool.not_true, Bool.not_false, decide_eq_true_eq, decide_eq_false_iff_not, Int.not_lt, Int.not_le, ne_eq, Decidable.not_not, ← List.length_eq_zero_iff] at q9
                      refine WC.skip ?_
                      refine WE.then_normal ?_
                      refine WC.sub (fr' := [(3, _)]) ?_ ⟨rfl, trivial⟩
                      refine WC.cond rfl (fun q9 => ?_) (fun q9 => ?_)
                      ·
                        try simp only [Bool.not_eq_eq_eq_not, Bool.not_true, Bool.not_false, decide_eq_true_eq, decide_eq_false_iff_not, Int.not_lt, Int.not_le, ne_eq, Decidable.not_not, ← List.length_eq_zero_iff] at q9
                        refine WC.seq ?_
                        refine WC.region ?_
                        refine WL.q (oq_assign rfl) rfl rfl rfl ?_
                        refine WL.nil ?_
                        refine WE.then_normal ?_
                        refine WC.sub (fr' := [(2, _)]) ?_ ⟨rfl, trivial⟩
                        refine WC.ret ?_
                        refine WE.block_ret ?_
                        refine WE.then_ret ?_
                        refine WE.end0 (.inl rfl) (res1 Tryd.results83 rfl) ?_
                        -- end 46
                        unfold blk; first | exact congrArg Value.bool (decide_eq_true (by omega)).symm | exact congrArg Value.bool (decide_eq_false (by omega)).symm | (exfalso; omega)
                      ·
                        try simp only [Bool.not_eq_eq_eq_not, Bool.not_true, Bool.not_false, decide_eq_true_eq, decide_eq_false_iff_not, Int.not_lt, Int.not_le, ne_eq, Decidable.not_not, ← List.length_eq_zero_iff] at q9
                        refine WC.skip ?_
                        refine WE.block_normal ?_
                        refine WE.then_normal ?_
                        refine WC.sub (fr' := []) ?_ trivial
                        refine WC.seq ?_
                        refine WC.region ?_
                        refine WL.q (oq_assign rfl) rfl rfl rfl ?_
                        refine WL.nil ?_
                        refine WE.then_normal ?_
                        refine WC.sub (fr' := [(2, _)]) ?_ ⟨rfl, trivial⟩
                        refine WC.ret ?_
                        refine WE.end0 (.inl rfl) (res1 Tryd.results83 rfl) ?_
                        -- end 47
                        unfold blk; first | exact congrArg Value.bool (decide_eq_true (by omega)).symm | exact congrArg Value.bool (decide_eq_false (by omega)).symm | (exfalso; omega)
                    ·
                      try simp only [Bool.not_eq_eq_eq_not, Bool.not_true, Bool.not_false, decide_eq_true_eq, decide_eq_false_iff_not, Int.not_lt, Int.not_le, ne_eq, Decidable.not_not, ← List.length_eq_zero_iff] at q9
                      refine WC.seq ?_
                      refine WC.region ?_
                      refine WL.q (oq_move rfl) rfl rfl rfl ?_
                      refine WL.q (oq_eql rfl rfl) rfl rfl rfl ?_
                      refine WL.q (oq_assign rfl) rfl rfl rfl ?_
                      refine WL.nil ?_
                      refine WE.then_normal ?_
                      refine WC.sub (fr' := [(0, _), (3, _)]) ?_ ⟨rfl, rfl, trivial⟩
                      refine WC.cond rfl (fun q10 => ?_) (fun q10 => ?_)
                      ·
                        try simp only [Bool.not_eq_eq_eq_not, Bool.not_true, Bool.not_false, decide_eq_true_eq, decide_eq_false_iff_not, Int.not_lt, Int.not_le, ne_eq, Decidable.not_not, ← List.length_eq_zero_iff] at q10
                        refine WC.skip ?_
                        refine WE.then_normal ?_
                        refine WC.sub (fr' := [(3, _)]) ?_ ⟨rfl, trivial⟩
                        refine WC.cond rfl (fun q10 => ?_) (fun q10 => ?_)
                        ·
                          try simp only [Bool.not_eq_eq_eq_not, Bool.not_true, Bool.not_false, decide_eq_true_eq, decide_eq_false_iff_not, Int.not_lt, Int.not_le, ne_eq, Decidable.not_not, ← List.length_eq_zero_iff] at q10
                          refine WC.seq ?_
                          refine WC.region ?_
                          refine WL.q (oq_assign rfl) rfl rfl rfl ?_
                          refine WL.nil ?_
                          refine WE.then_normal ?_
                          refine WC.sub (fr' := [(2, _)]) ?_ ⟨rfl, trivial⟩
                          refine WC.ret ?_
                          refine WE.block_ret ?_
                          refine WE.then_ret ?_
                          refine WE.end0 (.inl rfl) (res1 Tryd.results83 rfl) ?_
                          -- end 48
                          unfold blk; first | exact congrArg Value.bool (decide_eq_true (by omega)).symm | exact congrArg Value.bool (decide_eq_false (by omega)).symm | (exfalso; omega)
                        ·
                          try simp only [Bool.not_eq_eq_eq_not, Bool.not_true, Bool.not_false, decide_eq_true_eq, decide_eq_false_iff_not, Int.not_lt, Int.not_le, ne_eq, Decidable.not_not, ← List.length_eq_zero_iff] at q10
                          refine WC.skip ?_
                          refine WE.block_normal ?_
                          refine WE.then_normal ?_
                          refine WC.sub (fr' := []) ?_ trivial
                          refine WC.seq ?_
                          refine WC.region ?_
                          refine WL.q (oq_assign rfl) rfl rfl rfl ?_
                          refine WL.nil ?_
                          refine WE.then_normal ?_
                          refine WC.sub (fr' := [(2, _)]) ?_ ⟨rfl, trivial⟩
                          refine WC.ret ?_
                          refine WE.end0 (.inl rfl) (res1 Tryd.results83 rfl) ?_
                          -- end 49
                          unfold blk; first | exact congrArg Value.bool (decide_eq_true (by omega)).symm | exact congrArg Value.bool (decide_eq_false (by omega)).symm | (exfalso; omega)
                      ·
                        try simp only [Bool.not_eq_eq_eq_not, Bool.not_true, Bool.not_false, decide_eq_true_eq, decide_eq_false_iff_not, Int.not_lt, Int.not_le, ne_eq, Decidable.not_not, ← List.length_eq_zero_iff] at q10
                        refine WC.region ?_
                        refine WL.q (oq_move rfl) rfl rfl rfl ?_
                        refine WL.q (oq_eql rfl rfl) rfl rfl rfl ?_
                        refine WL.q (oq_assign rfl) rfl rfl rfl ?_
                        refine WL.nil ?_
                        refine WE.then_normal ?_
                        refine WC.sub (fr' := [(3, _)]) ?_ ⟨rfl, trivial⟩
                        refine WC.cond rfl (fun q11 => ?_) (fun q11 => ?_)
                        ·
                          try simp only [Bool.not_eq_eq_eq_not, Bool.not_true, Bool.not_false, decide_eq_true_eq, decide_eq_false_iff_not, Int.not_lt, Int.not_le, ne_eq, Decidable.not_not, ← List.length_eq_zero_iff] at q11
                          refine WC.seq ?_
                          refine WC.region ?_
                          refine WL.q (oq_assign rfl) rfl rfl rfl ?_
                          refine WL.nil ?_
                          refine WE.then_normal ?_
                          refine WC.sub (fr' := [(2, _)]) ?_ ⟨rfl, trivial⟩
                          refine WC.ret ?_
                          refine WE.block_ret ?_
                          refine WE.then_ret ?_
                          refine WE.end0 (.inl rfl) (res1 Tryd.results83 rfl) ?_
                          -- end 50
                          unfold blk; first | exact congrArg Value.bool (decide_eq_true (by omega)).symm | exact congrArg Value.bool (decide_eq_false (by omega)).symm | (exfalso; omega)
                        ·
                          try simp only [Bool.not_eq_eq_eq_not, Bool.not_true, Bool.not_false, decide_eq_true_eq, decide_eq_false_iff_not, Int.not_lt, Int.not_le, ne_eq, Decidable.not_not, ← List.length_eq_zero_iff] at q11
                          refine WC.skip ?_
                          refine WE.block_normal ?_
                          refine WE.then_normal ?_
                          refine WC.sub (fr' := []) ?_ trivial
                          refine WC.seq ?_
                          refine WC.region ?_
                          refine WL.q (oq_assign rfl) rfl rfl rfl ?_
                          refine WL.nil ?_
                          refine WE.then_normal ?_
                          refine WC.sub (fr' := [(2, _)]) ?_ ⟨rfl, trivial⟩
                          refine WC.ret ?_
                          refine WE.end0 (.inl rfl) (res1 Tryd.results83 rfl) ?_
                          -- end 51
                          unfold blk; first | exact congrArg Value.bool (decide_eq_true (by omega)).symm | exact congrArg Value.bool (decide_eq_false (by omega)).symm | (exfalso; omega)
            ·
              try simp only [Bool.not_eq_eq_eq_not, Bool.not_true, Bool.not_false, decide_eq_true_eq, decide_eq_false_iff_not, Int.not_lt, Int.not_le, ne_eq, Decidable.not_not, ← List.length_eq_zero_iff] at s6_2
              refine WL.skip rfl rfl rfl ?_
              refine WL.skip rfl rfl rfl ?_
              refine WL.q (oq_pick_f rfl rfl) rfl rfl rfl ?_
              refine WL.q (oq_assign rfl) rfl rfl rfl ?_
              refine WL.nil ?_
              refine WE.then_normal ?_
              refine WC.sub (fr' := [(0, _), (3, _)]) ?_ ⟨rfl, rfl, trivial⟩
              refine WC.cond_f rfl ?_
              refine WC.seq ?_
              refine WC.region ?_
              refine WL.q (oq_move rfl) rfl rfl rfl ?_
              refine WL.q (oq_eql rfl rfl) rfl rfl rfl ?_
              refine WL.q (oq_assign rfl) rfl rfl rfl ?_
              refine WL.nil ?_
              refine WE.then_normal ?_
              refine WC.sub (fr' := [(0, _), (3, _)]) ?_ ⟨rfl, rfl, trivial⟩
              refine WC.cond rfl (fun q7 => ?_) (fun q7 => ?_)
              ·
                try simp only [Bool.not_eq_eq_eq_not, Bool.not_true, Bool.not_false, decide_eq_true_eq, decide_eq_false_iff_not, Int.not_lt, Int.not_le, ne_eq, Decidable.not_not, ← List.length_eq_zero_iff] at q7
                refine WC.skip ?_
                refine WE.then_normal ?_
                refine WC.sub (fr' := [(3, _)]) ?_ ⟨rfl, trivial⟩
                refine WC.cond rfl (fun q7 => ?_) (fun q7 => ?_)
                ·
                  try simp only [Bool.not_eq_eq_eq_not, Bool.not_true, Bool.not_false, decide_eq_true_eq, decide_eq_false_iff_not, Int.not_lt, Int.not_le, ne_eq, Decidable.not_not, ← List.length_eq_zero_iff] at q7
                  refine WC.seq ?_
                  refine WC.region ?_
                  refine WL.q (oq_assign rfl) rfl rfl rfl ?_
                  refine WL.nil ?_
                  refine WE.then_normal ?_
                  refine WC.sub (fr' := [(2, _)]) ?_ ⟨rfl, trivial⟩
                  refine WC.ret ?_
                  refine WE.block_ret ?_
                  refine WE.then_ret ?_
                  refine WE.end0 (.inl rfl) (res1 Tryd.results83 rfl) ?_
                  -- end 52
                  unfold blk; first | exact congrArg Value.bool (decide_eq_true (by omega)).symm | exact congrArg Value.bool (decide_eq_false (by omega)).symm | (exfalso; omega)
                ·
                  try simp only [Bool.not_eq_eq_eq_not, Bool.not_true, Bool.not_false, decide_eq_true_eq, decide_eq_false_iff_not, Int.not_lt, Int.not_le, ne_eq, Decidable.not_not, ← List.length_eq_zero_iff] at q7
                  refine WC.skip ?_
                  refine WE.block_normal ?_
                  refine WE.then_normal ?_
                  refine WC.sub (fr' := []) ?_ trivial
                  refine WC.seq ?_
                  refine WC.region ?_
                  refine WL.q (oq_assign rfl) rfl rfl rfl ?_
                  refine WL.nil ?_
                  refine WE.then_normal ?_
                  refine WC.sub (fr' := [(2, _)]) ?_ ⟨rfl, trivial⟩
                  refine WC.ret ?_
                  refine WE.end0 (.inl rfl) (res1 Tryd.results83 rfl) ?_
                  -- end 53
                  unfold blk; first | exact congrArg Value.bool (decide_eq_true (by omega)).symm | exact congrArg Value.bool (decide_eq_false (by omega)).symm | (exfalso; omega)
              ·
                try simp only [Bool.not_eq_eq_eq_not, Bool.not_true, Bool.not_false, decide_eq_true_eq, decide_eq_false_iff_not, Int.not_lt, Int.not_le, ne_eq, Decidable.not_not, ← List.length_eq_zero_iff] at q7
                refine WC.seq ?_
                refine WC.region ?_
                refine WL.q (oq_move rfl) rfl rfl rfl ?_
                refine WL.q (oq_eql rfl rfl) rfl rfl rfl ?_
                refine WL.q (oq_assign rfl) rfl rfl rfl ?_
                refine WL.nil ?_
                refine WE.then_normal ?_
                refine WC.sub (fr' := [(0, _), (3, _)]) ?_ ⟨rfl, rfl, trivial⟩
                refine WC.cond rfl (fun q8 => ?_) (fun q8 => ?_)
                ·
                  try simp only [Bool.not_eq_eq_eq_not, Bool.not_true, Bool.not_false, decide_eq_true_eq, decide_eq_false_iff_not, Int.not_lt, Int.not_le, ne_eq, Decidable.not_not, ← List.length_eq_zero_iff] at q8
                  refine WC.skip ?_
                  refine WE.then_normal ?_
                  refine WC.sub (fr' := [(3, _)]) ?_ ⟨rfl, trivial⟩
                  refine WC.cond rfl (fun q8 => ?_) (fun q8 => ?_)
                  ·
                    try simp only [Bool.not_eq_eq_eq_not, Bool.not_true, Bool.not_false, decide_eq_true_eq, decide_eq_false_iff_not, Int.not_lt, Int.not_le, ne_eq, Decidable.not_not, ← List.length_eq_zero_iff] at q8
                    refine WC.seq ?_
                    refine WC.region ?_
                    refine WL.q (oq_assign rfl) rfl rfl rfl ?_
                    refine WL.nil ?_
                    refine WE.then_normal ?_
                    refine WC.sub (fr' := [(2, _)]) ?_ ⟨rfl, trivial⟩
                    refine WC.ret ?_
                    refine WE.block_ret ?_
                    refine WE.then_ret ?_
                    refine WE.end0 (.inl rfl) (res1 Tryd.results83 rfl) ?_
                    -- end 54
                    unfold blk; first | exact congrArg Value.bool (decide_eq_true (by omega)).symm | exact congrArg Value.bool (decide_eq_false (by omega)).symm | (exfalso; omega)
                  ·
                    try simp only [Bool.not_eq_eq_eq_not, Bool.not_true, Bool.not_false, decide_eq_true_eq, decide_eq_false_iff_not, Int.not_lt, Int.not_le, ne_eq, Decidable.not_not, ← List.length_eq_zero_iff] at q8
                    refine WC.skip ?_
                    refine WE.block_normal ?_
                    refine WE.then_normal ?_
                    refine WC.sub (fr' := []) ?_ trivial
                    refine WC.seq ?_
                    refine WC.region ?_
                    refine WL.q (oq_assign rfl) rfl rfl rfl ?_
                    refine WL.nil ?_
                    refine WE.then_normal ?_
                    refine WC.sub (fr' := [(2, _)]) ?_ ⟨rfl, trivial⟩
                    refine WC.ret ?_
                    refine WE.end0 (.inl rfl) (res1 Tryd.results83 rfl) ?_
                    -- end 55
                    unfold blk; first | exact congrArg Value.bool (decide_eq_true (by omega)).symm | exact congrArg Value.bool (decide_eq_false (by omega)).symm | (exfalso; omega)
                ·
                  try simp only [Bool.not_eq_eq_eq_not, Bool.not_true, Bool.not_false, decide_eq_true_eq, decide_eq_false_iff_not, Int.not_lt, Int.not_le, ne_eq, Decidable.not_not, ← List.length_eq_zero_iff] at q8
                  refine WC.seq ?_
                  refine WC.region ?_
                  refine WL.q (oq_move rfl) rfl rfl rfl ?_
                  refine WL.q (oq_eql rfl rfl) rfl rfl rfl ?_
                  refine WL.q (oq_assign rfl) rfl rfl rfl ?_
                  refine WL.nil ?_
                  refine WE.then_normal ?_
                  refine WC.sub (fr' := [(0, _), (3, _)]) ?_ ⟨rfl, rfl, trivial⟩
                  refine WC.cond rfl (fun q9 => ?_) (fun q9 => ?_)
                  ·
                    try simp only [Bool.not_eq_eq_eq_not, Bool.not_true, Bool.not_false, decide_eq_true_eq, decide_eq_false_iff_not, Int.not_lt, Int.not_le, ne_eq, Decidable.not_not, ← List.length_eq_zero_iff] at q9
                    refine WC.skip ?_
                    refine WE.then_normal ?_
                    refine WC.sub (fr' := [(3, _)]) ?_ ⟨rfl, trivial⟩
                    refine WC.cond rfl (fun q9 => ?_) (fun q9 => ?_)
                    ·
                      try simp only [Bool.not_eq_eq_eq_not, Bool.not_true, Bool.not_false, decide_eq_true_eq, decide_eq_false_iff_not, Int.not_lt, Int.not_le, ne_eq, Decidable.not_not, ← List.length_eq_zero_iff] at q9
                      refine WC.seq ?_
                      refine WC.region ?_
                      refine WL.q (oq_assign rfl) rfl rfl rfl ?_
                      refine WL.nil ?_
                      refine WE.then_normal ?_
                      refine WC.sub (fr' := [(2, _)]) ?_ ⟨rfl, trivial⟩
                      refine WC.ret ?_
                      refine WE.block_ret ?_
                      refine WE.then_ret ?_
                      refine WE.end0 (.inl rfl) (res1 Tryd.results83 rfl) ?_
                      -- end 56
                      unfold blk; first | exact congrArg Value.bool (decide_eq_true (by omega)).symm | exact congrArg Value.bool (decide_eq_false (by omega)).symm | (exfalso; omega)
                    ·
                      try simp only [Bool.not_eq_eq_eq_not, Bool.not_true, Bool.not_false, decide_eq_true_eq, decide_eq_false_iff_not, Int.not_lt, Int.not_le, ne_eq, Decidable.not_not, ← List.length_eq_zero_iff] at q9
                      refine WC.skip ?_
                      refine WE.block_normal ?_
                      refine WE.then_normal ?_
                      refine WC.sub (fr' := []) ?_ trivial
                      refine WC.seq ?_
                      refine WC.region ?_
                      refine WL.q (oq_assign rfl) rfl rfl rfl ?_
                      refine WL.nil ?_
                      refine WE.then_normal ?_
                      refine WC.sub (fr' := [(2, _)]) ?_ ⟨rfl, trivial⟩
                      refine WC.ret ?_
                      refine WE.end0 (.inl rfl) (res1 Tryd.results83 rfl) ?_
                      -- end 57
                      unfold blk; first | exact congrArg Value.bool (decide_eq_true (by omega)).symm | exact congrArg Value.bool (decide_eq_false (by omega)).symm | (exfalso; omega)
                  ·
                    try simp only [Bool.not_eq_eq_eq_not, Bool.not_true, Bool.not_false, decide_eq_true_eq, decide_eq_false_iff_not, Int.not_lt, Int.not_le, ne_eq, Decidable.not_not, ← List.length_eq_zero_iff] at q9
                    refine WC.seq ?_
                    refine WC.region ?_
                    refine WL.q (oq_move rfl) rfl rfl rfl ?_
                    refine WL.q (oq_eql rfl rfl) rfl rfl rfl ?_
                    refine WL.q (oq_assign rfl) rfl rfl rfl ?_
                    refine WL.nil ?_
                    refine WE.then_normal ?_
                    refine WC.sub (fr' := [(0, _), (3, _)]) ?_ ⟨rfl, rfl, trivial⟩
                    refine WC.cond rfl (fun q10 => ?_) (fun q10 => ?_)
                    ·
                      try simp only [Bool.not_eq_eq_eq_not, Bool.not_true, Bool.not_false, decide_eq_true_eq, decide_eq_false_iff_not, Int.not_lt, Int.not_le, ne_eq, Decidable.not_not, ← List.length_eq_zero_iff] at q10
                      refine WC.skip ?_
                      refine WE.then_normal ?_
                      refine WC.sub (fr' := [(3, _)]) ?_ ⟨rfl, trivial⟩
                      refine WC.cond rfl (fun q10 => ?_) (fun q10 => ?_)
                      ·
                        try simp only [Bool.not_eq_eq_eq_not, Bool.not_true, Bool.not_false, decide_eq_true_eq, decide_eq_false_iff_not, Int.not_lt, Int.not_le, ne_eq, Decidable.not_not, ← List.length_eq_zero_iff] at q10
                        refine WC.seq ?_
                        refine WC.region ?_
                        refine WL.q (oq_assign rfl) rfl rfl rfl ?_
                        refine WL.nil ?_
                        refine WE.then_normal ?_
                        refine WC.sub (fr' := [(2, _)]) ?_ ⟨rfl, trivial⟩
                        refine WC.ret ?_
                        refine WE.block_ret ?_
                        refine WE.then_ret ?_
                        refine WE.end0 (.inl rfl) (res1 Tryd.results83 rfl) ?_
                        -- end 58
                        unfold blk; first | exact congrArg Value.bool (decide_eq_true (by omega)).symm | exact congrArg Value.bool (decide_eq_false (by omega)).symm | (exfalso; omega)
                      ·
                        try simp only [Bool.not_eq_eq_eq_not, Bool.not_true, Bool.not_false, decide_eq_true_eq, decide_eq_false_iff_not, Int.not_lt, Int.not_le, ne_eq, Decidable.not_not, ← List.length_eq_zero_iff] at q10
                        refine WC.skip ?_
                        refine WE.block_normal ?_
                        refine WE.then_normal ?_
                        refine WC.sub (fr' := []) ?_ trivial
                        refine WC.seq ?_
                        refine WC.region ?_
                        refine WL.q (oq_assign rfl) rfl rfl rfl ?_
                        refine WL.nil ?_
                        refine WE.then_normal ?_
                        refine WC.sub (fr' := [(2, _)]) ?_ ⟨rfl, trivial⟩
                        refine WC.ret ?_
                        refine WE.end0 (.inl rfl) (res1 Tryd.results83 rfl) ?_
                        -- end 59
                        unfold blk; first | exact congrArg Value.bool (decide_eq_true (by omega)).symm | exact congrArg Value.bool (decide_eq_false (by omega)).symm | (exfalso; omega)
                    ·
                      try simp only [Bool.not_eq_eq_eq_not, Bool.not_true, Bool.not_false, decide_eq_true_eq, decide_eq_false_iff_not, Int.not_lt, Int.not_le, ne_eq, Decidable.not_not, ← List.length_eq_zero_iff] at q10
                      refine WC.region ?_
                      refine WL.q (oq_move rfl) rfl rfl rfl ?_
                      refine WL.q (oq_eql rfl rfl) rfl rfl rfl ?_
                      refine WL.q (oq_assign rfl) rfl rfl rfl ?_
                      refine WL.nil ?_
                      refine WE.then_normal ?_
                      refine WC.sub (fr' := [(3, _)]) ?_ ⟨rfl, trivial⟩
                      refine WC.cond rfl (fun q11 => ?_) (fun q11 => ?_)
                      ·
                        try simp only [Bool.not_eq_eq_eq_not, Bool.not_true, Bool.not_false, decide_eq_true_eq, decide_eq_false_iff_not, Int.not_lt, Int.not_le, ne_eq, Decidable.not_not, ← List.length_eq_zero_iff] at q11
                        refine WC.seq ?_
                        refine WC.region ?_
                        refine WL.q (oq_assign rfl) rfl rfl rfl ?_
                        refine WL.nil ?_
                        refine WE.then_normal ?_
                        refine WC.sub (fr' := [(2, _)]) ?_ ⟨rfl, trivial⟩
                        refine WC.ret ?_
                        refine WE.block_ret ?_
                        refine WE.then_ret ?_
                        refine WE.end0 (.inl rfl) (res1 Tryd.results83 rfl) ?_
                        -- end 60
                        unfold blk; first | exact congrArg Value.bool (decide_eq_true (by omega)).symm | exact congrArg Value.bool (decide_eq_false (by omega)).symm | (exfalso; omega)
                      ·
                        try simp only [Bool.not_eq_eq_eq_not, Bool.not_true, Bool.not_false, decide_eq_true_eq, decide_eq_false_iff_not, Int.not_lt, Int.not_le, ne_eq, Decidable.not_not, ← List.length_eq_zero_iff] at q11
                        refine WC.skip ?_
                        refine WE.block_normal ?_
                        refine WE.then_normal ?_
                        refine WC.sub (fr' := []) ?_ trivial
                        refine WC.seq ?_
                        refine WC.region ?_
                        refine WL.q (oq_assign rfl) rfl rfl rfl ?_
                        refine WL.nil ?_
                        refine WE.then_normal ?_
                        refine WC.sub (fr' := [(2, _)]) ?_ ⟨rfl, trivial⟩
                        refine WC.ret ?_
                        refine WE.end0 (.inl rfl) (res1 Tryd.results83 rfl) ?_
                        -- end 61
                        unfold blk; first | exact congrArg Value.bool (decide_eq_true (by omega)).symm | exact congrArg Value.bool (decide_eq_false (by omega)).symm | (exfalso; omega)

end H1
end Go.Proofs.YtcgpajknehhdgaaDoor
