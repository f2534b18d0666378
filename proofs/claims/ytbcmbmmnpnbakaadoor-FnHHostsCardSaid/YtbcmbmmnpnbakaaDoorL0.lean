/- Walks of the text search and of the check of a label. -/
import Derived.Test.YtbcmbmmnpnbakaaDoorP0
import Derived.Test.YtbcmbmmnpnbakaaDoorV3
import Derived.Test.YtbcmbmmnpnbakaaDoorProg
namespace Go.Proofs.YtbcmbmmnpnbakaaDoor
open Go Go.RowKit V
set_option linter.unusedSimpArgs false
set_option linter.unusedVariables false
set_option maxRecDepth 10000
namespace L0

/-- given.example/pub-tinwright/pub/smithy/transport/http.ValidHostLabel -/
theorem hlabel (s : List UInt8) : Fn0 Tryd.prog 12 [S s] (.bool (vlabel s)) := by
  refine Fn0.enter (n := 43) Tryd.func12 rfl rfl fun w0 => ?_
  refine WC.sub (fr' := [(0, _)]) ?_ ⟨rfl, trivial⟩
  refine WC.seq ?_
  refine WC.region ?_
  refine WL.q (oq_assign rfl) rfl rfl rfl ?_
  refine WL.nil ?_
  refine WE.then_normal ?_
  refine WC.sub (fr' := [(0, _)]) ?_ ⟨rfl, trivial⟩
  refine WC.seq ?_
  refine WC.seq ?_
  refine WC.region ?_
  refine WL.q (oq_move rfl) rfl rfl rfl ?_
  refine WL.q (oq_len_s Tryd.underlying9 rfl) rfl rfl rfl ?_
  refine WL.q (oq_assign rfl) rfl rfl rfl ?_
  refine WL.nil ?_
  refine WE.then_normal ?_
  refine WC.sub (fr' := [(0, _), (3, _)]) ?_ ⟨rfl, rfl, trivial⟩
  refine WC.seq ?_
  refine WC.region ?_
  refine WL.q (oq_move rfl) rfl rfl rfl ?_
  refine WL.q (oq_eql rfl rfl) rfl rfl rfl ?_
  refine WL.q (oq_move rfl) rfl rfl rfl ?_
  refine WL.split 10 rfl (fun s2_2 => ?_) (fun s2_2 => ?_)
  ·
    try simp only [Bool.not_eq_eq_eq_not, Bool.not_true, Bool.not_false, decide_eq_true_eq, decide_eq_false_iff_not, Int.not_lt, Int.not_le, ne_eq, Decidable.not_not, ← List.length_eq_zero_iff] at s2_2
    refine WL.skip rfl rfl rfl ?_
    refine WL.skip rfl rfl rfl ?_
    refine WL.q (oq_pick_t rfl rfl) rfl rfl rfl ?_
    refine WL.nil ?_
    refine WE.then_normal ?_
    refine WC.sub (fr' := [(0, _), (13, _)]) ?_ ⟨rfl, rfl, trivial⟩
    refine WC.cond_t rfl ?_
    refine WC.seq ?_
    refine WC.region ?_
    refine WL.q (oq_assign rfl) rfl rfl rfl ?_
    refine WL.nil ?_
    refine WE.then_normal ?_
    refine WC.sub (fr' := [(2, _)]) ?_ ⟨rfl, trivial⟩
    refine WC.ret ?_
    refine WE.then_ret ?_
    refine WE.end0 (.inl rfl) (res1 Tryd.results12 rfl) ?_
    -- end 0
    rw [vlabel_size s (by omega)]
  ·
    try simp only [Bool.not_eq_eq_eq_not, Bool.not_true, Bool.not_false, decide_eq_true_eq, decide_eq_false_iff_not, Int.not_lt, Int.not_le, ne_eq, Decidable.not_not, ← List.length_eq_zero_iff] at s2_2
    refine WL.q (oq_move rfl) rfl rfl rfl ?_
    refine WL.q (oq_gtr rfl rfl) rfl rfl rfl ?_
    refine WL.q (oq_pick_f rfl rfl) rfl rfl rfl ?_
    refine WL.nil ?_
    refine WE.then_normal ?_
    refine WC.sub (fr' := [(0, _), (13, _)]) ?_ ⟨rfl, rfl, trivial⟩
    refine WC.cond rfl (fun q2 => ?_) (fun q2 => ?_)
    ·
      try simp only [Bool.not_eq_eq_eq_not, Bool.not_true, Bool.not_false, decide_eq_true_eq, decide_eq_false_iff_not, Int.not_lt, Int.not_le, ne_eq, Decidable.not_not, ← List.length_eq_zero_iff] at q2
      refine WC.seq ?_
      refine WC.region ?_
      refine WL.q (oq_assign rfl) rfl rfl rfl ?_
      refine WL.nil ?_
      refine WE.then_normal ?_
      refine WC.sub (fr' := [(2, _)]) ?_ ⟨rfl, trivial⟩
      refine WC.ret ?_
      refine WE.then_ret ?_
      refine WE.end0 (.inl rfl) (res1 Tryd.results12 rfl) ?_
      -- end 1
      rw [vlabel_size s (by omega)]
    ·
      try simp only [Bool.not_eq_eq_eq_not, Bool.not_true, Bool.not_false, decide_eq_true_eq, decide_eq_false_iff_not, Int.not_lt, Int.not_le, ne_eq, Decidable.not_not, ← List.length_eq_zero_iff] at q2
      refine WC.skip ?_
      refine WE.then_normal ?_
      refine WC.sub (fr' := [(0, _)]) ?_ ⟨rfl, trivial⟩
      refine WC.seq ?_
      refine WC.seq ?_
      refine WC.region ?_
      refine WL.q (oq_move rfl) rfl rfl rfl ?_
      refine WL.range_s Tryd.underlying9 rfl rfl rfl fun b hb => ?_
      refine WL.nil ?_
      refine WE.then_normal ?_
      refine WC.sub (fr' := [(15, _)]) ?_ ⟨rfl, trivial⟩
      refine WC.block ?_
      refine WC.loop (ι := Nat) (fun (i : Nat) => [(15, Pt b 0)]) (fun (i : Nat) => [[(b, .stringIter ⟨⟨s⟩⟩ i)]]) (fun (i : Nat) => i ≤ s.length ∧ s.all okb = (s.drop i).all okb) (fun (i : Nat) => s.length + 1 - i) (0) ?_ ⟨rfl, trivial⟩ (List.Perm.refl _) ?_
      · try dsimp only
        exact ⟨by omega, by simp⟩
      · rintro i hp
        try dsimp only at hp
        obtain ⟨hi, hf⟩ := hp
        show WC _ _ _ _ _ _ ([(15, Pt b 0)]) ([[(b, .stringIter ⟨⟨s⟩⟩ i)]])
        refine WC.seq ?_
        refine WC.region ?_
        refine WL.next_s rfl rfl rfl (fun n5 => ?_) (fun n5 => ?_)
        ·
          refine WL.q (oq_extract rfl rfl) rfl rfl rfl ?_
          refine WL.nil ?_
          refine WE.then_normal ?_
          refine WC.sub (fr' := [(15, _), (16, _), (17, _)]) ?_ ⟨rfl, rfl, rfl, trivial⟩
          refine WC.seq ?_
          refine WC.cond_t rfl ?_
          refine WC.skip ?_
          refine WE.then_normal ?_
          refine WC.sub (fr' := [(15, _), (16, _)]) ?_ ⟨rfl, rfl, trivial⟩
          refine WC.block ?_
          refine WC.seq ?_
          refine WC.region ?_
          refine WL.q (oq_extract rfl rfl) rfl rfl rfl ?_
          refine WL.q (oq_assign rfl) rfl rfl rfl ?_
          refine WL.nil ?_
          refine WE.then_normal ?_
          refine WC.sub (fr' := [(5, _), (15, _)]) ?_ ⟨rfl, rfl, trivial⟩
          refine WC.block ?_
          refine WC.seq ?_
          refine WC.region ?_
          refine WL.q (oq_move rfl) rfl rfl rfl ?_
          refine WL.q (oq_geq rfl rfl) rfl rfl rfl ?_
          refine WL.q (oq_move rfl) rfl rfl rfl ?_
          refine WL.split 22 rfl (fun s8_2 => ?_) (fun s8_2 => ?_)
          ·
            try simp only [Bool.not_eq_eq_eq_not, Bool.not_true, Bool.not_false, decide_eq_true_eq, decide_eq_false_iff_not, Int.not_lt, Int.not_le, ne_eq, Decidable.not_not, ← List.length_eq_zero_iff] at s8_2
            refine WL.q (oq_move rfl) rfl rfl rfl ?_
            refine WL.q (oq_leq rfl rfl) rfl rfl rfl ?_
            refine WL.q (oq_pick_t rfl rfl) rfl rfl rfl ?_
            refine WL.q (oq_assign rfl) rfl rfl rfl ?_
            refine WL.nil ?_
            refine WE.then_normal ?_
            refine WC.sub (fr' := [(5, _), (15, _), (19, _)]) ?_ ⟨rfl, rfl, rfl, trivial⟩
            refine WC.cond rfl (fun q8 => ?_) (fun q8 => ?_)
            ·
              try simp only [Bool.not_eq_eq_eq_not, Bool.not_true, Bool.not_false, decide_eq_true_eq, decide_eq_false_iff_not, Int.not_lt, Int.not_le, ne_eq, Decidable.not_not, ← List.length_eq_zero_iff] at q8
              refine WC.skip ?_
              refine WE.block_normal ?_
              refine WE.block_normal ?_
              have e2 := lab_yes s i n5 (by unfold okr; omega)
              refine WE.again (i + 1) ?_ ?_ ⟨rfl, trivial⟩ (by rw [e2.2])
              · try dsimp only   -- again 0
                exact ⟨by omega, by rw [hf, all_step s i n5, e2.1]; rfl⟩
              · (try dsimp only); omega
            ·
              try simp only [Bool.not_eq_eq_eq_not, Bool.not_true, Bool.not_false, decide_eq_true_eq, decide_eq_false_iff_not, Int.not_lt, Int.not_le, ne_eq, Decidable.not_not, ← List.length_eq_zero_iff] at q8
              refine WC.seq ?_
              refine WC.region ?_
              refine WL.q (oq_move rfl) rfl rfl rfl ?_
              refine WL.q (oq_geq rfl rfl) rfl rfl rfl ?_
              refine WL.q (oq_move rfl) rfl rfl rfl ?_
              refine WL.split 29 rfl (fun s9_2 => ?_) (fun s9_2 => ?_)
              ·
                try simp only [Bool.not_eq_eq_eq_not, Bool.not_true, Bool.not_false, decide_eq_true_eq, decide_eq_false_iff_not, Int.not_lt, Int.not_le, ne_eq, Decidable.not_not, ← List.length_eq_zero_iff] at s9_2
                refine WL.q (oq_move rfl) rfl rfl rfl ?_
                refine WL.q (oq_leq rfl rfl) rfl rfl rfl ?_
                refine WL.q (oq_pick_t rfl rfl) rfl rfl rfl ?_
                refine WL.q (oq_assign rfl) rfl rfl rfl ?_
                refine WL.nil ?_
                refine WE.then_normal ?_
                refine WC.sub (fr' := [(5, _), (15, _), (26, _)]) ?_ ⟨rfl, rfl, rfl, trivial⟩
                refine WC.cond rfl (fun q9 => ?_) (fun q9 => ?_)
                ·
                  try simp only [Bool.not_eq_eq_eq_not, Bool.not_true, Bool.not_false, decide_eq_true_eq, decide_eq_false_iff_not, Int.not_lt, Int.not_le, ne_eq, Decidable.not_not, ← List.length_eq_zero_iff] at q9
                  refine WC.skip ?_
                  refine WE.block_normal ?_
                  refine WE.block_normal ?_
                  have e2 := lab_yes s i n5 (by unfold okr; omega)
                  refine WE.again (i + 1) ?_ ?_ ⟨rfl, trivial⟩ (by rw [e2.2])
                  · try dsimp only   -- again 1
                    exact ⟨by omega, by rw [hf, all_step s i n5, e2.1]; rfl⟩
                  · (try dsimp only); omega
                ·
                  try simp only [Bool.not_eq_eq_eq_not, Bool.not_true, Bool.not_false, decide_eq_true_eq, decide_eq_false_iff_not, Int.not_lt, Int.not_le, ne_eq, Decidable.not_not, ← List.length_eq_zero_iff] at q9
                  refine WC.seq ?_
                  refine WC.region ?_
                  refine WL.q (oq_move rfl) rfl rfl rfl ?_
                  refine WL.q (oq_geq rfl rfl) rfl rfl rfl ?_
                  refine WL.q (oq_move rfl) rfl rfl rfl ?_
                  refine WL.split 36 rfl (fun s10_2 => ?_) (fun s10_2 => ?_)
                  ·
                    try simp only [Bool.not_eq_eq_eq_not, Bool.not_true, Bool.not_false, decide_eq_true_eq, decide_eq_false_iff_not, Int.not_lt, Int.not_le, ne_eq, Decidable.not_not, ← List.length_eq_zero_iff] at s10_2
                    refine WL.q (oq_move rfl) rfl rfl rfl ?_
                    refine WL.q (oq_leq rfl rfl) rfl rfl rfl ?_
                    refine WL.q (oq_pick_t rfl rfl) rfl rfl rfl ?_
                    refine WL.q (oq_assign rfl) rfl rfl rfl ?_
                    refine WL.nil ?_
                    refine WE.then_normal ?_
                    refine WC.sub (fr' := [(5, _), (15, _), (33, _)]) ?_ ⟨rfl, rfl, rfl, trivial⟩
                    refine WC.cond rfl (fun q10 => ?_) (fun q10 => ?_)
                    ·
                      try simp only [Bool.not_eq_eq_eq_not, Bool.not_true, Bool.not_false, decide_eq_true_eq, decide_eq_false_iff_not, Int.not_lt, Int.not_le, ne_eq, Decidable.not_not, ← List.length_eq_zero_iff] at q10
                      refine WC.skip ?_
                      refine WE.block_normal ?_
                      refine WE.block_normal ?_
                      have e2 := lab_yes s i n5 (by unfold okr; omega)
                      refine WE.again (i + 1) ?_ ?_ ⟨rfl, trivial⟩ (by rw [e2.2])
                      · try dsimp only   -- again 2
                        exact ⟨by omega, by rw [hf, all_step s i n5, e2.1]; rfl⟩
                      · (try dsimp only); omega
                    ·
                      try simp only [Bool.not_eq_eq_eq_not, Bool.not_true, Bool.not_false, decide_eq_true_eq, decide_eq_false_iff_not, Int.not_lt, Int.not_le, ne_eq, Decidable.not_not, ← List.length_eq_zero_iff] at q10
                      refine WC.seq ?_
                      refine WC.region ?_
                      refine WL.q (oq_move rfl) rfl rfl rfl ?_
                      refine WL.q (oq_eql rfl rfl) rfl rfl rfl ?_
                      refine WL.q (oq_assign rfl) rfl rfl rfl ?_
                      refine WL.nil ?_
                      refine WE.then_normal ?_
                      refine WC.sub (fr' := [(15, _), (40, _)]) ?_ ⟨rfl, rfl, trivial⟩
                      refine WC.cond rfl (fun q11 => ?_) (fun q11 => ?_)
                      ·
                        try simp only [Bool.not_eq_eq_eq_not, Bool.not_true, Bool.not_false, decide_eq_true_eq, decide_eq_false_iff_not, Int.not_lt, Int.not_le, ne_eq, Decidable.not_not, ← List.length_eq_zero_iff] at q11
                        refine WC.skip ?_
                        refine WE.block_normal ?_
                        refine WE.block_normal ?_
                        have e2 := lab_yes s i n5 (by unfold okr; omega)
                        refine WE.again (i + 1) ?_ ?_ ⟨rfl, trivial⟩ (by rw [e2.2])
                        · try dsimp only   -- again 3
                          exact ⟨by omega, by rw [hf, all_step s i n5, e2.1]; rfl⟩
                        · (try dsimp only); omega
                      ·
                        try simp only [Bool.not_eq_eq_eq_not, Bool.not_true, Bool.not_false, decide_eq_true_eq, decide_eq_false_iff_not, Int.not_lt, Int.not_le, ne_eq, Decidable.not_not, ← List.length_eq_zero_iff] at q11
                        refine WC.seq ?_
                        refine WC.region ?_
                        refine WL.q (oq_assign rfl) rfl rfl rfl ?_
                        refine WL.nil ?_
                        refine WE.then_normal ?_
                        refine WC.sub (fr' := [(2, _)]) ?_ ⟨rfl, trivial⟩
                        refine WC.ret ?_
                        refine WE.block_ret ?_
                        refine WE.block_ret ?_
                        refine WE.then_ret ?_
                        refine WE.block_ret ?_
                        refine WE.then_ret ?_
                        refine WE.lose hb ?_
                        refine WE.end0 (.inl rfl) (res1 Tryd.results12 rfl) ?_
                        -- end 2
                        rw [vlabel_no s i n5 hf (by unfold okr; omega)]
                  ·
                    try simp only [Bool.not_eq_eq_eq_not, Bool.not_true, Bool.not_false, decide_eq_true_eq, decide_eq_false_iff_not, Int.not_lt, Int.not_le, ne_eq, Decidable.not_not, ← List.length_eq_zero_iff] at s10_2
                    refine WL.skip rfl rfl rfl ?_
                    refine WL.skip rfl rfl rfl ?_
                    refine WL.q (oq_pick_f rfl rfl) rfl rfl rfl ?_
                    refine WL.q (oq_assign rfl) rfl rfl rfl ?_
                    refine WL.nil ?_
                    refine WE.then_normal ?_
                    refine WC.sub (fr' := [(5, _), (15, _), (33, _)]) ?_ ⟨rfl, rfl, rfl, trivial⟩
                    refine WC.cond_f rfl ?_
                    refine WC.seq ?_
                    refine WC.region ?_
                    refine WL.q (oq_move rfl) rfl rfl rfl ?_
                    refine WL.q (oq_eql rfl rfl) rfl rfl rfl ?_
                    refine WL.q (oq_assign rfl) rfl rfl rfl ?_
                    refine WL.nil ?_
                    refine WE.then_normal ?_
                    refine WC.sub (fr' := [(15, _), (40, _)]) ?_ ⟨rfl, rfl, trivial⟩
                    refine WC.cond rfl (fun q11 => ?_) (fun q11 => ?_)
                    ·
                      try simp only [Bool.not_eq_eq_eq_not, Bool.not_true, Bool.not_false, decide_eq_true_eq, decide_eq_false_iff_not, Int.not_lt, Int.not_le, ne_eq, Decidable.not_not, ← List.length_eq_zero_iff] at q11
                      refine WC.skip ?_
                      refine WE.block_normal ?_
                      refine WE.block_normal ?_
                      have e2 := lab_yes s i n5 (by unfold okr; omega)
                      refine WE.again (i + 1) ?_ ?_ ⟨rfl, trivial⟩ (by rw [e2.2])
                      · try dsimp only   -- again 4
                        exact ⟨by omega, by rw [hf, all_step s i n5, e2.1]; rfl⟩
                      · (try dsimp only); omega
                    ·
                      try simp only [Bool.not_eq_eq_eq_not, Bool.not_true, Bool.not_false, decide_eq_true_eq, decide_eq_false_iff_not, Int.not_lt, Int.not_le, ne_eq, Decidable.not_not, ← List.length_eq_zero_iff] at q11
                      refine WC.seq ?_
                      refine WC.region ?_
                      refine WL.q (oq_assign rfl) rfl rfl rfl ?_
                      refine WL.nil ?_
                      refine WE.then_normal ?_
                      refine WC.sub (fr' := [(2, _)]) ?_ ⟨rfl, trivial⟩
                      refine WC.ret ?_
                      refine WE.block_ret ?_
                      refine WE.block_ret ?_
                      refine WE.then_ret ?_
                      refine WE.block_ret ?_
                      refine WE.then_ret ?_
                      refine WE.lose hb ?_
                      refine WE.end0 (.inl rfl) (res1 Tryd.results12 rfl) ?_
                      -- end 3
                      rw [vlabel_no s i n5 hf (by unfold okr; omega)]
              ·
                try simp only [Bool.not_eq_eq_eq_not, Bool.not_true, Bool.not_false, decide_eq_true_eq, decide_eq_false_iff_not, Int.not_lt, Int.not_le, ne_eq, Decidable.not_not, ← List.length_eq_zero_iff] at s9_2
                refine WL.skip rfl rfl rfl ?_
                refine WL.skip rfl rfl rfl ?_
                refine WL.q (oq_pick_f rfl rfl) rfl rfl rfl ?_
                refine WL.q (oq_assign rfl) rfl rfl rfl ?_
                refine WL.nil ?_
                refine WE.then_normal ?_
                refine WC.sub (fr' := [(5, _), (15, _), (26, _)]) ?_ ⟨rfl, rfl, rfl, trivial⟩
                refine WC.cond_f rfl ?_
                refine WC.seq ?_
                refine WC.region ?_
                refine WL.q (oq_move rfl) rfl rfl rfl ?_
                refine WL.q (oq_geq rfl rfl) rfl rfl rfl ?_
                refine WL.q (oq_move rfl) rfl rfl rfl ?_
                refine WL.split 36 rfl (fun s10_2 => ?_) (fun s10_2 => ?_)
                ·
                  try simp only [Bool.not_eq_eq_eq_not, Bool.not_true, Bool.not_false, decide_eq_true_eq, decide_eq_false_iff_not, Int.not_lt, Int.not_le, ne_eq, Decidable.not_not, ← List.length_eq_zero_iff] at s10_2
                  refine WL.q (oq_move rfl) rfl rfl rfl ?_
                  refine WL.q (oq_leq rfl rfl) rfl rfl rfl ?_
                  refine WL.q (oq_pick_t rfl rfl) rfl rfl rfl ?_
                  refine WL.q (oq_assign rfl) rfl rfl rfl ?_
                  refine WL.nil ?_
                  refine WE.then_normal ?_
                  refine WC.sub (fr' := [(5, _), (15, _), (33, _)]) ?_ ⟨rfl, rfl, rfl, trivial⟩
                  refine WC.cond rfl (fun q10 => ?_) (fun q10 => ?_)
                  ·
                    try simp only [Bool.not_eq_eq_eq_not, Bool.not_true, Bool.not_false, decide_eq_true_eq, decide_eq_false_iff_not, Int.not_lt, Int.not_le, ne_eq, Decidable.not_not, ← List.length_eq_zero_iff] at q10
                    refine WC.skip ?_
                    refine WE.block_normal ?_
                    refine WE.block_normal ?_
                    have e2 := lab_yes s i n5 (by unfold okr; omega)
                    refine WE.again (i + 1) ?_ ?_ ⟨rfl, trivial⟩ (by rw [e2.2])
                    · try dsimp only   -- again 5
                      exact ⟨by omega, by rw [hf, all_step s i n5, e2.1]; rfl⟩
                    · (try dsimp only); omega
                  ·
                    try simp only [Bool.not_eq_eq_eq_not, Bool.not_true, Bool.not_false, decide_eq_true_eq, decide_eq_false_iff_not, Int.not_lt, Int.not_le, ne_eq, Decidable.not_not, ← List.length_eq_zero_iff] at q10
                    refine WC.seq ?_
                    refine WC.region ?_
                    refine WL.q (oq_move rfl) rfl rfl rfl ?_
                    refine WL.q (oq_eql rfl rfl) rfl rfl rfl ?_
                    refine WL.q (oq_assign rfl) rfl rfl rfl ?_
                    refine WL.nil ?_
                    refine WE.then_normal ?_
                    refine WC.sub (fr' := [(15, _), (40, _)]) ?_ ⟨rfl, rfl, trivial⟩
                    refine WC.cond rfl (fun q11 => ?_) (fun q11 => ?_)
                    ·
                      try simp only [Bool.not_eq_eq_eq_not, Bool.not_true, Bool.not_false, decide_eq_true_eq, decide_eq_false_iff_not, Int.not_lt, Int.not_le, ne_eq, Decidable.not_not, ← List.length_eq_zero_iff] at q11
                      refine WC.skip ?_
                      refine WE.block_normal ?_
                      refine WE.block_normal ?_
                      have e2 := lab_yes s i n5 (by unfold okr; omega)
                      refine WE.again (i + 1) ?_ ?_ ⟨rfl, trivial⟩ (by rw [e2.2])
                      · try dsimp only   -- again 6
                        exact ⟨by omega, by rw [hf, all_step s i n5, e2.1]; rfl⟩
                      · (try dsimp only); omega
                    ·
                      try simp only [Bool.not_eq_eq_eq_not, Bool.not_true, Bool.not_false, decide_eq_true_eq, decide_eq_false_iff_not, Int.not_lt, Int.not_le, ne_eq, Decidable.not_not, ← List.length_eq_zero_iff] at q11
                      refine WC.seq ?_
                      refine WC.region ?_
                      refine WL.q (oq_assign rfl) rfl rfl rfl ?_
                      refine WL.nil ?_
                      refine WE.then_normal ?_
                      refine WC.sub (fr' := [(2, _)]) ?_ ⟨rfl, trivial⟩
                      refine WC.ret ?_
                      refine WE.block_ret ?_
                      refine WE.block_ret ?_
                      refine WE.then_ret ?_
                      refine WE.block_ret ?_
                      refine WE.then_ret ?_
                      refine WE.lose hb ?_
                      refine WE.end0 (.inl rfl) (res1 Tryd.results12 rfl) ?_
                      -- end 4
                      rw [vlabel_no s i n5 hf (by unfold okr; omega)]
                ·
                  try simp only [Bool.not_eq_eq_eq_not, Bool.not_true, Bool.not_false, decide_eq_true_eq, decide_eq_false_iff_not, Int.not_lt, Int.not_le, ne_eq, Decidable.not_not, ← List.length_eq_zero_iff] at s10_2
                  refine WL.skip rfl rfl rfl ?_
                  refine WL.skip rfl rfl rfl ?_
                  refine WL.q (oq_pick_f rfl rfl) rfl rfl rfl ?_
                  refine WL.q (oq_assign rfl) rfl rfl rfl ?_
                  refine WL.nil ?_
                  refine WE.then_normal ?_
                  refine WC.sub (fr' := [(5, _), (15, _), (33, _)]) ?_ ⟨rfl, rfl, rfl, trivial⟩
                  refine WC.cond_f rfl ?_
                  refine WC.seq ?_
                  refine WC.region ?_
                  refine WL.q (oq_move rfl) rfl rfl rfl ?_
                  refine WL.q (oq_eql rfl rfl) rfl rfl rfl ?_
                  refine WL.q (oq_assign rfl) rfl rfl rfl ?_
                  refine WL.nil ?_
                  refine WE.then_normal ?_
                  refine WC.sub (fr' := [(15, _), (40, _)]) ?_ ⟨rfl, rfl, trivial⟩
                  refine WC.cond rfl (fun q11 => ?_) (fun q11 => ?_)
                  ·
                    try simp only [Bool.not_eq_eq_eq_not, Bool.not_true, Bool.not_false, decide_eq_true_eq, decide_eq_false_iff_not, Int.not_lt, Int.not_le, ne_eq, Decidable.not_not, ← List.length_eq_zero_iff] at q11
                    refine WC.skip ?_
                    refine WE.block_normal ?_
                    refine WE.block_normal ?_
                    have e2 := lab_yes s i n5 (by unfold okr; omega)
                    refine WE.again (i + 1) ?_ ?_ ⟨rfl, trivial⟩ (by rw [e2.2])
                    · try dsimp only   -- again 7
                      exact ⟨by omega, by rw [hf, all_step s i n5, e2.1]; rfl⟩
                    · (try dsimp only); omega
                  ·
                    try simp only [Bool.not_eq_eq_eq_not, Bool.not_true, Bool.not_false, decide_eq_true_eq, decide_eq_false_iff_not, Int.not_lt, Int.not_le, ne_eq, Decidable.not_not, ← List.length_eq_zero_iff] at q11
                    refine WC.seq ?_
                    refine WC.region ?_
                    refine WL.q (oq_assign rfl) rfl rfl rfl ?_
                    refine WL.nil ?_
                    refine WE.then_normal ?_
                    refine WC.sub (fr' := [(2, _)]) ?_ ⟨rfl, trivial⟩
                    refine WC.ret ?_
                    refine WE.block_ret ?_
                    refine WE.block_ret ?_
                    refine WE.then_ret ?_
                    refine WE.block_ret ?_
                    refine WE.then_ret ?_
                    refine WE.lose hb ?_
                    refine WE.end0 (.inl rfl) (res1 Tryd.results12 rfl) ?_
                    -- end 5
                    rw [vlabel_no s i n5 hf (by unfold okr; omega)]
          ·
            try simp only [Bool.not_eq_eq_eq_not, Bool.not_true, Bool.not_false, decide_eq_true_eq, decide_eq_false_iff_not, Int.not_lt, Int.not_le, ne_eq, Decidable.not_not, ← List.length_eq_zero_iff] at s8_2
            refine WL.skip rfl rfl rfl ?_
            refine WL.skip rfl rfl rfl ?_
            refine WL.q (oq_pick_f rfl rfl) rfl rfl rfl ?_
            refine WL.q (oq_assign rfl) rfl rfl rfl ?_
            refine WL.nil ?_
            refine WE.then_normal ?_
            refine WC.sub (fr' := [(5, _), (15, _), (19, _)]) ?_ ⟨rfl, rfl, rfl, trivial⟩
            refine WC.cond_f rfl ?_
            refine WC.seq ?_
            refine WC.region ?_
            refine WL.q (oq_move rfl) rfl rfl rfl ?_
            refine WL.q (oq_geq rfl rfl) rfl rfl rfl ?_
            refine WL.q (oq_move rfl) rfl rfl rfl ?_
            refine WL.split 29 rfl (fun s9_2 => ?_) (fun s9_2 => ?_)
            ·
              try simp only [Bool.not_eq_eq_eq_not, Bool.not_true, Bool.not_false, decide_eq_true_eq, decide_eq_false_iff_not, Int.not_lt, Int.not_le, ne_eq, Decidable.not_not, ← List.length_eq_zero_iff] at s9_2
              refine WL.q (oq_move rfl) rfl rfl rfl ?_
              refine WL.q (oq_leq rfl rfl) rfl rfl rfl ?_
              refine WL.q (oq_pick_t rfl rfl) rfl rfl rfl ?_
              refine WL.q (oq_assign rfl) rfl rfl rfl ?_
              refine WL.nil ?_
              refine WE.then_normal ?_
              refine WC.sub (fr' := [(5, _), (15, _), (26, _)]) ?_ ⟨rfl, rfl, rfl, trivial⟩
              refine WC.cond rfl (fun q9 => ?_) (fun q9 => ?_)
              ·
                try simp only [Bool.not_eq_eq_eq_not, Bool.not_true, Bool.not_false, decide_eq_true_eq, decide_eq_false_iff_not, Int.not_lt, Int.not_le, ne_eq, Decidable.not_not, ← List.length_eq_zero_iff] at q9
                refine WC.skip ?_
                refine WE.block_normal ?_
                refine WE.block_normal ?_
                have e2 := lab_yes s i n5 (by unfold okr; omega)
                refine WE.again (i + 1) ?_ ?_ ⟨rfl, trivial⟩ (by rw [e2.2])
                · try dsimp only   -- again 8
                  exact ⟨by omega, by rw [hf, all_step s i n5, e2.1]; rfl⟩
                · (try dsimp only); omega
              ·
                try simp only [Bool.not_eq_eq_eq_not, Bool.not_true, Bool.not_false, decide_eq_true_eq, decide_eq_false_iff_not, Int.not_lt, Int.not_le, ne_eq, Decidable.not_not, ← List.length_eq_zero_iff] at q9
                refine WC.seq ?_
                refine WC.region ?_
                refine WL.q (oq_move rfl) rfl rfl rfl ?_
                refine WL.q (oq_geq rfl rfl) rfl rfl rfl ?_
                refine WL.q (oq_move rfl) rfl rfl rfl ?_
                refine WL.split 36 rfl (fun s10_2 => ?_) (fun s10_2 => ?_)
                ·
                  try simp only [Bool.not_eq_eq_eq_not, Bool.not_true, Bool.not_false, decide_eq_true_eq, decide_eq_false_iff_not, Int.not_lt, Int.not_le, ne_eq, Decidable.not_not, ← List.length_eq_zero_iff] at s10_2
                  refine WL.q (oq_move rfl) rfl rfl rfl ?_
                  refine WL.q (oq_leq rfl rfl) rfl rfl rfl ?_
                  refine WL.q (oq_pick_t rfl rfl) rfl rfl rfl ?_
                  refine WL.q (oq_assign rfl) rfl rfl rfl ?_
                  refine WL.nil ?_
                  refine WE.then_normal ?_
                  refine WC.sub (fr' := [(5, _), (15, _), (33, _)]) ?_ ⟨rfl, rfl, rfl, trivial⟩
                  refine WC.cond rfl (fun q10 => ?_) (fun q10 => ?_)
                  ·
                    try simp only [Bool.not_eq_eq_eq_not, Bool.not_true, Bool.not_false, decide_eq_true_eq, decide_eq_false_iff_not, Int.not_lt, Int.not_le, ne_eq, Decidable.not_not, ← List.length_eq_zero_iff] at q10
                    refine WC.skip ?_
                    refine WE.block_normal ?_
                    refine WE.block_normal ?_
                    have e2 := lab_yes s i n5 (by unfold okr; omega)
                    refine WE.again (i + 1) ?_ ?_ ⟨rfl, trivial⟩ (by rw [e2.2])
                    · try dsimp only   -- again 9
                      exact ⟨by omega, by rw [hf, all_step s i n5, e2.1]; rfl⟩
                    · (try dsimp only); omega
                  ·
                    try simp only [Bool.not_eq_eq_eq_not, Bool.not_true, Bool.not_false, decide_eq_true_eq, decide_eq_false_iff_not, Int.not_lt, Int.not_le, ne_eq, Decidable.not_not, ← List.length_eq_zero_iff] at q10
                    refine WC.seq ?_
                    refine WC.region ?_
                    refine WL.q (oq_move rfl) rfl rfl rfl ?_
                    refine WL.q (oq_eql rfl rfl) rfl rfl rfl ?_
                    refine WL.q (oq_assign rfl) rfl rfl rfl ?_
                    refine WL.nil ?_
                    refine WE.then_normal ?_
                    refine WC.sub (fr' := [(15, _), (40, _)]) ?_ ⟨rfl, rfl, trivial⟩
                    refine WC.cond rfl (fun q11 => ?_) (fun q11 => ?_)
                    ·
                      try simp only [Bool.not_eq_eq_eq_not, Bool.not_true, Bool.not_false, decide_eq_true_eq, decide_eq_false_iff_not, Int.not_lt, Int.not_le, ne_eq, Decidable.not_not, ← List.length_eq_zero_iff] at q11
                      refine WC.skip ?_
                      refine WE.block_normal ?_
                      refine WE.block_normal ?_
                      have e2 := lab_yes s i n5 (by unfold okr; omega)
                      refine WE.again (i + 1) ?_ ?_ ⟨rfl, trivial⟩ (by rw [e2.2])
                      · try dsimp only   -- again 10
                        exact ⟨by omega, by rw [hf, all_step s i n5, e2.1]; rfl⟩
                      · (try dsimp only); omega
                    ·
                      try simp only [Bool.not_eq_eq_eq_not, Bool.not_true, Bool.not_false, decide_eq_true_eq, decide_eq_false_iff_not, Int.not_lt, Int.not_le, ne_eq, Decidable.not_not, ← List.length_eq_zero_iff] at q11
                      refine WC.seq ?_
                      refine WC.region ?_
                      refine WL.q (oq_assign rfl) rfl rfl rfl ?_
                      refine WL.nil ?_
                      refine WE.then_normal ?_
                      refine WC.sub (fr' := [(2, _)]) ?_ ⟨rfl, trivial⟩
                      refine WC.ret ?_
                      refine WE.block_ret ?_
                      refine WE.block_ret ?_
                      refine WE.then_ret ?_
                      refine WE.block_ret ?_
                      refine WE.then_ret ?_
                      refine WE.lose hb ?_
                      refine WE.end0 (.inl rfl) (res1 Tryd.results12 rfl) ?_
                      -- end 6
                      rw [vlabel_no s i n5 hf (by unfold okr; omega)]
                ·
                  try simp only [Bool.not_eq_eq_eq_not, Bool.not_true, Bool.not_false, decide_eq_true_eq, decide_eq_false_iff_not, Int.not_lt, Int.not_le, ne_eq, Decidable.not_not, ← List.length_eq_zero_iff] at s10_2
                  refine WL.skip rfl rfl rfl ?_
                  refine WL.skip rfl rfl rfl ?_
                  refine WL.q (oq_pick_f rfl rfl) rfl rfl rfl ?_
                  refine WL.q (oq_assign rfl) rfl rfl rfl ?_
                  refine WL.nil ?_
                  refine WE.then_normal ?_
                  refine WC.sub (fr' := [(5, _), (15, _), (33, _)]) ?_ ⟨rfl, rfl, rfl, trivial⟩
                  refine WC.cond_f rfl ?_
                  refine WC.seq ?_
                  refine WC.region ?_
                  refine WL.q (oq_move rfl) rfl rfl rfl ?_
                  refine WL.q (oq_eql rfl rfl) rfl rfl rfl ?_
                  refine WL.q (oq_assign rfl) rfl rfl rfl ?_
                  refine WL.nil ?_
                  refine WE.then_normal ?_
                  refine WC.sub (fr' := [(15, _), (40, _)]) ?_ ⟨rfl, rfl, trivial⟩
                  refine WC.cond rfl (fun q11 => ?_) (fun q11 => ?_)
                  ·
                    try simp only [Bool.not_eq_eq_eq_not, Bool.not_true, Bool.not_false, decide_eq_true_eq, decide_eq_false_iff_not, Int.not_lt, Int.not_le, ne_eq, Decidable.not_not, ← List.length_eq_zero_iff] at q11
                    refine WC.skip ?_
                    refine WE.block_normal ?_
                    refine WE.block_normal ?_
                    have e2 := lab_yes s i n5 (by unfold okr; omega)
                    refine WE.again (i + 1) ?_ ?_ ⟨rfl, trivial⟩ (by rw [e2.2])
                    · try dsimp only   -- again 11
                      exact ⟨by omega, by rw [hf, all_step s i n5, e2.1]; rfl⟩
                    · (try dsimp only); omega
                  ·
                    try simp only [Bool.not_eq_eq_eq_not, Bool.not_true, Bool.not_false, decide_eq_true_eq, decide_eq_false_iff_not, Int.not_lt, Int.not_le, ne_eq, Decidable.not_not, ← List.length_eq_zero_iff] at q11
                    refine WC.seq ?_
                    refine WC.region ?_
                    refine WL.q (oq_assign rfl) rfl rfl rfl ?_
                    refine WL.nil ?_
                    refine WE.then_normal ?_
                    refine WC.sub (fr' := [(2, _)]) ?_ ⟨rfl, trivial⟩
                    refine WC.ret ?_
                    refine WE.block_ret ?_
                    refine WE.block_ret ?_
                    refine WE.then_ret ?_
                    refine WE.block_ret ?_
                    refine WE.then_ret ?_
                    refine WE.lose hb ?_
                    refine WE.end0 (.inl rfl) (res1 Tryd.results12 rfl) ?_
                    -- end 7
                    rw [vlabel_no s i n5 hf (by unfold okr; omega)]
            ·
              try simp only [Bool.not_eq_eq_eq_not, Bool.not_true, Bool.not_false, decide_eq_true_eq, decide_eq_false_iff_not, Int.not_lt, Int.not_le, ne_eq, Decidable.not_not, ← List.length_eq_zero_iff] at s9_2
              refine WL.skip rfl rfl rfl ?_
              refine WL.skip rfl rfl rfl ?_
              refine WL.q (oq_pick_f rfl rfl) rfl rfl rfl ?_
              refine WL.q (oq_assign rfl) rfl rfl rfl ?_
              refine WL.nil ?_
              refine WE.then_normal ?_
              refine WC.sub (fr' := [(5, _), (15, _), (26, _)]) ?_ ⟨rfl, rfl, rfl, trivial⟩
              refine WC.cond_f rfl ?_
              refine WC.seq ?_
              refine WC.region ?_
              refine WL.q (oq_move rfl) rfl rfl rfl ?_
              refine WL.q (oq_geq rfl rfl) rfl rfl rfl ?_
              refine WL.q (oq_move rfl) rfl rfl rfl ?_
              refine WL.split 36 rfl (fun s10_2 => ?_) (fun s10_2 => ?_)
              ·
                try simp only [Bool.not_eq_eq_eq_not, Bool.not_true, Bool.not_false, decide_eq_true_eq, decide_eq_false_iff_not, Int.not_lt, Int.not_le, ne_eq, Decidable.not_not, ← List.length_eq_zero_iff] at s10_2
                refine WL.q (oq_move rfl) rfl rfl rfl ?_
                refine WL.q (oq_leq rfl rfl) rfl rfl rfl ?_
                refine WL.q (oq_pick_t rfl rfl) rfl rfl rfl ?_
                refine WL.q (oq_assign rfl) rfl rfl rfl ?_
                refine WL.nil ?_
                refine WE.then_normal ?_
                refine WC.sub (fr' := [(5, _), (15, _), (33, _)]) ?_ ⟨rfl, rfl, rfl, trivial⟩
                refine WC.cond rfl (fun q10 => ?_) (fun q10 => ?_)
                ·
                  try simp only [Bool.not_eq_eq_eq_not, Bool.not_true, Bool.not_false, decide_eq_true_eq, decide_eq_false_iff_not, Int.not_lt, Int.not_le, ne_eq, Decidable.not_not, ← List.length_eq_zero_iff] at q10
                  refine WC.skip ?_
                  refine WE.block_normal ?_
                  refine WE.block_normal ?_
                  have e2 := lab_yes s i n5 (by unfold okr; omega)
                  refine WE.again (i + 1) ?_ ?_ ⟨rfl, trivial⟩ (by rw [e2.2])
                  · try dsimp only   -- again 12
                    exact ⟨by omega, by rw [hf, all_step s i n5, e2.1]; rfl⟩
                  · (try dsimp only); omega
                ·
                  try simp only [Bool.not_eq_eq_eq_not, Bool.not_true, Bool.not_false, decide_eq_true_eq, decide_eq_false_iff_not, Int.not_lt, Int.not_le, ne_eq, Decidable.not_not, ← List.length_eq_zero_iff] at q10
                  refine WC.seq ?_
                  refine WC.region ?_
                  refine WL.q (oq_move rfl) rfl rfl rfl ?_
                  refine WL.q (oq_eql rfl rfl) rfl rfl rfl ?_
                  refine WL.q (oq_assign rfl) rfl rfl rfl ?_
                  refine WL.nil ?_
                  refine WE.then_normal ?_
                  refine WC.sub (fr' := [(15, _), (40, _)]) ?_ ⟨rfl, rfl, trivial⟩
                  refine WC.cond rfl (fun q11 => ?_) (fun q11 => ?_)
                  ·
                    try simp only [Bool.not_eq_eq_eq_not, Bool.not_true, Bool.not_false, decide_eq_true_eq, decide_eq_false_iff_not, Int.not_lt, Int.not_le, ne_eq, Decidable.not_not, ← List.length_eq_zero_iff] at q11
                    refine WC.skip ?_
                    refine WE.block_normal ?_
                    refine WE.block_normal ?_
                    have e2 := lab_yes s i n5 (by unfold okr; omega)
                    refine WE.again (i + 1) ?_ ?_ ⟨rfl, trivial⟩ (by rw [e2.2])
                    · try dsimp only   -- again 13
                      exact ⟨by omega, by rw [hf, all_step s i n5, e2.1]; rfl⟩
                    · (try dsimp only); omega
                  ·
                    try simp only [Bool.not_eq_eq_eq_not, Bool.not_true, Bool.not_false, decide_eq_true_eq, decide_eq_false_iff_not, Int.not_lt, Int.not_le, ne_eq, Decidable.not_not, ← List.length_eq_zero_iff] at q11
                    refine WC.seq ?_
                    refine WC.region ?_
                    refine WL.q (oq_assign rfl) rfl rfl rfl ?_
                    refine WL.nil ?_
                    refine WE.then_normal ?_
                    refine WC.sub (fr' := [(2, _)]) ?_ ⟨rfl, trivial⟩
                    refine WC.ret ?_
                    refine WE.block_ret ?_
                    refine WE.block_ret ?_
                    refine WE.then_ret ?_
                    refine WE.block_ret ?_
                    refine WE.then_ret ?_
                    refine WE.lose hb ?_
                    refine WE.end0 (.inl rfl) (res1 Tryd.results12 rfl) ?_
                    -- end 8
                    rw [vlabel_no s i n5 hf (by unfold okr; omega)]
              ·
                try simp only [Bool.not_eq_eq_eq_not, Bool.not_true, Bool.not_false, decide_eq_true_eq, decide_eq_false_iff_not, Int.not_lt, Int.not_le, ne_eq, Decidable.not_not, ← List.length_eq_zero_iff] at s10_2
                refine WL.skip rfl rfl rfl ?_
                refine WL.skip rfl rfl rfl ?_
                refine WL.q (oq_pick_f rfl rfl) rfl rfl rfl ?_
                refine WL.q (oq_assign rfl) rfl rfl rfl ?_
                refine WL.nil ?_
                refine WE.then_normal ?_
                refine WC.sub (fr' := [(5, _), (15, _), (33, _)]) ?_ ⟨rfl, rfl, rfl, trivial⟩
                refine WC.cond_f rfl ?_
                refine WC.seq ?_
                refine WC.region ?_
                refine WL.q (oq_move rfl) rfl rfl rfl ?_
                refine WL.q (oq_eql rfl rfl) rfl rfl rfl ?_
                refine WL.q (oq_assign rfl) rfl rfl rfl ?_
                refine WL.nil ?_
                refine WE.then_normal ?_
                refine WC.sub (fr' := [(15, _), (40, _)]) ?_ ⟨rfl, rfl, trivial⟩
                refine WC.cond rfl (fun q11 => ?_) (fun q11 => ?_)
                ·
                  try simp only [Bool.not_eq_eq_eq_not, Bool.not_true, Bool.not_false, decide_eq_true_eq, decide_eq_false_iff_not, Int.not_lt, Int.not_le, ne_eq, Decidable.not_not, ← List.length_eq_zero_iff] at q11
                  refine WC.skip ?_
                  refine WE.block_normal ?_
                  refine WE.block_normal ?_
                  have e2 := lab_yes s i n5 (by unfold okr; omega)
                  refine WE.again (i + 1) ?_ ?_ ⟨rfl, trivial⟩ (by rw [e2.2])
                  · try dsimp only   -- again 14
                    exact ⟨by omega, by rw [hf, all_step s i n5, e2.1]; rfl⟩
                  · (try dsimp only); omega
                ·
                  try simp only [Bool.not_eq_eq_eq_not, Bool.not_true, Bool.not_false, decide_eq_true_eq, decide_eq_false_iff_not, Int.not_lt, Int.not_le, ne_eq, Decidable.not_not, ← List.length_eq_zero_iff] at q11
                  refine WC.seq ?_
                  refine WC.region ?_
                  refine WL.q (oq_assign rfl) rfl rfl rfl ?_
                  refine WL.nil ?_
                  refine WE.then_normal ?_
                  refine WC.sub (fr' := [(2, _)]) ?_ ⟨rfl, trivial⟩
                  refine WC.ret ?_
                  refine WE.block_ret ?_
                  refine WE.block_ret ?_
                  refine WE.then_ret ?_
                  refine WE.block_ret ?_
                  refine WE.then_ret ?_
                  refine WE.lose hb ?_
                  refine WE.end0 (.inl rfl) (res1 Tryd.results12 rfl) ?_
                  -- end 9
                  rw [vlabel_no s i n5 hf (by unfold okr; omega)]
        ·
          refine WL.q (oq_extract rfl rfl) rfl rfl rfl ?_
          refine WL.nil ?_
          refine WE.then_normal ?_
          refine WC.sub (fr' := [(15, _), (16, _), (17, _)]) ?_ ⟨rfl, rfl, rfl, trivial⟩
          refine WC.seq ?_
          refine WC.cond_f rfl ?_
          refine WC.exit ?_
          refine WE.then_exit ?_
          refine WE.then_exit ?_
          refine WE.block_same ?_
          refine WE.then_normal ?_
          refine WC.sub (fr' := []) ?_ trivial
          refine WC.seq ?_
          refine WC.region ?_
          refine WL.q (oq_assign rfl) rfl rfl rfl ?_
          refine WL.nil ?_
          refine WE.then_normal ?_
          refine WC.sub (fr' := [(2, _)]) ?_ ⟨rfl, trivial⟩
          refine WC.ret ?_
          refine WE.lose hb ?_
          refine WE.end0 (.inl rfl) (res1 Tryd.results12 rfl) ?_
          -- end 10
          rw [vlabel_yes s i s2_2 q2 n5 hf]

end L0
end Go.Proofs.YtbcmbmmnpnbakaaDoor
