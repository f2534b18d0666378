/- The walk of the trimming of a text of ASCII. -/
import Derived.Test.YtcgpajknehhdgaaDoorH1
namespace Go.Proofs.YtcgpajknehhdgaaDoor
open Go Go.RowKit V H1
set_option linter.unusedSimpArgs false
set_option linter.unusedVariables false
set_option maxRecDepth 10000
namespace H2
theorem call83 : Callable Tryd.prog 83 := ⟨_, Tryd.func83, rfl, by kernel_rfl⟩
theorem flat21 : Flat Tryd.prog 21 := ⟨_, Tryd.underlying21, by simp⟩
theorem ty21 : Ty Tryd.prog 21 (.int .i32 0) 1 4 := ty_of (by kernel_rfl)

/-- only ASCII -/
def Asc (s : List UInt8) : Prop := ∀ i : Nat, i < s.length → byteAt s i < 128
theorem dec_asc (s : List UInt8) (ha : Asc s) (i : Nat) (h : i < s.length) : ((decAt s i).1 : Int) = byteAt s i ∧ (decAt s i).2 = 1 := by
  have h1 := ha i h
  rw [byteAt_get s i h] at h1 ⊢
  have e : decAt s i = (s[i].toNat, 1) := decAt_ascii s i h (by omega)
  rw [e]; exact ⟨rfl, rfl⟩
theorem rl_asc (s : List UInt8) (ha : Asc s) (i : Nat) (h : i < s.length) : rlist (cut s (i : Int) ((i : Int) + 1)) = [(decAt s i).1] := by
  have e := cut_nat s i 1
  rw [show (i : Int) + ((1 : Nat) : Int) = (i : Int) + 1 from rfl] at e
  rw [e]
  exact (rune_hit s i 1 (by omega) (by omega)).2 (dec_asc s ha i h).2
theorem trimL_drop (s : List UInt8) (i : Nat) (h : i < s.length) (hb : blk (byteAt s i) = true) : trimL (s.drop (i + 1)) = trimL (s.drop i) := by
  have h0 : byteAt (s.drop i) 0 = byteAt s i := by
    rw [byteAt_get s i h, List.drop_eq_getElem_cons h]; rfl
  rw [← trimL_step (s.drop i) (by intro e; have := congrArg List.length e; simp at this; omega) (by rw [h0]; exact hb), List.drop_drop]
theorem trimL_at (s : List UInt8) (i : Nat) (h : i < s.length) (hb : blk (byteAt s i) = false) : trimL (s.drop i) = s.drop i := by
  have h0 : byteAt (s.drop i) 0 = byteAt s i := by
    rw [byteAt_get s i h, List.drop_eq_getElem_cons h]; rfl
  exact trimL_stop _ (.inr (by rw [h0]; exact hb))
theorem trimR_snoc (x : List UInt8) (c : UInt8) : trimR (x ++ [c]) = if blkB c then trimR x else x ++ [c] := by
  unfold trimR
  rw [List.reverse_append, List.reverse_singleton, List.singleton_append]
  by_cases h : blkB c = true
  · rw [List.dropWhile_cons_of_pos h, if_pos h]
  · rw [List.dropWhile_cons_of_neg (by simpa using h), if_neg h]; simp
theorem part_snoc (s : List UInt8) (f i : Nat) (hf : f ≤ i) (h : i < s.length) : (s.take (i + 1)).drop f = (s.take i).drop f ++ [s[i]] := by
  rw [List.take_succ_eq_append_getElem h, List.drop_append_of_le_length (by simp; omega)]
/-- given.example/pub-tinwright/pub/smithy/transport/http.zzTrimSpace -/
theorem trimSpace (s : List UInt8) (hs : s.length ≤ 4000000000) (ha : Asc s) : Fn0 Tryd.prog 82 [S s] (S (trim s)) := by
  refine Fn0.enter (n := 98) Tryd.func82 rfl rfl fun w0 => ?_
  refine WC.sub (fr' := [(0, _)]) ?_ ⟨rfl, trivial⟩
  refine WC.seq ?_
  refine WC.region ?_
  refine WL.q (oq_assign rfl) rfl rfl rfl ?_
  refine WL.nil ?_
  refine WE.then_normal ?_
  refine WC.sub (fr' := [(0, _)]) ?_ ⟨rfl, trivial⟩
  refine WC.seq ?_
  refine WC.region ?_
  refine WL.q (oq_move rfl) rfl rfl rfl ?_
  refine WL.q (oq_len_s Tryd.underlying9 rfl) rfl rfl rfl ?_
  refine WL.q (oq_move rfl) rfl rfl rfl ?_
  refine WL.q (oq_len_s Tryd.underlying9 rfl) rfl rfl rfl ?_
  refine WL.q (oq_assign rfl) rfl rfl rfl ?_
  refine WL.q (oq_assign rfl) rfl rfl rfl ?_
  refine WL.nil ?_
  refine WE.then_normal ?_
  refine WC.sub (fr' := [(0, _), (3, _), (4, _)]) ?_ ⟨rfl, rfl, rfl, trivial⟩
  refine WC.cut (ι := Nat) (fun (f : Nat) => [(0, S s), (3, I (f : Int)), (4, I (s.length : Int))]) (fun (f : Nat) => []) (fun (f : Nat) => f ≤ s.length ∧ trimL s = s.drop f ∧ (f < s.length → blk (byteAt s f) = false)) ?_ ?_
  ·
    refine WC.seq ?_
    refine WC.region ?_
    refine WL.q (oq_move rfl) rfl rfl rfl ?_
    refine WL.range_s Tryd.underlying9 rfl rfl rfl fun it hit => ?_
    refine WL.nil ?_
    refine WE.then_normal ?_
    refine WC.sub (fr' := [(0, _), (3, _), (4, _), (16, _)]) ?_ ⟨rfl, rfl, rfl, rfl, trivial⟩
    refine WC.block ?_
    refine WC.loop (ι := Nat) (fun (i : Nat) => [(0, S s), (3, I (s.length : Int)), (4, I (s.length : Int)), (16, Pt it 0)]) (fun (i : Nat) => [[(it, .stringIter ⟨⟨s⟩⟩ i)]]) (fun (i : Nat) => i ≤ s.length ∧ trimL (s.drop i) = trimL s) (fun (i : Nat) => s.length - i) (0) ?_ ⟨rfl, rfl, rfl, rfl, trivial⟩ (List.Perm.refl _) ?_
    · try dsimp only
      exact ⟨by omega, rfl⟩
    · rintro i hp
      try dsimp only at hp
      obtain ⟨hi, hf⟩ := hp
      show WC _ _ _ _ _ _ ([(0, S s), (3, I (s.length : Int)), (4, I (s.length : Int)), (16, Pt it 0)]) ([[(it, .stringIter ⟨⟨s⟩⟩ i)]])
      refine WC.seq ?_
      refine WC.region ?_
      refine WL.next_s rfl rfl rfl (fun n3 => ?_) (fun n3 => ?_)
      ·
        refine WL.q (oq_extract rfl rfl) rfl rfl rfl ?_
        refine WL.nil ?_
        refine WE.then_normal ?_
        refine WC.sub (fr' := [(0, _), (3, _), (4, _), (16, _), (17, _), (18, _)]) ?_ ⟨rfl, rfl, rfl, rfl, rfl, rfl, trivial⟩
        refine WC.seq ?_
        refine WC.cond_t rfl ?_
        refine WC.skip ?_
        refine WE.then_normal ?_
        refine WC.sub (fr' := [(0, _), (3, _), (4, _), (16, _), (17, _)]) ?_ ⟨rfl, rfl, rfl, rfl, rfl, trivial⟩
        refine WC.block ?_
        refine WC.seq ?_
        refine WC.region ?_
        refine WL.q (oq_extract rfl rfl) rfl rfl rfl ?_
        refine WL.q (oq_extract rfl rfl) rfl rfl rfl ?_
        refine WL.q (oq_assign rfl) rfl rfl rfl ?_
        refine WL.q (oq_assign rfl) rfl rfl rfl ?_
        refine WL.nil ?_
        refine WE.then_normal ?_
        refine WC.sub (fr' := [(0, _), (3, _), (4, _), (5, _), (6, _), (16, _)]) ?_ ⟨rfl, rfl, rfl, rfl, rfl, rfl, trivial⟩
        refine WC.seq ?_
        refine WC.region ?_
        refine WL.q (oq_move rfl) rfl rfl rfl ?_
        refine WL.qc (oq_call (isSpace _ (by first | omega | (rw [rl_asc s ha i (by omega)]; have hd := dec_asc s ha i (by omega); have h1 := ha i (by omega); simp only [List.getD_cons_zero]; omega) | (have hd := dec_asc s ha i (by omega); have h1 := ha i (by omega); omega)) (by first | omega | (rw [rl_asc s ha i (by omega)]; have hd := dec_asc s ha i (by omega); have h1 := ha i (by omega); simp only [List.getD_cons_zero]; omega) | (have hd := dec_asc s ha i (by omega); have h1 := ha i (by omega); omega))) call83 rfl) rfl rfl rfl ?_
        refine WL.q (oq_not rfl) rfl rfl rfl ?_
        refine WL.nil ?_
        refine WE.then_normal ?_
        refine WC.sub (fr' := [(0, _), (3, _), (4, _), (5, _), (16, _), (23, _)]) ?_ ⟨rfl, rfl, rfl, rfl, rfl, rfl, trivial⟩
        refine WC.cond rfl (fun q5 => ?_) (fun q5 => ?_)
        ·
          try simp only [Bool.not_eq_eq_eq_not, Bool.not_true, Bool.not_false, decide_eq_true_eq, decide_eq_false_iff_not, Int.not_lt, Int.not_le, ne_eq, Decidable.not_not, ← List.length_eq_zero_iff] at q5
          refine WC.seq ?_
          refine WC.region ?_
          refine WL.q (oq_move rfl) rfl rfl rfl ?_
          refine WL.q (oq_assign rfl) rfl rfl rfl ?_
          refine WL.nil ?_
          refine WE.then_normal ?_
          refine WC.sub (fr' := [(0, _), (3, _), (4, _)]) ?_ ⟨rfl, rfl, rfl, trivial⟩
          refine WC.exit ?_
          refine WE.block_other rfl ?_
          refine WE.then_exit ?_
          refine WE.block_same ?_
          have hd := dec_asc s ha i n3
          have hb : blk (byteAt s i) = false := by rw [← hd.1]; simpa using q5
          refine WE.lose hit ?_
          refine WE.meet _ ?_ ⟨rfl, rfl, rfl, trivial⟩ (List.Perm.refl _)
          try dsimp only
          exact ⟨by omega, by rw [← hf, trimL_at s i n3 hb], fun _ => hb⟩   -- meet 0
        ·
          try simp only [Bool.not_eq_eq_eq_not, Bool.not_true, Bool.not_false, decide_eq_true_eq, decide_eq_false_iff_not, Int.not_lt, Int.not_le, ne_eq, Decidable.not_not, ← List.length_eq_zero_iff] at q5
          refine WC.skip ?_
          refine WE.block_normal ?_
          have hd := dec_asc s ha i n3
          refine WE.again (i + (decAt s i).2) ?_ ?_ ⟨rfl, rfl, rfl, rfl, trivial⟩ (List.Perm.refl _)
          · try dsimp only   -- again 0
            exact ⟨by omega, by rw [hd.2, ← hf, trimL_drop s i n3 (by rw [← hd.1]; simpa using q5)]⟩
          · (try dsimp only); omega
      ·
        refine WL.q (oq_extract rfl rfl) rfl rfl rfl ?_
        refine WL.nil ?_
        refine WE.then_normal ?_
        refine WC.sub (fr' := [(0, _), (3, _), (4, _), (16, _), (17, _), (18, _)]) ?_ ⟨rfl, rfl, rfl, rfl, rfl, rfl, trivial⟩
        refine WC.seq ?_
        refine WC.cond_f rfl ?_
        refine WC.exit ?_
        refine WE.then_exit ?_
        refine WE.then_exit ?_
        refine WE.block_same ?_
        refine WE.lose hit ?_
        refine WE.meet _ ?_ ⟨rfl, rfl, rfl, trivial⟩ (List.Perm.refl _)
        try dsimp only
        exact ⟨by omega, by rw [← hf, List.drop_eq_nil_of_le n3, List.drop_eq_nil_of_le (Nat.le_refl _)]; rfl, fun h => by omega⟩   -- meet 1
  · rintro f hp
    try dsimp only at hp
    obtain ⟨hfl, hft, hfb⟩ := hp
    show WC _ _ _ _ _ _ ([(0, S s), (3, I (f : Int)), (4, I (s.length : Int))]) ([])
    refine WC.seq ?_
    refine WC.seq ?_
    refine WC.region ?_
    refine WL.q (oq_move rfl) rfl rfl rfl ?_
    refine WL.q (oq_assign rfl) rfl rfl rfl ?_
    refine WL.nil ?_
    refine WE.then_normal ?_
    refine WC.sub (fr' := [(0, _), (3, _), (4, _), (7, _)]) ?_ ⟨rfl, rfl, rfl, rfl, trivial⟩
    refine WC.block ?_
    refine WC.loop (ι := Nat × Nat) (fun i_ => (fun (i : Nat) (to : Nat) => [(0, S s), (3, I (f : Int)), (4, I (to : Int)), (7, I (i : Int))]) i_.1 i_.2) (fun i_ => (fun (i : Nat) (to : Nat) => []) i_.1 i_.2) (fun i_ => (fun (i : Nat) (to : Nat) => f ≤ i ∧ i ≤ s.length ∧ ((i = f ∧ to = s.length) ∨ (f < to ∧ to ≤ i ∧ trimR ((s.take i).drop f) = (s.take to).drop f))) i_.1 i_.2) (fun i_ => (fun (i : Nat) (to : Nat) => s.length - i) i_.1 i_.2) ((f, s.length)) ?_ ⟨rfl, rfl, rfl, rfl, trivial⟩ (List.Perm.refl _) ?_
    · try dsimp only
      exact ⟨by omega, by omega, .inl ⟨rfl, rfl⟩⟩
    · rintro ⟨i, to⟩ hp
      try dsimp only at hp
      obtain ⟨hfi, hi, hor⟩ := hp
      show WC _ _ _ _ _ _ ([(0, S s), (3, I (f : Int)), (4, I (to : Int)), (7, I (i : Int))]) ([])
      refine WC.seq ?_
      refine WC.seq ?_
      refine WC.region ?_
      refine WL.q (oq_move rfl) rfl rfl rfl ?_
      refine WL.q (oq_move rfl) rfl rfl rfl ?_
      refine WL.q (oq_len_s Tryd.underlying9 rfl) rfl rfl rfl ?_
      refine WL.q (oq_lss rfl rfl) rfl rfl rfl ?_
      refine WL.nil ?_
      refine WE.then_normal ?_
      refine WC.sub (fr' := [(0, _), (3, _), (4, _), (7, _), (29, _)]) ?_ ⟨rfl, rfl, rfl, rfl, rfl, trivial⟩
      refine WC.cond rfl (fun q8 => ?_) (fun q8 => ?_)
      ·
        try simp only [Bool.not_eq_eq_eq_not, Bool.not_true, Bool.not_false, decide_eq_true_eq, decide_eq_false_iff_not, Int.not_lt, Int.not_le, ne_eq, Decidable.not_not, ← List.length_eq_zero_iff] at q8
        refine WC.skip ?_
        refine WE.then_normal ?_
        refine WC.sub (fr' := [(0, _), (3, _), (4, _), (7, _)]) ?_ ⟨rfl, rfl, rfl, rfl, trivial⟩
        refine WC.block ?_
        refine WC.seq ?_
        refine WC.region ?_
        refine WL.q (oq_assign rfl) rfl rfl rfl ?_
        refine WL.nil ?_
        refine WE.then_normal ?_
        refine WC.sub (fr' := [(0, _), (3, _), (4, _), (7, _), (8, _)]) ?_ ⟨rfl, rfl, rfl, rfl, rfl, trivial⟩
        refine WC.cut (ι := Unit) (fun _ => [(0, S s), (3, I (f : Int)), (4, I (to : Int)), (7, I (i : Int)), (8, I 1)]) (fun _ => []) (fun _ => True) ?_ ?_
        ·
          refine WC.block ?_
          refine WC.loop (ι := Unit) (fun _ => [(0, S s), (3, I (f : Int)), (4, I (to : Int)), (7, I (i : Int)), (8, I 1)]) (fun _ => []) (fun _ => True) (fun _ => 0) (()) ?_ ⟨rfl, rfl, rfl, rfl, rfl, trivial⟩ (List.Perm.refl _) ?_
          · try dsimp only
            all_goals trivial
          · rintro _ hp
            try dsimp only at hp
            show WC _ _ _ _ _ _ ([(0, S s), (3, I (f : Int)), (4, I (to : Int)), (7, I (i : Int)), (8, I 1)]) ([])
            refine WC.seq ?_
            refine WC.seq ?_
            refine WC.region ?_
            refine WL.q (oq_move rfl) rfl rfl rfl ?_
            refine WL.q (oq_lss rfl rfl) rfl rfl rfl ?_
            refine WL.q (oq_move rfl) rfl rfl rfl ?_
            refine WL.split 32 rfl (fun s10_2 => ?_) (fun s10_2 => ?_)
            ·
              try simp only [Bool.not_eq_eq_eq_not, Bool.not_true, Bool.not_false, decide_eq_true_eq, decide_eq_false_iff_not, Int.not_lt, Int.not_le, ne_eq, Decidable.not_not, ← List.length_eq_zero_iff] at s10_2
              refine WL.q (oq_move rfl) rfl rfl rfl ?_
              refine WL.q (oq_move rfl) rfl rfl rfl ?_
              refine WL.q (oq_add rfl rfl (by rw [i64_lo, i64_hi]; (first | omega | (simp only [List.length_cons, List.length_nil, List.length_append, List.length_drop, List.length_take]; omega)))) rfl rfl rfl ?_
              refine WL.q (oq_move rfl) rfl rfl rfl ?_
              refine WL.q (oq_len_s Tryd.underlying9 rfl) rfl rfl rfl ?_
              refine WL.q (oq_lss rfl rfl) rfl rfl rfl ?_
              refine WL.q (oq_pick_t rfl rfl) rfl rfl rfl ?_
              refine WL.q (oq_move rfl) rfl rfl rfl ?_
              refine WL.split 40 rfl (fun s10_10 => ?_) (fun s10_10 => ?_)
              ·
                try simp only [Bool.not_eq_eq_eq_not, Bool.not_true, Bool.not_false, decide_eq_true_eq, decide_eq_false_iff_not, Int.not_lt, Int.not_le, ne_eq, Decidable.not_not, ← List.length_eq_zero_iff] at s10_10
                refine WL.q (oq_move rfl) rfl rfl rfl ?_
                refine WL.q (oq_move rfl) rfl rfl rfl ?_
                refine WL.index_s Tryd.underlying9 rfl rfl (by (first | omega | (simp only [List.length_cons, List.length_nil, List.length_append, List.length_drop, List.length_take]; omega))) rfl rfl fun c10_13 hc10_13 hc10_13l hc10_13u => ?_
                refine WL.q (oq_geq rfl rfl) rfl rfl rfl ?_
                refine WL.q (oq_pick_t rfl rfl) rfl rfl rfl ?_
                refine WL.q (oq_move rfl) rfl rfl rfl ?_
                refine WL.split 46 rfl (fun s10_16 => ?_) (fun s10_16 => ?_)
                ·
                  try simp only [Bool.not_eq_eq_eq_not, Bool.not_true, Bool.not_false, decide_eq_true_eq, decide_eq_false_iff_not, Int.not_lt, Int.not_le, ne_eq, Decidable.not_not, ← List.length_eq_zero_iff] at s10_16
                  refine WL.q (oq_move rfl) rfl rfl rfl ?_
                  refine WL.q (oq_move rfl) rfl rfl rfl ?_
                  refine WL.q (oq_move rfl) rfl rfl rfl ?_
                  refine WL.q (oq_add rfl rfl (by rw [i64_lo, i64_hi]; (first | omega | (simp only [List.length_cons, List.length_nil, List.length_append, List.length_drop, List.length_take]; omega)))) rfl rfl rfl ?_
                  refine WL.index_s Tryd.underlying9 rfl rfl (by (first | omega | (simp only [List.length_cons, List.length_nil, List.length_append, List.length_drop, List.length_take]; omega))) rfl rfl fun c10_21 hc10_21 hc10_21l hc10_21u => ?_
                  refine WL.q (oq_bits (op := .and) rfl rfl (by simp)) rfl rfl rfl ?_
                  refine WL.q (oq_eql rfl rfl) rfl rfl rfl ?_
                  refine WL.q (oq_pick_t rfl rfl) rfl rfl rfl ?_
                  refine WL.nil ?_
                  refine WE.then_normal ?_
                  refine WC.sub (fr' := [(0, _), (3, _), (4, _), (7, _), (8, _), (54, _)]) ?_ ⟨rfl, rfl, rfl, rfl, rfl, rfl, trivial⟩
                  refine WC.cond rfl (fun q10 => ?_) (fun q10 => ?_)
                  ·
                    try simp only [Bool.not_eq_eq_eq_not, Bool.not_true, Bool.not_false, decide_eq_true_eq, decide_eq_false_iff_not, Int.not_lt, Int.not_le, ne_eq, Decidable.not_not, ← List.length_eq_zero_iff] at q10
                    refine WC.skip ?_
                    refine WE.then_normal ?_
                    refine WC.sub (fr' := [(0, _), (3, _), (4, _), (7, _), (8, _)]) ?_ ⟨rfl, rfl, rfl, rfl, rfl, trivial⟩
                    refine WC.block ?_
                    refine WC.region ?_
                    refine WL.q (oq_move rfl) rfl rfl rfl ?_
                    refine WL.q (oq_add rfl rfl (by rw [i64_lo, i64_hi]; (first | omega | (simp only [List.length_cons, List.length_nil, List.length_append, List.length_drop, List.length_take]; omega)))) rfl rfl rfl ?_
                    refine WL.q (oq_assign rfl) rfl rfl rfl ?_
                    refine WL.nil ?_
                    refine WE.block_normal ?_
                    refine WE.again () ?_ ?_ ⟨rfl, rfl, rfl, rfl, (gti rfl (by exfalso; have h1 := ha i (by omega); omega)), trivial⟩ (List.Perm.refl _)
                    · try dsimp only   -- again 0
                      all_goals trivial
                    · exfalso; have h1 := ha i (by omega); omega
                  ·
                    try simp only [Bool.not_eq_eq_eq_not, Bool.not_true, Bool.not_false, decide_eq_true_eq, decide_eq_false_iff_not, Int.not_lt, Int.not_le, ne_eq, Decidable.not_not, ← List.length_eq_zero_iff] at q10
                    refine WC.exit ?_
                    refine WE.then_exit ?_
                    refine WE.then_exit ?_
                    refine WE.block_same ?_
                    refine WE.meet () ?_ ⟨rfl, rfl, rfl, rfl, rfl, trivial⟩ (List.Perm.refl _)
                    try dsimp only
                    all_goals trivial   -- meet 0
                ·
                  try simp only [Bool.not_eq_eq_eq_not, Bool.not_true, Bool.not_false, decide_eq_true_eq, decide_eq_false_iff_not, Int.not_lt, Int.not_le, ne_eq, Decidable.not_not, ← List.length_eq_zero_iff] at s10_16
                  refine WL.skip rfl rfl rfl ?_
                  refine WL.skip rfl rfl rfl ?_
                  refine WL.skip rfl rfl rfl ?_
                  refine WL.skip rfl rfl rfl ?_
                  refine WL.skip rfl rfl rfl ?_
                  refine WL.skip rfl rfl rfl ?_
                  refine WL.skip rfl rfl rfl ?_
                  refine WL.q (oq_pick_f rfl rfl) rfl rfl rfl ?_
                  refine WL.nil ?_
                  refine WE.then_normal ?_
                  refine WC.sub (fr' := [(0, _), (3, _), (4, _), (7, _), (8, _), (54, _)]) ?_ ⟨rfl, rfl, rfl, rfl, rfl, rfl, trivial⟩
                  refine WC.cond_f rfl ?_
                  refine WC.exit ?_
                  refine WE.then_exit ?_
                  refine WE.then_exit ?_
                  refine WE.block_same ?_
                  refine WE.meet () ?_ ⟨rfl, rfl, rfl, rfl, rfl, trivial⟩ (List.Perm.refl _)
                  try dsimp only
                  all_goals trivial   -- meet 1
              ·
                try simp only [Bool.not_eq_eq_eq_not, Bool.not_true, Bool.not_false, decide_eq_true_eq, decide_eq_false_iff_not, Int.not_lt, Int.not_le, ne_eq, Decidable.not_not, ← List.length_eq_zero_iff] at s10_10
                refine WL.skip rfl rfl rfl ?_
                refine WL.skip rfl rfl rfl ?_
                refine WL.skip rfl rfl rfl ?_
                refine WL.skip rfl rfl rfl ?_
                refine WL.q (oq_pick_f rfl rfl) rfl rfl rfl ?_
                refine WL.q (oq_move rfl) rfl rfl rfl ?_
                refine WL.skip rfl rfl rfl ?_
                refine WL.skip rfl rfl rfl ?_
                refine WL.skip rfl rfl rfl ?_
                refine WL.skip rfl rfl rfl ?_
                refine WL.skip rfl rfl rfl ?_
                refine WL.skip rfl rfl rfl ?_
                refine WL.skip rfl rfl rfl ?_
                refine WL.q (oq_pick_f rfl rfl) rfl rfl rfl ?_
                refine WL.nil ?_
                refine WE.then_normal ?_
                refine WC.sub (fr' := [(0, _), (3, _), (4, _), (7, _), (8, _), (54, _)]) ?_ ⟨rfl, rfl, rfl, rfl, rfl, rfl, trivial⟩
                refine WC.cond_f rfl ?_
                refine WC.exit ?_
                refine WE.then_exit ?_
                refine WE.then_exit ?_
                refine WE.block_same ?_
                refine WE.meet () ?_ ⟨rfl, rfl, rfl, rfl, rfl, trivial⟩ (List.Perm.refl _)
                try dsimp only
                all_goals trivial   -- meet 2
            ·
              try simp only [Bool.not_eq_eq_eq_not, Bool.not_true, Bool.not_false, decide_eq_true_eq, decide_eq_false_iff_not, Int.not_lt, Int.not_le, ne_eq, Decidable.not_not, ← List.length_eq_zero_iff] at s10_2
              refine WL.skip rfl rfl rfl ?_
              refine WL.skip rfl rfl rfl ?_
              refine WL.skip rfl rfl rfl ?_
              refine WL.skip rfl rfl rfl ?_
              refine WL.skip rfl rfl rfl ?_
              refine WL.skip rfl rfl rfl ?_
              refine WL.q (oq_pick_f rfl rfl) rfl rfl rfl ?_
              refine WL.q (oq_move rfl) rfl rfl rfl ?_
              refine WL.skip rfl rfl rfl ?_
              refine WL.skip rfl rfl rfl ?_
              refine WL.skip rfl rfl rfl ?_
              refine WL.skip rfl rfl rfl ?_
              refine WL.q (oq_pick_f rfl rfl) rfl rfl rfl ?_
              refine WL.q (oq_move rfl) rfl rfl rfl ?_
              refine WL.skip rfl rfl rfl ?_
              refine WL.skip rfl rfl rfl ?_
              refine WL.skip rfl rfl rfl ?_
              refine WL.skip rfl rfl rfl ?_
              refine WL.skip rfl rfl rfl ?_
              refine WL.skip rfl rfl rfl ?_
              refine WL.skip rfl rfl rfl ?_
              refine WL.q (oq_pick_f rfl rfl) rfl rfl rfl ?_
              refine WL.nil ?_
              refine WE.then_normal ?_
              refine WC.sub (fr' := [(0, _), (3, _), (4, _), (7, _), (8, _), (54, _)]) ?_ ⟨rfl, rfl, rfl, rfl, rfl, rfl, trivial⟩
              refine WC.cond_f rfl ?_
              refine WC.exit ?_
              refine WE.then_exit ?_
              refine WE.then_exit ?_
              refine WE.block_same ?_
              refine WE.meet () ?_ ⟨rfl, rfl, rfl, rfl, rfl, trivial⟩ (List.Perm.refl _)
              try dsimp only
              all_goals trivial   -- meet 3
        · rintro _ hp
          try dsimp only at hp
          show WC _ _ _ _ _ _ ([(0, S s), (3, I (f : Int)), (4, I (to : Int)), (7, I (i : Int)), (8, I 1)]) ([])
          refine WC.cut (ι := Unit) (fun _ => [(0, S s), (3, I (f : Int)), (4, I (to : Int)), (7, I (i : Int)), (8, I 1)]) (fun _ => []) (fun _ => True) ?_ ?_
          ·
            refine WC.seq ?_
            refine WC.region ?_
            refine WL.q (oq_move rfl) rfl rfl rfl ?_
            refine WL.q (oq_move rfl) rfl rfl rfl ?_
            refine WL.q (oq_move rfl) rfl rfl rfl ?_
            refine WL.q (oq_move rfl) rfl rfl rfl ?_
            refine WL.q (oq_add rfl rfl (by rw [i64_lo, i64_hi]; (first | omega | (simp only [List.length_cons, List.length_nil, List.length_append, List.length_drop, List.length_take]; omega)))) rfl rfl rfl ?_
            refine WL.q (oq_slice_s2 Tryd.underlying9 rfl rfl rfl (by (first | omega | (simp only [List.length_cons, List.length_nil, List.length_append, List.length_drop, List.length_take]; omega)))) rfl rfl rfl ?_
            refine WL.toRunes Tryd.underlying9 Tryd.underlying140 Tryd.underlying21 rfl (by unfold maxLen; (have := cut_le s (i : Int) ((i : Int) + 1); omega)) rfl rfl fun v12_6 A12_6 ho12_6 => ?_
            refine WL.q (oq_assign rfl) rfl rfl rfl ?_
            refine WL.nil ?_
            refine WE.then_normal ?_
            refine WC.sub (fr' := [(0, _), (3, _), (4, _), (7, _), (8, _), (9, _)]) ?_ ⟨rfl, rfl, rfl, rfl, rfl, rfl, trivial⟩
            refine WC.seq ?_
            refine WC.region ?_
            refine WL.q (oq_move rfl) rfl rfl rfl ?_
            refine WL.q (oq_len_rd ho12_6.rd Tryd.underlying140 rfl) rfl rfl rfl ?_
            refine WL.q (oq_gtr rfl rfl) rfl rfl rfl ?_
            refine WL.nil ?_
            refine WE.then_normal ?_
            refine WC.sub (fr' := [(0, _), (3, _), (4, _), (7, _), (8, _), (66, _)]) ?_ ⟨rfl, rfl, rfl, rfl, rfl, rfl, trivial⟩
            refine WC.cond rfl (fun q13 => ?_) (fun q13 => ?_)
            ·
              try simp only [Bool.not_eq_eq_eq_not, Bool.not_true, Bool.not_false, decide_eq_true_eq, decide_eq_false_iff_not, Int.not_lt, Int.not_le, ne_eq, Decidable.not_not, ← List.length_eq_zero_iff] at q13
              refine WC.region ?_
              refine WL.q (oq_assign rfl) rfl rfl rfl ?_
              refine WL.nil ?_
              refine WE.forget ho12_6.fresh ?_
              refine WE.meet () ?_ ⟨rfl, rfl, rfl, rfl, rfl, trivial⟩ (List.Perm.refl _)
              try dsimp only
              first | done | trivial | (exfalso; rw [rl_asc s ha i (by omega)] at q13; simp at q13)   -- meet 0
            ·
              try simp only [Bool.not_eq_eq_eq_not, Bool.not_true, Bool.not_false, decide_eq_true_eq, decide_eq_false_iff_not, Int.not_lt, Int.not_le, ne_eq, Decidable.not_not, ← List.length_eq_zero_iff] at q13
              refine WC.skip ?_
              refine WE.forget ho12_6.fresh ?_
              refine WE.meet () ?_ ⟨rfl, rfl, rfl, rfl, rfl, trivial⟩ (List.Perm.refl _)
              try dsimp only
              first | done | trivial | (exfalso; rw [rl_asc s ha i (by omega)] at q13; simp at q13)   -- meet 1
          · rintro _ hp
            try dsimp only at hp
            show WC _ _ _ _ _ _ ([(0, S s), (3, I (f : Int)), (4, I (to : Int)), (7, I (i : Int)), (8, I 1)]) ([])
            refine WC.seq ?_
            refine WC.seq ?_
            refine WC.region ?_
            refine WL.q (oq_move rfl) rfl rfl rfl ?_
            refine WL.q (oq_move rfl) rfl rfl rfl ?_
            refine WL.q (oq_move rfl) rfl rfl rfl ?_
            refine WL.q (oq_move rfl) rfl rfl rfl ?_
            refine WL.q (oq_add rfl rfl (by rw [i64_lo, i64_hi]; (first | omega | (simp only [List.length_cons, List.length_nil, List.length_append, List.length_drop, List.length_take]; omega)))) rfl rfl rfl ?_
            refine WL.q (oq_slice_s2 Tryd.underlying9 rfl rfl rfl (by (first | omega | (simp only [List.length_cons, List.length_nil, List.length_append, List.length_drop, List.length_take]; omega)))) rfl rfl rfl ?_
            refine WL.toRunes Tryd.underlying9 Tryd.underlying140 Tryd.underlying21 rfl (by unfold maxLen; (have := cut_le s (i : Int) ((i : Int) + 1); omega)) rfl rfl fun v15_6 A15_6 ho15_6 => ?_
            refine WL.q (oq_assign rfl) rfl rfl rfl ?_
            refine WL.nil ?_
            refine WE.then_normal ?_
            refine WC.sub (fr' := [(0, _), (3, _), (4, _), (7, _), (8, _), (10, _)]) ?_ ⟨rfl, rfl, rfl, rfl, rfl, rfl, trivial⟩
            refine WC.seq ?_
            refine WC.region ?_
            refine WL.q (oq_move rfl) rfl rfl rfl ?_
            refine WL.q (oq_len_rd ho15_6.rd Tryd.underlying140 rfl) rfl rfl rfl ?_
            refine WL.q (oq_neq rfl rfl) rfl rfl rfl ?_
            refine WL.q (oq_move rfl) rfl rfl rfl ?_
            refine WL.split 77 rfl (fun s16_3 => ?_) (fun s16_3 => ?_)
            ·
              try simp only [Bool.not_eq_eq_eq_not, Bool.not_true, Bool.not_false, decide_eq_true_eq, decide_eq_false_iff_not, Int.not_lt, Int.not_le, ne_eq, Decidable.not_not, ← List.length_eq_zero_iff] at s16_3
              refine WL.skip rfl rfl rfl ?_
              refine WL.skip rfl rfl rfl ?_
              refine WL.skip rfl rfl rfl ?_
              refine WL.skip rfl rfl rfl ?_
              refine WL.skip rfl rfl rfl ?_
              refine WL.q (oq_pick_t rfl rfl) rfl rfl rfl ?_
              refine WL.nil ?_
              refine WE.then_normal ?_
              refine WC.sub (fr' := [(0, _), (3, _), (4, _), (7, _), (8, _), (83, _)]) ?_ ⟨rfl, rfl, rfl, rfl, rfl, rfl, trivial⟩
              refine WC.cond_t rfl ?_
              refine WC.region ?_
              refine WL.q (oq_move rfl) rfl rfl rfl ?_
              refine WL.q (oq_move rfl) rfl rfl rfl ?_
              refine WL.q (oq_add rfl rfl (by rw [i64_lo, i64_hi]; (first | omega | (simp only [List.length_cons, List.length_nil, List.length_append, List.length_drop, List.length_take]; omega)))) rfl rfl rfl ?_
              refine WL.q (oq_assign rfl) rfl rfl rfl ?_
              refine WL.nil ?_
              refine WE.then_normal ?_
              refine WC.sub (fr' := [(0, _), (3, _), (4, _), (7, _), (8, _)]) ?_ ⟨rfl, rfl, rfl, rfl, rfl, trivial⟩
              refine WC.region ?_
              refine WL.q (oq_move rfl) rfl rfl rfl ?_
              refine WL.q (oq_move rfl) rfl rfl rfl ?_
              refine WL.q (oq_add rfl rfl (by rw [i64_lo, i64_hi]; (first | omega | (simp only [List.length_cons, List.length_nil, List.length_append, List.length_drop, List.length_take]; omega)))) rfl rfl rfl ?_
              refine WL.q (oq_assign rfl) rfl rfl rfl ?_
              refine WL.nil ?_
              refine WE.block_normal ?_
              refine WE.forget ho15_6.fresh ?_
              refine WE.again (i + 1, i + 1) ?_ ?_ ⟨rfl, rfl, rfl, rfl, trivial⟩ (List.Perm.refl _)
              · try dsimp only   -- again 0
                exfalso; rw [rl_asc s ha i (by omega)] at s16_3; simp at s16_3
              · (try dsimp only); omega
            ·
              try simp only [Bool.not_eq_eq_eq_not, Bool.not_true, Bool.not_false, decide_eq_true_eq, decide_eq_false_iff_not, Int.not_lt, Int.not_le, ne_eq, Decidable.not_not, ← List.length_eq_zero_iff] at s16_3
              refine WL.q (oq_move rfl) rfl rfl rfl ?_
              refine WL.q (oq_ixaddr ho15_6.rd Tryd.underlying140 ty21 rfl rfl (by (first | omega | (simp only [List.length_cons, List.length_nil, List.length_append, List.length_drop, List.length_take]; omega)))) rfl rfl rfl ?_
              refine WL.q (oq_load_rune ho15_6.rd (.head _) flat21 rfl (by (first | omega | (simp only [List.length_cons, List.length_nil, List.length_append, List.length_drop, List.length_take]; omega))) (by first | exact Int.toNat_natCast _ | exact rfl)) rfl rfl rfl ?_
              refine WL.qc (oq_call (isSpace _ (by first | omega | (rw [rl_asc s ha i (by omega)]; have hd := dec_asc s ha i (by omega); have h1 := ha i (by omega); simp only [List.getD_cons_zero]; omega) | (have hd := dec_asc s ha i (by omega); have h1 := ha i (by omega); omega)) (by first | omega | (rw [rl_asc s ha i (by omega)]; have hd := dec_asc s ha i (by omega); have h1 := ha i (by omega); simp only [List.getD_cons_zero]; omega) | (have hd := dec_asc s ha i (by omega); have h1 := ha i (by omega); omega))) call83 rfl) rfl rfl rfl ?_
              refine WL.q (oq_not rfl) rfl rfl rfl ?_
              refine WL.q (oq_pick_f rfl rfl) rfl rfl rfl ?_
              refine WL.nil ?_
              refine WE.then_normal ?_
              refine WC.sub (fr' := [(0, _), (3, _), (4, _), (7, _), (8, _), (83, _)]) ?_ ⟨rfl, rfl, rfl, rfl, rfl, rfl, trivial⟩
              refine WC.cond rfl (fun q16 => ?_) (fun q16 => ?_)
              ·
                try simp only [Bool.not_eq_eq_eq_not, Bool.not_true, Bool.not_false, decide_eq_true_eq, decide_eq_false_iff_not, Int.not_lt, Int.not_le, ne_eq, Decidable.not_not, ← List.length_eq_zero_iff] at q16
                refine WC.region ?_
                refine WL.q (oq_move rfl) rfl rfl rfl ?_
                refine WL.q (oq_move rfl) rfl rfl rfl ?_
                refine WL.q (oq_add rfl rfl (by rw [i64_lo, i64_hi]; (first | omega | (simp only [List.length_cons, List.length_nil, List.length_append, List.length_drop, List.length_take]; omega)))) rfl rfl rfl ?_
                refine WL.q (oq_assign rfl) rfl rfl rfl ?_
                refine WL.nil ?_
                refine WE.then_normal ?_
                refine WC.sub (fr' := [(0, _), (3, _), (4, _), (7, _), (8, _)]) ?_ ⟨rfl, rfl, rfl, rfl, rfl, trivial⟩
                refine WC.region ?_
                refine WL.q (oq_move rfl) rfl rfl rfl ?_
                refine WL.q (oq_move rfl) rfl rfl rfl ?_
                refine WL.q (oq_add rfl rfl (by rw [i64_lo, i64_hi]; (first | omega | (simp only [List.length_cons, List.length_nil, List.length_append, List.length_drop, List.length_take]; omega)))) rfl rfl rfl ?_
                refine WL.q (oq_assign rfl) rfl rfl rfl ?_
                refine WL.nil ?_
                refine WE.block_normal ?_
                refine WE.forget ho15_6.fresh ?_
                refine WE.again (i + 1, i + 1) ?_ ?_ ⟨rfl, rfl, rfl, rfl, trivial⟩ (List.Perm.refl _)
                · try dsimp only   -- again 1
                  have hd := dec_asc s ha i (by omega)
                  rw [rl_asc s ha i (by omega), List.getD_cons_zero, hd.1, byteAt_get s i (by omega)] at q16
                  refine ⟨by omega, by omega, .inr ⟨by omega, by omega, ?_⟩⟩
                  rw [part_snoc s f i hfi (by omega), trimR_snoc, if_neg (by simpa [blkB] using q16)]
                · (try dsimp only); omega
              ·
                try simp only [Bool.not_eq_eq_eq_not, Bool.not_true, Bool.not_false, decide_eq_true_eq, decide_eq_false_iff_not, Int.not_lt, Int.not_le, ne_eq, Decidable.not_not, ← List.length_eq_zero_iff] at q16
                refine WC.skip ?_
                refine WE.then_normal ?_
                refine WC.sub (fr' := [(0, _), (3, _), (4, _), (7, _), (8, _)]) ?_ ⟨rfl, rfl, rfl, rfl, rfl, trivial⟩
                refine WC.region ?_
                refine WL.q (oq_move rfl) rfl rfl rfl ?_
                refine WL.q (oq_move rfl) rfl rfl rfl ?_
                refine WL.q (oq_add rfl rfl (by rw [i64_lo, i64_hi]; (first | omega | (simp only [List.length_cons, List.length_nil, List.length_append, List.length_drop, List.length_take]; omega)))) rfl rfl rfl ?_
                refine WL.q (oq_assign rfl) rfl rfl rfl ?_
                refine WL.nil ?_
                refine WE.block_normal ?_
                refine WE.forget ho15_6.fresh ?_
                refine WE.again (i + 1, to) ?_ ?_ ⟨rfl, rfl, rfl, rfl, trivial⟩ (List.Perm.refl _)
                · try dsimp only   -- again 2
                  have hd := dec_asc s ha i (by omega)
                  rw [rl_asc s ha i (by omega), List.getD_cons_zero, hd.1] at q16
                  have hb : blk (byteAt s i) = true := by simpa using q16
                  rcases hor with ⟨h1, h2⟩ | ⟨h1, h2, h3⟩
                  · subst h1; rw [hfb (by omega)] at hb; cases hb
                  · refine ⟨by omega, by omega, .inr ⟨h1, by omega, ?_⟩⟩
                    rw [byteAt_get s i (by omega)] at hb
                    rw [part_snoc s f i hfi (by omega), trimR_snoc, if_pos (by exact hb)]; exact h3
                · (try dsimp only); omega
      ·
        try simp only [Bool.not_eq_eq_eq_not, Bool.not_true, Bool.not_false, decide_eq_true_eq, decide_eq_false_iff_not, Int.not_lt, Int.not_le, ne_eq, Decidable.not_not, ← List.length_eq_zero_iff] at q8
        refine WC.exit ?_
        refine WE.then_exit ?_
        refine WE.then_exit ?_
        refine WE.block_same ?_
        refine WE.then_normal ?_
        refine WC.sub (fr' := [(0, _), (3, _), (4, _)]) ?_ ⟨rfl, rfl, rfl, trivial⟩
        refine WC.seq ?_
        refine WC.seq ?_
        refine WC.region ?_
        refine WL.q (oq_move rfl) rfl rfl rfl ?_
        refine WL.q (oq_move rfl) rfl rfl rfl ?_
        refine WL.q (oq_len_s Tryd.underlying9 rfl) rfl rfl rfl ?_
        refine WL.q (oq_eql rfl rfl) rfl rfl rfl ?_
        refine WL.nil ?_
        refine WE.then_normal ?_
        refine WC.sub (fr' := [(0, _), (3, _), (4, _), (93, _)]) ?_ ⟨rfl, rfl, rfl, rfl, trivial⟩
        refine WC.cond rfl (fun q19 => ?_) (fun q19 => ?_)
        ·
          try simp only [Bool.not_eq_eq_eq_not, Bool.not_true, Bool.not_false, decide_eq_true_eq, decide_eq_false_iff_not, Int.not_lt, Int.not_le, ne_eq, Decidable.not_not, ← List.length_eq_zero_iff] at q19
          refine WC.seq ?_
          refine WC.region ?_
          refine WL.q (oq_assign rfl) rfl rfl rfl ?_
          refine WL.nil ?_
          refine WE.then_normal ?_
          refine WC.sub (fr' := [(2, _)]) ?_ ⟨rfl, trivial⟩
          refine WC.ret ?_
          refine WE.then_ret ?_
          refine WE.end0 (.inl rfl) (res1 Tryd.results82 rfl) ?_
          -- end 0
          unfold trim; rw [hft, List.drop_eq_nil_of_le (by omega)]; rfl
        ·
          try simp only [Bool.not_eq_eq_eq_not, Bool.not_true, Bool.not_false, decide_eq_true_eq, decide_eq_false_iff_not, Int.not_lt, Int.not_le, ne_eq, Decidable.not_not, ← List.length_eq_zero_iff] at q19
          refine WC.skip ?_
          refine WE.then_normal ?_
          refine WC.sub (fr' := [(0, _), (3, _), (4, _)]) ?_ ⟨rfl, rfl, rfl, trivial⟩
          refine WC.seq ?_
          refine WC.region ?_
          refine WL.q (oq_move rfl) rfl rfl rfl ?_
          refine WL.q (oq_move rfl) rfl rfl rfl ?_
          refine WL.q (oq_move rfl) rfl rfl rfl ?_
          refine WL.q (oq_slice_s2 Tryd.underlying9 rfl rfl rfl (by (first | omega | (simp only [List.length_cons, List.length_nil, List.length_append, List.length_drop, List.length_take]; omega)))) rfl rfl rfl ?_
          refine WL.q (oq_assign rfl) rfl rfl rfl ?_
          refine WL.nil ?_
          refine WE.then_normal ?_
          refine WC.sub (fr' := [(2, _)]) ?_ ⟨rfl, trivial⟩
          refine WC.ret ?_
          refine WE.end0 (.inl rfl) (res1 Tryd.results82 rfl) ?_
          -- end 1
          rcases hor with ⟨h1, h2⟩ | ⟨h1, h2, h3⟩
          · exfalso; omega
          · unfold trim; rw [hft]
            have hi2 : i = s.length := by omega
            subst hi2
            rw [List.take_length] at h3
            rw [h3]; unfold cut; rw [Int.toNat_natCast, Int.toNat_natCast]

end H2
end Go.Proofs.YtcgpajknehhdgaaDoor
