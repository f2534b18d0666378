/- The walk of the law on labels. -/
import Derived.Test.YthhankjineidiaaL2
import Derived.Test.YthhankjineidiaaL1
import Derived.Test.YthhankjineidiaaL0
namespace Go.Proofs.Ythhankjineidiaa
open Go Go.RowKit V L2 L1 L0
set_option linter.unusedSimpArgs false
set_option linter.unusedVariables false
set_option maxRecDepth 10000
namespace L3
theorem call20 : Callable Try.prog 20 := ⟨_, Try.func20, rfl, by kernel_rfl⟩
theorem call21 : Callable Try.prog 21 := ⟨_, Try.func21, rfl, by kernel_rfl⟩
theorem call22 : Callable Try.prog 22 := ⟨_, Try.func22, rfl, by kernel_rfl⟩
theorem call23 : Callable Try.prog 23 := ⟨_, Try.func23, rfl, by kernel_rfl⟩
theorem call27 : Callable Try.prog 27 := ⟨_, Try.func27, rfl, by kernel_rfl⟩
theorem flat9 : Flat Try.prog 9 := ⟨_, Try.underlying9, by simp⟩
theorem ty9 : Ty Try.prog 9 (S []) 1 16 := ty_of (by kernel_rfl)

theorem splitS_part (sep : List UInt8) : ∀ (f : Nat) (s p : List UInt8), p ∈ splitS sep f s → p.length ≤ s.length := by
  intro f
  induction f with
  | zero => intro s p h; simp [splitS] at h; subst h; exact Nat.le_refl _
  | succ f ih =>
    intro s p h
    unfold splitS at h
    cases hf : find sep s with
    | none => rw [hf] at h; simp at h; subst h; exact Nat.le_refl _
    | some i =>
      rw [hf] at h
      rcases List.mem_cons.1 h with rfl | h
      · simp; omega
      · have := ih _ _ h; simp at this; omega
theorem ecutR_part (sep : List UInt8) (lim : Int) (n : Nat) (s p : List UInt8) (h : p ∈ ecutR sep lim n s) : p.length ≤ s.length := by
  unfold ecutR split at h
  split at h <;> exact splitS_part _ _ _ _ h
theorem getD_len {ls : List (List UInt8)} {n : Nat} (h : ∀ p ∈ ls, p.length ≤ n) (i : Nat) : (ls.getD i []).length ≤ n := by
  rw [List.getD_eq_getElem?_getD]
  cases hi : ls[i]? with
  | none => simp
  | some p => exact h p (List.mem_of_getElem? hi)
theorem ecut0 (s : List UInt8) : ecutR [46] 0 0 s = zzsp [46] s := by unfold ecutR zzsp; simp
theorem ecutR_len (sep : List UInt8) (h : sep ≠ []) (lim : Int) (s : List UInt8) : (ecutR sep lim 0 s).length ≤ s.length + 1 := by
  unfold ecutR
  split
  · have key : ∀ (f : Nat) (s : List UInt8), (splitS sep f s).length ≤ s.length + 1 := by
      have hl : 0 < sep.length := List.length_pos_iff.2 h
      intro f
      induction f with
      | zero => intro s; simp [splitS]
      | succ f ih =>
        intro s
        unfold splitS
        cases hf : find sep s with
        | none => simp
        | some i => have h1 := ih (s.drop (i + sep.length)); have h2 := find_le sep s i hf; simp at h1 ⊢; omega
    exact key _ _
  · exact split_length sep h s.length s (Nat.le_refl _)
theorem elab_true (s : List UInt8) : evalid s false = elab1 s := by unfold evalid; simp
theorem elab_sub (s : List UInt8) : evalid s true = (ecutR [46] 0 0 s).all elab1 := by unfold evalid; rw [ecut0]; rfl
/-- given.example/pub-tinwright/spec.ELabels -/
theorem eLabels (s : List UInt8) (hs : s.length ≤ 4000000000) : Fn0 Try.prog 23 [S s] (.bool ((ecutR [46] 0 0 s).all elab1)) := by
  refine Fn0.enter (n := 19) Try.func23 rfl rfl fun w0 => ?_
  refine WC.sub (fr' := [(0, _)]) ?_ ⟨rfl, trivial⟩
  refine WC.seq ?_
  refine WC.region ?_
  refine WL.q (oq_assign rfl) rfl rfl rfl ?_
  refine WL.nil ?_
  refine WE.then_normal ?_
  refine WC.sub (fr' := [(0, _)]) ?_ ⟨rfl, trivial⟩
  refine WC.seq ?_
  refine WC.region ?_
  refine WL.q (oq_move rfl) rfl rfl rfl ?_
  refine WL.callA0 (eCut _ _ _ (by omega) (by decide) (by decide) (by decide)) call27 rfl rfl rfl fun v1_1 N1_1 hR1_1 hN1_1 => ?_
  have ho1_1 := hR1_1.rebase hN1_1
  have hpl := getD_len (fun p hp => ecutR_part [46] 0 0 s p hp)
  have hll := ecutR_len [46] (by decide) 0 s
  obtain ⟨ls, hls⟩ : ∃ ls, ecutR [46] 0 0 s = ls := ⟨_, rfl⟩
  rw [hls] at ho1_1 hpl hll
  refine WL.q (oq_assign rfl) rfl rfl rfl ?_
  refine WL.nil ?_
  refine WE.then_normal ?_
  refine WC.sub (fr' := [(3, _)]) ?_ ⟨rfl, trivial⟩
  refine WC.seq ?_
  refine WC.seq ?_
  refine WC.region ?_
  refine WL.q (oq_assign rfl) rfl rfl rfl ?_
  refine WL.nil ?_
  refine WE.then_normal ?_
  refine WC.sub (fr' := [(3, _), (4, _)]) ?_ ⟨rfl, rfl, trivial⟩
  refine WC.block ?_
  refine WC.loop (ι := Nat) (fun (i : Nat) => [(3, v1_1), (4, I i)]) (fun (i : Nat) => [N1_1]) (fun (i : Nat) => i ≤ ls.length ∧ (ecutR [46] 0 0 s).all elab1 = (ls.drop i).all elab1) (fun (i : Nat) => ls.length - i) (0) ?_ ⟨rfl, rfl, trivial⟩ (List.Perm.refl _) ?_
  · try dsimp only
    exact ⟨by omega, by rw [hls]; rfl⟩
  · rintro i hp
    try dsimp only at hp
    obtain ⟨hi, hf⟩ := hp
    show WC _ _ _ _ _ _ ([(3, v1_1), (4, I i)]) ([N1_1])
    refine WC.seq ?_
    refine WC.seq ?_
    refine WC.region ?_
    refine WL.q (oq_move rfl) rfl rfl rfl ?_
    refine WL.q (oq_move rfl) rfl rfl rfl ?_
    refine WL.q (oq_len_rd ho1_1.rd Try.underlying29 rfl) rfl rfl rfl ?_
    refine WL.q (oq_lss rfl rfl) rfl rfl rfl ?_
    refine WL.nil ?_
    refine WE.then_normal ?_
    refine WC.sub (fr' := [(3, _), (4, _), (10, _)]) ?_ ⟨rfl, rfl, rfl, trivial⟩
    refine WC.cond rfl (fun q3 => ?_) (fun q3 => ?_)
    ·
      try simp only [Bool.not_eq_eq_eq_not, Bool.not_true, Bool.not_false, decide_eq_true_eq, decide_eq_false_iff_not, Int.not_lt, Int.not_le, ne_eq, Decidable.not_not] at q3
      refine WC.skip ?_
      refine WE.then_normal ?_
      refine WC.sub (fr' := [(3, _), (4, _)]) ?_ ⟨rfl, rfl, trivial⟩
      refine WC.seq ?_
      refine WC.block ?_
      refine WC.seq ?_
      refine WC.region ?_
      refine WL.q (oq_move rfl) rfl rfl rfl ?_
      refine WL.q (oq_move rfl) rfl rfl rfl ?_
      refine WL.q (oq_ixaddr ho1_1.rd Try.underlying29 ty9 rfl rfl (by omega)) rfl rfl rfl ?_
      refine WL.q (oq_load_str ho1_1.rd (.head _) flat9 rfl (by omega) (by first | exact Int.toNat_natCast _ | exact rfl)) rfl rfl rfl ?_
      refine WL.qc (oq_call (eLabelOf _ (by have := hpl i; omega)) call22 rfl) rfl rfl rfl ?_
      refine WL.q (oq_not rfl) rfl rfl rfl ?_
      refine WL.nil ?_
      refine WE.then_normal ?_
      refine WC.sub (fr' := [(3, _), (4, _), (18, _)]) ?_ ⟨rfl, rfl, rfl, trivial⟩
      refine WC.cond rfl (fun q5 => ?_) (fun q5 => ?_)
      ·
        try simp only [Bool.not_eq_eq_eq_not, Bool.not_true, Bool.not_false, decide_eq_true_eq, decide_eq_false_iff_not, Int.not_lt, Int.not_le, ne_eq, Decidable.not_not] at q5
        refine WC.seq ?_
        refine WC.region ?_
        refine WL.q (oq_assign rfl) rfl rfl rfl ?_
        refine WL.nil ?_
        refine WE.then_normal ?_
        refine WC.sub (fr' := [(2, _)]) ?_ ⟨rfl, trivial⟩
        refine WC.ret ?_
        refine WE.block_ret ?_
        refine WE.then_ret ?_
        refine WE.then_ret ?_
        refine WE.block_ret ?_
        refine WE.then_ret ?_
        refine WE.forget ho1_1.fresh ?_
        refine WE.end0 (.inl rfl) (res1 Try.results23 rfl) ?_
        -- end 0
        rw [hf, all_get ls i [] (by omega), q5]; rfl
      ·
        try simp only [Bool.not_eq_eq_eq_not, Bool.not_true, Bool.not_false, decide_eq_true_eq, decide_eq_false_iff_not, Int.not_lt, Int.not_le, ne_eq, Decidable.not_not] at q5
        refine WC.skip ?_
        refine WE.block_normal ?_
        refine WE.then_normal ?_
        refine WC.sub (fr' := [(3, _), (4, _)]) ?_ ⟨rfl, rfl, trivial⟩
        refine WC.region ?_
        refine WL.q (oq_move rfl) rfl rfl rfl ?_
        refine WL.q (oq_add rfl rfl (by rw [i64_lo, i64_hi]; omega)) rfl rfl rfl ?_
        refine WL.q (oq_assign rfl) rfl rfl rfl ?_
        refine WL.nil ?_
        refine WE.again (i + 1) ?_ ?_ ⟨rfl, rfl, trivial⟩ (List.Perm.refl _)
        · try dsimp only   -- again 0
          refine ⟨by omega, ?_⟩
          rw [hf, all_get ls i [] (by omega), q5, Bool.true_and]
        · (try dsimp only); omega
    ·
      try simp only [Bool.not_eq_eq_eq_not, Bool.not_true, Bool.not_false, decide_eq_true_eq, decide_eq_false_iff_not, Int.not_lt, Int.not_le, ne_eq, Decidable.not_not] at q3
      refine WC.exit ?_
      refine WE.then_exit ?_
      refine WE.then_exit ?_
      refine WE.block_same ?_
      refine WE.then_normal ?_
      refine WC.sub (fr' := []) ?_ trivial
      refine WC.seq ?_
      refine WC.region ?_
      refine WL.q (oq_assign rfl) rfl rfl rfl ?_
      refine WL.nil ?_
      refine WE.then_normal ?_
      refine WC.sub (fr' := [(2, _)]) ?_ ⟨rfl, trivial⟩
      refine WC.ret ?_
      refine WE.forget ho1_1.fresh ?_
      refine WE.end0 (.inl rfl) (res1 Try.results23 rfl) ?_
      -- end 1
      rw [hf, List.drop_eq_nil_of_le (by omega)]; rfl

/-- given.example/pub-tinwright/laws.FnELabels -/
theorem law (s : List UInt8) : Fn0 Try.prog 6 [S s] (.bool true) := by
  refine Fn0.enter (n := 25) Try.func6 rfl rfl fun w0 => ?_
  refine WC.sub (fr' := [(0, _)]) ?_ ⟨rfl, trivial⟩
  refine WC.seq ?_
  refine WC.region ?_
  refine WL.q (oq_assign rfl) rfl rfl rfl ?_
  refine WL.nil ?_
  refine WE.then_normal ?_
  refine WC.sub (fr' := [(0, _)]) ?_ ⟨rfl, trivial⟩
  refine WC.seq ?_
  refine WC.seq ?_
  refine WC.region ?_
  refine WL.q (oq_move rfl) rfl rfl rfl ?_
  refine WL.q (oq_len_s Try.underlying9 rfl) rfl rfl rfl ?_
  refine WL.q (oq_gtr rfl rfl) rfl rfl rfl ?_
  refine WL.nil ?_
  refine WE.then_normal ?_
  refine WC.sub (fr' := [(0, _), (5, _)]) ?_ ⟨rfl, rfl, trivial⟩
  refine WC.cond rfl (fun q1 => ?_) (fun q1 => ?_)
  ·
    try simp only [Bool.not_eq_eq_eq_not, Bool.not_true, Bool.not_false, decide_eq_true_eq, decide_eq_false_iff_not, Int.not_lt, Int.not_le, ne_eq, Decidable.not_not] at q1
    refine WC.seq ?_
    refine WC.region ?_
    refine WL.q (oq_assign rfl) rfl rfl rfl ?_
    refine WL.nil ?_
    refine WE.then_normal ?_
    refine WC.sub (fr' := [(2, _)]) ?_ ⟨rfl, trivial⟩
    refine WC.ret ?_
    refine WE.then_ret ?_
    refine WE.end0 (.inl rfl) (res1 Try.results6 rfl) ?_
    -- end 0
    rfl
  ·
    try simp only [Bool.not_eq_eq_eq_not, Bool.not_true, Bool.not_false, decide_eq_true_eq, decide_eq_false_iff_not, Int.not_lt, Int.not_le, ne_eq, Decidable.not_not] at q1
    refine WC.skip ?_
    refine WE.then_normal ?_
    refine WC.sub (fr' := [(0, _)]) ?_ ⟨rfl, trivial⟩
    refine WC.seq ?_
    refine WC.seq ?_
    refine WC.region ?_
    refine WL.q (oq_move rfl) rfl rfl rfl ?_
    refine WL.q (oq_len_s Try.underlying9 rfl) rfl rfl rfl ?_
    refine WL.q (oq_gtr rfl rfl) rfl rfl rfl ?_
    refine WL.nil ?_
    refine WE.then_normal ?_
    refine WC.sub (fr' := [(0, _), (8, _)]) ?_ ⟨rfl, rfl, trivial⟩
    refine WC.cond rfl (fun q3 => ?_) (fun q3 => ?_)
    ·
      try simp only [Bool.not_eq_eq_eq_not, Bool.not_true, Bool.not_false, decide_eq_true_eq, decide_eq_false_iff_not, Int.not_lt, Int.not_le, ne_eq, Decidable.not_not] at q3
      refine WC.seq ?_
      refine WC.region ?_
      refine WL.qc (oq_call (eAwake) call20 rfl) rfl rfl rfl ?_
      refine WL.q (oq_assign rfl) rfl rfl rfl ?_
      refine WL.nil ?_
      refine WE.then_normal ?_
      refine WC.sub (fr' := [(2, _)]) ?_ ⟨rfl, trivial⟩
      refine WC.ret ?_
      refine WE.then_ret ?_
      refine WE.end0 (.inl rfl) (res1 Try.results6 rfl) ?_
      -- end 1
      rfl
    ·
      try simp only [Bool.not_eq_eq_eq_not, Bool.not_true, Bool.not_false, decide_eq_true_eq, decide_eq_false_iff_not, Int.not_lt, Int.not_le, ne_eq, Decidable.not_not] at q3
      refine WC.skip ?_
      refine WE.then_normal ?_
      refine WC.sub (fr' := [(0, _)]) ?_ ⟨rfl, trivial⟩
      refine WC.seq ?_
      refine WC.region ?_
      refine WL.q (oq_move rfl) rfl rfl rfl ?_
      refine WL.qc (oq_call (eLabel _ _ (by omega)) call21 rfl) rfl rfl rfl ?_
      refine WL.q (oq_move rfl) rfl rfl rfl ?_
      refine WL.qc (oq_call (eLabelOf _ (by omega)) call22 rfl) rfl rfl rfl ?_
      refine WL.q (oq_beql Try.underlying4 rfl rfl) rfl rfl rfl ?_
      refine WL.q (oq_move rfl) rfl rfl rfl ?_
      refine WL.split 15 rfl (fun s5_5 => ?_) (fun s5_5 => ?_)
      ·
        try simp only [Bool.not_eq_eq_eq_not, Bool.not_true, Bool.not_false, decide_eq_true_eq, decide_eq_false_iff_not, Int.not_lt, Int.not_le, ne_eq, Decidable.not_not] at s5_5
        refine WL.q (oq_move rfl) rfl rfl rfl ?_
        refine WL.qc (oq_call (eLabel _ _ (by omega)) call21 rfl) rfl rfl rfl ?_
        refine WL.q (oq_move rfl) rfl rfl rfl ?_
        refine WL.qc (oq_call (eLabels _ (by omega)) call23 rfl) rfl rfl rfl ?_
        refine WL.q (oq_beql Try.underlying4 rfl rfl) rfl rfl rfl ?_
        refine WL.q (oq_pick_t rfl rfl) rfl rfl rfl ?_
        refine WL.q (oq_move rfl) rfl rfl rfl ?_
        refine WL.split 22 rfl (fun s5_12 => ?_) (fun s5_12 => ?_)
        ·
          try simp only [Bool.not_eq_eq_eq_not, Bool.not_true, Bool.not_false, decide_eq_true_eq, decide_eq_false_iff_not, Int.not_lt, Int.not_le, ne_eq, Decidable.not_not] at s5_12
          refine WL.qc (oq_call (eAwake) call20 rfl) rfl rfl rfl ?_
          refine WL.q (oq_pick_t rfl rfl) rfl rfl rfl ?_
          refine WL.q (oq_assign rfl) rfl rfl rfl ?_
          refine WL.nil ?_
          refine WE.then_normal ?_
          refine WC.sub (fr' := [(2, _)]) ?_ ⟨rfl, trivial⟩
          refine WC.ret ?_
          refine WE.end0 (.inl rfl) (res1 Try.results6 rfl) ?_
          -- end 2
          rfl
        ·
          try simp only [Bool.not_eq_eq_eq_not, Bool.not_true, Bool.not_false, decide_eq_true_eq, decide_eq_false_iff_not, Int.not_lt, Int.not_le, ne_eq, Decidable.not_not] at s5_12
          refine WL.skip rfl rfl rfl ?_
          refine WL.q (oq_pick_f rfl rfl) rfl rfl rfl ?_
          refine WL.q (oq_assign rfl) rfl rfl rfl ?_
          refine WL.nil ?_
          refine WE.then_normal ?_
          refine WC.sub (fr' := [(2, _)]) ?_ ⟨rfl, trivial⟩
          refine WC.ret ?_
          refine WE.end0 (.inl rfl) (res1 Try.results6 rfl) ?_
          -- end 3
          simp [elab_sub] at s5_12
      ·
        try simp only [Bool.not_eq_eq_eq_not, Bool.not_true, Bool.not_false, decide_eq_true_eq, decide_eq_false_iff_not, Int.not_lt, Int.not_le, ne_eq, Decidable.not_not] at s5_5
        refine WL.skip rfl rfl rfl ?_
        refine WL.skip rfl rfl rfl ?_
        refine WL.skip rfl rfl rfl ?_
        refine WL.skip rfl rfl rfl ?_
        refine WL.skip rfl rfl rfl ?_
        refine WL.q (oq_pick_f rfl rfl) rfl rfl rfl ?_
        refine WL.q (oq_move rfl) rfl rfl rfl ?_
        refine WL.skip rfl rfl rfl ?_
        refine WL.q (oq_pick_f rfl rfl) rfl rfl rfl ?_
        refine WL.q (oq_assign rfl) rfl rfl rfl ?_
        refine WL.nil ?_
        refine WE.then_normal ?_
        refine WC.sub (fr' := [(2, _)]) ?_ ⟨rfl, trivial⟩
        refine WC.ret ?_
        refine WE.end0 (.inl rfl) (res1 Try.results6 rfl) ?_
        -- end 4
        simp [elab_true] at s5_5

end L3
end Go.Proofs.Ythhankjineidiaa
