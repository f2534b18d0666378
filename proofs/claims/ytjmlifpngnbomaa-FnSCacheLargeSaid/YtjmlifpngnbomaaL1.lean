/- The walk of the splitting of a text. -/
import Derived.Test.YtjmlifpngnbomaaL0
import Derived.Test.YtjmlifpngnbomaaV4
namespace Go.Proofs.Ytjmlifpngnbomaa
open Go Go.RowKit V L0
set_option linter.unusedSimpArgs false
set_option linter.unusedVariables false
set_option maxRecDepth 10000
namespace L1
theorem call18 : Callable Try.prog 18 := ⟨_, Try.func18, rfl, by kernel_rfl⟩
theorem ty9 : Ty Try.prog 9 (S []) 1 16 := ty_of (by kernel_rfl)

def zzsp (sep s : List UInt8) : List (List UInt8) := if sep = [] then runes s 0 else split sep s
theorem zzsp_len (s sep : List UInt8) : (zzsp sep s).length ≤ s.length + 1 := by
  unfold zzsp
  by_cases h : sep = []
  · rw [if_pos h]; have := runes_length s s.length 0 (by omega); omega
  · rw [if_neg h]; exact split_length sep h s.length s (Nat.le_refl _)
theorem own_eq {base e m : Nat} {v : Value} {A : Hp} {xs : List Value} {ls : List (List UInt8)} (h : OwS base e 1 v A m xs) (hx : xs = strsV ls) : OwS 0 e 1 v A ls.length (strsV ls) := by
  have hl := h.1
  subst hx
  simp only [strsV, List.length_map, Nat.mul_one] at hl
  subst hl
  exact h.mono (Nat.zero_le _)
theorem own_snoc {base e m : Nat} {v : Value} {A : Hp} {acc : List (List UInt8)} {x : List UInt8} (h : OwS base e 1 v A (m + 1) (strsV acc ++ [S x])) : OwS base e 1 v A (acc ++ [x]).length (strsV (acc ++ [x])) := by
  have hl := h.1
  have e1 : strsV acc ++ [S x] = strsV (acc ++ [x]) := by simp [strsV]
  rw [e1] at h hl
  simp only [strsV, List.length_map, Nat.mul_one] at hl
  rw [← hl] at h
  exact h
theorem cut_to (s : List UInt8) (i w : Nat) : cut s (i : Int) ((i + w : Nat) : Int) = (s.drop i).take w := by
  rw [show ((i + w : Nat) : Int) = (i : Int) + (w : Int) from by omega, cut_nat]
theorem cut_full (s : List UInt8) (i : Nat) : cut s (i : Int) (s.length : Int) = s.drop i := by
  unfold cut; rw [Int.toNat_natCast, Int.toNat_natCast, List.take_length]
/-- given.example/pub-tinwright/pub/smithy/endpoints/private/rulesfn.zzSplit -/
theorem zzSplit (s sep : List UInt8) (hs : s.length ≤ 4000000000) (hb : sep.length ≤ 4000000000) : FnA Try.prog 15 [S s, S sep] [] (fun v N => OwS 0 9 1 v N (zzsp sep s).length (strsV (zzsp sep s))) := by
  refine FnA.enter0 (n := 58) Try.func15 rfl rfl fun w0 => ?_
  refine WC.sub (fr' := [(0, _), (1, _)]) ?_ ⟨rfl, rfl, trivial⟩
  refine WC.seq ?_
  refine WC.region ?_
  refine WL.q (oq_assign rfl) rfl rfl rfl ?_
  refine WL.nil ?_
  refine WE.then_normal ?_
  refine WC.sub (fr' := [(0, _), (1, _)]) ?_ ⟨rfl, rfl, trivial⟩
  refine WC.seq ?_
  refine WC.region ?_
  refine WL.q (oq_assign rfl) rfl rfl rfl ?_
  refine WL.nil ?_
  refine WE.then_normal ?_
  refine WC.sub (fr' := [(0, _), (1, _), (5, _)]) ?_ ⟨rfl, rfl, rfl, trivial⟩
  refine WC.seq ?_
  refine WC.seq ?_
  refine WC.add0 ?_
  refine WC.region ?_
  refine WL.q (oq_move rfl) rfl rfl rfl ?_
  refine WL.q (oq_len_s Try.underlying9 rfl) rfl rfl rfl ?_
  refine WL.q (oq_eql rfl rfl) rfl rfl rfl ?_
  refine WL.nil ?_
  refine WE.then_normal ?_
  refine WC.sub (fr' := [(0, _), (1, _), (5, _), (11, _)]) ?_ ⟨rfl, rfl, rfl, rfl, trivial⟩
  refine WC.cond rfl (fun q2 => ?_) (fun q2 => ?_)
  ·
    try simp only [Bool.not_eq_eq_eq_not, Bool.not_true, Bool.not_false, decide_eq_true_eq, decide_eq_false_iff_not, Int.not_lt, Int.not_le, ne_eq, Decidable.not_not, ← List.length_eq_zero_iff] at q2
    refine WC.seq ?_
    refine WC.region ?_
    refine WL.q (oq_assign rfl) rfl rfl rfl ?_
    refine WL.nil ?_
    refine WE.then_normal ?_
    refine WC.sub (fr' := [(0, _), (5, _), (6, _)]) ?_ ⟨rfl, rfl, rfl, trivial⟩
    refine WC.seq ?_
    refine WC.seq ?_
    refine WC.region ?_
    refine WL.q (oq_move rfl) rfl rfl rfl ?_
    refine WL.range_s Try.underlying9 rfl rfl rfl fun b hb => ?_
    refine WL.nil ?_
    refine WE.then_normal ?_
    refine WC.sub (fr' := [(0, _), (5, _), (6, _), (13, _)]) ?_ ⟨rfl, rfl, rfl, rfl, trivial⟩
    refine WC.block ?_
    refine WC.loop (ι := Nat × Nat × Value × Hp × (List (List UInt8))) (fun i_ => (fun (i : Nat) (last : Nat) (v : Value) (A : Hp) (acc : List (List UInt8)) => [(0, S s), (5, v), (6, I last), (13, Pt b 0)]) i_.1 i_.2.1 i_.2.2.1 i_.2.2.2.1 i_.2.2.2.2) (fun i_ => (fun (i : Nat) (last : Nat) (v : Value) (A : Hp) (acc : List (List UInt8)) => [[(b, .stringIter ⟨⟨s⟩⟩ i)], A]) i_.1 i_.2.1 i_.2.2.1 i_.2.2.2.1 i_.2.2.2.2) (fun i_ => (fun (i : Nat) (last : Nat) (v : Value) (A : Hp) (acc : List (List UInt8)) => i ≤ s.length ∧ last ≤ i ∧ acc.length ≤ last ∧ OwS w0.heap.size 9 1 v A acc.length (strsV acc) ∧ (i = 0 → acc = [] ∧ last = 0) ∧ (0 < i → last < i ∧ acc ++ (cut s last i :: runes s i) = runes s 0)) i_.1 i_.2.1 i_.2.2.1 i_.2.2.2.1 i_.2.2.2.2) (fun i_ => (fun (i : Nat) (last : Nat) (v : Value) (A : Hp) (acc : List (List UInt8)) => s.length - i) i_.1 i_.2.1 i_.2.2.1 i_.2.2.2.1 i_.2.2.2.2) ((0, 0, _, _, [])) ?_ ⟨rfl, rfl, rfl, rfl, trivial⟩ (List.Perm.refl _) ?_
    · try dsimp only
      exact ⟨by omega, by omega, by simp, OwS.nil _ _ _, fun _ => ⟨rfl, rfl⟩, fun h => by omega⟩
    · rintro ⟨i, last, v, A, acc⟩ hp
      try dsimp only at hp
      obtain ⟨hi, hl, hc, ho, h0, h1⟩ := hp
      show WC _ _ _ _ _ _ ([(0, S s), (5, v), (6, I last), (13, Pt b 0)]) ([[(b, .stringIter ⟨⟨s⟩⟩ i)], A])
      refine WC.seq ?_
      refine WC.region ?_
      refine WL.next_s rfl rfl rfl (fun n5 => ?_) (fun n5 => ?_)
      ·
        refine WL.q (oq_extract rfl rfl) rfl rfl rfl ?_
        refine WL.nil ?_
        refine WE.then_normal ?_
        refine WC.sub (fr' := [(0, _), (5, _), (6, _), (13, _), (14, _), (15, _)]) ?_ ⟨rfl, rfl, rfl, rfl, rfl, rfl, trivial⟩
        refine WC.seq ?_
        refine WC.cond_t rfl ?_
        refine WC.skip ?_
        refine WE.then_normal ?_
        refine WC.sub (fr' := [(0, _), (5, _), (6, _), (13, _), (14, _)]) ?_ ⟨rfl, rfl, rfl, rfl, rfl, trivial⟩
        refine WC.block ?_
        refine WC.seq ?_
        refine WC.region ?_
        refine WL.q (oq_extract rfl rfl) rfl rfl rfl ?_
        refine WL.q (oq_assign rfl) rfl rfl rfl ?_
        refine WL.nil ?_
        refine WE.then_normal ?_
        refine WC.sub (fr' := [(0, _), (5, _), (6, _), (7, _), (13, _)]) ?_ ⟨rfl, rfl, rfl, rfl, rfl, trivial⟩
        refine WC.seq ?_
        refine WC.region ?_
        refine WL.q (oq_move rfl) rfl rfl rfl ?_
        refine WL.q (oq_gtr rfl rfl) rfl rfl rfl ?_
        refine WL.nil ?_
        refine WE.then_normal ?_
        refine WC.sub (fr' := [(0, _), (5, _), (6, _), (7, _), (13, _), (18, _)]) ?_ ⟨rfl, rfl, rfl, rfl, rfl, rfl, trivial⟩
        refine WC.cond rfl (fun q7 => ?_) (fun q7 => ?_)
        ·
          try simp only [Bool.not_eq_eq_eq_not, Bool.not_true, Bool.not_false, decide_eq_true_eq, decide_eq_false_iff_not, Int.not_lt, Int.not_le, ne_eq, Decidable.not_not, ← List.length_eq_zero_iff] at q7
          refine WC.seq ?_
          refine WC.region ?_
          refine WL.q (oq_move rfl) rfl rfl rfl ?_
          refine WL.q (oq_move rfl) rfl rfl rfl ?_
          refine WL.q (oq_move rfl) rfl rfl rfl ?_
          refine WL.q (oq_move rfl) rfl rfl rfl ?_
          refine WL.q (oq_slice_s2 Try.underlying9 rfl rfl rfl (by (first | omega | (simp only [List.length_cons, List.length_nil, List.length_append, List.length_drop, List.length_take]; omega)))) rfl rfl rfl ?_
          refine WL.f1 ?_
          refine WL.append1 ho Try.underlying26 ty9 rfl (by decide) (fun _ => rfl) rfl rfl (by unfold maxLen; omega) (by omega) rfl rfl (fun _ => rfl) rfl fun v8 A8 u8 ho8 hne8 => ?_
          refine WL.q (oq_assign rfl) rfl rfl rfl ?_
          refine WL.nil ?_
          refine WE.then_normal ?_
          refine WC.sub (fr' := [(0, _), (5, _), (7, _), (13, _)]) ?_ ⟨rfl, rfl, rfl, rfl, trivial⟩
          refine WC.region ?_
          refine WL.q (oq_move rfl) rfl rfl rfl ?_
          refine WL.q (oq_assign rfl) rfl rfl rfl ?_
          refine WL.nil ?_
          refine WE.block_normal ?_
          have hw := decAt_width s i n5
          refine WE.f1 ?_
          refine WE.again (i + (decAt s i).2, i, _, _, acc ++ [cut s last i]) ?_ ?_ ⟨rfl, rfl, rfl, rfl, trivial⟩ (List.Perm.refl _)
          · try dsimp only   -- again 0
            exact ⟨hw.2, by omega, by simp; omega, own_snoc ho8, fun h => by omega, fun _ => ⟨by omega, by rw [cut_to, ← runes_step s i n5, List.append_assoc]; exact (h1 (by omega)).2⟩⟩
          · (try dsimp only); omega
        ·
          try simp only [Bool.not_eq_eq_eq_not, Bool.not_true, Bool.not_false, decide_eq_true_eq, decide_eq_false_iff_not, Int.not_lt, Int.not_le, ne_eq, Decidable.not_not, ← List.length_eq_zero_iff] at q7
          refine WC.skip ?_
          refine WE.block_normal ?_
          have hw := decAt_width s i n5
          refine WE.again (i + (decAt s i).2, last, _, _, acc) ?_ ?_ ⟨rfl, rfl, rfl, rfl, trivial⟩ (List.Perm.refl _)
          · try dsimp only   -- again 1
            have hz : i = 0 := by omega
            subst hz
            obtain ⟨rfl, rfl⟩ := h0 rfl
            exact ⟨hw.2, by omega, hc, ho, fun h => by omega, fun _ => ⟨by omega, by rw [cut_to, ← runes_step s 0 n5]; rfl⟩⟩
          · (try dsimp only); omega
      ·
        refine WL.q (oq_extract rfl rfl) rfl rfl rfl ?_
        refine WL.nil ?_
        refine WE.then_normal ?_
        refine WC.sub (fr' := [(0, _), (5, _), (6, _), (13, _), (14, _), (15, _)]) ?_ ⟨rfl, rfl, rfl, rfl, rfl, rfl, trivial⟩
        refine WC.seq ?_
        refine WC.cond_f rfl ?_
        refine WC.exit ?_
        refine WE.then_exit ?_
        refine WE.then_exit ?_
        refine WE.block_same ?_
        refine WE.then_normal ?_
        refine WC.sub (fr' := [(0, _), (5, _), (6, _)]) ?_ ⟨rfl, rfl, rfl, trivial⟩
        refine WC.seq ?_
        refine WC.seq ?_
        refine WC.region ?_
        refine WL.q (oq_move rfl) rfl rfl rfl ?_
        refine WL.q (oq_len_s Try.underlying9 rfl) rfl rfl rfl ?_
        refine WL.q (oq_gtr rfl rfl) rfl rfl rfl ?_
        refine WL.nil ?_
        refine WE.then_normal ?_
        refine WC.sub (fr' := [(0, _), (5, _), (6, _), (29, _)]) ?_ ⟨rfl, rfl, rfl, rfl, trivial⟩
        refine WC.cond rfl (fun q10 => ?_) (fun q10 => ?_)
        ·
          try simp only [Bool.not_eq_eq_eq_not, Bool.not_true, Bool.not_false, decide_eq_true_eq, decide_eq_false_iff_not, Int.not_lt, Int.not_le, ne_eq, Decidable.not_not, ← List.length_eq_zero_iff] at q10
          refine WC.region ?_
          refine WL.q (oq_move rfl) rfl rfl rfl ?_
          refine WL.q (oq_move rfl) rfl rfl rfl ?_
          refine WL.q (oq_move rfl) rfl rfl rfl ?_
          refine WL.q (oq_slice_s1 Try.underlying9 rfl rfl (by (first | omega | (simp only [List.length_cons, List.length_nil, List.length_append, List.length_drop, List.length_take]; omega)))) rfl rfl rfl ?_
          refine WL.f1 ?_
          refine WL.append1 ho Try.underlying26 ty9 rfl (by decide) (fun _ => rfl) rfl rfl (by unfold maxLen; omega) (by omega) rfl rfl (fun _ => rfl) rfl fun v11 A11 u11 ho11 hne11 => ?_
          refine WL.q (oq_assign rfl) rfl rfl rfl ?_
          refine WL.nil ?_
          refine WE.then_normal ?_
          refine WC.sub (fr' := [(5, _)]) ?_ ⟨rfl, trivial⟩
          refine WC.seq ?_
          refine WC.region ?_
          refine WL.q (oq_move rfl) rfl rfl rfl ?_
          refine WL.q (oq_assign rfl) rfl rfl rfl ?_
          refine WL.nil ?_
          refine WE.then_normal ?_
          refine WC.sub (fr' := [(4, _)]) ?_ ⟨rfl, trivial⟩
          refine WC.ret ?_
          refine WE.then_ret ?_
          refine WE.f1 ?_
          refine WE.lose hb ?_
          refine WE.endA0 (.inl rfl) (res1 Try.results15 rfl) ?_ (ho11.fresh)
          -- end 0
          have hz : sep = [] := List.eq_nil_of_length_eq_zero (by omega)
          have e1 : i = s.length := by omega
          have e2 := (h1 (by omega)).2
          rw [runes_end s i n5, e1, cut_full] at e2
          exact own_eq ho11 (by rw [zzsp, if_pos hz, ← e2]; simp [strsV])
        ·
          try simp only [Bool.not_eq_eq_eq_not, Bool.not_true, Bool.not_false, decide_eq_true_eq, decide_eq_false_iff_not, Int.not_lt, Int.not_le, ne_eq, Decidable.not_not, ← List.length_eq_zero_iff] at q10
          refine WC.skip ?_
          refine WE.then_normal ?_
          refine WC.sub (fr' := [(5, _)]) ?_ ⟨rfl, trivial⟩
          refine WC.seq ?_
          refine WC.region ?_
          refine WL.q (oq_move rfl) rfl rfl rfl ?_
          refine WL.q (oq_assign rfl) rfl rfl rfl ?_
          refine WL.nil ?_
          refine WE.then_normal ?_
          refine WC.sub (fr' := [(4, _)]) ?_ ⟨rfl, trivial⟩
          refine WC.ret ?_
          refine WE.then_ret ?_
          refine WE.lose hb ?_
          refine WE.endA0 (.inl rfl) (res1 Try.results15 rfl) ?_ (ho.fresh)
          -- end 1
          have hz : sep = [] := List.eq_nil_of_length_eq_zero (by omega)
          have hz2 : s = [] := List.eq_nil_of_length_eq_zero (by omega)
          have e1 : i = 0 := by subst hz2; simp at hi; exact hi
          obtain ⟨rfl, _⟩ := h0 e1
          exact own_eq ho (by rw [zzsp, if_pos hz, hz2]; rfl)
  ·
    try simp only [Bool.not_eq_eq_eq_not, Bool.not_true, Bool.not_false, decide_eq_true_eq, decide_eq_false_iff_not, Int.not_lt, Int.not_le, ne_eq, Decidable.not_not, ← List.length_eq_zero_iff] at q2
    refine WC.skip ?_
    refine WE.then_normal ?_
    refine WC.sub (fr' := [(0, _), (1, _), (5, _)]) ?_ ⟨rfl, rfl, rfl, trivial⟩
    refine WC.block ?_
    refine WC.loop (ι := (List UInt8) × Value × Hp × (List (List UInt8))) (fun i_ => (fun (cur : List UInt8) (v : Value) (A : Hp) (acc : List (List UInt8)) => [(0, S cur), (1, S sep), (5, v)]) i_.1 i_.2.1 i_.2.2.1 i_.2.2.2) (fun i_ => (fun (cur : List UInt8) (v : Value) (A : Hp) (acc : List (List UInt8)) => [A]) i_.1 i_.2.1 i_.2.2.1 i_.2.2.2) (fun i_ => (fun (cur : List UInt8) (v : Value) (A : Hp) (acc : List (List UInt8)) => acc.length + cur.length ≤ s.length ∧ OwS w0.heap.size 9 1 v A acc.length (strsV acc) ∧ acc ++ split sep cur = split sep s) i_.1 i_.2.1 i_.2.2.1 i_.2.2.2) (fun i_ => (fun (cur : List UInt8) (v : Value) (A : Hp) (acc : List (List UInt8)) => cur.length) i_.1 i_.2.1 i_.2.2.1 i_.2.2.2) ((s, _, _, [])) ?_ ⟨rfl, rfl, rfl, trivial⟩ (List.Perm.refl _) ?_
    · try dsimp only
      exact ⟨by simp, OwS.nil _ _ _, rfl⟩
    · rintro ⟨cur, v, A, acc⟩ hp
      try dsimp only at hp
      obtain ⟨hc, ho, hf⟩ := hp
      show WC _ _ _ _ _ _ ([(0, S cur), (1, S sep), (5, v)]) ([A])
      refine WC.block ?_
      refine WC.seq ?_
      refine WC.region ?_
      refine WL.q (oq_move rfl) rfl rfl rfl ?_
      refine WL.q (oq_move rfl) rfl rfl rfl ?_
      refine WL.qc (oq_call (zzIndex _ _ (by omega) (by omega)) call18 rfl) rfl rfl rfl ?_
      refine WL.q (oq_assign rfl) rfl rfl rfl ?_
      refine WL.nil ?_
      refine WE.then_normal ?_
      refine WC.sub (fr' := [(0, _), (1, _), (5, _), (8, _)]) ?_ ⟨rfl, rfl, rfl, rfl, trivial⟩
      refine WC.seq ?_
      refine WC.seq ?_
      refine WC.region ?_
      refine WL.q (oq_move rfl) rfl rfl rfl ?_
      refine WL.q (oq_lss rfl rfl) rfl rfl rfl ?_
      refine WL.nil ?_
      refine WE.then_normal ?_
      refine WC.sub (fr' := [(0, _), (1, _), (5, _), (8, _), (41, _)]) ?_ ⟨rfl, rfl, rfl, rfl, rfl, trivial⟩
      refine WC.cond rfl (fun q14 => ?_) (fun q14 => ?_)
      ·
        try simp only [Bool.not_eq_eq_eq_not, Bool.not_true, Bool.not_false, decide_eq_true_eq, decide_eq_false_iff_not, Int.not_lt, Int.not_le, ne_eq, Decidable.not_not, ← List.length_eq_zero_iff] at q14
        refine WC.seq ?_
        refine WC.region ?_
        refine WL.q (oq_move rfl) rfl rfl rfl ?_
        refine WL.q (oq_move rfl) rfl rfl rfl ?_
        refine WL.append1 ho Try.underlying26 ty9 rfl (by decide) (fun _ => rfl) rfl rfl (by unfold maxLen; omega) (by omega) rfl rfl (fun _ => rfl) rfl fun v15 A15 u15 ho15 hne15 => ?_
        refine WL.q (oq_assign rfl) rfl rfl rfl ?_
        refine WL.nil ?_
        refine WE.then_normal ?_
        refine WC.sub (fr' := [(4, _)]) ?_ ⟨rfl, trivial⟩
        refine WC.ret ?_
        refine WE.then_ret ?_
        refine WE.block_ret ?_
        refine WE.then_ret ?_
        refine WE.block_ret ?_
        refine WE.endA0 (.inl rfl) (res1 Try.results15 rfl) ?_ (ho15.fresh)
        -- end 2
        have hsep : sep ≠ [] := by intro e; subst e; simp at q2
        exact own_eq ho15 (by rw [zzsp, if_neg hsep, ← hf, split_none sep cur (findI_neg sep cur q14)]; simp [strsV])
      ·
        try simp only [Bool.not_eq_eq_eq_not, Bool.not_true, Bool.not_false, decide_eq_true_eq, decide_eq_false_iff_not, Int.not_lt, Int.not_le, ne_eq, Decidable.not_not, ← List.length_eq_zero_iff] at q14
        refine WC.skip ?_
        refine WE.then_normal ?_
        refine WC.sub (fr' := [(0, _), (1, _), (5, _), (8, _)]) ?_ ⟨rfl, rfl, rfl, rfl, trivial⟩
        refine WC.seq ?_
        have hp := (findI_pos sep cur q14).2
        have hsep1 : 0 < sep.length := by omega
        refine WC.region ?_
        refine WL.q (oq_move rfl) rfl rfl rfl ?_
        refine WL.q (oq_move rfl) rfl rfl rfl ?_
        refine WL.q (oq_move rfl) rfl rfl rfl ?_
        refine WL.q (oq_slice_s0 Try.underlying9 rfl rfl (by (first | omega | (simp only [List.length_cons, List.length_nil, List.length_append, List.length_drop, List.length_take]; omega)))) rfl rfl rfl ?_
        refine WL.append1 ho Try.underlying26 ty9 rfl (by decide) (fun _ => rfl) rfl rfl (by unfold maxLen; omega) (by omega) rfl rfl (fun _ => rfl) rfl fun v16 A16 u16 ho16 hne16 => ?_
        refine WL.q (oq_assign rfl) rfl rfl rfl ?_
        refine WL.nil ?_
        refine WE.then_normal ?_
        refine WC.sub (fr' := [(0, _), (1, _), (5, _), (8, _)]) ?_ ⟨rfl, rfl, rfl, rfl, trivial⟩
        refine WC.region ?_
        refine WL.q (oq_move rfl) rfl rfl rfl ?_
        refine WL.q (oq_move rfl) rfl rfl rfl ?_
        refine WL.q (oq_move rfl) rfl rfl rfl ?_
        refine WL.q (oq_len_s Try.underlying9 rfl) rfl rfl rfl ?_
        refine WL.q (oq_add rfl rfl (by rw [i64_lo, i64_hi]; (first | omega | (simp only [List.length_cons, List.length_nil, List.length_append, List.length_drop, List.length_take]; omega)))) rfl rfl rfl ?_
        refine WL.q (oq_slice_s1 Try.underlying9 rfl rfl (by (first | omega | (simp only [List.length_cons, List.length_nil, List.length_append, List.length_drop, List.length_take]; omega)))) rfl rfl rfl ?_
        refine WL.q (oq_assign rfl) rfl rfl rfl ?_
        refine WL.nil ?_
        refine WE.block_normal ?_
        have hp2 := findI_pos sep cur q14
        have hsep : sep ≠ [] := by intro e; subst e; simp at q2
        refine WE.again (_, _, _, acc ++ [cur.take (findI sep cur).toNat]) ?_ ?_ ⟨rfl, rfl, rfl, trivial⟩ (List.Perm.refl _)
        · try dsimp only   -- again 0
          refine ⟨by simp; omega, own_snoc ho16, ?_⟩
          rw [show (findI sep cur + (sep.length : Int)).toNat = (findI sep cur).toNat + sep.length from by omega, List.append_assoc]
          rw [← hf, split_some sep cur hsep _ hp2.1]; rfl
        · (try dsimp only); simp; omega

end L1
end Go.Proofs.Ytjmlifpngnbomaa
