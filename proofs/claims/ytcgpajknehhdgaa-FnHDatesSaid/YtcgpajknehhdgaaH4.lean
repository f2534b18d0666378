/- Walks of the cutting of a text at each second comma. -/
import Derived.Test.YtcgpajknehhdgaaP4
import Derived.Test.YtcgpajknehhdgaaVE
import Derived.Test.YtcgpajknehhdgaaH0
import Derived.Test.YtcgpajknehhdgaaL2
namespace Go.Proofs.Ytcgpajknehhdgaa
open Go Go.RowKit V L2 L1 H0 H1 H2 H3
set_option linter.unusedSimpArgs false
set_option linter.unusedVariables false
set_option maxRecDepth 10000
namespace H4
theorem call17 : Callable Try.prog 17 := ⟨_, Try.func17, rfl, by kernel_rfl⟩
theorem call18 : Callable Try.prog 18 := ⟨_, Try.func18, rfl, by kernel_rfl⟩
theorem call29 : Callable Try.prog 29 := ⟨_, Try.func29, rfl, by kernel_rfl⟩
theorem call30 : Callable Try.prog 30 := ⟨_, Try.func30, rfl, by kernel_rfl⟩
theorem call31 : Callable Try.prog 31 := ⟨_, Try.func31, rfl, by kernel_rfl⟩
theorem flat9 : Flat Try.prog 9 := ⟨_, Try.underlying9, by simp⟩
theorem ty9 : Ty Try.prog 9 (S []) 1 16 := ty_of (by kernel_rfl)
theorem ty73 : Ty Try.prog 73 (.agg #[(S [])]) 1 16 := ty_of (by kernel_rfl)
theorem conc71 : Conc Try.prog 71 := ⟨_, Try.underlying71, by simp⟩
theorem str73 : Str Try.prog 73 #[(0, 1)] := ⟨_, Try.underlying73, fun w => by kernel_rfl⟩

theorem nilI_of {o : Option (List (List UInt8))} {e : Value} (h1 : o.isSome = true → e = .nilIface) (h2 : o.isSome = false → ∃ k x, e = .iface k x) : (e = .nilIface ∨ ∃ k u, e = .iface k u) ∧ nilI e = o.isSome := by
  cases hd : o.isSome with
  | true => rw [h1 hd]; exact ⟨.inl rfl, rfl⟩
  | false => obtain ⟨k, x, rfl⟩ := h2 hd; exact ⟨.inr ⟨k, x, rfl⟩, rfl⟩
/-- errors.New -/
theorem errNew (s : List UInt8) : FnA Try.prog 30 [S s] [] (fun v N => ∃ k x, v = .iface k x) := by
  refine FnA.enter0 (n := 7) Try.func30 rfl rfl fun w0 => ?_
  refine WC.sub (fr' := [(0, _)]) ?_ ⟨rfl, trivial⟩
  refine WC.seq ?_
  refine WC.region ?_
  refine WL.q (oq_assign rfl) rfl rfl rfl ?_
  refine WL.nil ?_
  refine WE.then_normal ?_
  refine WC.sub (fr' := [(0, _)]) ?_ ⟨rfl, trivial⟩
  refine WC.seq ?_
  refine WC.region ?_
  refine WL.q (oq_move rfl) rfl rfl rfl ?_
  refine WL.q (oq_build #[_] str73 ty73 rfl rfl) rfl rfl rfl ?_
  refine WL.box rfl rfl rfl fun b1_2 hb1_2 => ?_
  refine WL.q (oq_makeI conc71 rfl) rfl rfl rfl ?_
  refine WL.q (oq_assign rfl) rfl rfl rfl ?_
  refine WL.nil ?_
  refine WE.then_normal ?_
  refine WC.sub (fr' := [(2, _)]) ?_ ⟨rfl, trivial⟩
  refine WC.ret ?_
  refine WE.lose hb1_2 ?_
  refine WE.add0 ?_
  refine WE.endA0 (.inl rfl) (res1 Try.results30 rfl) ?_ fresh0
  -- end 0
  exact ⟨_, _, rfl⟩

/-- given.example/pub-tinwright/pub/smithy/transport/http.splitHTTPDateHeaderValue -/
theorem splitDate (s : List UInt8) (hs : s.length ≤ 4000000000) (ha : Asc s) : FnA Try.prog 26 [S s] [] (DRes (dates s)) := by
  refine FnA.enter0 (n := 52) Try.func26 rfl rfl fun w0 => ?_
  refine WC.sub (fr' := [(0, _)]) ?_ ⟨rfl, trivial⟩
  refine WC.seq ?_
  refine WC.region ?_
  refine WL.q (oq_assign rfl) rfl rfl rfl ?_
  refine WL.q (oq_assign rfl) rfl rfl rfl ?_
  refine WL.nil ?_
  refine WE.then_normal ?_
  refine WC.sub (fr' := [(0, _)]) ?_ ⟨rfl, trivial⟩
  refine WC.seq ?_
  refine WC.seq ?_
  refine WC.region ?_
  refine WL.q (oq_move rfl) rfl rfl rfl ?_
  refine WL.qc (oq_call (zzCount s (by omega)) call29 rfl) rfl rfl rfl ?_
  refine WL.q (oq_assign rfl) rfl rfl rfl ?_
  refine WL.nil ?_
  refine WE.then_normal ?_
  refine WC.sub (fr' := [(0, _), (4, _)]) ?_ ⟨rfl, rfl, trivial⟩
  refine WC.seq ?_
  refine WC.region ?_
  refine WL.q (oq_move rfl) rfl rfl rfl ?_
  refine WL.q (oq_leq rfl rfl) rfl rfl rfl ?_
  refine WL.nil ?_
  refine WE.then_normal ?_
  refine WC.sub (fr' := [(0, _), (4, _), (12, _)]) ?_ ⟨rfl, rfl, rfl, trivial⟩
  refine WC.cond rfl (fun q2 => ?_) (fun q2 => ?_)
  ·
    try simp only [Bool.not_eq_eq_eq_not, Bool.not_true, Bool.not_false, decide_eq_true_eq, decide_eq_false_iff_not, Int.not_lt, Int.not_le, ne_eq, Decidable.not_not, ← List.length_eq_zero_iff] at q2
    refine WC.seq ?_
    refine WC.region ?_
    refine WL.q (oq_move rfl) rfl rfl rfl ?_
    refine WL.buildL Try.underlying22 ty9 rfl rfl (by decide) (by decide) rfl rfl rfl fun v3 A3 ho3 hne3 => ?_
    refine WL.q (oq_assign rfl) rfl rfl rfl ?_
    refine WL.q (oq_assign rfl) rfl rfl rfl ?_
    refine WL.nil ?_
    refine WE.then_normal ?_
    refine WC.sub (fr' := [(2, _), (3, _)]) ?_ ⟨rfl, rfl, trivial⟩
    refine WC.ret ?_
    refine WE.then_ret ?_
    refine WE.endA0 (.inl rfl) (res2 Try.results26 rfl rfl) ?_ (ho3.fresh)
    -- end 0
    exact ⟨_, _, rfl, fun _ => ⟨rfl, own_eq ho3 (by unfold dates; rw [if_pos (by omega)]; rfl)⟩, fun h => by unfold dates at h; rw [if_pos (by omega)] at h; cases h⟩
  ·
    try simp only [Bool.not_eq_eq_eq_not, Bool.not_true, Bool.not_false, decide_eq_true_eq, decide_eq_false_iff_not, Int.not_lt, Int.not_le, ne_eq, Decidable.not_not, ← List.length_eq_zero_iff] at q2
    refine WC.seq ?_
    refine WC.region ?_
    refine WL.q (oq_move rfl) rfl rfl rfl ?_
    refine WL.q (oq_rem rfl rfl (by omega)) rfl rfl rfl ?_
    refine WL.q (oq_eql rfl rfl) rfl rfl rfl ?_
    refine WL.nil ?_
    refine WE.then_normal ?_
    refine WC.sub (fr' := [(0, _), (17, _)]) ?_ ⟨rfl, rfl, trivial⟩
    refine WC.cond rfl (fun q4 => ?_) (fun q4 => ?_)
    ·
      try simp only [Bool.not_eq_eq_eq_not, Bool.not_true, Bool.not_false, decide_eq_true_eq, decide_eq_false_iff_not, Int.not_lt, Int.not_le, ne_eq, Decidable.not_not, ← List.length_eq_zero_iff] at q4
      refine WC.seq ?_
      refine WC.region ?_
      refine WL.callA0 (errNew _) call30 rfl rfl rfl fun v5_0 N5_0 hR5_0 hN5_0 => ?_
      obtain ⟨ek, ex, rfl⟩ := hR5_0
      refine WL.q (oq_assign rfl) rfl rfl rfl ?_
      refine WL.q (oq_assign rfl) rfl rfl rfl ?_
      refine WL.nil ?_
      refine WE.then_normal ?_
      refine WC.sub (fr' := [(2, _), (3, _)]) ?_ ⟨rfl, rfl, trivial⟩
      refine WC.ret ?_
      refine WE.then_ret ?_
      refine WE.forget hN5_0 ?_
      refine WE.add0 ?_
      refine WE.endA0 (.inl rfl) (res2 Try.results26 rfl rfl) ?_ fresh0
      -- end 1
      exact ⟨_, _, rfl, fun h => by (unfold dates at h; rw [if_neg (by omega), if_pos (by omega)] at h; cases h), fun _ => ⟨_, _, rfl⟩⟩
    ·
      try simp only [Bool.not_eq_eq_eq_not, Bool.not_true, Bool.not_false, decide_eq_true_eq, decide_eq_false_iff_not, Int.not_lt, Int.not_le, ne_eq, Decidable.not_not, ← List.length_eq_zero_iff] at q4
      refine WC.skip ?_
      refine WE.then_normal ?_
      refine WC.sub (fr' := [(0, _)]) ?_ ⟨rfl, trivial⟩
      refine WC.seq ?_
      refine WC.add0 ?_
      refine WC.region ?_
      refine WL.q (oq_assign rfl) rfl rfl rfl ?_
      refine WL.nil ?_
      refine WE.then_normal ?_
      refine WC.sub (fr' := [(0, _), (5, _)]) ?_ ⟨rfl, rfl, trivial⟩
      refine WC.seq ?_
      refine WC.region ?_
      refine WL.q (oq_assign rfl) rfl rfl rfl ?_
      refine WL.q (oq_assign rfl) rfl rfl rfl ?_
      refine WL.nil ?_
      refine WE.then_normal ?_
      refine WC.sub (fr' := [(0, _), (5, _), (6, _), (7, _)]) ?_ ⟨rfl, rfl, rfl, rfl, trivial⟩
      refine WC.seq ?_
      refine WC.region ?_
      refine WL.q (oq_assign rfl) rfl rfl rfl ?_
      refine WL.nil ?_
      refine WE.then_normal ?_
      refine WC.sub (fr' := [(0, _), (5, _), (6, _), (7, _), (8, _)]) ?_ ⟨rfl, rfl, rfl, rfl, rfl, trivial⟩
      refine WC.seq ?_
      refine WC.block ?_
      refine WC.loop (ι := Nat × Nat × Bool × Value × Hp × (List (List UInt8))) (fun i_ => (fun (i : Nat) (j : Nat) (d : Bool) (v : Value) (A : Hp) (acc : List (List UInt8)) => [(0, S s), (5, v), (6, I (i : Int)), (7, I (j : Int)), (8, .bool d)]) i_.1 i_.2.1 i_.2.2.1 i_.2.2.2.1 i_.2.2.2.2.1 i_.2.2.2.2.2) (fun i_ => (fun (i : Nat) (j : Nat) (d : Bool) (v : Value) (A : Hp) (acc : List (List UInt8)) => [A]) i_.1 i_.2.1 i_.2.2.1 i_.2.2.2.1 i_.2.2.2.2.1 i_.2.2.2.2.2) (fun i_ => (fun (i : Nat) (j : Nat) (d : Bool) (v : Value) (A : Hp) (acc : List (List UInt8)) => j ≤ i ∧ i ≤ s.length ∧ acc.length ≤ j ∧ cm ((s.take i).drop j) = d.toNat ∧ cm (s.take j) % 2 = 0 ∧ OwS w0.heap.size 9 1 v A acc.length (strsV acc) ∧ acc ++ pairs (split [44] (s.drop j)) = pairs (split [44] s)) i_.1 i_.2.1 i_.2.2.1 i_.2.2.2.1 i_.2.2.2.2.1 i_.2.2.2.2.2) (fun i_ => (fun (i : Nat) (j : Nat) (d : Bool) (v : Value) (A : Hp) (acc : List (List UInt8)) => s.length - i) i_.1 i_.2.1 i_.2.2.1 i_.2.2.2.1 i_.2.2.2.2.1 i_.2.2.2.2.2) ((0, 0, false, _, _, [])) ?_ ⟨rfl, rfl, rfl, rfl, rfl, trivial⟩ (List.Perm.refl _) ?_
      · try dsimp only
        exact ⟨by omega, by omega, by simp, by rfl, by rfl, OwS.nil _ _ _, by simp⟩
      · rintro ⟨i, j, d, v, A, acc⟩ hp
        try dsimp only at hp
        obtain ⟨hji, hi, hc, hcm, hev, ho, ht⟩ := hp
        show WC _ _ _ _ _ _ ([(0, S s), (5, v), (6, I (i : Int)), (7, I (j : Int)), (8, .bool d)]) ([A])
        refine WC.seq ?_
        refine WC.seq ?_
        refine WC.region ?_
        refine WL.q (oq_move rfl) rfl rfl rfl ?_
        refine WL.q (oq_move rfl) rfl rfl rfl ?_
        refine WL.q (oq_len_s Try.underlying9 rfl) rfl rfl rfl ?_
        refine WL.q (oq_lss rfl rfl) rfl rfl rfl ?_
        refine WL.nil ?_
        refine WE.then_normal ?_
        refine WC.sub (fr' := [(0, _), (5, _), (6, _), (7, _), (8, _), (22, _)]) ?_ ⟨rfl, rfl, rfl, rfl, rfl, rfl, trivial⟩
        refine WC.cond rfl (fun q9 => ?_) (fun q9 => ?_)
        ·
          try simp only [Bool.not_eq_eq_eq_not, Bool.not_true, Bool.not_false, decide_eq_true_eq, decide_eq_false_iff_not, Int.not_lt, Int.not_le, ne_eq, Decidable.not_not, ← List.length_eq_zero_iff] at q9
          refine WC.skip ?_
          refine WE.then_normal ?_
          refine WC.sub (fr' := [(0, _), (5, _), (6, _), (7, _), (8, _)]) ?_ ⟨rfl, rfl, rfl, rfl, rfl, trivial⟩
          refine WC.seq ?_
          refine WC.block ?_
          refine WC.seq ?_
          refine WC.region ?_
          refine WL.q (oq_move rfl) rfl rfl rfl ?_
          refine WL.q (oq_move rfl) rfl rfl rfl ?_
          refine WL.index_s Try.underlying9 rfl rfl (by (first | omega | (simp only [List.length_cons, List.length_nil, List.length_append, List.length_drop, List.length_take]; omega))) rfl rfl fun c11_2 hc11_2 hc11_2l hc11_2u => ?_
          refine WL.q (oq_eql rfl rfl) rfl rfl rfl ?_
          refine WL.nil ?_
          refine WE.then_normal ?_
          refine WC.sub (fr' := [(0, _), (5, _), (6, _), (7, _), (8, _), (28, _)]) ?_ ⟨rfl, rfl, rfl, rfl, rfl, rfl, trivial⟩
          refine WC.cond rfl (fun q11 => ?_) (fun q11 => ?_)
          ·
            try simp only [Bool.not_eq_eq_eq_not, Bool.not_true, Bool.not_false, decide_eq_true_eq, decide_eq_false_iff_not, Int.not_lt, Int.not_le, ne_eq, Decidable.not_not, ← List.length_eq_zero_iff] at q11
            refine WC.seq ?_
            refine WC.region ?_
            refine WL.q (oq_move rfl) rfl rfl rfl ?_
            refine WL.nil ?_
            refine WE.then_normal ?_
            refine WC.sub (fr' := [(0, _), (5, _), (6, _), (7, _), (29, _)]) ?_ ⟨rfl, rfl, rfl, rfl, rfl, trivial⟩
            refine WC.cond rfl (fun q12 => ?_) (fun q12 => ?_)
            ·
              try simp only [Bool.not_eq_eq_eq_not, Bool.not_true, Bool.not_false, decide_eq_true_eq, decide_eq_false_iff_not, Int.not_lt, Int.not_le, ne_eq, Decidable.not_not, ← List.length_eq_zero_iff] at q12
              refine WC.seq ?_
              refine WC.region ?_
              refine WL.q (oq_assign rfl) rfl rfl rfl ?_
              refine WL.nil ?_
              refine WE.then_normal ?_
              refine WC.sub (fr' := [(0, _), (5, _), (6, _), (7, _), (8, _)]) ?_ ⟨rfl, rfl, rfl, rfl, rfl, trivial⟩
              refine WC.seq ?_
              refine WC.region ?_
              refine WL.q (oq_move rfl) rfl rfl rfl ?_
              refine WL.q (oq_move rfl) rfl rfl rfl ?_
              refine WL.q (oq_move rfl) rfl rfl rfl ?_
              refine WL.q (oq_move rfl) rfl rfl rfl ?_
              refine WL.q (oq_slice_s2 Try.underlying9 rfl rfl rfl (by (first | omega | (simp only [List.length_cons, List.length_nil, List.length_append, List.length_drop, List.length_take]; omega)))) rfl rfl rfl ?_
              refine WL.qc (oq_call (trimSpace _ (by first | (have := cut_le s (j : Int) (i : Int); omega) | (simp; omega)) (by first | (rw [cut_part]; exact asc_sub ha j i) | (rw [Int.toNat_natCast]; have := asc_sub ha j s.length; rwa [List.take_length] at this))) call31 rfl) rfl rfl rfl ?_
              refine WL.append1 ho Try.underlying22 ty9 rfl (by decide) (fun _ => rfl) rfl rfl (by unfold maxLen; omega) (by omega) rfl rfl (fun _ => rfl) rfl fun v14 A14 u14 ho14 hne14 => ?_
              refine WL.q (oq_assign rfl) rfl rfl rfl ?_
              refine WL.nil ?_
              refine WE.then_normal ?_
              refine WC.sub (fr' := [(0, _), (5, _), (6, _), (8, _)]) ?_ ⟨rfl, rfl, rfl, rfl, trivial⟩
              refine WC.region ?_
              refine WL.q (oq_move rfl) rfl rfl rfl ?_
              refine WL.q (oq_add rfl rfl (by rw [i64_lo, i64_hi]; (first | omega | (simp only [List.length_cons, List.length_nil, List.length_append, List.length_drop, List.length_take]; omega)))) rfl rfl rfl ?_
              refine WL.q (oq_assign rfl) rfl rfl rfl ?_
              refine WL.nil ?_
              refine WE.block_normal ?_
              refine WE.then_normal ?_
              refine WC.sub (fr' := [(0, _), (5, _), (6, _), (7, _), (8, _)]) ?_ ⟨rfl, rfl, rfl, rfl, rfl, trivial⟩
              refine WC.region ?_
              refine WL.q (oq_move rfl) rfl rfl rfl ?_
              refine WL.q (oq_add rfl rfl (by rw [i64_lo, i64_hi]; (first | omega | (simp only [List.length_cons, List.length_nil, List.length_append, List.length_drop, List.length_take]; omega)))) rfl rfl rfl ?_
              refine WL.q (oq_assign rfl) rfl rfl rfl ?_
              refine WL.nil ?_
              have hlt : i < s.length := by omega
              have hp := cm_part s j i hji hlt
              have hb := byteAt_get s i hlt
              rw [← hc11_2] at hb
              refine WE.again (i + 1, i + 1, false, _, _, acc ++ [trim ((s.take i).drop j)]) ?_ ?_ ⟨rfl, rfl, rfl, rfl, rfl, trivial⟩ (List.Perm.refl _)
              · try dsimp only   -- again 0
                have h44 : s[i] = 44 := UInt8.toNat_inj.1 (by show s[i].toNat = 44; omega)
                subst q12
                rw [if_pos h44, hcm] at hp
                refine ⟨by omega, by omega, by simp; omega, by rw [List.drop_eq_nil_of_le (by simp; omega)]; rfl, by rw [cm_take s j (i + 1) (by omega), hp]; simp; omega, own_snoc (by rw [← cut_part]; exact ho14), ?_⟩
                rw [← ht, drop_comma s j i hji hlt h44, pairs_one _ _ (by rw [hcm]; rfl), List.append_assoc]; rfl
              · (try dsimp only); omega
            ·
              try simp only [Bool.not_eq_eq_eq_not, Bool.not_true, Bool.not_false, decide_eq_true_eq, decide_eq_false_iff_not, Int.not_lt, Int.not_le, ne_eq, Decidable.not_not, ← List.length_eq_zero_iff] at q12
              refine WC.region ?_
              refine WL.q (oq_assign rfl) rfl rfl rfl ?_
              refine WL.nil ?_
              refine WE.block_normal ?_
              refine WE.then_normal ?_
              refine WC.sub (fr' := [(0, _), (5, _), (6, _), (7, _), (8, _)]) ?_ ⟨rfl, rfl, rfl, rfl, rfl, trivial⟩
              refine WC.region ?_
              refine WL.q (oq_move rfl) rfl rfl rfl ?_
              refine WL.q (oq_add rfl rfl (by rw [i64_lo, i64_hi]; (first | omega | (simp only [List.length_cons, List.length_nil, List.length_append, List.length_drop, List.length_take]; omega)))) rfl rfl rfl ?_
              refine WL.q (oq_assign rfl) rfl rfl rfl ?_
              refine WL.nil ?_
              have hlt : i < s.length := by omega
              have hp := cm_part s j i hji hlt
              have hb := byteAt_get s i hlt
              rw [← hc11_2] at hb
              refine WE.again (i + 1, j, true, _, _, acc) ?_ ?_ ⟨rfl, rfl, rfl, rfl, rfl, trivial⟩ (List.Perm.refl _)
              · try dsimp only   -- again 1
                have h44 : s[i] = 44 := UInt8.toNat_inj.1 (by show s[i].toNat = 44; omega)
                subst q12
                rw [if_pos h44, hcm] at hp
                exact ⟨by omega, by omega, hc, hp, hev, ho, ht⟩
              · (try dsimp only); omega
          ·
            try simp only [Bool.not_eq_eq_eq_not, Bool.not_true, Bool.not_false, decide_eq_true_eq, decide_eq_false_iff_not, Int.not_lt, Int.not_le, ne_eq, Decidable.not_not, ← List.length_eq_zero_iff] at q11
            refine WC.skip ?_
            refine WE.block_normal ?_
            refine WE.then_normal ?_
            refine WC.sub (fr' := [(0, _), (5, _), (6, _), (7, _), (8, _)]) ?_ ⟨rfl, rfl, rfl, rfl, rfl, trivial⟩
            refine WC.region ?_
            refine WL.q (oq_move rfl) rfl rfl rfl ?_
            refine WL.q (oq_add rfl rfl (by rw [i64_lo, i64_hi]; (first | omega | (simp only [List.length_cons, List.length_nil, List.length_append, List.length_drop, List.length_take]; omega)))) rfl rfl rfl ?_
            refine WL.q (oq_assign rfl) rfl rfl rfl ?_
            refine WL.nil ?_
            have hlt : i < s.length := by omega
            have hp := cm_part s j i hji hlt
            have hb := byteAt_get s i hlt
            rw [← hc11_2] at hb
            refine WE.again (i + 1, j, d, _, _, acc) ?_ ?_ ⟨rfl, rfl, rfl, rfl, rfl, trivial⟩ (List.Perm.refl _)
            · try dsimp only   -- again 2
              rw [if_neg (by intro h; rw [h] at hb; exact q11 (by rw [hb]; rfl)), hcm] at hp
              exact ⟨by omega, by omega, hc, hp, hev, ho, ht⟩
            · (try dsimp only); omega
        ·
          try simp only [Bool.not_eq_eq_eq_not, Bool.not_true, Bool.not_false, decide_eq_true_eq, decide_eq_false_iff_not, Int.not_lt, Int.not_le, ne_eq, Decidable.not_not, ← List.length_eq_zero_iff] at q9
          refine WC.exit ?_
          refine WE.then_exit ?_
          refine WE.then_exit ?_
          refine WE.block_same ?_
          refine WE.then_normal ?_
          refine WC.sub (fr' := [(0, _), (5, _), (7, _)]) ?_ ⟨rfl, rfl, rfl, trivial⟩
          refine WC.cut (ι := Value × Hp × (List (List UInt8))) (fun i_ => (fun (v : Value) (A : Hp) (acc : List (List UInt8)) => [(5, v)]) i_.1 i_.2.1 i_.2.2) (fun i_ => (fun (v : Value) (A : Hp) (acc : List (List UInt8)) => [A]) i_.1 i_.2.1 i_.2.2) (fun i_ => (fun (v : Value) (A : Hp) (acc : List (List UInt8)) => OwS w0.heap.size 9 1 v A acc.length (strsV acc) ∧ acc = pairs (split [44] s)) i_.1 i_.2.1 i_.2.2) ?_ ?_
          ·
            refine WC.seq ?_
            refine WC.region ?_
            refine WL.q (oq_move rfl) rfl rfl rfl ?_
            refine WL.q (oq_move rfl) rfl rfl rfl ?_
            refine WL.q (oq_len_s Try.underlying9 rfl) rfl rfl rfl ?_
            refine WL.q (oq_lss rfl rfl) rfl rfl rfl ?_
            refine WL.nil ?_
            refine WE.then_normal ?_
            refine WC.sub (fr' := [(0, _), (5, _), (7, _), (43, _)]) ?_ ⟨rfl, rfl, rfl, rfl, trivial⟩
            refine WC.cond rfl (fun q17 => ?_) (fun q17 => ?_)
            ·
              try simp only [Bool.not_eq_eq_eq_not, Bool.not_true, Bool.not_false, decide_eq_true_eq, decide_eq_false_iff_not, Int.not_lt, Int.not_le, ne_eq, Decidable.not_not, ← List.length_eq_zero_iff] at q17
              refine WC.region ?_
              refine WL.q (oq_move rfl) rfl rfl rfl ?_
              refine WL.q (oq_move rfl) rfl rfl rfl ?_
              refine WL.q (oq_move rfl) rfl rfl rfl ?_
              refine WL.q (oq_slice_s1 Try.underlying9 rfl rfl (by (first | omega | (simp only [List.length_cons, List.length_nil, List.length_append, List.length_drop, List.length_take]; omega)))) rfl rfl rfl ?_
              refine WL.qc (oq_call (trimSpace _ (by first | (have := cut_le s (j : Int) (i : Int); omega) | (simp; omega)) (by first | (rw [cut_part]; exact asc_sub ha j i) | (rw [Int.toNat_natCast]; have := asc_sub ha j s.length; rwa [List.take_length] at this))) call31 rfl) rfl rfl rfl ?_
              refine WL.append1 ho Try.underlying22 ty9 rfl (by decide) (fun _ => rfl) rfl rfl (by unfold maxLen; omega) (by omega) rfl rfl (fun _ => rfl) rfl fun v18 A18 u18 ho18 hne18 => ?_
              refine WL.q (oq_assign rfl) rfl rfl rfl ?_
              refine WL.nil ?_
              have hil : i = s.length := by omega
              subst hil
              have hcr := cm_rest s j
              rw [List.take_length] at hcm
              have hd : cm (s.drop j) = 1 := by cases d <;> simp at hcm <;> omega
              refine WE.meet (_, _, acc ++ [trim (s.drop j)]) ?_ ⟨rfl, trivial⟩ (List.Perm.refl _)
              try dsimp only
              exact ⟨own_snoc (by rw [Int.toNat_natCast] at ho18; exact ho18), by rw [← ht, pairs_last _ hd]⟩   -- meet 0
            ·
              try simp only [Bool.not_eq_eq_eq_not, Bool.not_true, Bool.not_false, decide_eq_true_eq, decide_eq_false_iff_not, Int.not_lt, Int.not_le, ne_eq, Decidable.not_not, ← List.length_eq_zero_iff] at q17
              refine WC.skip ?_
              have hcr := cm_rest s j
              rw [List.drop_eq_nil_of_le (by omega : s.length ≤ j)] at hcr
              have hc0 : cm ([] : List UInt8) = 0 := rfl
              refine WE.meet (_, _, acc) ?_ ⟨rfl, trivial⟩ (List.Perm.refl _)
              try dsimp only
              exfalso; omega   -- meet 1
          · rintro ⟨v, A, acc⟩ hp
            try dsimp only at hp
            obtain ⟨ho, ht⟩ := hp
            show WC _ _ _ _ _ _ ([(5, v)]) ([A])
            refine WC.seq ?_
            refine WC.region ?_
            refine WL.q (oq_move rfl) rfl rfl rfl ?_
            refine WL.q (oq_assign rfl) rfl rfl rfl ?_
            refine WL.q (oq_assign rfl) rfl rfl rfl ?_
            refine WL.nil ?_
            refine WE.then_normal ?_
            refine WC.sub (fr' := [(2, _), (3, _)]) ?_ ⟨rfl, rfl, trivial⟩
            refine WC.ret ?_
            refine WE.endA0 (.inl rfl) (res2 Try.results26 rfl rfl) ?_ (ho.fresh)
            -- end 2
            exact ⟨_, _, rfl, fun _ => ⟨rfl, own_eq ho (by unfold dates; rw [if_neg (by omega), if_neg (by omega), ht]; rfl)⟩, fun h => by unfold dates at h; rw [if_neg (by omega), if_neg (by omega)] at h; cases h⟩

/-- given.example/pub-tinwright/spec.HDates -/
theorem hDates (s : List UInt8) (hs : s.length ≤ 1000000000) : FnA Try.prog 8 [S s] [] (BRes (dates s)) := by
  obtain ⟨l, hl⟩ : ∃ l, split [44] s = l := ⟨_, rfl⟩
  have hlen : l.length = cm s + 1 := by rw [← hl, split_cm _ s rfl]
  have hel : ∀ k, (l.getD k []).length ≤ s.length := fun k => by rw [← hl]; exact split_elD s k
  have hll : l.length ≤ s.length + 1 := by rw [← hl]; exact split_length [44] (by simp) s.length s (Nat.le_refl _)
  refine FnA.enter0 (n := 40) Try.func8 rfl rfl fun w0 => ?_
  refine WC.sub (fr' := [(0, _)]) ?_ ⟨rfl, trivial⟩
  refine WC.seq ?_
  refine WC.region ?_
  refine WL.q (oq_assign rfl) rfl rfl rfl ?_
  refine WL.q (oq_assign rfl) rfl rfl rfl ?_
  refine WL.nil ?_
  refine WE.then_normal ?_
  refine WC.sub (fr' := [(0, _)]) ?_ ⟨rfl, trivial⟩
  refine WC.seq ?_
  refine WC.region ?_
  refine WL.q (oq_move rfl) rfl rfl rfl ?_
  refine WL.callA0 (eCut s [44] 0 (by omega) (by decide) (by simp) (by omega)) call17 rfl rfl rfl fun v1_1 N1_1 hR1_1 hN1_1 => ?_
  have ho1_1 := hR1_1.rebase hN1_1
  rw [show ecutR [44] 0 0 s = l from (if_neg (by decide)).trans hl] at ho1_1
  refine WL.q (oq_assign rfl) rfl rfl rfl ?_
  refine WL.nil ?_
  refine WE.then_normal ?_
  refine WC.sub (fr' := [(0, _), (4, _)]) ?_ ⟨rfl, rfl, trivial⟩
  refine WC.seq ?_
  refine WC.seq ?_
  refine WC.region ?_
  refine WL.q (oq_move rfl) rfl rfl rfl ?_
  refine WL.q (oq_len_rd ho1_1.rd Try.underlying22 rfl) rfl rfl rfl ?_
  refine WL.q (oq_leq rfl rfl) rfl rfl rfl ?_
  refine WL.nil ?_
  refine WE.then_normal ?_
  refine WC.sub (fr' := [(0, _), (4, _), (11, _)]) ?_ ⟨rfl, rfl, rfl, trivial⟩
  refine WC.cond rfl (fun q2 => ?_) (fun q2 => ?_)
  ·
    try simp only [Bool.not_eq_eq_eq_not, Bool.not_true, Bool.not_false, decide_eq_true_eq, decide_eq_false_iff_not, Int.not_lt, Int.not_le, ne_eq, Decidable.not_not, ← List.length_eq_zero_iff] at q2
    refine WC.seq ?_
    refine WC.region ?_
    refine WL.q (oq_move rfl) rfl rfl rfl ?_
    refine WL.buildL Try.underlying22 ty9 rfl rfl (by decide) (by decide) rfl rfl rfl fun v3 A3 ho3 hne3 => ?_
    refine WL.q (oq_assign rfl) rfl rfl rfl ?_
    refine WL.q (oq_assign rfl) rfl rfl rfl ?_
    refine WL.nil ?_
    refine WE.then_normal ?_
    refine WC.sub (fr' := [(2, _), (3, _)]) ?_ ⟨rfl, rfl, trivial⟩
    refine WC.ret ?_
    refine WE.then_ret ?_
    refine WE.f1 ?_
    refine WE.forget hN1_1 ?_
    refine WE.endA0 (.inl rfl) (res2 Try.results8 rfl rfl) ?_ (ho3.fresh)
    -- end 0
    exact ⟨_, by unfold dates; rw [if_pos (by omega)]; rfl, own_eq ho3 (by unfold dates; rw [if_pos (by omega)]; rfl)⟩
  ·
    try simp only [Bool.not_eq_eq_eq_not, Bool.not_true, Bool.not_false, decide_eq_true_eq, decide_eq_false_iff_not, Int.not_lt, Int.not_le, ne_eq, Decidable.not_not, ← List.length_eq_zero_iff] at q2
    refine WC.skip ?_
    refine WE.then_normal ?_
    refine WC.sub (fr' := [(4, _)]) ?_ ⟨rfl, trivial⟩
    refine WC.seq ?_
    refine WC.seq ?_
    refine WC.region ?_
    refine WL.q (oq_move rfl) rfl rfl rfl ?_
    refine WL.q (oq_len_rd ho1_1.rd Try.underlying22 rfl) rfl rfl rfl ?_
    refine WL.q (oq_rem rfl rfl (by omega)) rfl rfl rfl ?_
    refine WL.q (oq_neq rfl rfl) rfl rfl rfl ?_
    refine WL.nil ?_
    refine WE.then_normal ?_
    refine WC.sub (fr' := [(4, _), (17, _)]) ?_ ⟨rfl, rfl, trivial⟩
    refine WC.cond rfl (fun q4 => ?_) (fun q4 => ?_)
    ·
      try simp only [Bool.not_eq_eq_eq_not, Bool.not_true, Bool.not_false, decide_eq_true_eq, decide_eq_false_iff_not, Int.not_lt, Int.not_le, ne_eq, Decidable.not_not, ← List.length_eq_zero_iff] at q4
      refine WC.seq ?_
      refine WC.region ?_
      refine WL.q (oq_assign rfl) rfl rfl rfl ?_
      refine WL.q (oq_assign rfl) rfl rfl rfl ?_
      refine WL.nil ?_
      refine WE.then_normal ?_
      refine WC.sub (fr' := [(2, _), (3, _)]) ?_ ⟨rfl, rfl, trivial⟩
      refine WC.ret ?_
      refine WE.then_ret ?_
      refine WE.forget hN1_1 ?_
      refine WE.add0 ?_
      refine WE.endA0 (.inl rfl) (res2 Try.results8 rfl rfl) ?_ fresh0
      -- end 1
      exact ⟨_, by unfold dates; rw [if_neg (by omega), if_pos (by omega)]; rfl, by unfold dates; rw [if_neg (by omega), if_pos (by omega)]; exact OwS.nil _ _ _⟩
    ·
      try simp only [Bool.not_eq_eq_eq_not, Bool.not_true, Bool.not_false, decide_eq_true_eq, decide_eq_false_iff_not, Int.not_lt, Int.not_le, ne_eq, Decidable.not_not, ← List.length_eq_zero_iff] at q4
      refine WC.skip ?_
      refine WE.then_normal ?_
      refine WC.sub (fr' := [(4, _)]) ?_ ⟨rfl, trivial⟩
      refine WC.seq ?_
      refine WC.add0 ?_
      refine WC.region ?_
      refine WL.q (oq_assign rfl) rfl rfl rfl ?_
      refine WL.nil ?_
      refine WE.then_normal ?_
      refine WC.sub (fr' := [(4, _), (5, _)]) ?_ ⟨rfl, rfl, trivial⟩
      refine WC.seq ?_
      refine WC.seq ?_
      refine WC.region ?_
      refine WL.q (oq_assign rfl) rfl rfl rfl ?_
      refine WL.nil ?_
      refine WE.then_normal ?_
      refine WC.sub (fr' := [(4, _), (5, _), (6, _)]) ?_ ⟨rfl, rfl, rfl, trivial⟩
      refine WC.block ?_
      refine WC.f1 ?_
      refine WC.loop (ι := Nat × Value × Hp × (List (List UInt8))) (fun i_ => (fun (i : Nat) (v : Value) (A : Hp) (acc : List (List UInt8)) => [(4, v1_1), (5, v), (6, I (i : Int))]) i_.1 i_.2.1 i_.2.2.1 i_.2.2.2) (fun i_ => (fun (i : Nat) (v : Value) (A : Hp) (acc : List (List UInt8)) => [N1_1, A]) i_.1 i_.2.1 i_.2.2.1 i_.2.2.2) (fun i_ => (fun (i : Nat) (v : Value) (A : Hp) (acc : List (List UInt8)) => i ≤ l.length + 1 ∧ i % 2 = 0 ∧ acc.length ≤ i ∧ OwS w0.heap.size 9 1 v A acc.length (strsV acc) ∧ acc ++ pairs (l.drop i) = pairs l) i_.1 i_.2.1 i_.2.2.1 i_.2.2.2) (fun i_ => (fun (i : Nat) (v : Value) (A : Hp) (acc : List (List UInt8)) => l.length - i) i_.1 i_.2.1 i_.2.2.1 i_.2.2.2) ((0, _, _, [])) ?_ ⟨rfl, rfl, rfl, trivial⟩ (List.Perm.refl _) ?_
      · try dsimp only
        exact ⟨by omega, by rfl, by simp, OwS.nil _ _ _, by simp⟩
      · rintro ⟨i, v, A, acc⟩ hp
        try dsimp only at hp
        obtain ⟨hi, hev, hc, ho, ht⟩ := hp
        show WC _ _ _ _ _ _ ([(4, v1_1), (5, v), (6, I (i : Int))]) ([N1_1, A])
        refine WC.seq ?_
        refine WC.seq ?_
        refine WC.region ?_
        refine WL.q (oq_move rfl) rfl rfl rfl ?_
        refine WL.q (oq_move rfl) rfl rfl rfl ?_
        refine WL.q (oq_len_rd ho1_1.rd Try.underlying22 rfl) rfl rfl rfl ?_
        refine WL.q (oq_lss rfl rfl) rfl rfl rfl ?_
        refine WL.nil ?_
        refine WE.then_normal ?_
        refine WC.sub (fr' := [(4, _), (5, _), (6, _), (21, _)]) ?_ ⟨rfl, rfl, rfl, rfl, trivial⟩
        refine WC.cond rfl (fun q8 => ?_) (fun q8 => ?_)
        ·
          try simp only [Bool.not_eq_eq_eq_not, Bool.not_true, Bool.not_false, decide_eq_true_eq, decide_eq_false_iff_not, Int.not_lt, Int.not_le, ne_eq, Decidable.not_not, ← List.length_eq_zero_iff] at q8
          refine WC.skip ?_
          refine WE.then_normal ?_
          refine WC.sub (fr' := [(4, _), (5, _), (6, _)]) ?_ ⟨rfl, rfl, rfl, trivial⟩
          refine WC.seq ?_
          refine WC.block ?_
          refine WC.tailM (pl := [_]) (ql := [_, _, _, _, _, _, _, _, _, _, _]) (tl := [_, _, _, _]) [0] [1, 2, 3, 4, 5, 6, 7, 8, 9, 10, 11] 12 [13, 14, 15] (by kernel_rfl) (by kernel_rfl) (by kernel_rfl) (by kernel_rfl) (by kernel_rfl) (by kernel_rfl) (by decide) rfl rfl rfl (by decide) (by repeat (first | with_reducible exact QOk.body | with_reducible apply QOk.then | with_reducible apply QOk.block | exact QOk.body | apply QOk.then | apply QOk.block)) ?_
          refine WM.q (fun w0 => oq_move rfl) rfl rfl rfl ?_
          refine WM.nil ?_
          refine WY.q (oq_move rfl) rfl rfl rfl ?_
          refine WY.q (oq_move rfl) rfl rfl rfl ?_
          refine WY.q (oq_ixaddr ho1_1.rd Try.underlying22 ty9 rfl rfl (by (first | omega | (simp only [List.length_cons, List.length_nil, List.length_append, List.length_drop, List.length_take]; omega)))) rfl rfl rfl ?_
          refine WY.q (oq_load_str ho1_1.rd (.head _) flat9 rfl (by (first | omega | (simp only [List.length_cons, List.length_nil, List.length_append, List.length_drop, List.length_take]; omega))) (by first | exact Int.toNat_natCast _ | exact rfl)) rfl rfl rfl ?_
          refine WY.q (oq_concat rfl rfl (by (have h1 := hel i; have h2 := hel (i + 1); first | (simp only [List.length_append, List.length_cons, List.length_nil]; omega) | omega))) rfl rfl rfl ?_
          refine WY.q (oq_move rfl) rfl rfl rfl ?_
          refine WY.q (oq_move rfl) rfl rfl rfl ?_
          refine WY.q (oq_add rfl rfl (by rw [i64_lo, i64_hi]; (first | omega | (simp only [List.length_cons, List.length_nil, List.length_append, List.length_drop, List.length_take]; omega)))) rfl rfl rfl ?_
          refine WY.q (oq_ixaddr ho1_1.rd Try.underlying22 ty9 rfl rfl (by (first | omega | (simp only [List.length_cons, List.length_nil, List.length_append, List.length_drop, List.length_take]; omega)))) rfl rfl rfl ?_
          refine WY.q (oq_load_str ho1_1.rd (.head _) flat9 rfl (by (first | omega | (simp only [List.length_cons, List.length_nil, List.length_append, List.length_drop, List.length_take]; omega))) (by first | exact Int.toNat_natCast _ | exact rfl)) rfl rfl rfl ?_
          refine WY.q (oq_concat rfl rfl (by (have h1 := hel i; have h2 := hel (i + 1); first | (simp only [List.length_append, List.length_cons, List.length_nil]; omega) | omega))) rfl rfl rfl ?_
          refine WY.nil ?_
          refine WL.qc (oq_call (hTrim _ (by have h1 := hel i; have h2 := hel (i + 1); simp only [List.length_append, List.length_cons, List.length_nil]; omega)) call18 rfl) rfl rfl rfl ?_
          refine WL.f1 ?_
          refine WL.append1 ho Try.underlying22 ty9 rfl (by decide) (fun _ => rfl) rfl rfl (by unfold maxLen; omega) (by omega) rfl rfl (fun _ => rfl) rfl fun v10 A10 u10 ho10 hne10 => ?_
          refine WL.q (oq_assign rfl) rfl rfl rfl ?_
          refine WL.nil ?_
          refine WE.block_normal ?_
          refine WE.then_normal ?_
          refine WC.sub (fr' := [(4, _), (5, _), (6, _)]) ?_ ⟨rfl, rfl, rfl, trivial⟩
          refine WC.region ?_
          refine WL.q (oq_move rfl) rfl rfl rfl ?_
          refine WL.q (oq_add rfl rfl (by rw [i64_lo, i64_hi]; (first | omega | (simp only [List.length_cons, List.length_nil, List.length_append, List.length_drop, List.length_take]; omega)))) rfl rfl rfl ?_
          refine WL.q (oq_assign rfl) rfl rfl rfl ?_
          refine WL.nil ?_
          refine WE.f1 ?_
          refine WE.again (i + 2, _, _, acc ++ [trim (l.getD i [] ++ [44] ++ l.getD (i + 1) [])]) ?_ ?_ ⟨rfl, rfl, rfl, trivial⟩ (List.Perm.refl _)
          · try dsimp only   -- again 0
            refine ⟨by omega, by omega, by simp; omega, own_snoc ho10, ?_⟩
            rw [← ht, pairs_drop l i (by omega), List.append_assoc]; rfl
          · (try dsimp only); omega
        ·
          try simp only [Bool.not_eq_eq_eq_not, Bool.not_true, Bool.not_false, decide_eq_true_eq, decide_eq_false_iff_not, Int.not_lt, Int.not_le, ne_eq, Decidable.not_not, ← List.length_eq_zero_iff] at q8
          refine WC.exit ?_
          refine WE.then_exit ?_
          refine WE.then_exit ?_
          refine WE.block_same ?_
          refine WE.then_normal ?_
          refine WC.sub (fr' := [(5, _)]) ?_ ⟨rfl, trivial⟩
          refine WC.seq ?_
          refine WC.region ?_
          refine WL.q (oq_move rfl) rfl rfl rfl ?_
          refine WL.q (oq_assign rfl) rfl rfl rfl ?_
          refine WL.q (oq_assign rfl) rfl rfl rfl ?_
          refine WL.nil ?_
          refine WE.then_normal ?_
          refine WC.sub (fr' := [(2, _), (3, _)]) ?_ ⟨rfl, rfl, trivial⟩
          refine WC.ret ?_
          refine WE.forget hN1_1 ?_
          refine WE.endA0 (.inl rfl) (res2 Try.results8 rfl rfl) ?_ (ho.fresh)
          -- end 2
          exact ⟨_, by unfold dates; rw [if_neg (by omega), if_neg (by omega)]; rfl, own_eq ho (by unfold dates; rw [if_neg (by omega), if_neg (by omega), hl, ← ht, List.drop_eq_nil_of_le (by omega)]; simp [pairs])⟩

end H4
end Go.Proofs.Ytcgpajknehhdgaa
