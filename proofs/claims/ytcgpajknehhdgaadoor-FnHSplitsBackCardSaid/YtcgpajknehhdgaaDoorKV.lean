/- Walks of the taking of quotes off a text, second part. -/
import Derived.Test.YtcgpajknehhdgaaDoorKU
import Derived.Test.YtcgpajknehhdgaaDoorVE
namespace Go.Proofs.YtcgpajknehhdgaaDoor
open Go Go.RowKit V KP H1 H2 H0 KU
set_option linter.unusedSimpArgs false
set_option linter.unusedVariables false
set_option maxRecDepth 10000
namespace KV
theorem call107 : Callable Tryd.prog 107 := ⟨_, Tryd.func107, rfl, by kernel_rfl⟩
theorem call108 : Callable Tryd.prog 108 := ⟨_, Tryd.func108, rfl, by kernel_rfl⟩
theorem call109 : Callable Tryd.prog 109 := ⟨_, Tryd.func109, rfl, by kernel_rfl⟩
theorem call110 : Callable Tryd.prog 110 := ⟨_, Tryd.func110, rfl, by kernel_rfl⟩
theorem ty5 : Ty Tryd.prog 5 (.int .u8 0) 1 1 := ty_of (by kernel_rfl)

theorem hq_ne {t o x : List UInt8} (h : hq t = (o, some x, false)) : 0 < t.length := by
  cases t with
  | nil => rw [hq_nil] at h; cases h
  | cons c r => simp
theorem hq_un10 {t : List UInt8} (h : (∃ c, c ≠ 34 ∧ c ≠ 92 ∧ c ≠ 10 ∧ t = c :: (un1 t).2 ∧ (un1 t).1 = c) ∨ (∃ d, (d = 34 ∨ d = 92) ∧ t = 92 :: d :: (un1 t).2 ∧ (un1 t).1 = d)) : byteAt t 0 ≠ 10 := by
  rcases h with ⟨c, _, _, h3, h4, _⟩ | ⟨d, _, h4, _⟩
  · rw [h4]; intro e
    have e' : (c.toNat : Int) = 10 := e
    exact h3 (UInt8.toNat_inj.1 (by show c.toNat = 10; omega))
  · rw [h4]; intro e
    have e' : ((92 : UInt8).toNat : Int) = 10 := e
    exact absurd e' (by decide)
theorem head34 {t : List UInt8} (hl : 0 < t.length) (h : byteAt t 0 = 34) : ∃ r, t = 34 :: r := by
  cases t with
  | nil => simp at hl
  | cons c r =>
    have e : (c.toNat : Int) = 34 := h
    exact ⟨r, by rw [UInt8.toNat_inj.1 (show c.toNat = (34 : UInt8).toNat by show c.toNat = 34; omega)]⟩
theorem quoted_k (q : List UInt8) : ∃ k : Nat, Lib.indexByte (q ++ [34]) 34 = (k : Int) ∧ k ≤ q.length ∧ (q ++ [34]).drop k = 34 :: (q ++ [34]).drop (k + 1) ∧ (34 : UInt8) ∉ (q ++ [34]).take k := by
  rcases ib_spec 34 (q ++ [34]) with ⟨_, h⟩ | ⟨k, h1, h2, h3, h4⟩
  · exact absurd (by simp) h
  · exact ⟨k, h1, by simp at h2; omega, h3, h4⟩
/-- no reverse solidus ahead of the first quote: it is the last one, and the text is what stands between -/
theorem quoted_plain {q out : List UInt8} {k : Nat} (hq1 : hq (q ++ [34]) = (out, some [], false)) (hk : k ≤ q.length) (h3 : (q ++ [34]).drop k = 34 :: (q ++ [34]).drop (k + 1)) (h4 : (34 : UInt8) ∉ (q ++ [34]).take k) (h5 : (92 : UInt8) ∉ (q ++ [34]).take k) : k = q.length ∧ out = q := by
  have e : q ++ [34] = (q ++ [34]).take k ++ 34 :: (q ++ [34]).drop (k + 1) := by rw [← h3, List.take_append_drop]
  have hp := hq_plain ((q ++ [34]).take k) ((q ++ [34]).drop (k + 1)) h4 h5
  rw [← e, hq1] at hp
  obtain ⟨h6, h7⟩ := hp
  replace h6 : out = (q ++ [34]).take k := h6
  have h8 : (q ++ [34]).drop (k + 1) = [] := (Option.some.inj h7).symm
  have h9 := congrArg List.length h8
  rw [List.length_drop, List.length_append] at h9
  have hkq : k = q.length := by simp at h9; omega
  refine ⟨hkq, ?_⟩
  rw [h6, hkq, List.take_append_of_le_length (Nat.le_refl _), List.take_length]
theorem fast_end {q out : List UInt8} {k : Nat} (hq1 : hq (q ++ [34]) = (out, some [], false)) (hk : k ≤ q.length) (h3 : (q ++ [34]).drop k = 34 :: (q ++ [34]).drop (k + 1)) (h4 : (34 : UInt8) ∉ (q ++ [34]).take k) (h5 : (92 : UInt8) ∉ List.take ((k : Int) + 2).toNat (34 :: (q ++ [34]))) :
    cut (List.take ((k : Int) + 2).toNat (34 :: (q ++ [34]))) 1 ((k : Int) + 2 - 1) = out ∧ List.drop ((k : Int) + 2).toNat (34 :: (q ++ [34])) = [] := by
  rw [show ((k : Int) + 2).toNat = k + 1 + 1 by omega, List.take_succ_cons] at h5 ⊢
  have h6 : (92 : UInt8) ∉ (q ++ [34]).take k := fun h => h5 (List.mem_cons_of_mem _ (by
    rw [show k = min k (k + 1) by omega, ← List.take_take] at h
    exact List.mem_of_mem_take h))
  obtain ⟨h7, h8⟩ := quoted_plain hq1 hk h3 h4 h6
  subst h7 h8
  have h9 : (q0 : List UInt8) → True := fun _ => trivial
  have hl : (out ++ [34]).length = out.length + 1 := by simp
  refine ⟨?_, by rw [List.drop_succ_cons, List.drop_eq_nil_of_le (by omega)]⟩
  rw [show out.length + 1 = (out ++ [34]).length by omega, List.take_length]
  show List.drop 1 (List.take ((out.length : Int) + 2 - 1).toNat (34 :: (out ++ [34]))) = out
  rw [show ((out.length : Int) + 2 - 1).toNat = out.length + 1 by omega, List.take_succ_cons]
  show List.take out.length (out ++ [34]) = out
  rw [List.take_append_of_le_length (Nat.le_refl _), List.take_length]
theorem ib_not {l : List UInt8} {c : UInt8} (h : Lib.indexByte l c = -1) : c ∉ l := by
  rcases ib_spec c l with ⟨_, h1⟩ | ⟨k, h1, _⟩
  · exact h1
  · omega
theorem asc_cut {s : List UInt8} (h : Asc s) (i j : Int) : Asc (cut s i j) := by unfold cut; exact asc_drop (asc_take h _) _
theorem asc_quoted {q : List UInt8} (h : Asc q) : Asc (34 :: (q ++ [34])) := asc_of fun c hc => by
  simp only [List.mem_cons, List.mem_append, List.not_mem_nil, or_false] at hc
  rcases hc with rfl | hc | rfl
  · decide
  · exact asc_mem h c hc
  · decide
/-- strconv.unquote -/
theorem unquote_ (q out : List UInt8) (hq1 : hq (q ++ [34]) = (out, some [], false)) (ha : Asc q) (hl : q.length ≤ 20000) : Fn0 Tryd.prog 96 [S (34 :: (q ++ [34])), .bool true] (.tuple #[S out, S [], .nilIface]) := by
  obtain ⟨k, hk, hkl, hkd, hkn⟩ := quoted_k q
  have hain := asc_quoted ha
  have hll : (34 :: (q ++ [34])).length = q.length + 2 := by simp
  have hll2 : (q ++ [34]).length = q.length + 1 := by simp
  refine Fn0.enter (n := 222) Tryd.func96 rfl rfl fun w0 => ?_
  refine WC.sub (fr' := [(0, _), (1, _)]) ?_ ⟨rfl, rfl, trivial⟩
  refine WC.seq ?_
  refine WC.region ?_
  refine WL.q (oq_assign rfl) rfl rfl rfl ?_
  refine WL.q (oq_assign rfl) rfl rfl rfl ?_
  refine WL.q (oq_assign rfl) rfl rfl rfl ?_
  refine WL.nil ?_
  refine WE.then_normal ?_
  refine WC.sub (fr' := [(0, _), (1, _)]) ?_ ⟨rfl, rfl, trivial⟩
  refine WC.seq ?_
  refine WC.seq ?_
  refine WC.region ?_
  refine WL.q (oq_move rfl) rfl rfl rfl ?_
  refine WL.q (oq_len_s Tryd.underlying9 rfl) rfl rfl rfl ?_
  refine WL.q (oq_lss rfl rfl) rfl rfl rfl ?_
  refine WL.nil ?_
  refine WE.then_normal ?_
  refine WC.sub (fr' := [(0, _), (1, _), (22, _)]) ?_ ⟨rfl, rfl, rfl, trivial⟩
  refine WC.cond rfl (fun q1 => ?_) (fun q1 => ?_)
  ·
    try simp only [Bool.not_eq_eq_eq_not, Bool.not_true, Bool.not_false, decide_eq_true_eq, decide_eq_false_iff_not, Int.not_lt, Int.not_le, ne_eq, Decidable.not_not, ← List.length_eq_zero_iff] at q1
    refine WC.seq ?_
    first | contradiction | (exfalso; omega) | (exfalso; simp only [List.length_cons, List.length_append, List.length_drop, List.length_take, List.length_nil] at *; omega) | (exfalso; simp_all; done)
  ·
    try simp only [Bool.not_eq_eq_eq_not, Bool.not_true, Bool.not_false, decide_eq_true_eq, decide_eq_false_iff_not, Int.not_lt, Int.not_le, ne_eq, Decidable.not_not, ← List.length_eq_zero_iff] at q1
    refine WC.skip ?_
    refine WE.then_normal ?_
    refine WC.sub (fr' := [(0, _), (1, _)]) ?_ ⟨rfl, rfl, trivial⟩
    refine WC.seq ?_
    refine WC.region ?_
    refine WL.q (oq_move rfl) rfl rfl rfl ?_
    refine WL.index_s Tryd.underlying9 rfl rfl (by (first | omega | (simp only [List.length_cons, List.length_nil, List.length_append, List.length_drop, List.length_take]; omega))) rfl rfl fun c3_1 hc3_1 hc3_1l hc3_1u => ?_
    refine WL.q (oq_assign rfl) rfl rfl rfl ?_
    refine WL.nil ?_
    refine WE.then_normal ?_
    refine WC.sub (fr' := [(0, _), (1, _), (7, _)]) ?_ ⟨rfl, rfl, rfl, trivial⟩
    refine WC.seq ?_
    have h34 : c3_1 = 34 := hc3_1
    subst h34
    refine WC.region ?_
    refine WL.q (oq_move rfl) rfl rfl rfl ?_
    refine WL.q (oq_slice_s1 Tryd.underlying9 rfl rfl (by (first | omega | (simp only [List.length_cons, List.length_nil, List.length_append, List.length_drop, List.length_take]; omega)))) rfl rfl rfl ?_
    refine WL.q (oq_move rfl) rfl rfl rfl ?_
    refine WL.qc (oq_call (sindex (q ++ [34]) 34) call107 rfl) rfl rfl rfl ?_
    refine WL.q (oq_assign rfl) rfl rfl rfl ?_
    refine WL.nil ?_
    refine WE.then_normal ?_
    refine WC.sub (fr' := [(0, _), (1, _), (7, _), (8, _)]) ?_ ⟨rfl, rfl, rfl, rfl, trivial⟩
    refine WC.seq ?_
    refine WC.seq ?_
    rw [show Lib.indexByte (q ++ [34]) (Int.toNat 34).toUInt8 = (k : Int) from hk]
    refine WC.region ?_
    refine WL.q (oq_move rfl) rfl rfl rfl ?_
    refine WL.q (oq_lss rfl rfl) rfl rfl rfl ?_
    refine WL.nil ?_
    refine WE.then_normal ?_
    refine WC.sub (fr' := [(0, _), (1, _), (7, _), (8, _), (32, _)]) ?_ ⟨rfl, rfl, rfl, rfl, rfl, trivial⟩
    refine WC.cond rfl (fun q5 => ?_) (fun q5 => ?_)
    ·
      try simp only [Bool.not_eq_eq_eq_not, Bool.not_true, Bool.not_false, decide_eq_true_eq, decide_eq_false_iff_not, Int.not_lt, Int.not_le, ne_eq, Decidable.not_not, ← List.length_eq_zero_iff] at q5
      refine WC.seq ?_
      first | contradiction | (exfalso; omega) | (exfalso; simp only [List.length_cons, List.length_append, List.length_drop, List.length_take, List.length_nil] at *; omega) | (exfalso; simp_all; done)
    ·
      try simp only [Bool.not_eq_eq_eq_not, Bool.not_true, Bool.not_false, decide_eq_true_eq, decide_eq_false_iff_not, Int.not_lt, Int.not_le, ne_eq, Decidable.not_not, ← List.length_eq_zero_iff] at q5
      refine WC.skip ?_
      refine WE.then_normal ?_
      refine WC.sub (fr' := [(0, _), (1, _), (7, _), (8, _)]) ?_ ⟨rfl, rfl, rfl, rfl, trivial⟩
      refine WC.seq ?_
      refine WC.region ?_
      refine WL.q (oq_move rfl) rfl rfl rfl ?_
      refine WL.q (oq_add rfl rfl (by rw [i64_lo, i64_hi]; (first | omega | (simp only [List.length_cons, List.length_nil, List.length_append, List.length_drop, List.length_take]; omega)))) rfl rfl rfl ?_
      refine WL.q (oq_assign rfl) rfl rfl rfl ?_
      refine WL.nil ?_
      refine WE.then_normal ?_
      refine WC.sub (fr' := [(0, _), (1, _), (7, _), (8, _)]) ?_ ⟨rfl, rfl, rfl, rfl, trivial⟩
      refine WC.seq ?_
      refine WC.region ?_
      refine WL.q (oq_move rfl) rfl rfl rfl ?_
      refine WL.nil ?_
      refine WE.then_normal ?_
      refine WC.sub (fr' := [(0, _), (1, _), (7, _), (8, _), (37, _)]) ?_ ⟨rfl, rfl, rfl, rfl, rfl, trivial⟩
      refine WC.block ?_
      refine WC.seq ?_
      refine WC.region ?_
      refine WL.q (oq_eql rfl rfl) rfl rfl rfl ?_
      refine WL.q (oq_assign rfl) rfl rfl rfl ?_
      refine WL.nil ?_
      refine WE.then_normal ?_
      refine WC.sub (fr' := [(0, _), (1, _), (7, _), (8, _), (37, _), (40, _)]) ?_ ⟨rfl, rfl, rfl, rfl, rfl, rfl, trivial⟩
      refine WC.cond rfl (fun q10 => ?_) (fun q10 => ?_)
      ·
        try simp only [Bool.not_eq_eq_eq_not, Bool.not_true, Bool.not_false, decide_eq_true_eq, decide_eq_false_iff_not, Int.not_lt, Int.not_le, ne_eq, Decidable.not_not, ← List.length_eq_zero_iff] at q10
        first | contradiction | (exfalso; omega) | (exfalso; simp_all [nilI]; done)
      ·
        try simp only [Bool.not_eq_eq_eq_not, Bool.not_true, Bool.not_false, decide_eq_true_eq, decide_eq_false_iff_not, Int.not_lt, Int.not_le, ne_eq, Decidable.not_not, ← List.length_eq_zero_iff] at q10
        refine WC.seq ?_
        refine WC.seq ?_
        refine WC.region ?_
        refine WL.q (oq_eql rfl rfl) rfl rfl rfl ?_
        refine WL.q (oq_assign rfl) rfl rfl rfl ?_
        refine WL.nil ?_
        refine WE.then_normal ?_
        refine WC.sub (fr' := [(0, _), (1, _), (7, _), (8, _), (37, _), (85, _)]) ?_ ⟨rfl, rfl, rfl, rfl, rfl, rfl, trivial⟩
        refine WC.cond rfl (fun q23 => ?_) (fun q23 => ?_)
        ·
          try simp only [Bool.not_eq_eq_eq_not, Bool.not_true, Bool.not_false, decide_eq_true_eq, decide_eq_false_iff_not, Int.not_lt, Int.not_le, ne_eq, Decidable.not_not, ← List.length_eq_zero_iff] at q23
          refine WC.skip ?_
          refine WE.then_normal ?_
          refine WC.sub (fr' := [(0, _), (1, _), (7, _), (8, _), (85, _)]) ?_ ⟨rfl, rfl, rfl, rfl, rfl, trivial⟩
          refine WC.cond rfl (fun q23 => ?_) (fun q23 => ?_)
          ·
            try simp only [Bool.not_eq_eq_eq_not, Bool.not_true, Bool.not_false, decide_eq_true_eq, decide_eq_false_iff_not, Int.not_lt, Int.not_le, ne_eq, Decidable.not_not, ← List.length_eq_zero_iff] at q23
            refine WC.seq ?_
            refine WC.seq ?_
            refine WC.region ?_
            refine WL.q (oq_move rfl) rfl rfl rfl ?_
            refine WL.q (oq_move rfl) rfl rfl rfl ?_
            refine WL.q (oq_slice_s0 Tryd.underlying9 rfl rfl (by (first | omega | (simp only [List.length_cons, List.length_nil, List.length_append, List.length_drop, List.length_take]; omega)))) rfl rfl rfl ?_
            refine WL.qc (oq_call (scontains _ _) call108 rfl) rfl rfl rfl ?_
            refine WL.q (oq_not rfl) rfl rfl rfl ?_
            refine WL.q (oq_move rfl) rfl rfl rfl ?_
            refine WL.split 93 rfl (fun s25_5 => ?_) (fun s25_5 => ?_)
            ·
              try simp only [Bool.not_eq_eq_eq_not, Bool.not_true, Bool.not_false, decide_eq_true_eq, decide_eq_false_iff_not, Int.not_lt, Int.not_le, ne_eq, Decidable.not_not, ← List.length_eq_zero_iff] at s25_5
              refine WL.q (oq_move rfl) rfl rfl rfl ?_
              refine WL.q (oq_move rfl) rfl rfl rfl ?_
              refine WL.q (oq_slice_s0 Tryd.underlying9 rfl rfl (by (first | omega | (simp only [List.length_cons, List.length_nil, List.length_append, List.length_drop, List.length_take]; omega)))) rfl rfl rfl ?_
              refine WL.qc (oq_call (scontains _ _) call108 rfl) rfl rfl rfl ?_
              refine WL.q (oq_not rfl) rfl rfl rfl ?_
              refine WL.q (oq_pick_t rfl rfl) rfl rfl rfl ?_
              refine WL.nil ?_
              refine WE.then_normal ?_
              refine WC.sub (fr' := [(0, _), (1, _), (7, _), (8, _), (99, _)]) ?_ ⟨rfl, rfl, rfl, rfl, rfl, trivial⟩
              refine WC.cond rfl (fun q25 => ?_) (fun q25 => ?_)
              ·
                try simp only [Bool.not_eq_eq_eq_not, Bool.not_true, Bool.not_false, decide_eq_true_eq, decide_eq_false_iff_not, Int.not_lt, Int.not_le, ne_eq, Decidable.not_not, ← List.length_eq_zero_iff] at q25
                refine WC.seq ?_
                refine WC.region ?_
                refine WL.q (oq_assign rfl) rfl rfl rfl ?_
                refine WL.nil ?_
                refine WE.then_normal ?_
                refine WC.sub (fr' := [(0, _), (1, _), (7, _), (8, _), (11, _)]) ?_ ⟨rfl, rfl, rfl, rfl, rfl, trivial⟩
                refine WC.seq ?_
                refine WC.seq ?_
                refine WC.region ?_
                refine WL.q (oq_move rfl) rfl rfl rfl ?_
                refine WL.nil ?_
                refine WE.then_normal ?_
                refine WC.sub (fr' := [(0, _), (1, _), (7, _), (8, _), (11, _), (100, _)]) ?_ ⟨rfl, rfl, rfl, rfl, rfl, rfl, trivial⟩
                refine WC.block ?_
                refine WC.seq ?_
                refine WC.region ?_
                refine WL.q (oq_eql rfl rfl) rfl rfl rfl ?_
                refine WL.q (oq_assign rfl) rfl rfl rfl ?_
                refine WL.nil ?_
                refine WE.then_normal ?_
                refine WC.sub (fr' := [(0, _), (1, _), (7, _), (8, _), (11, _), (100, _), (101, _)]) ?_ ⟨rfl, rfl, rfl, rfl, rfl, rfl, rfl, trivial⟩
                refine WC.cond rfl (fun q28 => ?_) (fun q28 => ?_)
                ·
                  try simp only [Bool.not_eq_eq_eq_not, Bool.not_true, Bool.not_false, decide_eq_true_eq, decide_eq_false_iff_not, Int.not_lt, Int.not_le, ne_eq, Decidable.not_not, ← List.length_eq_zero_iff] at q28
                  refine WC.region ?_
                  refine WL.q (oq_move rfl) rfl rfl rfl ?_
                  refine WL.q (oq_move rfl) rfl rfl rfl ?_
                  refine WL.q (oq_sub rfl rfl (by rw [i64_lo, i64_hi]; (first | omega | (simp only [List.length_cons, List.length_nil, List.length_append, List.length_drop, List.length_take]; omega)))) rfl rfl rfl ?_
                  refine WL.q (oq_slice_s2 Tryd.underlying9 rfl rfl rfl (by (first | omega | (simp only [List.length_cons, List.length_nil, List.length_append, List.length_drop, List.length_take]; omega)))) rfl rfl rfl ?_
                  refine WL.qc (oq_call (validString _ (by have := List.length_take (i := ((k : Int) + 2 - 1).toNat) (l := 34 :: (q ++ [34])); unfold cut; rw [List.length_drop]; omega) (asc_cut hain _ _)) call109 rfl) rfl rfl rfl ?_
                  refine WL.q (oq_assign rfl) rfl rfl rfl ?_
                  refine WL.nil ?_
                  refine WE.block_normal ?_
                  refine WE.then_normal ?_
                  refine WC.sub (fr' := [(0, _), (1, _), (7, _), (8, _), (11, _)]) ?_ ⟨rfl, rfl, rfl, rfl, rfl, trivial⟩
                  refine WC.seq ?_
                  refine WC.region ?_
                  refine WL.q (oq_move rfl) rfl rfl rfl ?_
                  refine WL.nil ?_
                  refine WE.then_normal ?_
                  refine WC.sub (fr' := [(0, _), (1, _), (7, _), (8, _), (131, _)]) ?_ ⟨rfl, rfl, rfl, rfl, rfl, trivial⟩
                  refine WC.cond rfl (fun q33 => ?_) (fun q33 => ?_)
                  ·
                    try simp only [Bool.not_eq_eq_eq_not, Bool.not_true, Bool.not_false, decide_eq_true_eq, decide_eq_false_iff_not, Int.not_lt, Int.not_le, ne_eq, Decidable.not_not, ← List.length_eq_zero_iff] at q33
                    refine WC.seq ?_
                    refine WC.region ?_
                    refine WL.q (oq_move rfl) rfl rfl rfl ?_
                    refine WL.q (oq_move rfl) rfl rfl rfl ?_
                    refine WL.q (oq_slice_s0 Tryd.underlying9 rfl rfl (by (first | omega | (simp only [List.length_cons, List.length_nil, List.length_append, List.length_drop, List.length_take]; omega)))) rfl rfl rfl ?_
                    refine WL.q (oq_assign rfl) rfl rfl rfl ?_
                    refine WL.nil ?_
                    refine WE.then_normal ?_
                    refine WC.sub (fr' := [(0, _), (1, _), (4, _), (8, _)]) ?_ ⟨rfl, rfl, rfl, rfl, trivial⟩
                    refine WC.seq ?_
                    refine WC.seq ?_
                    refine WC.region ?_
                    refine WL.q (oq_move rfl) rfl rfl rfl ?_
                    refine WL.nil ?_
                    refine WE.then_normal ?_
                    refine WC.sub (fr' := [(0, _), (4, _), (8, _), (135, _)]) ?_ ⟨rfl, rfl, rfl, rfl, trivial⟩
                    refine WC.cond_t rfl ?_
                    refine WC.region ?_
                    refine WL.q (oq_move rfl) rfl rfl rfl ?_
                    refine WL.q (oq_move rfl) rfl rfl rfl ?_
                    refine WL.q (oq_sub rfl rfl (by rw [i64_lo, i64_hi]; (first | omega | (simp only [List.length_cons, List.length_nil, List.length_append, List.length_drop, List.length_take]; omega)))) rfl rfl rfl ?_
                    refine WL.q (oq_slice_s2 Tryd.underlying9 rfl rfl rfl (by (first | omega | (simp only [List.length_cons, List.length_nil, List.length_append, List.length_drop, List.length_take]; omega)))) rfl rfl rfl ?_
                    refine WL.q (oq_assign rfl) rfl rfl rfl ?_
                    refine WL.nil ?_
                    refine WE.then_normal ?_
                    refine WC.sub (fr' := [(0, _), (4, _), (8, _)]) ?_ ⟨rfl, rfl, rfl, trivial⟩
                    refine WC.seq ?_
                    refine WC.quiet (by kernel_rfl) (by kernel_rfl) ?_
                    refine WQ.q (oq_move rfl) rfl rfl rfl ?_
                    refine WQ.q (oq_move rfl) rfl rfl rfl ?_
                    refine WQ.q (oq_move rfl) rfl rfl rfl ?_
                    refine WQ.q (oq_slice_s1 Tryd.underlying9 rfl rfl (by (first | omega | (simp only [List.length_cons, List.length_nil, List.length_append, List.length_drop, List.length_take]; omega)))) rfl rfl rfl ?_
                    refine WQ.q (oq_assign rfl) rfl rfl rfl ?_
                    refine WQ.q (oq_assign rfl) rfl rfl rfl ?_
                    refine WQ.q (oq_assign rfl) rfl rfl rfl ?_
                    refine WQ.nil ?_
                    refine WE.then_normal ?_
                    refine WC.sub (fr' := [(4, _), (5, _), (6, _)]) ?_ ⟨rfl, rfl, rfl, trivial⟩
                    refine WC.ret ?_
                    refine WE.then_ret ?_
                    refine WE.block_ret ?_
                    refine WE.end0 (.inl rfl) (res3 Tryd.results96 rfl rfl rfl) ?_
                    -- end 0
                    obtain ⟨e1, e2⟩ := fast_end hq1 hkl hkd hkn (ib_not s25_5)
                    rw [e1, e2]
                  ·
                    try simp only [Bool.not_eq_eq_eq_not, Bool.not_true, Bool.not_false, decide_eq_true_eq, decide_eq_false_iff_not, Int.not_lt, Int.not_le, ne_eq, Decidable.not_not, ← List.length_eq_zero_iff] at q33
                    first | contradiction | (exfalso; omega) | (exfalso; simp_all [nilI]; done)
                ·
                  try simp only [Bool.not_eq_eq_eq_not, Bool.not_true, Bool.not_false, decide_eq_true_eq, decide_eq_false_iff_not, Int.not_lt, Int.not_le, ne_eq, Decidable.not_not, ← List.length_eq_zero_iff] at q28
                  first | contradiction | (exfalso; omega) | (exfalso; simp_all [nilI]; done)
              ·
                try simp only [Bool.not_eq_eq_eq_not, Bool.not_true, Bool.not_false, decide_eq_true_eq, decide_eq_false_iff_not, Int.not_lt, Int.not_le, ne_eq, Decidable.not_not, ← List.length_eq_zero_iff] at q25
                refine WC.skip ?_
                refine WE.then_normal ?_
                refine WC.sub (fr' := [(0, _), (1, _), (7, _), (8, _)]) ?_ ⟨rfl, rfl, rfl, rfl, trivial⟩
                refine WC.seq ?_
                refine WC.region ?_
                refine WL.q (oq_assign rfl) rfl rfl rfl ?_
                refine WL.nil ?_
                refine WE.then_normal ?_
                refine WC.sub (fr' := [(0, _), (1, _), (7, _), (8, _), (14, _)]) ?_ ⟨rfl, rfl, rfl, rfl, rfl, trivial⟩
                refine WC.seq ?_
                refine WC.region ?_
                refine WL.q (oq_move rfl) rfl rfl rfl ?_
                refine WL.q (oq_assign rfl) rfl rfl rfl ?_
                refine WL.nil ?_
                refine WE.then_normal ?_
                refine WC.sub (fr' := [(0, _), (1, _), (7, _), (8, _), (14, _), (15, _)]) ?_ ⟨rfl, rfl, rfl, rfl, rfl, rfl, trivial⟩
                refine WC.seq ?_
                refine WC.region ?_
                refine WL.q (oq_move rfl) rfl rfl rfl ?_
                refine WL.q (oq_slice_s1 Tryd.underlying9 rfl rfl (by (first | omega | (simp only [List.length_cons, List.length_nil, List.length_append, List.length_drop, List.length_take]; omega)))) rfl rfl rfl ?_
                refine WL.q (oq_assign rfl) rfl rfl rfl ?_
                refine WL.nil ?_
                refine WE.then_normal ?_
                refine WC.sub (fr' := [(0, _), (1, _), (7, _), (8, _), (14, _), (15, _)]) ?_ ⟨rfl, rfl, rfl, rfl, rfl, rfl, trivial⟩
                refine WC.seq ?_
                refine WC.seq ?_
                refine WC.region ?_
                refine WL.q (oq_move rfl) rfl rfl rfl ?_
                refine WL.nil ?_
                refine WE.then_normal ?_
                refine WC.sub (fr' := [(0, _), (1, _), (7, _), (8, _), (14, _), (15, _), (147, _)]) ?_ ⟨rfl, rfl, rfl, rfl, rfl, rfl, rfl, trivial⟩
                refine WC.cond_t rfl ?_
                refine WC.region ?_
                refine WL.q (oq_move rfl) rfl rfl rfl ?_
                refine WL.q (oq_mul rfl rfl (by rw [i64_lo, i64_hi]; (first | omega | (simp only [List.length_cons, List.length_nil, List.length_append, List.length_drop, List.length_take]; omega)))) rfl rfl rfl ?_
                refine WL.q (oq_quo rfl rfl (by rw [i64_hi]; omega)) rfl rfl rfl ?_
                rw [show (3 : Int) * ((k : Int) + 2) / 2 = ((3 * (k + 2) / 2 : Nat) : Int) by omega]
                refine WL.make0 Tryd.underlying22 ty5 rfl rfl (by omega) (by unfold maxLen; omega) rfl rfl fun v42_3 A42_3 ho42_3 hne42_3 => ?_
                refine WL.q (oq_assign rfl) rfl rfl rfl ?_
                refine WL.nil ?_
                refine WE.then_normal ?_
                refine WC.sub (fr' := [(0, _), (1, _), (7, _), (14, _), (15, _)]) ?_ ⟨rfl, rfl, rfl, rfl, rfl, trivial⟩
                refine WC.seq ?_
                refine WC.block ?_
                refine WC.loop (ι := (List UInt8) × (List UInt8) × (List UInt8) × Value × Hp) (fun i_ => (fun (t : List UInt8) (o : List UInt8) (acc : List UInt8) (v : Value) (B : Hp) => [(0, S t), (1, .bool true), (7, .int .u8 34), (14, v), (15, S (34 :: (q ++ [34])))]) i_.1 i_.2.1 i_.2.2.1 i_.2.2.2.1 i_.2.2.2.2) (fun i_ => (fun (t : List UInt8) (o : List UInt8) (acc : List UInt8) (v : Value) (B : Hp) => [B]) i_.1 i_.2.1 i_.2.2.1 i_.2.2.2.1 i_.2.2.2.2) (fun i_ => (fun (t : List UInt8) (o : List UInt8) (acc : List UInt8) (v : Value) (B : Hp) => hq t = (o, some [], false) ∧ acc ++ o = out ∧ Asc t ∧ t.length ≤ q.length + 1 ∧ acc.length + t.length ≤ q.length + 1 ∧ OwS w0.heap.size 5 1 v B acc.length (bytesV acc)) i_.1 i_.2.1 i_.2.2.1 i_.2.2.2.1 i_.2.2.2.2) (fun i_ => (fun (t : List UInt8) (o : List UInt8) (acc : List UInt8) (v : Value) (B : Hp) => t.length) i_.1 i_.2.1 i_.2.2.1 i_.2.2.2.1 i_.2.2.2.2) ((q ++ [34], out, [], _, _)) ?_ ⟨rfl, rfl, rfl, rfl, rfl, trivial⟩ (List.Perm.refl _) ?_
                · try dsimp only
                  exact ⟨hq1, rfl, (asc_cons hain).2, by omega, by simp, ho42_3⟩
                · rintro ⟨t, o, acc, v, B⟩ hp
                  try dsimp only at hp
                  obtain ⟨hqt, hao, hat, htl, hal, ho⟩ := hp
                  show WC _ _ _ _ _ _ ([(0, S t), (1, .bool true), (7, .int .u8 34), (14, v), (15, S (34 :: (q ++ [34])))]) ([B])
                  have hne := hq_ne hqt
                  refine WC.seq ?_
                  refine WC.seq ?_
                  refine WC.region ?_
                  refine WL.q (oq_move rfl) rfl rfl rfl ?_
                  refine WL.q (oq_len_s Tryd.underlying9 rfl) rfl rfl rfl ?_
                  refine WL.q (oq_gtr rfl rfl) rfl rfl rfl ?_
                  refine WL.q (oq_move rfl) rfl rfl rfl ?_
                  refine WL.split 155 rfl (fun s43_3 => ?_) (fun s43_3 => ?_)
                  ·
                    try simp only [Bool.not_eq_eq_eq_not, Bool.not_true, Bool.not_false, decide_eq_true_eq, decide_eq_false_iff_not, Int.not_lt, Int.not_le, ne_eq, Decidable.not_not, ← List.length_eq_zero_iff] at s43_3
                    refine WL.q (oq_move rfl) rfl rfl rfl ?_
                    refine WL.index_s Tryd.underlying9 rfl rfl (by (first | omega | (simp only [List.length_cons, List.length_nil, List.length_append, List.length_drop, List.length_take]; omega))) rfl rfl fun c43_5 hc43_5 hc43_5l hc43_5u => ?_
                    refine WL.q (oq_move rfl) rfl rfl rfl ?_
                    refine WL.q (oq_neq rfl rfl) rfl rfl rfl ?_
                    refine WL.q (oq_pick_t rfl rfl) rfl rfl rfl ?_
                    refine WL.nil ?_
                    refine WE.then_normal ?_
                    refine WC.sub (fr' := [(0, _), (1, _), (7, _), (14, _), (15, _), (160, _)]) ?_ ⟨rfl, rfl, rfl, rfl, rfl, rfl, trivial⟩
                    refine WC.cond rfl (fun q43 => ?_) (fun q43 => ?_)
                    ·
                      try simp only [Bool.not_eq_eq_eq_not, Bool.not_true, Bool.not_false, decide_eq_true_eq, decide_eq_false_iff_not, Int.not_lt, Int.not_le, ne_eq, Decidable.not_not, ← List.length_eq_zero_iff] at q43
                      refine WC.skip ?_
                      refine WE.then_normal ?_
                      refine WC.sub (fr' := [(0, _), (1, _), (7, _), (14, _), (15, _)]) ?_ ⟨rfl, rfl, rfl, rfl, rfl, trivial⟩
                      refine WC.block ?_
                      refine WC.seq ?_
                      obtain ⟨ho1, hq2, hlt, hdr, hcs⟩ := hq_un1 hqt (fun r e => by subst e; have h9 : byteAt (34 :: r) 0 = 34 := rfl; omega)
                      have hn10 := hq_un10 hcs
                      have hb1 := (un1 t).1.toNat_lt
                      refine WC.region ?_
                      refine WL.q (oq_move rfl) rfl rfl rfl ?_
                      refine WL.q (oq_move rfl) rfl rfl rfl ?_
                      refine WL.qc (oq_call (uqChar t (by omega) hat hcs) call110 rfl) rfl rfl rfl ?_
                      refine WL.q (oq_move rfl) rfl rfl rfl ?_
                      refine WL.q (oq_extract rfl rfl) rfl rfl rfl ?_
                      refine WL.q (oq_extract rfl rfl) rfl rfl rfl ?_
                      refine WL.q (oq_extract rfl rfl) rfl rfl rfl ?_
                      refine WL.q (oq_extract rfl rfl) rfl rfl rfl ?_
                      refine WL.q (oq_assign rfl) rfl rfl rfl ?_
                      refine WL.q (oq_assign rfl) rfl rfl rfl ?_
                      refine WL.q (oq_assign rfl) rfl rfl rfl ?_
                      refine WL.q (oq_assign rfl) rfl rfl rfl ?_
                      refine WL.nil ?_
                      refine WE.then_normal ?_
                      refine WC.sub (fr' := [(0, _), (1, _), (7, _), (14, _), (15, _), (16, _), (17, _), (18, _), (19, _)]) ?_ ⟨rfl, rfl, rfl, rfl, rfl, rfl, rfl, rfl, rfl, trivial⟩
                      refine WC.seq ?_
                      refine WC.seq ?_
                      refine WC.region ?_
                      refine WL.q (oq_move rfl) rfl rfl rfl ?_
                      refine WL.index_s Tryd.underlying9 rfl rfl (by (first | omega | (simp only [List.length_cons, List.length_nil, List.length_append, List.length_drop, List.length_take]; omega))) rfl rfl fun c45_1 hc45_1 hc45_1l hc45_1u => ?_
                      refine WL.q (oq_eql rfl rfl) rfl rfl rfl ?_
                      refine WL.q (oq_move rfl) rfl rfl rfl ?_
                      refine WL.split 172 rfl (fun s45_3 => ?_) (fun s45_3 => ?_)
                      ·
                        try simp only [Bool.not_eq_eq_eq_not, Bool.not_true, Bool.not_false, decide_eq_true_eq, decide_eq_false_iff_not, Int.not_lt, Int.not_le, ne_eq, Decidable.not_not, ← List.length_eq_zero_iff] at s45_3
                        refine WL.skip rfl rfl rfl ?_
                        refine WL.skip rfl rfl rfl ?_
                        refine WL.q (oq_pick_t rfl rfl) rfl rfl rfl ?_
                        refine WL.nil ?_
                        refine WE.then_normal ?_
                        refine WC.sub (fr' := [(1, _), (7, _), (14, _), (15, _), (16, _), (17, _), (18, _), (175, _)]) ?_ ⟨rfl, rfl, rfl, rfl, rfl, rfl, rfl, rfl, trivial⟩
                        refine WC.cond_t rfl ?_
                        refine WC.seq ?_
                        first | contradiction | (exfalso; omega) | (exfalso; simp only [List.length_cons, List.length_append, List.length_drop, List.length_take, List.length_nil] at *; omega) | (exfalso; simp_all; done)
                      ·
                        try simp only [Bool.not_eq_eq_eq_not, Bool.not_true, Bool.not_false, decide_eq_true_eq, decide_eq_false_iff_not, Int.not_lt, Int.not_le, ne_eq, Decidable.not_not, ← List.length_eq_zero_iff] at s45_3
                        refine WL.q (oq_move rfl) rfl rfl rfl ?_
                        refine WL.q (oq_ineq Tryd.underlying53 rfl (.inl rfl)) rfl rfl rfl ?_
                        refine WL.q (oq_pick_f rfl rfl) rfl rfl rfl ?_
                        refine WL.nil ?_
                        refine WE.then_normal ?_
                        refine WC.sub (fr' := [(1, _), (7, _), (14, _), (15, _), (16, _), (17, _), (18, _), (175, _)]) ?_ ⟨rfl, rfl, rfl, rfl, rfl, rfl, rfl, rfl, trivial⟩
                        refine WC.cond rfl (fun q45 => ?_) (fun q45 => ?_)
                        ·
                          try simp only [Bool.not_eq_eq_eq_not, Bool.not_true, Bool.not_false, decide_eq_true_eq, decide_eq_false_iff_not, Int.not_lt, Int.not_le, ne_eq, Decidable.not_not, ← List.length_eq_zero_iff] at q45
                          first | contradiction | (exfalso; omega) | (exfalso; simp_all [nilI]; done)
                        ·
                          try simp only [Bool.not_eq_eq_eq_not, Bool.not_true, Bool.not_false, decide_eq_true_eq, decide_eq_false_iff_not, Int.not_lt, Int.not_le, ne_eq, Decidable.not_not, ← List.length_eq_zero_iff] at q45
                          refine WC.skip ?_
                          refine WE.then_normal ?_
                          refine WC.sub (fr' := [(1, _), (7, _), (14, _), (15, _), (16, _), (17, _), (18, _)]) ?_ ⟨rfl, rfl, rfl, rfl, rfl, rfl, rfl, trivial⟩
                          refine WC.seq ?_
                          refine WC.region ?_
                          refine WL.q (oq_move rfl) rfl rfl rfl ?_
                          refine WL.q (oq_assign rfl) rfl rfl rfl ?_
                          refine WL.nil ?_
                          refine WE.then_normal ?_
                          refine WC.sub (fr' := [(0, _), (1, _), (7, _), (14, _), (15, _), (16, _), (17, _)]) ?_ ⟨rfl, rfl, rfl, rfl, rfl, rfl, rfl, trivial⟩
                          refine WC.seq ?_
                          refine WC.seq ?_
                          refine WC.region ?_
                          refine WL.q (oq_move rfl) rfl rfl rfl ?_
                          refine WL.nil ?_
                          refine WE.then_normal ?_
                          refine WC.sub (fr' := [(0, _), (1, _), (7, _), (14, _), (15, _), (16, _), (17, _), (179, _)]) ?_ ⟨rfl, rfl, rfl, rfl, rfl, rfl, rfl, rfl, trivial⟩
                          refine WC.cond_t rfl ?_
                          refine WC.seq ?_
                          refine WC.region ?_
                          refine WL.q (oq_move rfl) rfl rfl rfl ?_
                          refine WL.q (oq_lss rfl rfl) rfl rfl rfl ?_
                          refine WL.q (oq_move rfl) rfl rfl rfl ?_
                          refine WL.split 182 rfl (fun s49_2 => ?_) (fun s49_2 => ?_)
                          ·
                            try simp only [Bool.not_eq_eq_eq_not, Bool.not_true, Bool.not_false, decide_eq_true_eq, decide_eq_false_iff_not, Int.not_lt, Int.not_le, ne_eq, Decidable.not_not, ← List.length_eq_zero_iff] at s49_2
                            refine WL.skip rfl rfl rfl ?_
                            refine WL.skip rfl rfl rfl ?_
                            refine WL.q (oq_pick_t rfl rfl) rfl rfl rfl ?_
                            refine WL.nil ?_
                            refine WE.then_normal ?_
                            refine WC.sub (fr' := [(0, _), (1, _), (7, _), (14, _), (15, _), (16, _), (185, _)]) ?_ ⟨rfl, rfl, rfl, rfl, rfl, rfl, rfl, trivial⟩
                            refine WC.cond_t rfl ?_
                            refine WC.region ?_
                            refine WL.q (oq_move rfl) rfl rfl rfl ?_
                            refine WL.q (oq_move rfl) rfl rfl rfl ?_
                            refine WL.q (oq_conv Tryd.underlying21 Tryd.underlying5 rfl (by rw [u8_lo, u8_hi]; (first | omega | (simp only [List.length_cons, List.length_nil, List.length_append, List.length_drop, List.length_take]; omega)))) rfl rfl rfl ?_
                            refine WL.append1 ho Tryd.underlying22 ty5 rfl (by decide) (fun _ => rfl) rfl rfl (by unfold maxLen; omega) (by omega) rfl rfl (fun _ => rfl) rfl fun v50 A50 u50 ho50 hne50 => ?_
                            refine WL.q (oq_assign rfl) rfl rfl rfl ?_
                            refine WL.nil ?_
                            refine WE.then_normal ?_
                            refine WC.sub (fr' := [(0, _), (1, _), (7, _), (14, _), (15, _)]) ?_ ⟨rfl, rfl, rfl, rfl, rfl, trivial⟩
                            refine WC.seq ?_
                            refine WC.region ?_
                            refine WL.q (oq_move rfl) rfl rfl rfl ?_
                            refine WL.q (oq_eql rfl rfl) rfl rfl rfl ?_
                            refine WL.nil ?_
                            refine WE.then_normal ?_
                            refine WC.sub (fr' := [(0, _), (1, _), (7, _), (14, _), (15, _), (195, _)]) ?_ ⟨rfl, rfl, rfl, rfl, rfl, rfl, trivial⟩
                            refine WC.cond rfl (fun q52 => ?_) (fun q52 => ?_)
                            ·
                              try simp only [Bool.not_eq_eq_eq_not, Bool.not_true, Bool.not_false, decide_eq_true_eq, decide_eq_false_iff_not, Int.not_lt, Int.not_le, ne_eq, Decidable.not_not, ← List.length_eq_zero_iff] at q52
                              first | contradiction | (exfalso; omega) | (exfalso; simp_all [nilI]; done)
                            ·
                              try simp only [Bool.not_eq_eq_eq_not, Bool.not_true, Bool.not_false, decide_eq_true_eq, decide_eq_false_iff_not, Int.not_lt, Int.not_le, ne_eq, Decidable.not_not, ← List.length_eq_zero_iff] at q52
                              refine WC.skip ?_
                              refine WE.block_normal ?_
                              refine WE.again ((un1 t).2, (hq (un1 t).2).1, acc ++ [(un1 t).1], _, _) ?_ ?_ ⟨rfl, rfl, rfl, rfl, rfl, trivial⟩ (List.Perm.refl _)
                              · try dsimp only   -- again 0
                                exact ⟨hq2, by rw [← hao, ho1, List.append_assoc]; rfl, by rw [hdr]; exact asc_drop hat _, by omega, by simp; omega, by have := ho50; simpa [bytesV] using this⟩
                              · (try dsimp only); omega
                          ·
                            try simp only [Bool.not_eq_eq_eq_not, Bool.not_true, Bool.not_false, decide_eq_true_eq, decide_eq_false_iff_not, Int.not_lt, Int.not_le, ne_eq, Decidable.not_not, ← List.length_eq_zero_iff] at s49_2
                            refine WL.q (oq_move rfl) rfl rfl rfl ?_
                            refine WL.q (oq_not rfl) rfl rfl rfl ?_
                            refine WL.q (oq_pick_f rfl rfl) rfl rfl rfl ?_
                            refine WL.nil ?_
                            refine WE.then_normal ?_
                            refine WC.sub (fr' := [(0, _), (1, _), (7, _), (14, _), (15, _), (16, _), (185, _)]) ?_ ⟨rfl, rfl, rfl, rfl, rfl, rfl, rfl, trivial⟩
                            refine WC.cond rfl (fun q49 => ?_) (fun q49 => ?_)
                            ·
                              try simp only [Bool.not_eq_eq_eq_not, Bool.not_true, Bool.not_false, decide_eq_true_eq, decide_eq_false_iff_not, Int.not_lt, Int.not_le, ne_eq, Decidable.not_not, ← List.length_eq_zero_iff] at q49
                              refine WC.region ?_
                              refine WL.q (oq_move rfl) rfl rfl rfl ?_
                              refine WL.q (oq_move rfl) rfl rfl rfl ?_
                              refine WL.q (oq_conv Tryd.underlying21 Tryd.underlying5 rfl (by rw [u8_lo, u8_hi]; (first | omega | (simp only [List.length_cons, List.length_nil, List.length_append, List.length_drop, List.length_take]; omega)))) rfl rfl rfl ?_
                              refine WL.append1 ho Tryd.underlying22 ty5 rfl (by decide) (fun _ => rfl) rfl rfl (by unfold maxLen; omega) (by omega) rfl rfl (fun _ => rfl) rfl fun v50 A50 u50 ho50 hne50 => ?_
                              refine WL.q (oq_assign rfl) rfl rfl rfl ?_
                              refine WL.nil ?_
                              refine WE.then_normal ?_
                              refine WC.sub (fr' := [(0, _), (1, _), (7, _), (14, _), (15, _)]) ?_ ⟨rfl, rfl, rfl, rfl, rfl, trivial⟩
                              refine WC.seq ?_
                              refine WC.region ?_
                              refine WL.q (oq_move rfl) rfl rfl rfl ?_
                              refine WL.q (oq_eql rfl rfl) rfl rfl rfl ?_
                              refine WL.nil ?_
                              refine WE.then_normal ?_
                              refine WC.sub (fr' := [(0, _), (1, _), (7, _), (14, _), (15, _), (195, _)]) ?_ ⟨rfl, rfl, rfl, rfl, rfl, rfl, trivial⟩
                              refine WC.cond rfl (fun q52 => ?_) (fun q52 => ?_)
                              ·
                                try simp only [Bool.not_eq_eq_eq_not, Bool.not_true, Bool.not_false, decide_eq_true_eq, decide_eq_false_iff_not, Int.not_lt, Int.not_le, ne_eq, Decidable.not_not, ← List.length_eq_zero_iff] at q52
                                first | contradiction | (exfalso; omega) | (exfalso; simp_all [nilI]; done)
                              ·
                                try simp only [Bool.not_eq_eq_eq_not, Bool.not_true, Bool.not_false, decide_eq_true_eq, decide_eq_false_iff_not, Int.not_lt, Int.not_le, ne_eq, Decidable.not_not, ← List.length_eq_zero_iff] at q52
                                refine WC.skip ?_
                                refine WE.block_normal ?_
                                refine WE.again ((un1 t).2, (hq (un1 t).2).1, acc ++ [(un1 t).1], _, _) ?_ ?_ ⟨rfl, rfl, rfl, rfl, rfl, trivial⟩ (List.Perm.refl _)
                                · try dsimp only   -- again 1
                                  exact ⟨hq2, by rw [← hao, ho1, List.append_assoc]; rfl, by rw [hdr]; exact asc_drop hat _, by omega, by simp; omega, by have := ho50; simpa [bytesV] using this⟩
                                · (try dsimp only); omega
                            ·
                              try simp only [Bool.not_eq_eq_eq_not, Bool.not_true, Bool.not_false, decide_eq_true_eq, decide_eq_false_iff_not, Int.not_lt, Int.not_le, ne_eq, Decidable.not_not, ← List.length_eq_zero_iff] at q49
                              first | contradiction | (exfalso; omega) | (exfalso; simp_all [nilI]; done)
                    ·
                      try simp only [Bool.not_eq_eq_eq_not, Bool.not_true, Bool.not_false, decide_eq_true_eq, decide_eq_false_iff_not, Int.not_lt, Int.not_le, ne_eq, Decidable.not_not, ← List.length_eq_zero_iff] at q43
                      refine WC.exit ?_
                      refine WE.then_exit ?_
                      refine WE.then_exit ?_
                      refine WE.block_same ?_
                      refine WE.then_normal ?_
                      refine WC.sub (fr' := [(0, _), (1, _), (7, _), (14, _), (15, _)]) ?_ ⟨rfl, rfl, rfl, rfl, rfl, trivial⟩
                      refine WC.seq ?_
                      refine WC.seq ?_
                      refine WC.region ?_
                      refine WL.q (oq_move rfl) rfl rfl rfl ?_
                      refine WL.q (oq_len_s Tryd.underlying9 rfl) rfl rfl rfl ?_
                      refine WL.q (oq_gtr rfl rfl) rfl rfl rfl ?_
                      refine WL.q (oq_move rfl) rfl rfl rfl ?_
                      refine WL.split 199 rfl (fun s53_3 => ?_) (fun s53_3 => ?_)
                      ·
                        try simp only [Bool.not_eq_eq_eq_not, Bool.not_true, Bool.not_false, decide_eq_true_eq, decide_eq_false_iff_not, Int.not_lt, Int.not_le, ne_eq, Decidable.not_not, ← List.length_eq_zero_iff] at s53_3
                        refine WL.q (oq_move rfl) rfl rfl rfl ?_
                        refine WL.index_s Tryd.underlying9 rfl rfl (by (first | omega | (simp only [List.length_cons, List.length_nil, List.length_append, List.length_drop, List.length_take]; omega))) rfl rfl fun c53_5 hc53_5 hc53_5l hc53_5u => ?_
                        refine WL.q (oq_move rfl) rfl rfl rfl ?_
                        refine WL.q (oq_eql rfl rfl) rfl rfl rfl ?_
                        refine WL.q (oq_pick_t rfl rfl) rfl rfl rfl ?_
                        refine WL.q (oq_not rfl) rfl rfl rfl ?_
                        refine WL.nil ?_
                        refine WE.then_normal ?_
                        refine WC.sub (fr' := [(0, _), (1, _), (14, _), (15, _), (205, _)]) ?_ ⟨rfl, rfl, rfl, rfl, rfl, trivial⟩
                        refine WC.cond rfl (fun q53 => ?_) (fun q53 => ?_)
                        ·
                          try simp only [Bool.not_eq_eq_eq_not, Bool.not_true, Bool.not_false, decide_eq_true_eq, decide_eq_false_iff_not, Int.not_lt, Int.not_le, ne_eq, Decidable.not_not, ← List.length_eq_zero_iff] at q53
                          refine WC.seq ?_
                          first | contradiction | (exfalso; omega) | (exfalso; simp only [List.length_cons, List.length_append, List.length_drop, List.length_take, List.length_nil] at *; omega) | (exfalso; simp_all; done)
                        ·
                          try simp only [Bool.not_eq_eq_eq_not, Bool.not_true, Bool.not_false, decide_eq_true_eq, decide_eq_false_iff_not, Int.not_lt, Int.not_le, ne_eq, Decidable.not_not, ← List.length_eq_zero_iff] at q53
                          refine WC.skip ?_
                          refine WE.then_normal ?_
                          refine WC.sub (fr' := [(0, _), (1, _), (14, _), (15, _)]) ?_ ⟨rfl, rfl, rfl, rfl, trivial⟩
                          refine WC.seq ?_
                          refine WC.region ?_
                          refine WL.q (oq_move rfl) rfl rfl rfl ?_
                          refine WL.q (oq_slice_s1 Tryd.underlying9 rfl rfl (by (first | omega | (simp only [List.length_cons, List.length_nil, List.length_append, List.length_drop, List.length_take]; omega)))) rfl rfl rfl ?_
                          refine WL.q (oq_assign rfl) rfl rfl rfl ?_
                          refine WL.nil ?_
                          refine WE.then_normal ?_
                          refine WC.sub (fr' := [(0, _), (1, _), (14, _), (15, _)]) ?_ ⟨rfl, rfl, rfl, rfl, trivial⟩
                          refine WC.seq ?_
                          refine WC.seq ?_
                          refine WC.region ?_
                          refine WL.q (oq_move rfl) rfl rfl rfl ?_
                          refine WL.nil ?_
                          refine WE.then_normal ?_
                          refine WC.sub (fr' := [(0, _), (14, _), (15, _), (210, _)]) ?_ ⟨rfl, rfl, rfl, rfl, trivial⟩
                          refine WC.cond_t rfl ?_
                          refine WC.seq ?_
                          refine WC.region ?_
                          refine WL.q (oq_move rfl) rfl rfl rfl ?_
                          refine WL.q (oq_bytesStr ho.rd (.head _) Tryd.underlying9 Tryd.underlying22 Tryd.underlying5 rfl) rfl rfl rfl ?_
                          refine WL.q (oq_move rfl) rfl rfl rfl ?_
                          refine WL.q (oq_assign rfl) rfl rfl rfl ?_
                          refine WL.q (oq_assign rfl) rfl rfl rfl ?_
                          refine WL.q (oq_assign rfl) rfl rfl rfl ?_
                          refine WL.nil ?_
                          refine WE.then_normal ?_
                          refine WC.sub (fr' := [(4, _), (5, _), (6, _)]) ?_ ⟨rfl, rfl, rfl, trivial⟩
                          refine WC.ret ?_
                          refine WE.then_ret ?_
                          refine WE.block_ret ?_
                          refine WE.forget ho.fresh ?_
                          refine WE.end0 (.inl rfl) (res3 Tryd.results96 rfl rfl rfl) ?_
                          -- end 1
                          first
                            | (exfalso; omega)
                            | (obtain ⟨r, rfl⟩ := head34 hne (by omega)
                               obtain ⟨rfl, rfl⟩ := hq_end hqt
                               rw [← hao, List.append_nil]; rfl)
                      ·
                        try simp only [Bool.not_eq_eq_eq_not, Bool.not_true, Bool.not_false, decide_eq_true_eq, decide_eq_false_iff_not, Int.not_lt, Int.not_le, ne_eq, Decidable.not_not, ← List.length_eq_zero_iff] at s53_3
                        refine WL.skip rfl rfl rfl ?_
                        refine WL.skip rfl rfl rfl ?_
                        refine WL.skip rfl rfl rfl ?_
                        refine WL.skip rfl rfl rfl ?_
                        refine WL.q (oq_pick_f rfl rfl) rfl rfl rfl ?_
                        refine WL.q (oq_not rfl) rfl rfl rfl ?_
                        refine WL.nil ?_
                        refine WE.then_normal ?_
                        refine WC.sub (fr' := [(0, _), (1, _), (14, _), (15, _), (205, _)]) ?_ ⟨rfl, rfl, rfl, rfl, rfl, trivial⟩
                        refine WC.cond_t rfl ?_
                        refine WC.seq ?_
                        first | contradiction | (exfalso; omega) | (exfalso; simp only [List.length_cons, List.length_append, List.length_drop, List.length_take, List.length_nil] at *; omega) | (exfalso; simp_all; done)
                  ·
                    try simp only [Bool.not_eq_eq_eq_not, Bool.not_true, Bool.not_false, decide_eq_true_eq, decide_eq_false_iff_not, Int.not_lt, Int.not_le, ne_eq, Decidable.not_not, ← List.length_eq_zero_iff] at s43_3
                    refine WL.skip rfl rfl rfl ?_
                    refine WL.skip rfl rfl rfl ?_
                    refine WL.skip rfl rfl rfl ?_
                    refine WL.skip rfl rfl rfl ?_
                    refine WL.q (oq_pick_f rfl rfl) rfl rfl rfl ?_
                    refine WL.nil ?_
                    refine WE.then_normal ?_
                    refine WC.sub (fr' := [(0, _), (1, _), (7, _), (14, _), (15, _), (160, _)]) ?_ ⟨rfl, rfl, rfl, rfl, rfl, rfl, trivial⟩
                    refine WC.cond_f rfl ?_
                    refine WC.exit ?_
                    refine WE.then_exit ?_
                    refine WE.then_exit ?_
                    refine WE.block_same ?_
                    refine WE.then_normal ?_
                    refine WC.sub (fr' := [(0, _), (1, _), (7, _), (14, _), (15, _)]) ?_ ⟨rfl, rfl, rfl, rfl, rfl, trivial⟩
                    refine WC.seq ?_
                    refine WC.seq ?_
                    refine WC.region ?_
                    refine WL.q (oq_move rfl) rfl rfl rfl ?_
                    refine WL.q (oq_len_s Tryd.underlying9 rfl) rfl rfl rfl ?_
                    refine WL.q (oq_gtr rfl rfl) rfl rfl rfl ?_
                    refine WL.q (oq_move rfl) rfl rfl rfl ?_
                    refine WL.split 199 rfl (fun s53_3 => ?_) (fun s53_3 => ?_)
                    ·
                      try simp only [Bool.not_eq_eq_eq_not, Bool.not_true, Bool.not_false, decide_eq_true_eq, decide_eq_false_iff_not, Int.not_lt, Int.not_le, ne_eq, Decidable.not_not, ← List.length_eq_zero_iff] at s53_3
                      refine WL.q (oq_move rfl) rfl rfl rfl ?_
                      refine WL.index_s Tryd.underlying9 rfl rfl (by (first | omega | (simp only [List.length_cons, List.length_nil, List.length_append, List.length_drop, List.length_take]; omega))) rfl rfl fun c53_5 hc53_5 hc53_5l hc53_5u => ?_
                      refine WL.q (oq_move rfl) rfl rfl rfl ?_
                      refine WL.q (oq_eql rfl rfl) rfl rfl rfl ?_
                      refine WL.q (oq_pick_t rfl rfl) rfl rfl rfl ?_
                      refine WL.q (oq_not rfl) rfl rfl rfl ?_
                      refine WL.nil ?_
                      refine WE.then_normal ?_
                      refine WC.sub (fr' := [(0, _), (1, _), (14, _), (15, _), (205, _)]) ?_ ⟨rfl, rfl, rfl, rfl, rfl, trivial⟩
                      refine WC.cond rfl (fun q53 => ?_) (fun q53 => ?_)
                      ·
                        try simp only [Bool.not_eq_eq_eq_not, Bool.not_true, Bool.not_false, decide_eq_true_eq, decide_eq_false_iff_not, Int.not_lt, Int.not_le, ne_eq, Decidable.not_not, ← List.length_eq_zero_iff] at q53
                        refine WC.seq ?_
                        first | contradiction | (exfalso; omega) | (exfalso; simp only [List.length_cons, List.length_append, List.length_drop, List.length_take, List.length_nil] at *; omega) | (exfalso; simp_all; done)
                      ·
                        try simp only [Bool.not_eq_eq_eq_not, Bool.not_true, Bool.not_false, decide_eq_true_eq, decide_eq_false_iff_not, Int.not_lt, Int.not_le, ne_eq, Decidable.not_not, ← List.length_eq_zero_iff] at q53
                        refine WC.skip ?_
                        refine WE.then_normal ?_
                        refine WC.sub (fr' := [(0, _), (1, _), (14, _), (15, _)]) ?_ ⟨rfl, rfl, rfl, rfl, trivial⟩
                        refine WC.seq ?_
                        refine WC.region ?_
                        refine WL.q (oq_move rfl) rfl rfl rfl ?_
                        refine WL.q (oq_slice_s1 Tryd.underlying9 rfl rfl (by (first | omega | (simp only [List.length_cons, List.length_nil, List.length_append, List.length_drop, List.length_take]; omega)))) rfl rfl rfl ?_
                        refine WL.q (oq_assign rfl) rfl rfl rfl ?_
                        refine WL.nil ?_
                        refine WE.then_normal ?_
                        refine WC.sub (fr' := [(0, _), (1, _), (14, _), (15, _)]) ?_ ⟨rfl, rfl, rfl, rfl, trivial⟩
                        refine WC.seq ?_
                        refine WC.seq ?_
                        refine WC.region ?_
                        refine WL.q (oq_move rfl) rfl rfl rfl ?_
                        refine WL.nil ?_
                        refine WE.then_normal ?_
                        refine WC.sub (fr' := [(0, _), (14, _), (15, _), (210, _)]) ?_ ⟨rfl, rfl, rfl, rfl, trivial⟩
                        refine WC.cond_t rfl ?_
                        refine WC.seq ?_
                        refine WC.region ?_
                        refine WL.q (oq_move rfl) rfl rfl rfl ?_
                        refine WL.q (oq_bytesStr ho.rd (.head _) Tryd.underlying9 Tryd.underlying22 Tryd.underlying5 rfl) rfl rfl rfl ?_
                        refine WL.q (oq_move rfl) rfl rfl rfl ?_
                        refine WL.q (oq_assign rfl) rfl rfl rfl ?_
                        refine WL.q (oq_assign rfl) rfl rfl rfl ?_
                        refine WL.q (oq_assign rfl) rfl rfl rfl ?_
                        refine WL.nil ?_
                        refine WE.then_normal ?_
                        refine WC.sub (fr' := [(4, _), (5, _), (6, _)]) ?_ ⟨rfl, rfl, rfl, trivial⟩
                        refine WC.ret ?_
                        refine WE.then_ret ?_
                        refine WE.block_ret ?_
                        refine WE.forget ho.fresh ?_
                        refine WE.end0 (.inl rfl) (res3 Tryd.results96 rfl rfl rfl) ?_
                        -- end 2
                        first
                          | (exfalso; omega)
                          | (obtain ⟨r, rfl⟩ := head34 hne (by omega)
                             obtain ⟨rfl, rfl⟩ := hq_end hqt
                             rw [← hao, List.append_nil]; rfl)
                    ·
                      try simp only [Bool.not_eq_eq_eq_not, Bool.not_true, Bool.not_false, decide_eq_true_eq, decide_eq_false_iff_not, Int.not_lt, Int.not_le, ne_eq, Decidable.not_not, ← List.length_eq_zero_iff] at s53_3
                      refine WL.skip rfl rfl rfl ?_
                      refine WL.skip rfl rfl rfl ?_
                      refine WL.skip rfl rfl rfl ?_
                      refine WL.skip rfl rfl rfl ?_
                      refine WL.q (oq_pick_f rfl rfl) rfl rfl rfl ?_
                      refine WL.q (oq_not rfl) rfl rfl rfl ?_
                      refine WL.nil ?_
                      refine WE.then_normal ?_
                      refine WC.sub (fr' := [(0, _), (1, _), (14, _), (15, _), (205, _)]) ?_ ⟨rfl, rfl, rfl, rfl, rfl, trivial⟩
                      refine WC.cond_t rfl ?_
                      refine WC.seq ?_
                      first | contradiction | (exfalso; omega) | (exfalso; simp only [List.length_cons, List.length_append, List.length_drop, List.length_take, List.length_nil] at *; omega) | (exfalso; simp_all; done)
            ·
              try simp only [Bool.not_eq_eq_eq_not, Bool.not_true, Bool.not_false, decide_eq_true_eq, decide_eq_false_iff_not, Int.not_lt, Int.not_le, ne_eq, Decidable.not_not, ← List.length_eq_zero_iff] at s25_5
              refine WL.skip rfl rfl rfl ?_
              refine WL.skip rfl rfl rfl ?_
              refine WL.skip rfl rfl rfl ?_
              refine WL.skip rfl rfl rfl ?_
              refine WL.skip rfl rfl rfl ?_
              refine WL.q (oq_pick_f rfl rfl) rfl rfl rfl ?_
              refine WL.nil ?_
              refine WE.then_normal ?_
              refine WC.sub (fr' := [(0, _), (1, _), (7, _), (8, _), (99, _)]) ?_ ⟨rfl, rfl, rfl, rfl, rfl, trivial⟩
              refine WC.cond_f rfl ?_
              refine WC.skip ?_
              refine WE.then_normal ?_
              refine WC.sub (fr' := [(0, _), (1, _), (7, _), (8, _)]) ?_ ⟨rfl, rfl, rfl, rfl, trivial⟩
              refine WC.seq ?_
              refine WC.region ?_
              refine WL.q (oq_assign rfl) rfl rfl rfl ?_
              refine WL.nil ?_
              refine WE.then_normal ?_
              refine WC.sub (fr' := [(0, _), (1, _), (7, _), (8, _), (14, _)]) ?_ ⟨rfl, rfl, rfl, rfl, rfl, trivial⟩
              refine WC.seq ?_
              refine WC.region ?_
              refine WL.q (oq_move rfl) rfl rfl rfl ?_
              refine WL.q (oq_assign rfl) rfl rfl rfl ?_
              refine WL.nil ?_
              refine WE.then_normal ?_
              refine WC.sub (fr' := [(0, _), (1, _), (7, _), (8, _), (14, _), (15, _)]) ?_ ⟨rfl, rfl, rfl, rfl, rfl, rfl, trivial⟩
              refine WC.seq ?_
              refine WC.region ?_
              refine WL.q (oq_move rfl) rfl rfl rfl ?_
              refine WL.q (oq_slice_s1 Tryd.underlying9 rfl rfl (by (first | omega | (simp only [List.length_cons, List.length_nil, List.length_append, List.length_drop, List.length_take]; omega)))) rfl rfl rfl ?_
              refine WL.q (oq_assign rfl) rfl rfl rfl ?_
              refine WL.nil ?_
              refine WE.then_normal ?_
              refine WC.sub (fr' := [(0, _), (1, _), (7, _), (8, _), (14, _), (15, _)]) ?_ ⟨rfl, rfl, rfl, rfl, rfl, rfl, trivial⟩
              refine WC.seq ?_
              refine WC.seq ?_
              refine WC.region ?_
              refine WL.q (oq_move rfl) rfl rfl rfl ?_
              refine WL.nil ?_
              refine WE.then_normal ?_
              refine WC.sub (fr' := [(0, _), (1, _), (7, _), (8, _), (14, _), (15, _), (147, _)]) ?_ ⟨rfl, rfl, rfl, rfl, rfl, rfl, rfl, trivial⟩
              refine WC.cond_t rfl ?_
              refine WC.region ?_
              refine WL.q (oq_move rfl) rfl rfl rfl ?_
              refine WL.q (oq_mul rfl rfl (by rw [i64_lo, i64_hi]; (first | omega | (simp only [List.length_cons, List.length_nil, List.length_append, List.length_drop, List.length_take]; omega)))) rfl rfl rfl ?_
              refine WL.q (oq_quo rfl rfl (by rw [i64_hi]; omega)) rfl rfl rfl ?_
              rw [show (3 : Int) * ((k : Int) + 2) / 2 = ((3 * (k + 2) / 2 : Nat) : Int) by omega]
              refine WL.make0 Tryd.underlying22 ty5 rfl rfl (by omega) (by unfold maxLen; omega) rfl rfl fun v42_3 A42_3 ho42_3 hne42_3 => ?_
              refine WL.q (oq_assign rfl) rfl rfl rfl ?_
              refine WL.nil ?_
              refine WE.then_normal ?_
              refine WC.sub (fr' := [(0, _), (1, _), (7, _), (14, _), (15, _)]) ?_ ⟨rfl, rfl, rfl, rfl, rfl, trivial⟩
              refine WC.seq ?_
              refine WC.block ?_
              refine WC.loop (ι := (List UInt8) × (List UInt8) × (List UInt8) × Value × Hp) (fun i_ => (fun (t : List UInt8) (o : List UInt8) (acc : List UInt8) (v : Value) (B : Hp) => [(0, S t), (1, .bool true), (7, .int .u8 34), (14, v), (15, S (34 :: (q ++ [34])))]) i_.1 i_.2.1 i_.2.2.1 i_.2.2.2.1 i_.2.2.2.2) (fun i_ => (fun (t : List UInt8) (o : List UInt8) (acc : List UInt8) (v : Value) (B : Hp) => [B]) i_.1 i_.2.1 i_.2.2.1 i_.2.2.2.1 i_.2.2.2.2) (fun i_ => (fun (t : List UInt8) (o : List UInt8) (acc : List UInt8) (v : Value) (B : Hp) => hq t = (o, some [], false) ∧ acc ++ o = out ∧ Asc t ∧ t.length ≤ q.length + 1 ∧ acc.length + t.length ≤ q.length + 1 ∧ OwS w0.heap.size 5 1 v B acc.length (bytesV acc)) i_.1 i_.2.1 i_.2.2.1 i_.2.2.2.1 i_.2.2.2.2) (fun i_ => (fun (t : List UInt8) (o : List UInt8) (acc : List UInt8) (v : Value) (B : Hp) => t.length) i_.1 i_.2.1 i_.2.2.1 i_.2.2.2.1 i_.2.2.2.2) ((q ++ [34], out, [], _, _)) ?_ ⟨rfl, rfl, rfl, rfl, rfl, trivial⟩ (List.Perm.refl _) ?_
              · try dsimp only
                exact ⟨hq1, rfl, (asc_cons hain).2, by omega, by simp, ho42_3⟩
              · rintro ⟨t, o, acc, v, B⟩ hp
                try dsimp only at hp
                obtain ⟨hqt, hao, hat, htl, hal, ho⟩ := hp
                show WC _ _ _ _ _ _ ([(0, S t), (1, .bool true), (7, .int .u8 34), (14, v), (15, S (34 :: (q ++ [34])))]) ([B])
                have hne := hq_ne hqt
                refine WC.seq ?_
                refine WC.seq ?_
                refine WC.region ?_
                refine WL.q (oq_move rfl) rfl rfl rfl ?_
                refine WL.q (oq_len_s Tryd.underlying9 rfl) rfl rfl rfl ?_
                refine WL.q (oq_gtr rfl rfl) rfl rfl rfl ?_
                refine WL.q (oq_move rfl) rfl rfl rfl ?_
                refine WL.split 155 rfl (fun s43_3 => ?_) (fun s43_3 => ?_)
                ·
                  try simp only [Bool.not_eq_eq_eq_not, Bool.not_true, Bool.not_false, decide_eq_true_eq, decide_eq_false_iff_not, Int.not_lt, Int.not_le, ne_eq, Decidable.not_not, ← List.length_eq_zero_iff] at s43_3
                  refine WL.q (oq_move rfl) rfl rfl rfl ?_
                  refine WL.index_s Tryd.underlying9 rfl rfl (by (first | omega | (simp only [List.length_cons, List.length_nil, List.length_append, List.length_drop, List.length_take]; omega))) rfl rfl fun c43_5 hc43_5 hc43_5l hc43_5u => ?_
                  refine WL.q (oq_move rfl) rfl rfl rfl ?_
                  refine WL.q (oq_neq rfl rfl) rfl rfl rfl ?_
                  refine WL.q (oq_pick_t rfl rfl) rfl rfl rfl ?_
                  refine WL.nil ?_
                  refine WE.then_normal ?_
                  refine WC.sub (fr' := [(0, _), (1, _), (7, _), (14, _), (15, _), (160, _)]) ?_ ⟨rfl, rfl, rfl, rfl, rfl, rfl, trivial⟩
                  refine WC.cond rfl (fun q43 => ?_) (fun q43 => ?_)
                  ·
                    try simp only [Bool.not_eq_eq_eq_not, Bool.not_true, Bool.not_false, decide_eq_true_eq, decide_eq_false_iff_not, Int.not_lt, Int.not_le, ne_eq, Decidable.not_not, ← List.length_eq_zero_iff] at q43
                    refine WC.skip ?_
                    refine WE.then_normal ?_
                    refine WC.sub (fr' := [(0, _), (1, _), (7, _), (14, _), (15, _)]) ?_ ⟨rfl, rfl, rfl, rfl, rfl, trivial⟩
                    refine WC.block ?_
                    refine WC.seq ?_
                    obtain ⟨ho1, hq2, hlt, hdr, hcs⟩ := hq_un1 hqt (fun r e => by subst e; have h9 : byteAt (34 :: r) 0 = 34 := rfl; omega)
                    have hn10 := hq_un10 hcs
                    have hb1 := (un1 t).1.toNat_lt
                    refine WC.region ?_
                    refine WL.q (oq_move rfl) rfl rfl rfl ?_
                    refine WL.q (oq_move rfl) rfl rfl rfl ?_
                    refine WL.qc (oq_call (uqChar t (by omega) hat hcs) call110 rfl) rfl rfl rfl ?_
                    refine WL.q (oq_move rfl) rfl rfl rfl ?_
                    refine WL.q (oq_extract rfl rfl) rfl rfl rfl ?_
                    refine WL.q (oq_extract rfl rfl) rfl rfl rfl ?_
                    refine WL.q (oq_extract rfl rfl) rfl rfl rfl ?_
                    refine WL.q (oq_extract rfl rfl) rfl rfl rfl ?_
                    refine WL.q (oq_assign rfl) rfl rfl rfl ?_
                    refine WL.q (oq_assign rfl) rfl rfl rfl ?_
                    refine WL.q (oq_assign rfl) rfl rfl rfl ?_
                    refine WL.q (oq_assign rfl) rfl rfl rfl ?_
                    refine WL.nil ?_
                    refine WE.then_normal ?_
                    refine WC.sub (fr' := [(0, _), (1, _), (7, _), (14, _), (15, _), (16, _), (17, _), (18, _), (19, _)]) ?_ ⟨rfl, rfl, rfl, rfl, rfl, rfl, rfl, rfl, rfl, trivial⟩
                    refine WC.seq ?_
                    refine WC.seq ?_
                    refine WC.region ?_
                    refine WL.q (oq_move rfl) rfl rfl rfl ?_
                    refine WL.index_s Tryd.underlying9 rfl rfl (by (first | omega | (simp only [List.length_cons, List.length_nil, List.length_append, List.length_drop, List.length_take]; omega))) rfl rfl fun c45_1 hc45_1 hc45_1l hc45_1u => ?_
                    refine WL.q (oq_eql rfl rfl) rfl rfl rfl ?_
                    refine WL.q (oq_move rfl) rfl rfl rfl ?_
                    refine WL.split 172 rfl (fun s45_3 => ?_) (fun s45_3 => ?_)
                    ·
                      try simp only [Bool.not_eq_eq_eq_not, Bool.not_true, Bool.not_false, decide_eq_true_eq, decide_eq_false_iff_not, Int.not_lt, Int.not_le, ne_eq, Decidable.not_not, ← List.length_eq_zero_iff] at s45_3
                      refine WL.skip rfl rfl rfl ?_
                      refine WL.skip rfl rfl rfl ?_
                      refine WL.q (oq_pick_t rfl rfl) rfl rfl rfl ?_
                      refine WL.nil ?_
                      refine WE.then_normal ?_
                      refine WC.sub (fr' := [(1, _), (7, _), (14, _), (15, _), (16, _), (17, _), (18, _), (175, _)]) ?_ ⟨rfl, rfl, rfl, rfl, rfl, rfl, rfl, rfl, trivial⟩
                      refine WC.cond_t rfl ?_
                      refine WC.seq ?_
                      first | contradiction | (exfalso; omega) | (exfalso; simp only [List.length_cons, List.length_append, List.length_drop, List.length_take, List.length_nil] at *; omega) | (exfalso; simp_all; done)
                    ·
                      try simp only [Bool.not_eq_eq_eq_not, Bool.not_true, Bool.not_false, decide_eq_true_eq, decide_eq_false_iff_not, Int.not_lt, Int.not_le, ne_eq, Decidable.not_not, ← List.length_eq_zero_iff] at s45_3
                      refine WL.q (oq_move rfl) rfl rfl rfl ?_
                      refine WL.q (oq_ineq Tryd.underlying53 rfl (.inl rfl)) rfl rfl rfl ?_
                      refine WL.q (oq_pick_f rfl rfl) rfl rfl rfl ?_
                      refine WL.nil ?_
                      refine WE.then_normal ?_
                      refine WC.sub (fr' := [(1, _), (7, _), (14, _), (15, _), (16, _), (17, _), (18, _), (175, _)]) ?_ ⟨rfl, rfl, rfl, rfl, rfl, rfl, rfl, rfl, trivial⟩
                      refine WC.cond rfl (fun q45 => ?_) (fun q45 => ?_)
                      ·
                        try simp only [Bool.not_eq_eq_eq_not, Bool.not_true, Bool.not_false, decide_eq_true_eq, decide_eq_false_iff_not, Int.not_lt, Int.not_le, ne_eq, Decidable.not_not, ← List.length_eq_zero_iff] at q45
                        first | contradiction | (exfalso; omega) | (exfalso; simp_all [nilI]; done)
                      ·
                        try simp only [Bool.not_eq_eq_eq_not, Bool.not_true, Bool.not_false, decide_eq_true_eq, decide_eq_false_iff_not, Int.not_lt, Int.not_le, ne_eq, Decidable.not_not, ← List.length_eq_zero_iff] at q45
                        refine WC.skip ?_
                        refine WE.then_normal ?_
                        refine WC.sub (fr' := [(1, _), (7, _), (14, _), (15, _), (16, _), (17, _), (18, _)]) ?_ ⟨rfl, rfl, rfl, rfl, rfl, rfl, rfl, trivial⟩
                        refine WC.seq ?_
                        refine WC.region ?_
                        refine WL.q (oq_move rfl) rfl rfl rfl ?_
                        refine WL.q (oq_assign rfl) rfl rfl rfl ?_
                        refine WL.nil ?_
                        refine WE.then_normal ?_
                        refine WC.sub (fr' := [(0, _), (1, _), (7, _), (14, _), (15, _), (16, _), (17, _)]) ?_ ⟨rfl, rfl, rfl, rfl, rfl, rfl, rfl, trivial⟩
                        refine WC.seq ?_
                        refine WC.seq ?_
                        refine WC.region ?_
                        refine WL.q (oq_move rfl) rfl rfl rfl ?_
                        refine WL.nil ?_
                        refine WE.then_normal ?_
                        refine WC.sub (fr' := [(0, _), (1, _), (7, _), (14, _), (15, _), (16, _), (17, _), (179, _)]) ?_ ⟨rfl, rfl, rfl, rfl, rfl, rfl, rfl, rfl, trivial⟩
                        refine WC.cond_t rfl ?_
                        refine WC.seq ?_
                        refine WC.region ?_
                        refine WL.q (oq_move rfl) rfl rfl rfl ?_
                        refine WL.q (oq_lss rfl rfl) rfl rfl rfl ?_
                        refine WL.q (oq_move rfl) rfl rfl rfl ?_
                        refine WL.split 182 rfl (fun s49_2 => ?_) (fun s49_2 => ?_)
                        ·
                          try simp only [Bool.not_eq_eq_eq_not, Bool.not_true, Bool.not_false, decide_eq_true_eq, decide_eq_false_iff_not, Int.not_lt, Int.not_le, ne_eq, Decidable.not_not, ← List.length_eq_zero_iff] at s49_2
                          refine WL.skip rfl rfl rfl ?_
                          refine WL.skip rfl rfl rfl ?_
                          refine WL.q (oq_pick_t rfl rfl) rfl rfl rfl ?_
                          refine WL.nil ?_
                          refine WE.then_normal ?_
                          refine WC.sub (fr' := [(0, _), (1, _), (7, _), (14, _), (15, _), (16, _), (185, _)]) ?_ ⟨rfl, rfl, rfl, rfl, rfl, rfl, rfl, trivial⟩
                          refine WC.cond_t rfl ?_
                          refine WC.region ?_
                          refine WL.q (oq_move rfl) rfl rfl rfl ?_
                          refine WL.q (oq_move rfl) rfl rfl rfl ?_
                          refine WL.q (oq_conv Tryd.underlying21 Tryd.underlying5 rfl (by rw [u8_lo, u8_hi]; (first | omega | (simp only [List.length_cons, List.length_nil, List.length_append, List.length_drop, List.length_take]; omega)))) rfl rfl rfl ?_
                          refine WL.append1 ho Tryd.underlying22 ty5 rfl (by decide) (fun _ => rfl) rfl rfl (by unfold maxLen; omega) (by omega) rfl rfl (fun _ => rfl) rfl fun v50 A50 u50 ho50 hne50 => ?_
                          refine WL.q (oq_assign rfl) rfl rfl rfl ?_
                          refine WL.nil ?_
                          refine WE.then_normal ?_
                          refine WC.sub (fr' := [(0, _), (1, _), (7, _), (14, _), (15, _)]) ?_ ⟨rfl, rfl, rfl, rfl, rfl, trivial⟩
                          refine WC.seq ?_
                          refine WC.region ?_
                          refine WL.q (oq_move rfl) rfl rfl rfl ?_
                          refine WL.q (oq_eql rfl rfl) rfl rfl rfl ?_
                          refine WL.nil ?_
                          refine WE.then_normal ?_
                          refine WC.sub (fr' := [(0, _), (1, _), (7, _), (14, _), (15, _), (195, _)]) ?_ ⟨rfl, rfl, rfl, rfl, rfl, rfl, trivial⟩
                          refine WC.cond rfl (fun q52 => ?_) (fun q52 => ?_)
                          ·
                            try simp only [Bool.not_eq_eq_eq_not, Bool.not_true, Bool.not_false, decide_eq_true_eq, decide_eq_false_iff_not, Int.not_lt, Int.not_le, ne_eq, Decidable.not_not, ← List.length_eq_zero_iff] at q52
                            first | contradiction | (exfalso; omega) | (exfalso; simp_all [nilI]; done)
                          ·
                            try simp only [Bool.not_eq_eq_eq_not, Bool.not_true, Bool.not_false, decide_eq_true_eq, decide_eq_false_iff_not, Int.not_lt, Int.not_le, ne_eq, Decidable.not_not, ← List.length_eq_zero_iff] at q52
                            refine WC.skip ?_
                            refine WE.block_normal ?_
                            refine WE.again ((un1 t).2, (hq (un1 t).2).1, acc ++ [(un1 t).1], _, _) ?_ ?_ ⟨rfl, rfl, rfl, rfl, rfl, trivial⟩ (List.Perm.refl _)
                            · try dsimp only   -- again 2
                              exact ⟨hq2, by rw [← hao, ho1, List.append_assoc]; rfl, by rw [hdr]; exact asc_drop hat _, by omega, by simp; omega, by have := ho50; simpa [bytesV] using this⟩
                            · (try dsimp only); omega
                        ·
                          try simp only [Bool.not_eq_eq_eq_not, Bool.not_true, Bool.not_false, decide_eq_true_eq, decide_eq_false_iff_not, Int.not_lt, Int.not_le, ne_eq, Decidable.not_not, ← List.length_eq_zero_iff] at s49_2
                          refine WL.q (oq_move rfl) rfl rfl rfl ?_
                          refine WL.q (oq_not rfl) rfl rfl rfl ?_
                          refine WL.q (oq_pick_f rfl rfl) rfl rfl rfl ?_
                          refine WL.nil ?_
                          refine WE.then_normal ?_
                          refine WC.sub (fr' := [(0, _), (1, _), (7, _), (14, _), (15, _), (16, _), (185, _)]) ?_ ⟨rfl, rfl, rfl, rfl, rfl, rfl, rfl, trivial⟩
                          refine WC.cond rfl (fun q49 => ?_) (fun q49 => ?_)
                          ·
                            try simp only [Bool.not_eq_eq_eq_not, Bool.not_true, Bool.not_false, decide_eq_true_eq, decide_eq_false_iff_not, Int.not_lt, Int.not_le, ne_eq, Decidable.not_not, ← List.length_eq_zero_iff] at q49
                            refine WC.region ?_
                            refine WL.q (oq_move rfl) rfl rfl rfl ?_
                            refine WL.q (oq_move rfl) rfl rfl rfl ?_
                            refine WL.q (oq_conv Tryd.underlying21 Tryd.underlying5 rfl (by rw [u8_lo, u8_hi]; (first | omega | (simp only [List.length_cons, List.length_nil, List.length_append, List.length_drop, List.length_take]; omega)))) rfl rfl rfl ?_
                            refine WL.append1 ho Tryd.underlying22 ty5 rfl (by decide) (fun _ => rfl) rfl rfl (by unfold maxLen; omega) (by omega) rfl rfl (fun _ => rfl) rfl fun v50 A50 u50 ho50 hne50 => ?_
                            refine WL.q (oq_assign rfl) rfl rfl rfl ?_
                            refine WL.nil ?_
                            refine WE.then_normal ?_
                            refine WC.sub (fr' := [(0, _), (1, _), (7, _), (14, _), (15, _)]) ?_ ⟨rfl, rfl, rfl, rfl, rfl, trivial⟩
                            refine WC.seq ?_
                            refine WC.region ?_
                            refine WL.q (oq_move rfl) rfl rfl rfl ?_
                            refine WL.q (oq_eql rfl rfl) rfl rfl rfl ?_
                            refine WL.nil ?_
                            refine WE.then_normal ?_
                            refine WC.sub (fr' := [(0, _), (1, _), (7, _), (14, _), (15, _), (195, _)]) ?_ ⟨rfl, rfl, rfl, rfl, rfl, rfl, trivial⟩
                            refine WC.cond rfl (fun q52 => ?_) (fun q52 => ?_)
                            ·
                              try simp only [Bool.not_eq_eq_eq_not, Bool.not_true, Bool.not_false, decide_eq_true_eq, decide_eq_false_iff_not, Int.not_lt, Int.not_le, ne_eq, Decidable.not_not, ← List.length_eq_zero_iff] at q52
                              first | contradiction | (exfalso; omega) | (exfalso; simp_all [nilI]; done)
                            ·
                              try simp only [Bool.not_eq_eq_eq_not, Bool.not_true, Bool.not_false, decide_eq_true_eq, decide_eq_false_iff_not, Int.not_lt, Int.not_le, ne_eq, Decidable.not_not, ← List.length_eq_zero_iff] at q52
                              refine WC.skip ?_
                              refine WE.block_normal ?_
                              refine WE.again ((un1 t).2, (hq (un1 t).2).1, acc ++ [(un1 t).1], _, _) ?_ ?_ ⟨rfl, rfl, rfl, rfl, rfl, trivial⟩ (List.Perm.refl _)
                              · try dsimp only   -- again 3
                                exact ⟨hq2, by rw [← hao, ho1, List.append_assoc]; rfl, by rw [hdr]; exact asc_drop hat _, by omega, by simp; omega, by have := ho50; simpa [bytesV] using this⟩
                              · (try dsimp only); omega
                          ·
                            try simp only [Bool.not_eq_eq_eq_not, Bool.not_true, Bool.not_false, decide_eq_true_eq, decide_eq_false_iff_not, Int.not_lt, Int.not_le, ne_eq, Decidable.not_not, ← List.length_eq_zero_iff] at q49
                            first | contradiction | (exfalso; omega) | (exfalso; simp_all [nilI]; done)
                  ·
                    try simp only [Bool.not_eq_eq_eq_not, Bool.not_true, Bool.not_false, decide_eq_true_eq, decide_eq_false_iff_not, Int.not_lt, Int.not_le, ne_eq, Decidable.not_not, ← List.length_eq_zero_iff] at q43
                    refine WC.exit ?_
                    refine WE.then_exit ?_
                    refine WE.then_exit ?_
                    refine WE.block_same ?_
                    refine WE.then_normal ?_
                    refine WC.sub (fr' := [(0, _), (1, _), (7, _), (14, _), (15, _)]) ?_ ⟨rfl, rfl, rfl, rfl, rfl, trivial⟩
                    refine WC.seq ?_
                    refine WC.seq ?_
                    refine WC.region ?_
                    refine WL.q (oq_move rfl) rfl rfl rfl ?_
                    refine WL.q (oq_len_s Tryd.underlying9 rfl) rfl rfl rfl ?_
                    refine WL.q (oq_gtr rfl rfl) rfl rfl rfl ?_
                    refine WL.q (oq_move rfl) rfl rfl rfl ?_
                    refine WL.split 199 rfl (fun s53_3 => ?_) (fun s53_3 => ?_)
                    ·
                      try simp only [Bool.not_eq_eq_eq_not, Bool.not_true, Bool.not_false, decide_eq_true_eq, decide_eq_false_iff_not, Int.not_lt, Int.not_le, ne_eq, Decidable.not_not, ← List.length_eq_zero_iff] at s53_3
                      refine WL.q (oq_move rfl) rfl rfl rfl ?_
                      refine WL.index_s Tryd.underlying9 rfl rfl (by (first | omega | (simp only [List.length_cons, List.length_nil, List.length_append, List.length_drop, List.length_take]; omega))) rfl rfl fun c53_5 hc53_5 hc53_5l hc53_5u => ?_
                      refine WL.q (oq_move rfl) rfl rfl rfl ?_
                      refine WL.q (oq_eql rfl rfl) rfl rfl rfl ?_
                      refine WL.q (oq_pick_t rfl rfl) rfl rfl rfl ?_
                      refine WL.q (oq_not rfl) rfl rfl rfl ?_
                      refine WL.nil ?_
                      refine WE.then_normal ?_
                      refine WC.sub (fr' := [(0, _), (1, _), (14, _), (15, _), (205, _)]) ?_ ⟨rfl, rfl, rfl, rfl, rfl, trivial⟩
                      refine WC.cond rfl (fun q53 => ?_) (fun q53 => ?_)
                      ·
                        try simp only [Bool.not_eq_eq_eq_not, Bool.not_true, Bool.not_false, decide_eq_true_eq, decide_eq_false_iff_not, Int.not_lt, Int.not_le, ne_eq, Decidable.not_not, ← List.length_eq_zero_iff] at q53
                        refine WC.seq ?_
                        first | contradiction | (exfalso; omega) | (exfalso; simp only [List.length_cons, List.length_append, List.length_drop, List.length_take, List.length_nil] at *; omega) | (exfalso; simp_all; done)
                      ·
                        try simp only [Bool.not_eq_eq_eq_not, Bool.not_true, Bool.not_false, decide_eq_true_eq, decide_eq_false_iff_not, Int.not_lt, Int.not_le, ne_eq, Decidable.not_not, ← List.length_eq_zero_iff] at q53
                        refine WC.skip ?_
                        refine WE.then_normal ?_
                        refine WC.sub (fr' := [(0, _), (1, _), (14, _), (15, _)]) ?_ ⟨rfl, rfl, rfl, rfl, trivial⟩
                        refine WC.seq ?_
                        refine WC.region ?_
                        refine WL.q (oq_move rfl) rfl rfl rfl ?_
                        refine WL.q (oq_slice_s1 Tryd.underlying9 rfl rfl (by (first | omega | (simp only [List.length_cons, List.length_nil, List.length_append, List.length_drop, List.length_take]; omega)))) rfl rfl rfl ?_
                        refine WL.q (oq_assign rfl) rfl rfl rfl ?_
                        refine WL.nil ?_
                        refine WE.then_normal ?_
                        refine WC.sub (fr' := [(0, _), (1, _), (14, _), (15, _)]) ?_ ⟨rfl, rfl, rfl, rfl, trivial⟩
                        refine WC.seq ?_
                        refine WC.seq ?_
                        refine WC.region ?_
                        refine WL.q (oq_move rfl) rfl rfl rfl ?_
                        refine WL.nil ?_
                        refine WE.then_normal ?_
                        refine WC.sub (fr' := [(0, _), (14, _), (15, _), (210, _)]) ?_ ⟨rfl, rfl, rfl, rfl, trivial⟩
                        refine WC.cond_t rfl ?_
                        refine WC.seq ?_
                        refine WC.region ?_
                        refine WL.q (oq_move rfl) rfl rfl rfl ?_
                        refine WL.q (oq_bytesStr ho.rd (.head _) Tryd.underlying9 Tryd.underlying22 Tryd.underlying5 rfl) rfl rfl rfl ?_
                        refine WL.q (oq_move rfl) rfl rfl rfl ?_
                        refine WL.q (oq_assign rfl) rfl rfl rfl ?_
                        refine WL.q (oq_assign rfl) rfl rfl rfl ?_
                        refine WL.q (oq_assign rfl) rfl rfl rfl ?_
                        refine WL.nil ?_
                        refine WE.then_normal ?_
                        refine WC.sub (fr' := [(4, _), (5, _), (6, _)]) ?_ ⟨rfl, rfl, rfl, trivial⟩
                        refine WC.ret ?_
                        refine WE.then_ret ?_
                        refine WE.block_ret ?_
                        refine WE.forget ho.fresh ?_
                        refine WE.end0 (.inl rfl) (res3 Tryd.results96 rfl rfl rfl) ?_
                        -- end 3
                        first
                          | (exfalso; omega)
                          | (obtain ⟨r, rfl⟩ := head34 hne (by omega)
                             obtain ⟨rfl, rfl⟩ := hq_end hqt
                             rw [← hao, List.append_nil]; rfl)
                    ·
                      try simp only [Bool.not_eq_eq_eq_not, Bool.not_true, Bool.not_false, decide_eq_true_eq, decide_eq_false_iff_not, Int.not_lt, Int.not_le, ne_eq, Decidable.not_not, ← List.length_eq_zero_iff] at s53_3
                      refine WL.skip rfl rfl rfl ?_
                      refine WL.skip rfl rfl rfl ?_
                      refine WL.skip rfl rfl rfl ?_
                      refine WL.skip rfl rfl rfl ?_
                      refine WL.q (oq_pick_f rfl rfl) rfl rfl rfl ?_
                      refine WL.q (oq_not rfl) rfl rfl rfl ?_
                      refine WL.nil ?_
                      refine WE.then_normal ?_
                      refine WC.sub (fr' := [(0, _), (1, _), (14, _), (15, _), (205, _)]) ?_ ⟨rfl, rfl, rfl, rfl, rfl, trivial⟩
                      refine WC.cond_t rfl ?_
                      refine WC.seq ?_
                      first | contradiction | (exfalso; omega) | (exfalso; simp only [List.length_cons, List.length_append, List.length_drop, List.length_take, List.length_nil] at *; omega) | (exfalso; simp_all; done)
                ·
                  try simp only [Bool.not_eq_eq_eq_not, Bool.not_true, Bool.not_false, decide_eq_true_eq, decide_eq_false_iff_not, Int.not_lt, Int.not_le, ne_eq, Decidable.not_not, ← List.length_eq_zero_iff] at s43_3
                  refine WL.skip rfl rfl rfl ?_
                  refine WL.skip rfl rfl rfl ?_
                  refine WL.skip rfl rfl rfl ?_
                  refine WL.skip rfl rfl rfl ?_
                  refine WL.q (oq_pick_f rfl rfl) rfl rfl rfl ?_
                  refine WL.nil ?_
                  refine WE.then_normal ?_
                  refine WC.sub (fr' := [(0, _), (1, _), (7, _), (14, _), (15, _), (160, _)]) ?_ ⟨rfl, rfl, rfl, rfl, rfl, rfl, trivial⟩
                  refine WC.cond_f rfl ?_
                  refine WC.exit ?_
                  refine WE.then_exit ?_
                  refine WE.then_exit ?_
                  refine WE.block_same ?_
                  refine WE.then_normal ?_
                  refine WC.sub (fr' := [(0, _), (1, _), (7, _), (14, _), (15, _)]) ?_ ⟨rfl, rfl, rfl, rfl, rfl, trivial⟩
                  refine WC.seq ?_
                  refine WC.seq ?_
                  refine WC.region ?_
                  refine WL.q (oq_move rfl) rfl rfl rfl ?_
                  refine WL.q (oq_len_s Tryd.underlying9 rfl) rfl rfl rfl ?_
                  refine WL.q (oq_gtr rfl rfl) rfl rfl rfl ?_
                  refine WL.q (oq_move rfl) rfl rfl rfl ?_
                  refine WL.split 199 rfl (fun s53_3 => ?_) (fun s53_3 => ?_)
                  ·
                    try simp only [Bool.not_eq_eq_eq_not, Bool.not_true, Bool.not_false, decide_eq_true_eq, decide_eq_false_iff_not, Int.not_lt, Int.not_le, ne_eq, Decidable.not_not, ← List.length_eq_zero_iff] at s53_3
                    refine WL.q (oq_move rfl) rfl rfl rfl ?_
                    refine WL.index_s Tryd.underlying9 rfl rfl (by (first | omega | (simp only [List.length_cons, List.length_nil, List.length_append, List.length_drop, List.length_take]; omega))) rfl rfl fun c53_5 hc53_5 hc53_5l hc53_5u => ?_
                    refine WL.q (oq_move rfl) rfl rfl rfl ?_
                    refine WL.q (oq_eql rfl rfl) rfl rfl rfl ?_
                    refine WL.q (oq_pick_t rfl rfl) rfl rfl rfl ?_
                    refine WL.q (oq_not rfl) rfl rfl rfl ?_
                    refine WL.nil ?_
                    refine WE.then_normal ?_
                    refine WC.sub (fr' := [(0, _), (1, _), (14, _), (15, _), (205, _)]) ?_ ⟨rfl, rfl, rfl, rfl, rfl, trivial⟩
                    refine WC.cond rfl (fun q53 => ?_) (fun q53 => ?_)
                    ·
                      try simp only [Bool.not_eq_eq_eq_not, Bool.not_true, Bool.not_false, decide_eq_true_eq, decide_eq_false_iff_not, Int.not_lt, Int.not_le, ne_eq, Decidable.not_not, ← List.length_eq_zero_iff] at q53
                      refine WC.seq ?_
                      first | contradiction | (exfalso; omega) | (exfalso; simp only [List.length_cons, List.length_append, List.length_drop, List.length_take, List.length_nil] at *; omega) | (exfalso; simp_all; done)
                    ·
                      try simp only [Bool.not_eq_eq_eq_not, Bool.not_true, Bool.not_false, decide_eq_true_eq, decide_eq_false_iff_not, Int.not_lt, Int.not_le, ne_eq, Decidable.not_not, ← List.length_eq_zero_iff] at q53
                      refine WC.skip ?_
                      refine WE.then_normal ?_
                      refine WC.sub (fr' := [(0, _), (1, _), (14, _), (15, _)]) ?_ ⟨rfl, rfl, rfl, rfl, trivial⟩
                      refine WC.seq ?_
                      refine WC.region ?_
                      refine WL.q (oq_move rfl) rfl rfl rfl ?_
                      refine WL.q (oq_slice_s1 Tryd.underlying9 rfl rfl (by (first | omega | (simp only [List.length_cons, List.length_nil, List.length_append, List.length_drop, List.length_take]; omega)))) rfl rfl rfl ?_
                      refine WL.q (oq_assign rfl) rfl rfl rfl ?_
                      refine WL.nil ?_
                      refine WE.then_normal ?_
                      refine WC.sub (fr' := [(0, _), (1, _), (14, _), (15, _)]) ?_ ⟨rfl, rfl, rfl, rfl, trivial⟩
                      refine WC.seq ?_
                      refine WC.seq ?_
                      refine WC.region ?_
                      refine WL.q (oq_move rfl) rfl rfl rfl ?_
                      refine WL.nil ?_
                      refine WE.then_normal ?_
                      refine WC.sub (fr' := [(0, _), (14, _), (15, _), (210, _)]) ?_ ⟨rfl, rfl, rfl, rfl, trivial⟩
                      refine WC.cond_t rfl ?_
                      refine WC.seq ?_
                      refine WC.region ?_
                      refine WL.q (oq_move rfl) rfl rfl rfl ?_
                      refine WL.q (oq_bytesStr ho.rd (.head _) Tryd.underlying9 Tryd.underlying22 Tryd.underlying5 rfl) rfl rfl rfl ?_
                      refine WL.q (oq_move rfl) rfl rfl rfl ?_
                      refine WL.q (oq_assign rfl) rfl rfl rfl ?_
                      refine WL.q (oq_assign rfl) rfl rfl rfl ?_
                      refine WL.q (oq_assign rfl) rfl rfl rfl ?_
                      refine WL.nil ?_
                      refine WE.then_normal ?_
                      refine WC.sub (fr' := [(4, _), (5, _), (6, _)]) ?_ ⟨rfl, rfl, rfl, trivial⟩
                      refine WC.ret ?_
                      refine WE.then_ret ?_
                      refine WE.block_ret ?_
                      refine WE.forget ho.fresh ?_
                      refine WE.end0 (.inl rfl) (res3 Tryd.results96 rfl rfl rfl) ?_
                      -- end 4
                      first
                        | (exfalso; omega)
                        | (obtain ⟨r, rfl⟩ := head34 hne (by omega)
                           obtain ⟨rfl, rfl⟩ := hq_end hqt
                           rw [← hao, List.append_nil]; rfl)
                  ·
                    try simp only [Bool.not_eq_eq_eq_not, Bool.not_true, Bool.not_false, decide_eq_true_eq, decide_eq_false_iff_not, Int.not_lt, Int.not_le, ne_eq, Decidable.not_not, ← List.length_eq_zero_iff] at s53_3
                    refine WL.skip rfl rfl rfl ?_
                    refine WL.skip rfl rfl rfl ?_
                    refine WL.skip rfl rfl rfl ?_
                    refine WL.skip rfl rfl rfl ?_
                    refine WL.q (oq_pick_f rfl rfl) rfl rfl rfl ?_
                    refine WL.q (oq_not rfl) rfl rfl rfl ?_
                    refine WL.nil ?_
                    refine WE.then_normal ?_
                    refine WC.sub (fr' := [(0, _), (1, _), (14, _), (15, _), (205, _)]) ?_ ⟨rfl, rfl, rfl, rfl, rfl, trivial⟩
                    refine WC.cond_t rfl ?_
                    refine WC.seq ?_
                    first | contradiction | (exfalso; omega) | (exfalso; simp only [List.length_cons, List.length_append, List.length_drop, List.length_take, List.length_nil] at *; omega) | (exfalso; simp_all; done)
          ·
            try simp only [Bool.not_eq_eq_eq_not, Bool.not_true, Bool.not_false, decide_eq_true_eq, decide_eq_false_iff_not, Int.not_lt, Int.not_le, ne_eq, Decidable.not_not, ← List.length_eq_zero_iff] at q23
            first | contradiction | (exfalso; omega) | (exfalso; simp_all [nilI]; done)
        ·
          try simp only [Bool.not_eq_eq_eq_not, Bool.not_true, Bool.not_false, decide_eq_true_eq, decide_eq_false_iff_not, Int.not_lt, Int.not_le, ne_eq, Decidable.not_not, ← List.length_eq_zero_iff] at q23
          first | contradiction | (exfalso; omega) | (exfalso; simp_all [nilI]; done)

end KV
end Go.Proofs.YtcgpajknehhdgaaDoor
