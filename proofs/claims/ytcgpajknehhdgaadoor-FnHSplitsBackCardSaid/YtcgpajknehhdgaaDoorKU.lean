/- Walks of the taking of quotes off a text. -/
import Derived.Test.YtcgpajknehhdgaaDoorKP
import Derived.Test.YtcgpajknehhdgaaDoorH0
import Derived.Test.YtcgpajknehhdgaaDoorVK
import Derived.Test.YtcgpajknehhdgaaDoorVA
namespace Go.Proofs.YtcgpajknehhdgaaDoor
open Go Go.RowKit V KP H1 H2 H0
set_option linter.unusedSimpArgs false
set_option linter.unusedVariables false
set_option maxRecDepth 10000
namespace KU
theorem call107 : Callable Tryd.prog 107 := ⟨_, Tryd.func107, rfl, by kernel_rfl⟩
theorem call116 : Callable Tryd.prog 116 := ⟨_, Tryd.func116, rfl, by kernel_rfl⟩

def sh8 (k x : Int) : Int := IntKind.u64.wrap (x * 2 ^ min (Int.toNat k) IntKind.u64.bits)
def or8 (a b : Int) : Int := bitOp BinOp.or IntKind.u64 a b
/-- eight bytes of a text as one number -/
def wd (s : List UInt8) : Int := or8 (or8 (or8 (or8 (or8 (or8 (or8 (byteAt s 0) (sh8 8 (byteAt s 1))) (sh8 16 (byteAt s 2))) (sh8 24 (byteAt s 3))) (sh8 32 (byteAt s 4))) (sh8 40 (byteAt s 5))) (sh8 48 (byteAt s 6))) (sh8 56 (byteAt s 7))
theorem asc_dropI {s : List UInt8} (h : Asc s) (k : Int) : Asc (s.drop k.toNat) := asc_drop h _
theorem asc0 {s : List UInt8} (h : Asc s) (hl : 0 < s.length) : byteAt s 0 < 128 := h 0 hl
/-- strconv.index -/
theorem sindex (s : List UInt8) (c : Int) : Fn0 Tryd.prog 107 [S s, .int .u8 c] (I (Lib.indexByte s c.toNat.toUInt8)) := by
  refine Fn0.enter (n := 8) Tryd.func107 rfl rfl fun w0 => ?_
  refine WC.sub (fr' := [(0, _), (1, _)]) ?_ ⟨rfl, rfl, trivial⟩
  refine WC.seq ?_
  refine WC.region ?_
  refine WL.q (oq_assign rfl) rfl rfl rfl ?_
  refine WL.nil ?_
  refine WE.then_normal ?_
  refine WC.sub (fr' := [(0, _), (1, _)]) ?_ ⟨rfl, rfl, trivial⟩
  refine WC.seq ?_
  refine WC.region ?_
  refine WL.q (oq_move rfl) rfl rfl rfl ?_
  refine WL.q (oq_move rfl) rfl rfl rfl ?_
  refine WL.q (oq_extIB Tryd.func104 (by kernel_rfl) (by kernel_rfl) (by kernel_rfl) (by kernel_rfl) rfl rfl) rfl rfl rfl ?_
  refine WL.q (oq_assign rfl) rfl rfl rfl ?_
  refine WL.nil ?_
  refine WE.then_normal ?_
  refine WC.sub (fr' := [(4, _)]) ?_ ⟨rfl, trivial⟩
  refine WC.ret ?_
  refine WE.end0 (.inl rfl) (res1 Tryd.results107 rfl) ?_
  -- end 0
  rfl

/-- strconv.contains -/
theorem scontains (s : List UInt8) (c : Int) : Fn0 Tryd.prog 108 [S s, .int .u8 c] (.bool (decide (Lib.indexByte s c.toNat.toUInt8 ≠ -1))) := by
  refine Fn0.enter (n := 9) Tryd.func108 rfl rfl fun w0 => ?_
  refine WC.sub (fr' := [(0, _), (1, _)]) ?_ ⟨rfl, rfl, trivial⟩
  refine WC.seq ?_
  refine WC.region ?_
  refine WL.q (oq_assign rfl) rfl rfl rfl ?_
  refine WL.nil ?_
  refine WE.then_normal ?_
  refine WC.sub (fr' := [(0, _), (1, _)]) ?_ ⟨rfl, rfl, trivial⟩
  refine WC.seq ?_
  refine WC.region ?_
  refine WL.q (oq_move rfl) rfl rfl rfl ?_
  refine WL.q (oq_move rfl) rfl rfl rfl ?_
  refine WL.qc (oq_call (sindex s c) call107 rfl) rfl rfl rfl ?_
  refine WL.q (oq_neq rfl rfl) rfl rfl rfl ?_
  refine WL.q (oq_assign rfl) rfl rfl rfl ?_
  refine WL.nil ?_
  refine WE.then_normal ?_
  refine WC.sub (fr' := [(4, _)]) ?_ ⟨rfl, trivial⟩
  refine WC.ret ?_
  refine WE.end0 (.inl rfl) (res1 Tryd.results108 rfl) ?_
  -- end 0
  rfl

/-- unicode/utf8.word[string] -/
theorem word (s : List UInt8) (h : 8 ≤ s.length) : Fn0 Tryd.prog 116 [S s] (.int .u64 (wd s)) := by
  refine Fn0.enter (n := 59) Tryd.func116 rfl rfl fun w0 => ?_
  refine WC.sub (fr' := [(0, _)]) ?_ ⟨rfl, trivial⟩
  refine WC.seq ?_
  refine WC.region ?_
  refine WL.q (oq_assign rfl) rfl rfl rfl ?_
  refine WL.nil ?_
  refine WE.then_normal ?_
  refine WC.sub (fr' := [(0, _)]) ?_ ⟨rfl, trivial⟩
  refine WC.seq ?_
  refine WC.cond rfl (fun q0 => ?_) (fun q0 => ?_)
  ·
    try simp only [Bool.not_eq_eq_eq_not, Bool.not_true, Bool.not_false, decide_eq_true_eq, decide_eq_false_iff_not, Int.not_lt, Int.not_le, ne_eq, Decidable.not_not, ← List.length_eq_zero_iff] at q0
    refine WC.seq ?_
    first | contradiction | (exfalso; omega) | (exfalso; simp only [List.length_cons, List.length_append, List.length_drop, List.length_take, List.length_nil] at *; omega) | (exfalso; simp_all; done)
  ·
    try simp only [Bool.not_eq_eq_eq_not, Bool.not_true, Bool.not_false, decide_eq_true_eq, decide_eq_false_iff_not, Int.not_lt, Int.not_le, ne_eq, Decidable.not_not, ← List.length_eq_zero_iff] at q0
    refine WC.skip ?_
    refine WE.then_normal ?_
    refine WC.sub (fr' := [(0, _)]) ?_ ⟨rfl, trivial⟩
    refine WC.seq ?_
    refine WC.quiet (by kernel_rfl) (by kernel_rfl) ?_
    refine WQ.q (oq_move rfl) rfl rfl rfl ?_
    refine WQ.index_s Tryd.underlying9 rfl rfl (by (first | omega | (simp only [List.length_cons, List.length_nil, List.length_append, List.length_drop, List.length_take]; omega))) rfl rfl fun c2_1 hc2_1 hc2_1l hc2_1u => ?_
    refine WQ.q (oq_conv Tryd.underlying5 Tryd.underlying62 rfl (by rw [u64_lo, u64_hi]; (first | omega | (simp only [List.length_cons, List.length_nil, List.length_append, List.length_drop, List.length_take]; omega)))) rfl rfl rfl ?_
    refine WQ.q (oq_move rfl) rfl rfl rfl ?_
    refine WQ.index_s Tryd.underlying9 rfl rfl (by (first | omega | (simp only [List.length_cons, List.length_nil, List.length_append, List.length_drop, List.length_take]; omega))) rfl rfl fun c2_4 hc2_4 hc2_4l hc2_4u => ?_
    refine WQ.q (oq_conv Tryd.underlying5 Tryd.underlying62 rfl (by rw [u64_lo, u64_hi]; (first | omega | (simp only [List.length_cons, List.length_nil, List.length_append, List.length_drop, List.length_take]; omega)))) rfl rfl rfl ?_
    refine WQ.q (oq_shl rfl rfl (by omega)) rfl rfl rfl ?_
    refine WQ.q (oq_bits (op := .or) rfl rfl (by simp)) rfl rfl rfl ?_
    refine WQ.q (oq_move rfl) rfl rfl rfl ?_
    refine WQ.index_s Tryd.underlying9 rfl rfl (by (first | omega | (simp only [List.length_cons, List.length_nil, List.length_append, List.length_drop, List.length_take]; omega))) rfl rfl fun c2_9 hc2_9 hc2_9l hc2_9u => ?_
    refine WQ.q (oq_conv Tryd.underlying5 Tryd.underlying62 rfl (by rw [u64_lo, u64_hi]; (first | omega | (simp only [List.length_cons, List.length_nil, List.length_append, List.length_drop, List.length_take]; omega)))) rfl rfl rfl ?_
    refine WQ.q (oq_shl rfl rfl (by omega)) rfl rfl rfl ?_
    refine WQ.q (oq_bits (op := .or) rfl rfl (by simp)) rfl rfl rfl ?_
    refine WQ.q (oq_move rfl) rfl rfl rfl ?_
    refine WQ.index_s Tryd.underlying9 rfl rfl (by (first | omega | (simp only [List.length_cons, List.length_nil, List.length_append, List.length_drop, List.length_take]; omega))) rfl rfl fun c2_14 hc2_14 hc2_14l hc2_14u => ?_
    refine WQ.q (oq_conv Tryd.underlying5 Tryd.underlying62 rfl (by rw [u64_lo, u64_hi]; (first | omega | (simp only [List.length_cons, List.length_nil, List.length_append, List.length_drop, List.length_take]; omega)))) rfl rfl rfl ?_
    refine WQ.q (oq_shl rfl rfl (by omega)) rfl rfl rfl ?_
    refine WQ.q (oq_bits (op := .or) rfl rfl (by simp)) rfl rfl rfl ?_
    refine WQ.q (oq_move rfl) rfl rfl rfl ?_
    refine WQ.index_s Tryd.underlying9 rfl rfl (by (first | omega | (simp only [List.length_cons, List.length_nil, List.length_append, List.length_drop, List.length_take]; omega))) rfl rfl fun c2_19 hc2_19 hc2_19l hc2_19u => ?_
    refine WQ.q (oq_conv Tryd.underlying5 Tryd.underlying62 rfl (by rw [u64_lo, u64_hi]; (first | omega | (simp only [List.length_cons, List.length_nil, List.length_append, List.length_drop, List.length_take]; omega)))) rfl rfl rfl ?_
    refine WQ.q (oq_shl rfl rfl (by omega)) rfl rfl rfl ?_
    refine WQ.q (oq_bits (op := .or) rfl rfl (by simp)) rfl rfl rfl ?_
    refine WQ.q (oq_move rfl) rfl rfl rfl ?_
    refine WQ.index_s Tryd.underlying9 rfl rfl (by (first | omega | (simp only [List.length_cons, List.length_nil, List.length_append, List.length_drop, List.length_take]; omega))) rfl rfl fun c2_24 hc2_24 hc2_24l hc2_24u => ?_
    refine WQ.q (oq_conv Tryd.underlying5 Tryd.underlying62 rfl (by rw [u64_lo, u64_hi]; (first | omega | (simp only [List.length_cons, List.length_nil, List.length_append, List.length_drop, List.length_take]; omega)))) rfl rfl rfl ?_
    refine WQ.q (oq_shl rfl rfl (by omega)) rfl rfl rfl ?_
    refine WQ.q (oq_bits (op := .or) rfl rfl (by simp)) rfl rfl rfl ?_
    refine WQ.q (oq_move rfl) rfl rfl rfl ?_
    refine WQ.index_s Tryd.underlying9 rfl rfl (by (first | omega | (simp only [List.length_cons, List.length_nil, List.length_append, List.length_drop, List.length_take]; omega))) rfl rfl fun c2_29 hc2_29 hc2_29l hc2_29u => ?_
    refine WQ.q (oq_conv Tryd.underlying5 Tryd.underlying62 rfl (by rw [u64_lo, u64_hi]; (first | omega | (simp only [List.length_cons, List.length_nil, List.length_append, List.length_drop, List.length_take]; omega)))) rfl rfl rfl ?_
    refine WQ.q (oq_shl rfl rfl (by omega)) rfl rfl rfl ?_
    refine WQ.q (oq_bits (op := .or) rfl rfl (by simp)) rfl rfl rfl ?_
    refine WQ.q (oq_move rfl) rfl rfl rfl ?_
    refine WQ.index_s Tryd.underlying9 rfl rfl (by (first | omega | (simp only [List.length_cons, List.length_nil, List.length_append, List.length_drop, List.length_take]; omega))) rfl rfl fun c2_34 hc2_34 hc2_34l hc2_34u => ?_
    refine WQ.q (oq_conv Tryd.underlying5 Tryd.underlying62 rfl (by rw [u64_lo, u64_hi]; (first | omega | (simp only [List.length_cons, List.length_nil, List.length_append, List.length_drop, List.length_take]; omega)))) rfl rfl rfl ?_
    refine WQ.q (oq_shl rfl rfl (by omega)) rfl rfl rfl ?_
    refine WQ.q (oq_bits (op := .or) rfl rfl (by simp)) rfl rfl rfl ?_
    refine WQ.q (oq_assign rfl) rfl rfl rfl ?_
    refine WQ.nil ?_
    refine WE.then_normal ?_
    refine WC.sub (fr' := [(2, _)]) ?_ ⟨rfl, trivial⟩
    refine WC.ret ?_
    refine WE.end0 (.inl rfl) (res1 Tryd.results116 rfl) ?_
    -- end 0
    unfold wd or8 sh8; rw [hc2_1, hc2_4, hc2_9, hc2_14, hc2_19, hc2_24, hc2_29, hc2_34]

/-- unicode/utf8.ValidString -/
theorem validString (s : List UInt8) (hs : s.length ≤ 4000000000) (ha : Asc s) : Fn0 Tryd.prog 109 [S s] (.bool true) := by
  refine Fn0.enter (n := 169) Tryd.func109 rfl rfl fun w0 => ?_
  refine WC.sub (fr' := [(0, _)]) ?_ ⟨rfl, trivial⟩
  refine WC.seq ?_
  refine WC.region ?_
  refine WL.q (oq_assign rfl) rfl rfl rfl ?_
  refine WL.nil ?_
  refine WE.then_normal ?_
  refine WC.sub (fr' := [(0, _)]) ?_ ⟨rfl, trivial⟩
  refine WC.seq ?_
  refine WC.block ?_
  refine WC.loop (ι := (List UInt8)) (fun (t : List UInt8) => [(0, S t)]) (fun (t : List UInt8) => []) (fun (t : List UInt8) => t.length ≤ s.length ∧ Asc t) (fun (t : List UInt8) => t.length) (s) ?_ ⟨rfl, trivial⟩ (List.Perm.refl _) ?_
  · try dsimp only
    exact ⟨by omega, ha⟩
  · rintro t hp
    try dsimp only at hp
    obtain ⟨hl, hat⟩ := hp
    show WC _ _ _ _ _ _ ([(0, S t)]) ([])
    refine WC.seq ?_
    refine WC.seq ?_
    refine WC.region ?_
    refine WL.q (oq_move rfl) rfl rfl rfl ?_
    refine WL.q (oq_len_s Tryd.underlying9 rfl) rfl rfl rfl ?_
    refine WL.q (oq_gtr rfl rfl) rfl rfl rfl ?_
    refine WL.nil ?_
    refine WE.then_normal ?_
    refine WC.sub (fr' := [(0, _), (9, _)]) ?_ ⟨rfl, rfl, trivial⟩
    refine WC.cond rfl (fun q1 => ?_) (fun q1 => ?_)
    ·
      try simp only [Bool.not_eq_eq_eq_not, Bool.not_true, Bool.not_false, decide_eq_true_eq, decide_eq_false_iff_not, Int.not_lt, Int.not_le, ne_eq, Decidable.not_not, ← List.length_eq_zero_iff] at q1
      refine WC.skip ?_
      refine WE.then_normal ?_
      refine WC.sub (fr' := [(0, _)]) ?_ ⟨rfl, trivial⟩
      refine WC.block ?_
      refine WC.seq ?_
      refine WC.region ?_
      refine WL.q (oq_move rfl) rfl rfl rfl ?_
      refine WL.index_s Tryd.underlying9 rfl rfl (by (first | omega | (simp only [List.length_cons, List.length_nil, List.length_append, List.length_drop, List.length_take]; omega))) rfl rfl fun c2_1 hc2_1 hc2_1l hc2_1u => ?_
      refine WL.q (oq_assign rfl) rfl rfl rfl ?_
      refine WL.nil ?_
      refine WE.then_normal ?_
      refine WC.sub (fr' := [(0, _), (3, _)]) ?_ ⟨rfl, rfl, trivial⟩
      refine WC.seq ?_
      refine WC.seq ?_
      have h0 := asc0 hat (by omega)
      refine WC.region ?_
      refine WL.q (oq_move rfl) rfl rfl rfl ?_
      refine WL.q (oq_lss rfl rfl) rfl rfl rfl ?_
      refine WL.nil ?_
      refine WE.then_normal ?_
      refine WC.sub (fr' := [(0, _), (3, _), (13, _)]) ?_ ⟨rfl, rfl, rfl, trivial⟩
      refine WC.cond rfl (fun q3 => ?_) (fun q3 => ?_)
      ·
        try simp only [Bool.not_eq_eq_eq_not, Bool.not_true, Bool.not_false, decide_eq_true_eq, decide_eq_false_iff_not, Int.not_lt, Int.not_le, ne_eq, Decidable.not_not, ← List.length_eq_zero_iff] at q3
        refine WC.seq ?_
        refine WC.region ?_
        refine WL.q (oq_move rfl) rfl rfl rfl ?_
        refine WL.q (oq_slice_s1 Tryd.underlying9 rfl rfl (by (first | omega | (simp only [List.length_cons, List.length_nil, List.length_append, List.length_drop, List.length_take]; omega)))) rfl rfl rfl ?_
        refine WL.q (oq_assign rfl) rfl rfl rfl ?_
        refine WL.nil ?_
        refine WE.then_normal ?_
        refine WC.sub (fr' := [(0, _)]) ?_ ⟨rfl, trivial⟩
        refine WC.seq ?_
        refine WC.seq ?_
        refine WC.region ?_
        refine WL.q (oq_move rfl) rfl rfl rfl ?_
        refine WL.q (oq_len_s Tryd.underlying9 rfl) rfl rfl rfl ?_
        refine WL.q (oq_gtr rfl rfl) rfl rfl rfl ?_
        refine WL.q (oq_move rfl) rfl rfl rfl ?_
        refine WL.split 19 rfl (fun s5_3 => ?_) (fun s5_3 => ?_)
        ·
          try simp only [Bool.not_eq_eq_eq_not, Bool.not_true, Bool.not_false, decide_eq_true_eq, decide_eq_false_iff_not, Int.not_lt, Int.not_le, ne_eq, Decidable.not_not, ← List.length_eq_zero_iff] at s5_3
          refine WL.q (oq_move rfl) rfl rfl rfl ?_
          refine WL.qc (oq_call (word _ (by first | omega | (simp only [List.length_drop] at *; omega))) call116 rfl) rfl rfl rfl ?_
          refine WL.q (oq_bits (op := .and) rfl rfl (by simp)) rfl rfl rfl ?_
          refine WL.q (oq_eql rfl rfl) rfl rfl rfl ?_
          refine WL.q (oq_pick_t rfl rfl) rfl rfl rfl ?_
          refine WL.nil ?_
          refine WE.then_normal ?_
          refine WC.sub (fr' := [(0, _), (24, _)]) ?_ ⟨rfl, rfl, trivial⟩
          refine WC.cond rfl (fun q5 => ?_) (fun q5 => ?_)
          ·
            try simp only [Bool.not_eq_eq_eq_not, Bool.not_true, Bool.not_false, decide_eq_true_eq, decide_eq_false_iff_not, Int.not_lt, Int.not_le, ne_eq, Decidable.not_not, ← List.length_eq_zero_iff] at q5
            refine WC.seq ?_
            refine WC.region ?_
            refine WL.q (oq_move rfl) rfl rfl rfl ?_
            refine WL.q (oq_slice_s1 Tryd.underlying9 rfl rfl (by (first | omega | (simp only [List.length_cons, List.length_nil, List.length_append, List.length_drop, List.length_take]; omega)))) rfl rfl rfl ?_
            refine WL.q (oq_assign rfl) rfl rfl rfl ?_
            refine WL.nil ?_
            refine WE.then_normal ?_
            refine WC.sub (fr' := [(0, _)]) ?_ ⟨rfl, trivial⟩
            refine WC.seq ?_
            refine WC.quiet (by kernel_rfl) (by kernel_rfl) ?_
            refine WQ.q (oq_move rfl) rfl rfl rfl ?_
            refine WQ.q (oq_len_s Tryd.underlying9 rfl) rfl rfl rfl ?_
            refine WQ.q (oq_gtr rfl rfl) rfl rfl rfl ?_
            refine WQ.q (oq_move rfl) rfl rfl rfl ?_
            refine WQ.split 30 rfl (fun s7_3 => ?_) (fun s7_3 => ?_)
            ·
              try simp only [Bool.not_eq_eq_eq_not, Bool.not_true, Bool.not_false, decide_eq_true_eq, decide_eq_false_iff_not, Int.not_lt, Int.not_le, ne_eq, Decidable.not_not, ← List.length_eq_zero_iff] at s7_3
              refine WQ.q (oq_move rfl) rfl rfl rfl ?_
              refine WQ.qc (oq_call (word _ (by first | omega | (simp only [List.length_drop] at *; omega))) call116 rfl) rfl rfl rfl ?_
              refine WQ.q (oq_move rfl) rfl rfl rfl ?_
              refine WQ.q (oq_slice_s1 Tryd.underlying9 rfl rfl (by (first | omega | (simp only [List.length_cons, List.length_nil, List.length_append, List.length_drop, List.length_take]; omega)))) rfl rfl rfl ?_
              refine WQ.qc (oq_call (word _ (by first | omega | (simp only [List.length_drop] at *; omega))) call116 rfl) rfl rfl rfl ?_
              refine WQ.q (oq_bits (op := .or) rfl rfl (by simp)) rfl rfl rfl ?_
              refine WQ.q (oq_bits (op := .and) rfl rfl (by simp)) rfl rfl rfl ?_
              refine WQ.q (oq_eql rfl rfl) rfl rfl rfl ?_
              refine WQ.q (oq_pick_t rfl rfl) rfl rfl rfl ?_
              refine WQ.nil ?_
              refine WE.then_normal ?_
              refine WC.sub (fr' := [(0, _), (39, _)]) ?_ ⟨rfl, rfl, trivial⟩
              refine WC.cond rfl (fun q7 => ?_) (fun q7 => ?_)
              ·
                try simp only [Bool.not_eq_eq_eq_not, Bool.not_true, Bool.not_false, decide_eq_true_eq, decide_eq_false_iff_not, Int.not_lt, Int.not_le, ne_eq, Decidable.not_not, ← List.length_eq_zero_iff] at q7
                refine WC.seq ?_
                refine WC.region ?_
                refine WL.q (oq_move rfl) rfl rfl rfl ?_
                refine WL.q (oq_slice_s1 Tryd.underlying9 rfl rfl (by (first | omega | (simp only [List.length_cons, List.length_nil, List.length_append, List.length_drop, List.length_take]; omega)))) rfl rfl rfl ?_
                refine WL.q (oq_assign rfl) rfl rfl rfl ?_
                refine WL.nil ?_
                refine WE.then_normal ?_
                refine WC.sub (fr' := [(0, _)]) ?_ ⟨rfl, trivial⟩
                refine WC.block ?_
                refine WC.loop (ι := (List UInt8)) (fun (u : List UInt8) => [(0, S u)]) (fun (u : List UInt8) => []) (fun (u : List UInt8) => u.length < t.length ∧ Asc u) (fun (u : List UInt8) => u.length) (_) ?_ ⟨rfl, trivial⟩ (List.Perm.refl _) ?_
                · try dsimp only
                  exact ⟨by first | omega | (simp only [List.length_drop] at *; omega), asc_dropI (asc_dropI (asc_dropI hat _) _) _⟩
                · rintro u hp
                  try dsimp only at hp
                  obtain ⟨hlu, hau⟩ := hp
                  show WC _ _ _ _ _ _ ([(0, S u)]) ([])
                  refine WC.seq ?_
                  refine WC.seq ?_
                  refine WC.quiet (by kernel_rfl) (by kernel_rfl) ?_
                  refine WQ.q (oq_move rfl) rfl rfl rfl ?_
                  refine WQ.q (oq_len_s Tryd.underlying9 rfl) rfl rfl rfl ?_
                  refine WQ.q (oq_gtr rfl rfl) rfl rfl rfl ?_
                  refine WQ.q (oq_move rfl) rfl rfl rfl ?_
                  refine WQ.split 45 rfl (fun s9_3 => ?_) (fun s9_3 => ?_)
                  ·
                    try simp only [Bool.not_eq_eq_eq_not, Bool.not_true, Bool.not_false, decide_eq_true_eq, decide_eq_false_iff_not, Int.not_lt, Int.not_le, ne_eq, Decidable.not_not, ← List.length_eq_zero_iff] at s9_3
                    refine WQ.q (oq_move rfl) rfl rfl rfl ?_
                    refine WQ.qc (oq_call (word _ (by first | omega | (simp only [List.length_drop] at *; omega))) call116 rfl) rfl rfl rfl ?_
                    refine WQ.q (oq_move rfl) rfl rfl rfl ?_
                    refine WQ.q (oq_slice_s1 Tryd.underlying9 rfl rfl (by (first | omega | (simp only [List.length_cons, List.length_nil, List.length_append, List.length_drop, List.length_take]; omega)))) rfl rfl rfl ?_
                    refine WQ.qc (oq_call (word _ (by first | omega | (simp only [List.length_drop] at *; omega))) call116 rfl) rfl rfl rfl ?_
                    refine WQ.q (oq_bits (op := .or) rfl rfl (by simp)) rfl rfl rfl ?_
                    refine WQ.q (oq_move rfl) rfl rfl rfl ?_
                    refine WQ.q (oq_slice_s1 Tryd.underlying9 rfl rfl (by (first | omega | (simp only [List.length_cons, List.length_nil, List.length_append, List.length_drop, List.length_take]; omega)))) rfl rfl rfl ?_
                    refine WQ.qc (oq_call (word _ (by first | omega | (simp only [List.length_drop] at *; omega))) call116 rfl) rfl rfl rfl ?_
                    refine WQ.q (oq_move rfl) rfl rfl rfl ?_
                    refine WQ.q (oq_slice_s1 Tryd.underlying9 rfl rfl (by (first | omega | (simp only [List.length_cons, List.length_nil, List.length_append, List.length_drop, List.length_take]; omega)))) rfl rfl rfl ?_
                    refine WQ.qc (oq_call (word _ (by first | omega | (simp only [List.length_drop] at *; omega))) call116 rfl) rfl rfl rfl ?_
                    refine WQ.q (oq_bits (op := .or) rfl rfl (by simp)) rfl rfl rfl ?_
                    refine WQ.q (oq_bits (op := .or) rfl rfl (by simp)) rfl rfl rfl ?_
                    refine WQ.q (oq_bits (op := .and) rfl rfl (by simp)) rfl rfl rfl ?_
                    refine WQ.q (oq_eql rfl rfl) rfl rfl rfl ?_
                    refine WQ.q (oq_pick_t rfl rfl) rfl rfl rfl ?_
                    refine WQ.nil ?_
                    refine WE.then_normal ?_
                    refine WC.sub (fr' := [(0, _), (62, _)]) ?_ ⟨rfl, rfl, trivial⟩
                    refine WC.cond rfl (fun q9 => ?_) (fun q9 => ?_)
                    ·
                      try simp only [Bool.not_eq_eq_eq_not, Bool.not_true, Bool.not_false, decide_eq_true_eq, decide_eq_false_iff_not, Int.not_lt, Int.not_le, ne_eq, Decidable.not_not, ← List.length_eq_zero_iff] at q9
                      refine WC.skip ?_
                      refine WE.then_normal ?_
                      refine WC.sub (fr' := [(0, _)]) ?_ ⟨rfl, trivial⟩
                      refine WC.block ?_
                      refine WC.region ?_
                      refine WL.q (oq_move rfl) rfl rfl rfl ?_
                      refine WL.q (oq_slice_s1 Tryd.underlying9 rfl rfl (by (first | omega | (simp only [List.length_cons, List.length_nil, List.length_append, List.length_drop, List.length_take]; omega)))) rfl rfl rfl ?_
                      refine WL.q (oq_assign rfl) rfl rfl rfl ?_
                      refine WL.nil ?_
                      refine WE.block_normal ?_
                      refine WE.again _ ?_ ?_ ⟨rfl, trivial⟩ (List.Perm.refl _)
                      · try dsimp only   -- again 0
                        exact ⟨by first | omega | (simp only [List.length_drop] at *; omega), asc_dropI hau _⟩
                      · (try dsimp only); (first | omega | (simp only [List.length_drop] at *; omega))
                    ·
                      try simp only [Bool.not_eq_eq_eq_not, Bool.not_true, Bool.not_false, decide_eq_true_eq, decide_eq_false_iff_not, Int.not_lt, Int.not_le, ne_eq, Decidable.not_not, ← List.length_eq_zero_iff] at q9
                      refine WC.exit ?_
                      refine WE.then_exit ?_
                      refine WE.then_exit ?_
                      refine WE.block_same ?_
                      refine WE.then_normal ?_
                      refine WC.sub (fr' := [(0, _)]) ?_ ⟨rfl, trivial⟩
                      refine WC.exit ?_
                      refine WE.then_exit ?_
                      refine WE.block_same ?_
                      refine WE.again _ ?_ ?_ ⟨rfl, trivial⟩ (List.Perm.refl _)
                      · try dsimp only   -- again 0
                        refine ⟨by first | omega | (simp only [List.length_drop] at *; omega), ?_⟩
                        first | exact hau | exact asc_dropI (asc_dropI (asc_dropI hat _) _) _ | exact asc_dropI (asc_dropI hat _) _ | exact asc_dropI hat _
                      · (try dsimp only); (first | omega | (simp only [List.length_drop] at *; omega))
                  ·
                    try simp only [Bool.not_eq_eq_eq_not, Bool.not_true, Bool.not_false, decide_eq_true_eq, decide_eq_false_iff_not, Int.not_lt, Int.not_le, ne_eq, Decidable.not_not, ← List.length_eq_zero_iff] at s9_3
                    refine WQ.skip rfl rfl rfl ?_
                    refine WQ.skip rfl rfl rfl ?_
                    refine WQ.skip rfl rfl rfl ?_
                    refine WQ.skip rfl rfl rfl ?_
                    refine WQ.skip rfl rfl rfl ?_
                    refine WQ.skip rfl rfl rfl ?_
                    refine WQ.skip rfl rfl rfl ?_
                    refine WQ.skip rfl rfl rfl ?_
                    refine WQ.skip rfl rfl rfl ?_
                    refine WQ.skip rfl rfl rfl ?_
                    refine WQ.skip rfl rfl rfl ?_
                    refine WQ.skip rfl rfl rfl ?_
                    refine WQ.skip rfl rfl rfl ?_
                    refine WQ.skip rfl rfl rfl ?_
                    refine WQ.skip rfl rfl rfl ?_
                    refine WQ.skip rfl rfl rfl ?_
                    refine WQ.q (oq_pick_f rfl rfl) rfl rfl rfl ?_
                    refine WQ.nil ?_
                    refine WE.then_normal ?_
                    refine WC.sub (fr' := [(0, _), (62, _)]) ?_ ⟨rfl, rfl, trivial⟩
                    refine WC.cond_f rfl ?_
                    refine WC.exit ?_
                    refine WE.then_exit ?_
                    refine WE.then_exit ?_
                    refine WE.block_same ?_
                    refine WE.then_normal ?_
                    refine WC.sub (fr' := [(0, _)]) ?_ ⟨rfl, trivial⟩
                    refine WC.exit ?_
                    refine WE.then_exit ?_
                    refine WE.block_same ?_
                    refine WE.again _ ?_ ?_ ⟨rfl, trivial⟩ (List.Perm.refl _)
                    · try dsimp only   -- again 1
                      refine ⟨by first | omega | (simp only [List.length_drop] at *; omega), ?_⟩
                      first | exact hau | exact asc_dropI (asc_dropI (asc_dropI hat _) _) _ | exact asc_dropI (asc_dropI hat _) _ | exact asc_dropI hat _
                    · (try dsimp only); (first | omega | (simp only [List.length_drop] at *; omega))
              ·
                try simp only [Bool.not_eq_eq_eq_not, Bool.not_true, Bool.not_false, decide_eq_true_eq, decide_eq_false_iff_not, Int.not_lt, Int.not_le, ne_eq, Decidable.not_not, ← List.length_eq_zero_iff] at q7
                refine WC.skip ?_
                refine WE.then_normal ?_
                refine WC.sub (fr' := [(0, _)]) ?_ ⟨rfl, trivial⟩
                refine WC.exit ?_
                refine WE.then_exit ?_
                refine WE.block_same ?_
                refine WE.again _ ?_ ?_ ⟨rfl, trivial⟩ (List.Perm.refl _)
                · try dsimp only   -- again 2
                  refine ⟨by first | omega | (simp only [List.length_drop] at *; omega), ?_⟩
                  first | exact hau | exact asc_dropI (asc_dropI (asc_dropI hat _) _) _ | exact asc_dropI (asc_dropI hat _) _ | exact asc_dropI hat _
                · (try dsimp only); (first | omega | (simp only [List.length_drop] at *; omega))
            ·
              try simp only [Bool.not_eq_eq_eq_not, Bool.not_true, Bool.not_false, decide_eq_true_eq, decide_eq_false_iff_not, Int.not_lt, Int.not_le, ne_eq, Decidable.not_not, ← List.length_eq_zero_iff] at s7_3
              refine WQ.skip rfl rfl rfl ?_
              refine WQ.skip rfl rfl rfl ?_
              refine WQ.skip rfl rfl rfl ?_
              refine WQ.skip rfl rfl rfl ?_
              refine WQ.skip rfl rfl rfl ?_
              refine WQ.skip rfl rfl rfl ?_
              refine WQ.skip rfl rfl rfl ?_
              refine WQ.skip rfl rfl rfl ?_
              refine WQ.q (oq_pick_f rfl rfl) rfl rfl rfl ?_
              refine WQ.nil ?_
              refine WE.then_normal ?_
              refine WC.sub (fr' := [(0, _), (39, _)]) ?_ ⟨rfl, rfl, trivial⟩
              refine WC.cond_f rfl ?_
              refine WC.skip ?_
              refine WE.then_normal ?_
              refine WC.sub (fr' := [(0, _)]) ?_ ⟨rfl, trivial⟩
              refine WC.exit ?_
              refine WE.then_exit ?_
              refine WE.block_same ?_
              refine WE.again _ ?_ ?_ ⟨rfl, trivial⟩ (List.Perm.refl _)
              · try dsimp only   -- again 3
                refine ⟨by first | omega | (simp only [List.length_drop] at *; omega), ?_⟩
                first | exact hau | exact asc_dropI (asc_dropI (asc_dropI hat _) _) _ | exact asc_dropI (asc_dropI hat _) _ | exact asc_dropI hat _
              · (try dsimp only); (first | omega | (simp only [List.length_drop] at *; omega))
          ·
            try simp only [Bool.not_eq_eq_eq_not, Bool.not_true, Bool.not_false, decide_eq_true_eq, decide_eq_false_iff_not, Int.not_lt, Int.not_le, ne_eq, Decidable.not_not, ← List.length_eq_zero_iff] at q5
            refine WC.skip ?_
            refine WE.then_normal ?_
            refine WC.sub (fr' := [(0, _)]) ?_ ⟨rfl, trivial⟩
            refine WC.exit ?_
            refine WE.then_exit ?_
            refine WE.block_same ?_
            refine WE.again _ ?_ ?_ ⟨rfl, trivial⟩ (List.Perm.refl _)
            · try dsimp only   -- again 4
              refine ⟨by first | omega | (simp only [List.length_drop] at *; omega), ?_⟩
              first | exact hau | exact asc_dropI (asc_dropI (asc_dropI hat _) _) _ | exact asc_dropI (asc_dropI hat _) _ | exact asc_dropI hat _
            · (try dsimp only); (first | omega | (simp only [List.length_drop] at *; omega))
        ·
          try simp only [Bool.not_eq_eq_eq_not, Bool.not_true, Bool.not_false, decide_eq_true_eq, decide_eq_false_iff_not, Int.not_lt, Int.not_le, ne_eq, Decidable.not_not, ← List.length_eq_zero_iff] at s5_3
          refine WL.skip rfl rfl rfl ?_
          refine WL.skip rfl rfl rfl ?_
          refine WL.skip rfl rfl rfl ?_
          refine WL.skip rfl rfl rfl ?_
          refine WL.q (oq_pick_f rfl rfl) rfl rfl rfl ?_
          refine WL.nil ?_
          refine WE.then_normal ?_
          refine WC.sub (fr' := [(0, _), (24, _)]) ?_ ⟨rfl, rfl, trivial⟩
          refine WC.cond_f rfl ?_
          refine WC.skip ?_
          refine WE.then_normal ?_
          refine WC.sub (fr' := [(0, _)]) ?_ ⟨rfl, trivial⟩
          refine WC.exit ?_
          refine WE.then_exit ?_
          refine WE.block_same ?_
          refine WE.again _ ?_ ?_ ⟨rfl, trivial⟩ (List.Perm.refl _)
          · try dsimp only   -- again 5
            refine ⟨by first | omega | (simp only [List.length_drop] at *; omega), ?_⟩
            first | exact hau | exact asc_dropI (asc_dropI (asc_dropI hat _) _) _ | exact asc_dropI (asc_dropI hat _) _ | exact asc_dropI hat _
          · (try dsimp only); (first | omega | (simp only [List.length_drop] at *; omega))
      ·
        try simp only [Bool.not_eq_eq_eq_not, Bool.not_true, Bool.not_false, decide_eq_true_eq, decide_eq_false_iff_not, Int.not_lt, Int.not_le, ne_eq, Decidable.not_not, ← List.length_eq_zero_iff] at q3
        refine WC.skip ?_
        refine WE.then_normal ?_
        refine WC.sub (fr' := [(0, _), (3, _)]) ?_ ⟨rfl, rfl, trivial⟩
        refine WC.seq ?_
        first | contradiction | (exfalso; omega) | (exfalso; simp only [List.length_cons, List.length_append, List.length_drop, List.length_take, List.length_nil] at *; omega) | (exfalso; simp_all; done)
    ·
      try simp only [Bool.not_eq_eq_eq_not, Bool.not_true, Bool.not_false, decide_eq_true_eq, decide_eq_false_iff_not, Int.not_lt, Int.not_le, ne_eq, Decidable.not_not, ← List.length_eq_zero_iff] at q1
      refine WC.exit ?_
      refine WE.then_exit ?_
      refine WE.then_exit ?_
      refine WE.block_same ?_
      refine WE.then_normal ?_
      refine WC.sub (fr' := []) ?_ trivial
      refine WC.seq ?_
      refine WC.region ?_
      refine WL.q (oq_assign rfl) rfl rfl rfl ?_
      refine WL.nil ?_
      refine WE.then_normal ?_
      refine WC.sub (fr' := [(2, _)]) ?_ ⟨rfl, trivial⟩
      refine WC.ret ?_
      refine WE.end0 (.inl rfl) (res1 Tryd.results109 rfl) ?_
      -- end 0
      rfl

/-- strconv.UnquoteChar -/
theorem uqPlain (c : UInt8) (r : List UInt8) (hr : r.length ≤ 4000000000) (hc : c.toNat < 128) (h1 : ¬ c.toNat = 34) (h2 : ¬ c.toNat = 92) : Fn0 Tryd.prog 110 [S (c :: r), .int .u8 34] (.tuple #[.int .i32 (c.toNat : Int), .bool false, S r, .nilIface]) := by
  refine Fn0.enter (n := 183) Tryd.func110 rfl rfl fun w0 => ?_
  refine WC.sub (fr' := [(0, _), (1, _)]) ?_ ⟨rfl, rfl, trivial⟩
  refine WC.seq ?_
  refine WC.region ?_
  refine WL.q (oq_assign rfl) rfl rfl rfl ?_
  refine WL.q (oq_assign rfl) rfl rfl rfl ?_
  refine WL.q (oq_assign rfl) rfl rfl rfl ?_
  refine WL.q (oq_assign rfl) rfl rfl rfl ?_
  refine WL.nil ?_
  refine WE.then_normal ?_
  refine WC.sub (fr' := [(0, _), (1, _), (4, _), (5, _), (6, _), (7, _)]) ?_ ⟨rfl, rfl, rfl, rfl, rfl, rfl, trivial⟩
  refine WC.seq ?_
  refine WC.seq ?_
  refine WC.region ?_
  refine WL.q (oq_move rfl) rfl rfl rfl ?_
  refine WL.q (oq_len_s Tryd.underlying9 rfl) rfl rfl rfl ?_
  refine WL.q (oq_eql rfl rfl) rfl rfl rfl ?_
  refine WL.nil ?_
  refine WE.then_normal ?_
  refine WC.sub (fr' := [(0, _), (1, _), (4, _), (5, _), (6, _), (7, _), (22, _)]) ?_ ⟨rfl, rfl, rfl, rfl, rfl, rfl, rfl, trivial⟩
  refine WC.cond rfl (fun q1 => ?_) (fun q1 => ?_)
  ·
    try simp only [Bool.not_eq_eq_eq_not, Bool.not_true, Bool.not_false, decide_eq_true_eq, decide_eq_false_iff_not, Int.not_lt, Int.not_le, ne_eq, Decidable.not_not, ← List.length_eq_zero_iff] at q1
    refine WC.seq ?_
    first | contradiction | (exfalso; omega) | (exfalso; simp only [List.length_cons, List.length_append, List.length_drop, List.length_take, List.length_nil] at *; omega) | (exfalso; simp_all; done)
  ·
    try simp only [Bool.not_eq_eq_eq_not, Bool.not_true, Bool.not_false, decide_eq_true_eq, decide_eq_false_iff_not, Int.not_lt, Int.not_le, ne_eq, Decidable.not_not, ← List.length_eq_zero_iff] at q1
    refine WC.skip ?_
    refine WE.then_normal ?_
    refine WC.sub (fr' := [(0, _), (1, _), (4, _), (5, _), (6, _), (7, _)]) ?_ ⟨rfl, rfl, rfl, rfl, rfl, rfl, trivial⟩
    refine WC.seq ?_
    refine WC.seq ?_
    refine WC.region ?_
    refine WL.q (oq_move rfl) rfl rfl rfl ?_
    refine WL.index_s Tryd.underlying9 rfl rfl (by (first | omega | (simp only [List.length_cons, List.length_nil, List.length_append, List.length_drop, List.length_take]; omega))) rfl rfl fun c3_1 hc3_1 hc3_1l hc3_1u => ?_
    refine WL.q (oq_assign rfl) rfl rfl rfl ?_
    refine WL.nil ?_
    refine WE.then_normal ?_
    refine WC.sub (fr' := [(0, _), (1, _), (4, _), (5, _), (6, _), (7, _), (8, _)]) ?_ ⟨rfl, rfl, rfl, rfl, rfl, rfl, rfl, trivial⟩
    refine WC.block ?_
    refine WC.seq ?_
    have hcv : c3_1 = (c.toNat : Int) := hc3_1
    refine WC.region ?_
    refine WL.q (oq_move rfl) rfl rfl rfl ?_
    refine WL.q (oq_move rfl) rfl rfl rfl ?_
    refine WL.q (oq_eql rfl rfl) rfl rfl rfl ?_
    refine WL.q (oq_move rfl) rfl rfl rfl ?_
    refine WL.split 30 rfl (fun s4_3 => ?_) (fun s4_3 => ?_)
    ·
      try simp only [Bool.not_eq_eq_eq_not, Bool.not_true, Bool.not_false, decide_eq_true_eq, decide_eq_false_iff_not, Int.not_lt, Int.not_le, ne_eq, Decidable.not_not, ← List.length_eq_zero_iff] at s4_3
      refine WL.q (oq_move rfl) rfl rfl rfl ?_
      refine WL.q (oq_eql rfl rfl) rfl rfl rfl ?_
      refine WL.q (oq_move rfl) rfl rfl rfl ?_
      refine WL.split 33 rfl (fun s4_6 => ?_) (fun s4_6 => ?_)
      ·
        try simp only [Bool.not_eq_eq_eq_not, Bool.not_true, Bool.not_false, decide_eq_true_eq, decide_eq_false_iff_not, Int.not_lt, Int.not_le, ne_eq, Decidable.not_not, ← List.length_eq_zero_iff] at s4_6
        refine WL.skip rfl rfl rfl ?_
        refine WL.skip rfl rfl rfl ?_
        refine WL.q (oq_pick_t rfl rfl) rfl rfl rfl ?_
        refine WL.q (oq_pick_t rfl rfl) rfl rfl rfl ?_
        refine WL.q (oq_assign rfl) rfl rfl rfl ?_
        refine WL.nil ?_
        refine WE.then_normal ?_
        refine WC.sub (fr' := [(0, _), (1, _), (4, _), (5, _), (6, _), (7, _), (8, _), (26, _)]) ?_ ⟨rfl, rfl, rfl, rfl, rfl, rfl, rfl, rfl, trivial⟩
        refine WC.cond_t rfl ?_
        refine WC.seq ?_
        first | contradiction | (exfalso; omega) | (exfalso; simp only [List.length_cons, List.length_append, List.length_drop, List.length_take, List.length_nil] at *; omega) | (exfalso; simp_all; done)
      ·
        try simp only [Bool.not_eq_eq_eq_not, Bool.not_true, Bool.not_false, decide_eq_true_eq, decide_eq_false_iff_not, Int.not_lt, Int.not_le, ne_eq, Decidable.not_not, ← List.length_eq_zero_iff] at s4_6
        refine WL.q (oq_move rfl) rfl rfl rfl ?_
        refine WL.q (oq_eql rfl rfl) rfl rfl rfl ?_
        refine WL.q (oq_pick_f rfl rfl) rfl rfl rfl ?_
        refine WL.q (oq_pick_t rfl rfl) rfl rfl rfl ?_
        refine WL.q (oq_assign rfl) rfl rfl rfl ?_
        refine WL.nil ?_
        refine WE.then_normal ?_
        refine WC.sub (fr' := [(0, _), (1, _), (4, _), (5, _), (6, _), (7, _), (8, _), (26, _)]) ?_ ⟨rfl, rfl, rfl, rfl, rfl, rfl, rfl, rfl, trivial⟩
        refine WC.cond rfl (fun q4 => ?_) (fun q4 => ?_)
        ·
          try simp only [Bool.not_eq_eq_eq_not, Bool.not_true, Bool.not_false, decide_eq_true_eq, decide_eq_false_iff_not, Int.not_lt, Int.not_le, ne_eq, Decidable.not_not, ← List.length_eq_zero_iff] at q4
          refine WC.seq ?_
          first | contradiction | (exfalso; omega) | (exfalso; simp only [List.length_cons, List.length_append, List.length_drop, List.length_take, List.length_nil] at *; omega) | (exfalso; simp_all; done)
        ·
          try simp only [Bool.not_eq_eq_eq_not, Bool.not_true, Bool.not_false, decide_eq_true_eq, decide_eq_false_iff_not, Int.not_lt, Int.not_le, ne_eq, Decidable.not_not, ← List.length_eq_zero_iff] at q4
          refine WC.seq ?_
          refine WC.region ?_
          refine WL.q (oq_move rfl) rfl rfl rfl ?_
          refine WL.q (oq_geq rfl rfl) rfl rfl rfl ?_
          refine WL.q (oq_assign rfl) rfl rfl rfl ?_
          refine WL.nil ?_
          refine WE.then_normal ?_
          refine WC.sub (fr' := [(0, _), (1, _), (4, _), (5, _), (6, _), (7, _), (8, _), (39, _)]) ?_ ⟨rfl, rfl, rfl, rfl, rfl, rfl, rfl, rfl, trivial⟩
          refine WC.cond rfl (fun q6 => ?_) (fun q6 => ?_)
          ·
            try simp only [Bool.not_eq_eq_eq_not, Bool.not_true, Bool.not_false, decide_eq_true_eq, decide_eq_false_iff_not, Int.not_lt, Int.not_le, ne_eq, Decidable.not_not, ← List.length_eq_zero_iff] at q6
            refine WC.seq ?_
            first | contradiction | (exfalso; omega) | (exfalso; simp only [List.length_cons, List.length_append, List.length_drop, List.length_take, List.length_nil] at *; omega) | (exfalso; simp_all; done)
          ·
            try simp only [Bool.not_eq_eq_eq_not, Bool.not_true, Bool.not_false, decide_eq_true_eq, decide_eq_false_iff_not, Int.not_lt, Int.not_le, ne_eq, Decidable.not_not, ← List.length_eq_zero_iff] at q6
            refine WC.seq ?_
            refine WC.region ?_
            refine WL.q (oq_move rfl) rfl rfl rfl ?_
            refine WL.q (oq_neq rfl rfl) rfl rfl rfl ?_
            refine WL.q (oq_assign rfl) rfl rfl rfl ?_
            refine WL.nil ?_
            refine WE.then_normal ?_
            refine WC.sub (fr' := [(0, _), (1, _), (4, _), (5, _), (6, _), (7, _), (51, _)]) ?_ ⟨rfl, rfl, rfl, rfl, rfl, rfl, rfl, trivial⟩
            refine WC.cond rfl (fun q9 => ?_) (fun q9 => ?_)
            ·
              try simp only [Bool.not_eq_eq_eq_not, Bool.not_true, Bool.not_false, decide_eq_true_eq, decide_eq_false_iff_not, Int.not_lt, Int.not_le, ne_eq, Decidable.not_not, ← List.length_eq_zero_iff] at q9
              refine WC.seq ?_
              refine WC.quiet (by kernel_rfl) (by kernel_rfl) ?_
              refine WQ.q (oq_move rfl) rfl rfl rfl ?_
              refine WQ.index_s Tryd.underlying9 rfl rfl (by (first | omega | (simp only [List.length_cons, List.length_nil, List.length_append, List.length_drop, List.length_take]; omega))) rfl rfl fun c10_1 hc10_1 hc10_1l hc10_1u => ?_
              refine WQ.q (oq_conv Tryd.underlying5 Tryd.underlying21 rfl (by rw [i32_lo, i32_hi]; (first | omega | (simp only [List.length_cons, List.length_nil, List.length_append, List.length_drop, List.length_take]; omega)))) rfl rfl rfl ?_
              refine WQ.q (oq_move rfl) rfl rfl rfl ?_
              refine WQ.q (oq_slice_s1 Tryd.underlying9 rfl rfl (by (first | omega | (simp only [List.length_cons, List.length_nil, List.length_append, List.length_drop, List.length_take]; omega)))) rfl rfl rfl ?_
              refine WQ.q (oq_assign rfl) rfl rfl rfl ?_
              refine WQ.q (oq_assign rfl) rfl rfl rfl ?_
              refine WQ.q (oq_assign rfl) rfl rfl rfl ?_
              refine WQ.q (oq_assign rfl) rfl rfl rfl ?_
              refine WQ.nil ?_
              refine WE.then_normal ?_
              refine WC.sub (fr' := [(4, _), (5, _), (6, _), (7, _)]) ?_ ⟨rfl, rfl, rfl, rfl, trivial⟩
              refine WC.ret ?_
              refine WE.block_ret ?_
              refine WE.then_ret ?_
              refine WE.end0 (.inl rfl) (res4 Tryd.results110 rfl rfl rfl rfl) ?_
              -- end 0
              first | rfl | (rw [hc10_1]; rfl) | trace_state
            ·
              try simp only [Bool.not_eq_eq_eq_not, Bool.not_true, Bool.not_false, decide_eq_true_eq, decide_eq_false_iff_not, Int.not_lt, Int.not_le, ne_eq, Decidable.not_not, ← List.length_eq_zero_iff] at q9
              refine WC.skip ?_
              refine WE.block_normal ?_
              refine WE.then_normal ?_
              refine WC.sub (fr' := [(0, _), (1, _), (4, _), (5, _), (6, _), (7, _)]) ?_ ⟨rfl, rfl, rfl, rfl, rfl, rfl, trivial⟩
              refine WC.seq ?_
              refine WC.seq ?_
              first | contradiction | (exfalso; omega) | (exfalso; simp only [List.length_cons, List.length_append, List.length_drop, List.length_take, List.length_nil] at *; omega) | (exfalso; simp_all; done)
    ·
      try simp only [Bool.not_eq_eq_eq_not, Bool.not_true, Bool.not_false, decide_eq_true_eq, decide_eq_false_iff_not, Int.not_lt, Int.not_le, ne_eq, Decidable.not_not, ← List.length_eq_zero_iff] at s4_3
      refine WL.skip rfl rfl rfl ?_
      refine WL.skip rfl rfl rfl ?_
      refine WL.skip rfl rfl rfl ?_
      refine WL.skip rfl rfl rfl ?_
      refine WL.skip rfl rfl rfl ?_
      refine WL.skip rfl rfl rfl ?_
      refine WL.q (oq_pick_f rfl rfl) rfl rfl rfl ?_
      refine WL.q (oq_assign rfl) rfl rfl rfl ?_
      refine WL.nil ?_
      refine WE.then_normal ?_
      refine WC.sub (fr' := [(0, _), (1, _), (4, _), (5, _), (6, _), (7, _), (8, _), (26, _)]) ?_ ⟨rfl, rfl, rfl, rfl, rfl, rfl, rfl, rfl, trivial⟩
      refine WC.cond_f rfl ?_
      refine WC.seq ?_
      refine WC.region ?_
      refine WL.q (oq_move rfl) rfl rfl rfl ?_
      refine WL.q (oq_geq rfl rfl) rfl rfl rfl ?_
      refine WL.q (oq_assign rfl) rfl rfl rfl ?_
      refine WL.nil ?_
      refine WE.then_normal ?_
      refine WC.sub (fr' := [(0, _), (1, _), (4, _), (5, _), (6, _), (7, _), (8, _), (39, _)]) ?_ ⟨rfl, rfl, rfl, rfl, rfl, rfl, rfl, rfl, trivial⟩
      refine WC.cond rfl (fun q6 => ?_) (fun q6 => ?_)
      ·
        try simp only [Bool.not_eq_eq_eq_not, Bool.not_true, Bool.not_false, decide_eq_true_eq, decide_eq_false_iff_not, Int.not_lt, Int.not_le, ne_eq, Decidable.not_not, ← List.length_eq_zero_iff] at q6
        refine WC.seq ?_
        first | contradiction | (exfalso; omega) | (exfalso; simp only [List.length_cons, List.length_append, List.length_drop, List.length_take, List.length_nil] at *; omega) | (exfalso; simp_all; done)
      ·
        try simp only [Bool.not_eq_eq_eq_not, Bool.not_true, Bool.not_false, decide_eq_true_eq, decide_eq_false_iff_not, Int.not_lt, Int.not_le, ne_eq, Decidable.not_not, ← List.length_eq_zero_iff] at q6
        refine WC.seq ?_
        refine WC.region ?_
        refine WL.q (oq_move rfl) rfl rfl rfl ?_
        refine WL.q (oq_neq rfl rfl) rfl rfl rfl ?_
        refine WL.q (oq_assign rfl) rfl rfl rfl ?_
        refine WL.nil ?_
        refine WE.then_normal ?_
        refine WC.sub (fr' := [(0, _), (1, _), (4, _), (5, _), (6, _), (7, _), (51, _)]) ?_ ⟨rfl, rfl, rfl, rfl, rfl, rfl, rfl, trivial⟩
        refine WC.cond rfl (fun q9 => ?_) (fun q9 => ?_)
        ·
          try simp only [Bool.not_eq_eq_eq_not, Bool.not_true, Bool.not_false, decide_eq_true_eq, decide_eq_false_iff_not, Int.not_lt, Int.not_le, ne_eq, Decidable.not_not, ← List.length_eq_zero_iff] at q9
          refine WC.seq ?_
          refine WC.quiet (by kernel_rfl) (by kernel_rfl) ?_
          refine WQ.q (oq_move rfl) rfl rfl rfl ?_
          refine WQ.index_s Tryd.underlying9 rfl rfl (by (first | omega | (simp only [List.length_cons, List.length_nil, List.length_append, List.length_drop, List.length_take]; omega))) rfl rfl fun c10_1 hc10_1 hc10_1l hc10_1u => ?_
          refine WQ.q (oq_conv Tryd.underlying5 Tryd.underlying21 rfl (by rw [i32_lo, i32_hi]; (first | omega | (simp only [List.length_cons, List.length_nil, List.length_append, List.length_drop, List.length_take]; omega)))) rfl rfl rfl ?_
          refine WQ.q (oq_move rfl) rfl rfl rfl ?_
          refine WQ.q (oq_slice_s1 Tryd.underlying9 rfl rfl (by (first | omega | (simp only [List.length_cons, List.length_nil, List.length_append, List.length_drop, List.length_take]; omega)))) rfl rfl rfl ?_
          refine WQ.q (oq_assign rfl) rfl rfl rfl ?_
          refine WQ.q (oq_assign rfl) rfl rfl rfl ?_
          refine WQ.q (oq_assign rfl) rfl rfl rfl ?_
          refine WQ.q (oq_assign rfl) rfl rfl rfl ?_
          refine WQ.nil ?_
          refine WE.then_normal ?_
          refine WC.sub (fr' := [(4, _), (5, _), (6, _), (7, _)]) ?_ ⟨rfl, rfl, rfl, rfl, trivial⟩
          refine WC.ret ?_
          refine WE.block_ret ?_
          refine WE.then_ret ?_
          refine WE.end0 (.inl rfl) (res4 Tryd.results110 rfl rfl rfl rfl) ?_
          -- end 1
          first | rfl | (rw [hc10_1]; rfl) | trace_state
        ·
          try simp only [Bool.not_eq_eq_eq_not, Bool.not_true, Bool.not_false, decide_eq_true_eq, decide_eq_false_iff_not, Int.not_lt, Int.not_le, ne_eq, Decidable.not_not, ← List.length_eq_zero_iff] at q9
          refine WC.skip ?_
          refine WE.block_normal ?_
          refine WE.then_normal ?_
          refine WC.sub (fr' := [(0, _), (1, _), (4, _), (5, _), (6, _), (7, _)]) ?_ ⟨rfl, rfl, rfl, rfl, rfl, rfl, trivial⟩
          refine WC.seq ?_
          refine WC.seq ?_
          first | contradiction | (exfalso; omega) | (exfalso; simp only [List.length_cons, List.length_append, List.length_drop, List.length_take, List.length_nil] at *; omega) | (exfalso; simp_all; done)

/-- strconv.UnquoteChar -/
theorem uqEsc (d : UInt8) (r : List UInt8) (hr : r.length ≤ 4000000000) (hd : d = 34 ∨ d = 92) : Fn0 Tryd.prog 110 [S (92 :: d :: r), .int .u8 34] (.tuple #[.int .i32 (d.toNat : Int), .bool false, S r, .nilIface]) := by
  refine Fn0.enter (n := 183) Tryd.func110 rfl rfl fun w0 => ?_
  refine WC.sub (fr' := [(0, _), (1, _)]) ?_ ⟨rfl, rfl, trivial⟩
  refine WC.seq ?_
  refine WC.region ?_
  refine WL.q (oq_assign rfl) rfl rfl rfl ?_
  refine WL.q (oq_assign rfl) rfl rfl rfl ?_
  refine WL.q (oq_assign rfl) rfl rfl rfl ?_
  refine WL.q (oq_assign rfl) rfl rfl rfl ?_
  refine WL.nil ?_
  refine WE.then_normal ?_
  refine WC.sub (fr' := [(0, _), (1, _), (4, _), (5, _), (6, _), (7, _)]) ?_ ⟨rfl, rfl, rfl, rfl, rfl, rfl, trivial⟩
  refine WC.seq ?_
  refine WC.seq ?_
  refine WC.region ?_
  refine WL.q (oq_move rfl) rfl rfl rfl ?_
  refine WL.q (oq_len_s Tryd.underlying9 rfl) rfl rfl rfl ?_
  refine WL.q (oq_eql rfl rfl) rfl rfl rfl ?_
  refine WL.nil ?_
  refine WE.then_normal ?_
  refine WC.sub (fr' := [(0, _), (1, _), (4, _), (5, _), (6, _), (7, _), (22, _)]) ?_ ⟨rfl, rfl, rfl, rfl, rfl, rfl, rfl, trivial⟩
  refine WC.cond rfl (fun q1 => ?_) (fun q1 => ?_)
  ·
    try simp only [Bool.not_eq_eq_eq_not, Bool.not_true, Bool.not_false, decide_eq_true_eq, decide_eq_false_iff_not, Int.not_lt, Int.not_le, ne_eq, Decidable.not_not, ← List.length_eq_zero_iff] at q1
    refine WC.seq ?_
    first | contradiction | (exfalso; omega) | (exfalso; simp only [List.length_cons, List.length_append, List.length_drop, List.length_take, List.length_nil] at *; omega) | (exfalso; simp_all; done)
  ·
    try simp only [Bool.not_eq_eq_eq_not, Bool.not_true, Bool.not_false, decide_eq_true_eq, decide_eq_false_iff_not, Int.not_lt, Int.not_le, ne_eq, Decidable.not_not, ← List.length_eq_zero_iff] at q1
    refine WC.skip ?_
    refine WE.then_normal ?_
    refine WC.sub (fr' := [(0, _), (1, _), (4, _), (5, _), (6, _), (7, _)]) ?_ ⟨rfl, rfl, rfl, rfl, rfl, rfl, trivial⟩
    refine WC.seq ?_
    refine WC.seq ?_
    refine WC.region ?_
    refine WL.q (oq_move rfl) rfl rfl rfl ?_
    refine WL.index_s Tryd.underlying9 rfl rfl (by (first | omega | (simp only [List.length_cons, List.length_nil, List.length_append, List.length_drop, List.length_take]; omega))) rfl rfl fun c3_1 hc3_1 hc3_1l hc3_1u => ?_
    refine WL.q (oq_assign rfl) rfl rfl rfl ?_
    refine WL.nil ?_
    refine WE.then_normal ?_
    refine WC.sub (fr' := [(0, _), (1, _), (4, _), (5, _), (6, _), (7, _), (8, _)]) ?_ ⟨rfl, rfl, rfl, rfl, rfl, rfl, rfl, trivial⟩
    refine WC.block ?_
    refine WC.seq ?_
    have hcv : c3_1 = 92 := hc3_1
    refine WC.region ?_
    refine WL.q (oq_move rfl) rfl rfl rfl ?_
    refine WL.q (oq_move rfl) rfl rfl rfl ?_
    refine WL.q (oq_eql rfl rfl) rfl rfl rfl ?_
    refine WL.q (oq_move rfl) rfl rfl rfl ?_
    refine WL.split 30 rfl (fun s4_3 => ?_) (fun s4_3 => ?_)
    ·
      try simp only [Bool.not_eq_eq_eq_not, Bool.not_true, Bool.not_false, decide_eq_true_eq, decide_eq_false_iff_not, Int.not_lt, Int.not_le, ne_eq, Decidable.not_not, ← List.length_eq_zero_iff] at s4_3
      refine WL.q (oq_move rfl) rfl rfl rfl ?_
      refine WL.q (oq_eql rfl rfl) rfl rfl rfl ?_
      refine WL.q (oq_move rfl) rfl rfl rfl ?_
      refine WL.split 33 rfl (fun s4_6 => ?_) (fun s4_6 => ?_)
      ·
        try simp only [Bool.not_eq_eq_eq_not, Bool.not_true, Bool.not_false, decide_eq_true_eq, decide_eq_false_iff_not, Int.not_lt, Int.not_le, ne_eq, Decidable.not_not, ← List.length_eq_zero_iff] at s4_6
        refine WL.skip rfl rfl rfl ?_
        refine WL.skip rfl rfl rfl ?_
        refine WL.q (oq_pick_t rfl rfl) rfl rfl rfl ?_
        refine WL.q (oq_pick_t rfl rfl) rfl rfl rfl ?_
        refine WL.q (oq_assign rfl) rfl rfl rfl ?_
        refine WL.nil ?_
        refine WE.then_normal ?_
        refine WC.sub (fr' := [(0, _), (1, _), (4, _), (5, _), (6, _), (7, _), (8, _), (26, _)]) ?_ ⟨rfl, rfl, rfl, rfl, rfl, rfl, rfl, rfl, trivial⟩
        refine WC.cond_t rfl ?_
        refine WC.seq ?_
        first | contradiction | (exfalso; omega) | (exfalso; simp only [List.length_cons, List.length_append, List.length_drop, List.length_take, List.length_nil] at *; omega) | (exfalso; simp_all; done)
      ·
        try simp only [Bool.not_eq_eq_eq_not, Bool.not_true, Bool.not_false, decide_eq_true_eq, decide_eq_false_iff_not, Int.not_lt, Int.not_le, ne_eq, Decidable.not_not, ← List.length_eq_zero_iff] at s4_6
        refine WL.q (oq_move rfl) rfl rfl rfl ?_
        refine WL.q (oq_eql rfl rfl) rfl rfl rfl ?_
        refine WL.q (oq_pick_f rfl rfl) rfl rfl rfl ?_
        refine WL.q (oq_pick_t rfl rfl) rfl rfl rfl ?_
        refine WL.q (oq_assign rfl) rfl rfl rfl ?_
        refine WL.nil ?_
        refine WE.then_normal ?_
        refine WC.sub (fr' := [(0, _), (1, _), (4, _), (5, _), (6, _), (7, _), (8, _), (26, _)]) ?_ ⟨rfl, rfl, rfl, rfl, rfl, rfl, rfl, rfl, trivial⟩
        refine WC.cond rfl (fun q4 => ?_) (fun q4 => ?_)
        ·
          try simp only [Bool.not_eq_eq_eq_not, Bool.not_true, Bool.not_false, decide_eq_true_eq, decide_eq_false_iff_not, Int.not_lt, Int.not_le, ne_eq, Decidable.not_not, ← List.length_eq_zero_iff] at q4
          refine WC.seq ?_
          first | contradiction | (exfalso; omega) | (exfalso; simp only [List.length_cons, List.length_append, List.length_drop, List.length_take, List.length_nil] at *; omega) | (exfalso; simp_all; done)
        ·
          try simp only [Bool.not_eq_eq_eq_not, Bool.not_true, Bool.not_false, decide_eq_true_eq, decide_eq_false_iff_not, Int.not_lt, Int.not_le, ne_eq, Decidable.not_not, ← List.length_eq_zero_iff] at q4
          refine WC.seq ?_
          refine WC.region ?_
          refine WL.q (oq_move rfl) rfl rfl rfl ?_
          refine WL.q (oq_geq rfl rfl) rfl rfl rfl ?_
          refine WL.q (oq_assign rfl) rfl rfl rfl ?_
          refine WL.nil ?_
          refine WE.then_normal ?_
          refine WC.sub (fr' := [(0, _), (1, _), (4, _), (5, _), (6, _), (7, _), (8, _), (39, _)]) ?_ ⟨rfl, rfl, rfl, rfl, rfl, rfl, rfl, rfl, trivial⟩
          refine WC.cond rfl (fun q6 => ?_) (fun q6 => ?_)
          ·
            try simp only [Bool.not_eq_eq_eq_not, Bool.not_true, Bool.not_false, decide_eq_true_eq, decide_eq_false_iff_not, Int.not_lt, Int.not_le, ne_eq, Decidable.not_not, ← List.length_eq_zero_iff] at q6
            refine WC.seq ?_
            first | contradiction | (exfalso; omega) | (exfalso; simp only [List.length_cons, List.length_append, List.length_drop, List.length_take, List.length_nil] at *; omega) | (exfalso; simp_all; done)
          ·
            try simp only [Bool.not_eq_eq_eq_not, Bool.not_true, Bool.not_false, decide_eq_true_eq, decide_eq_false_iff_not, Int.not_lt, Int.not_le, ne_eq, Decidable.not_not, ← List.length_eq_zero_iff] at q6
            refine WC.seq ?_
            refine WC.region ?_
            refine WL.q (oq_move rfl) rfl rfl rfl ?_
            refine WL.q (oq_neq rfl rfl) rfl rfl rfl ?_
            refine WL.q (oq_assign rfl) rfl rfl rfl ?_
            refine WL.nil ?_
            refine WE.then_normal ?_
            refine WC.sub (fr' := [(0, _), (1, _), (4, _), (5, _), (6, _), (7, _), (51, _)]) ?_ ⟨rfl, rfl, rfl, rfl, rfl, rfl, rfl, trivial⟩
            refine WC.cond rfl (fun q9 => ?_) (fun q9 => ?_)
            ·
              try simp only [Bool.not_eq_eq_eq_not, Bool.not_true, Bool.not_false, decide_eq_true_eq, decide_eq_false_iff_not, Int.not_lt, Int.not_le, ne_eq, Decidable.not_not, ← List.length_eq_zero_iff] at q9
              refine WC.seq ?_
              first | contradiction | (exfalso; omega) | (exfalso; simp only [List.length_cons, List.length_append, List.length_drop, List.length_take, List.length_nil] at *; omega) | (exfalso; simp_all; done)
            ·
              try simp only [Bool.not_eq_eq_eq_not, Bool.not_true, Bool.not_false, decide_eq_true_eq, decide_eq_false_iff_not, Int.not_lt, Int.not_le, ne_eq, Decidable.not_not, ← List.length_eq_zero_iff] at q9
              refine WC.skip ?_
              refine WE.block_normal ?_
              refine WE.then_normal ?_
              refine WC.sub (fr' := [(0, _), (1, _), (4, _), (5, _), (6, _), (7, _)]) ?_ ⟨rfl, rfl, rfl, rfl, rfl, rfl, trivial⟩
              refine WC.seq ?_
              refine WC.seq ?_
              refine WC.region ?_
              refine WL.q (oq_move rfl) rfl rfl rfl ?_
              refine WL.q (oq_len_s Tryd.underlying9 rfl) rfl rfl rfl ?_
              refine WL.q (oq_leq rfl rfl) rfl rfl rfl ?_
              refine WL.nil ?_
              refine WE.then_normal ?_
              refine WC.sub (fr' := [(0, _), (1, _), (4, _), (5, _), (6, _), (7, _), (61, _)]) ?_ ⟨rfl, rfl, rfl, rfl, rfl, rfl, rfl, trivial⟩
              refine WC.cond rfl (fun q11 => ?_) (fun q11 => ?_)
              ·
                try simp only [Bool.not_eq_eq_eq_not, Bool.not_true, Bool.not_false, decide_eq_true_eq, decide_eq_false_iff_not, Int.not_lt, Int.not_le, ne_eq, Decidable.not_not, ← List.length_eq_zero_iff] at q11
                refine WC.seq ?_
                first | contradiction | (exfalso; omega) | (exfalso; simp only [List.length_cons, List.length_append, List.length_drop, List.length_take, List.length_nil] at *; omega) | (exfalso; simp_all; done)
              ·
                try simp only [Bool.not_eq_eq_eq_not, Bool.not_true, Bool.not_false, decide_eq_true_eq, decide_eq_false_iff_not, Int.not_lt, Int.not_le, ne_eq, Decidable.not_not, ← List.length_eq_zero_iff] at q11
                refine WC.skip ?_
                refine WE.then_normal ?_
                refine WC.sub (fr' := [(0, _), (1, _), (4, _), (5, _), (6, _), (7, _)]) ?_ ⟨rfl, rfl, rfl, rfl, rfl, rfl, trivial⟩
                refine WC.seq ?_
                refine WC.region ?_
                refine WL.q (oq_move rfl) rfl rfl rfl ?_
                refine WL.index_s Tryd.underlying9 rfl rfl (by (first | omega | (simp only [List.length_cons, List.length_nil, List.length_append, List.length_drop, List.length_take]; omega))) rfl rfl fun c13_1 hc13_1 hc13_1l hc13_1u => ?_
                refine WL.q (oq_assign rfl) rfl rfl rfl ?_
                refine WL.nil ?_
                refine WE.then_normal ?_
                refine WC.sub (fr' := [(0, _), (1, _), (4, _), (5, _), (6, _), (7, _), (11, _)]) ?_ ⟨rfl, rfl, rfl, rfl, rfl, rfl, rfl, trivial⟩
                refine WC.seq ?_
                refine WC.region ?_
                refine WL.q (oq_move rfl) rfl rfl rfl ?_
                refine WL.q (oq_slice_s1 Tryd.underlying9 rfl rfl (by (first | omega | (simp only [List.length_cons, List.length_nil, List.length_append, List.length_drop, List.length_take]; omega)))) rfl rfl rfl ?_
                refine WL.q (oq_assign rfl) rfl rfl rfl ?_
                refine WL.nil ?_
                refine WE.then_normal ?_
                refine WC.sub (fr' := [(0, _), (1, _), (4, _), (5, _), (6, _), (7, _), (11, _)]) ?_ ⟨rfl, rfl, rfl, rfl, rfl, rfl, rfl, trivial⟩
                refine WC.seq ?_
                refine WC.seq ?_
                have hd1 : c13_1 = 34 ∨ c13_1 = 92 := by
                  rw [hc13_1]; rcases hd with rfl | rfl
                  · exact .inl rfl
                  · exact .inr rfl
                have hdv : c13_1 = (d.toNat : Int) := hc13_1
                refine WC.region ?_
                refine WL.q (oq_move rfl) rfl rfl rfl ?_
                refine WL.nil ?_
                refine WE.then_normal ?_
                refine WC.sub (fr' := [(0, _), (1, _), (4, _), (5, _), (6, _), (7, _), (11, _), (67, _)]) ?_ ⟨rfl, rfl, rfl, rfl, rfl, rfl, rfl, rfl, trivial⟩
                refine WC.block ?_
                refine WC.seq ?_
                refine WC.region ?_
                refine WL.q (oq_eql rfl rfl) rfl rfl rfl ?_
                refine WL.q (oq_assign rfl) rfl rfl rfl ?_
                refine WL.nil ?_
                refine WE.then_normal ?_
                refine WC.sub (fr' := [(0, _), (1, _), (4, _), (5, _), (6, _), (7, _), (11, _), (67, _), (69, _)]) ?_ ⟨rfl, rfl, rfl, rfl, rfl, rfl, rfl, rfl, rfl, trivial⟩
                refine WC.cond rfl (fun q17 => ?_) (fun q17 => ?_)
                ·
                  try simp only [Bool.not_eq_eq_eq_not, Bool.not_true, Bool.not_false, decide_eq_true_eq, decide_eq_false_iff_not, Int.not_lt, Int.not_le, ne_eq, Decidable.not_not, ← List.length_eq_zero_iff] at q17
                  first | contradiction | (exfalso; omega) | (exfalso; simp_all; done)
                ·
                  try simp only [Bool.not_eq_eq_eq_not, Bool.not_true, Bool.not_false, decide_eq_true_eq, decide_eq_false_iff_not, Int.not_lt, Int.not_le, ne_eq, Decidable.not_not, ← List.length_eq_zero_iff] at q17
                  refine WC.seq ?_
                  refine WC.region ?_
                  refine WL.q (oq_eql rfl rfl) rfl rfl rfl ?_
                  refine WL.q (oq_assign rfl) rfl rfl rfl ?_
                  refine WL.nil ?_
                  refine WE.then_normal ?_
                  refine WC.sub (fr' := [(0, _), (1, _), (4, _), (5, _), (6, _), (7, _), (11, _), (67, _), (71, _)]) ?_ ⟨rfl, rfl, rfl, rfl, rfl, rfl, rfl, rfl, rfl, trivial⟩
                  refine WC.cond rfl (fun q19 => ?_) (fun q19 => ?_)
                  ·
                    try simp only [Bool.not_eq_eq_eq_not, Bool.not_true, Bool.not_false, decide_eq_true_eq, decide_eq_false_iff_not, Int.not_lt, Int.not_le, ne_eq, Decidable.not_not, ← List.length_eq_zero_iff] at q19
                    first | contradiction | (exfalso; omega) | (exfalso; simp_all; done)
                  ·
                    try simp only [Bool.not_eq_eq_eq_not, Bool.not_true, Bool.not_false, decide_eq_true_eq, decide_eq_false_iff_not, Int.not_lt, Int.not_le, ne_eq, Decidable.not_not, ← List.length_eq_zero_iff] at q19
                    refine WC.seq ?_
                    refine WC.region ?_
                    refine WL.q (oq_eql rfl rfl) rfl rfl rfl ?_
                    refine WL.q (oq_assign rfl) rfl rfl rfl ?_
                    refine WL.nil ?_
                    refine WE.then_normal ?_
                    refine WC.sub (fr' := [(0, _), (1, _), (4, _), (5, _), (6, _), (7, _), (11, _), (67, _), (73, _)]) ?_ ⟨rfl, rfl, rfl, rfl, rfl, rfl, rfl, rfl, rfl, trivial⟩
                    refine WC.cond rfl (fun q21 => ?_) (fun q21 => ?_)
                    ·
                      try simp only [Bool.not_eq_eq_eq_not, Bool.not_true, Bool.not_false, decide_eq_true_eq, decide_eq_false_iff_not, Int.not_lt, Int.not_le, ne_eq, Decidable.not_not, ← List.length_eq_zero_iff] at q21
                      first | contradiction | (exfalso; omega) | (exfalso; simp_all; done)
                    ·
                      try simp only [Bool.not_eq_eq_eq_not, Bool.not_true, Bool.not_false, decide_eq_true_eq, decide_eq_false_iff_not, Int.not_lt, Int.not_le, ne_eq, Decidable.not_not, ← List.length_eq_zero_iff] at q21
                      refine WC.seq ?_
                      refine WC.region ?_
                      refine WL.q (oq_eql rfl rfl) rfl rfl rfl ?_
                      refine WL.q (oq_assign rfl) rfl rfl rfl ?_
                      refine WL.nil ?_
                      refine WE.then_normal ?_
                      refine WC.sub (fr' := [(0, _), (1, _), (4, _), (5, _), (6, _), (7, _), (11, _), (67, _), (75, _)]) ?_ ⟨rfl, rfl, rfl, rfl, rfl, rfl, rfl, rfl, rfl, trivial⟩
                      refine WC.cond rfl (fun q23 => ?_) (fun q23 => ?_)
                      ·
                        try simp only [Bool.not_eq_eq_eq_not, Bool.not_true, Bool.not_false, decide_eq_true_eq, decide_eq_false_iff_not, Int.not_lt, Int.not_le, ne_eq, Decidable.not_not, ← List.length_eq_zero_iff] at q23
                        first | contradiction | (exfalso; omega) | (exfalso; simp_all; done)
                      ·
                        try simp only [Bool.not_eq_eq_eq_not, Bool.not_true, Bool.not_false, decide_eq_true_eq, decide_eq_false_iff_not, Int.not_lt, Int.not_le, ne_eq, Decidable.not_not, ← List.length_eq_zero_iff] at q23
                        refine WC.seq ?_
                        refine WC.region ?_
                        refine WL.q (oq_eql rfl rfl) rfl rfl rfl ?_
                        refine WL.q (oq_assign rfl) rfl rfl rfl ?_
                        refine WL.nil ?_
                        refine WE.then_normal ?_
                        refine WC.sub (fr' := [(0, _), (1, _), (4, _), (5, _), (6, _), (7, _), (11, _), (67, _), (77, _)]) ?_ ⟨rfl, rfl, rfl, rfl, rfl, rfl, rfl, rfl, rfl, trivial⟩
                        refine WC.cond rfl (fun q25 => ?_) (fun q25 => ?_)
                        ·
                          try simp only [Bool.not_eq_eq_eq_not, Bool.not_true, Bool.not_false, decide_eq_true_eq, decide_eq_false_iff_not, Int.not_lt, Int.not_le, ne_eq, Decidable.not_not, ← List.length_eq_zero_iff] at q25
                          first | contradiction | (exfalso; omega) | (exfalso; simp_all; done)
                        ·
                          try simp only [Bool.not_eq_eq_eq_not, Bool.not_true, Bool.not_false, decide_eq_true_eq, decide_eq_false_iff_not, Int.not_lt, Int.not_le, ne_eq, Decidable.not_not, ← List.length_eq_zero_iff] at q25
                          refine WC.seq ?_
                          refine WC.region ?_
                          refine WL.q (oq_eql rfl rfl) rfl rfl rfl ?_
                          refine WL.q (oq_assign rfl) rfl rfl rfl ?_
                          refine WL.nil ?_
                          refine WE.then_normal ?_
                          refine WC.sub (fr' := [(0, _), (1, _), (4, _), (5, _), (6, _), (7, _), (11, _), (67, _), (79, _)]) ?_ ⟨rfl, rfl, rfl, rfl, rfl, rfl, rfl, rfl, rfl, trivial⟩
                          refine WC.cond rfl (fun q27 => ?_) (fun q27 => ?_)
                          ·
                            try simp only [Bool.not_eq_eq_eq_not, Bool.not_true, Bool.not_false, decide_eq_true_eq, decide_eq_false_iff_not, Int.not_lt, Int.not_le, ne_eq, Decidable.not_not, ← List.length_eq_zero_iff] at q27
                            first | contradiction | (exfalso; omega) | (exfalso; simp_all; done)
                          ·
                            try simp only [Bool.not_eq_eq_eq_not, Bool.not_true, Bool.not_false, decide_eq_true_eq, decide_eq_false_iff_not, Int.not_lt, Int.not_le, ne_eq, Decidable.not_not, ← List.length_eq_zero_iff] at q27
                            refine WC.seq ?_
                            refine WC.region ?_
                            refine WL.q (oq_eql rfl rfl) rfl rfl rfl ?_
                            refine WL.q (oq_assign rfl) rfl rfl rfl ?_
                            refine WL.nil ?_
                            refine WE.then_normal ?_
                            refine WC.sub (fr' := [(0, _), (1, _), (4, _), (5, _), (6, _), (7, _), (11, _), (67, _), (81, _)]) ?_ ⟨rfl, rfl, rfl, rfl, rfl, rfl, rfl, rfl, rfl, trivial⟩
                            refine WC.cond rfl (fun q29 => ?_) (fun q29 => ?_)
                            ·
                              try simp only [Bool.not_eq_eq_eq_not, Bool.not_true, Bool.not_false, decide_eq_true_eq, decide_eq_false_iff_not, Int.not_lt, Int.not_le, ne_eq, Decidable.not_not, ← List.length_eq_zero_iff] at q29
                              first | contradiction | (exfalso; omega) | (exfalso; simp_all; done)
                            ·
                              try simp only [Bool.not_eq_eq_eq_not, Bool.not_true, Bool.not_false, decide_eq_true_eq, decide_eq_false_iff_not, Int.not_lt, Int.not_le, ne_eq, Decidable.not_not, ← List.length_eq_zero_iff] at q29
                              refine WC.seq ?_
                              refine WC.seq ?_
                              refine WC.region ?_
                              refine WL.q (oq_eql rfl rfl) rfl rfl rfl ?_
                              refine WL.q (oq_assign rfl) rfl rfl rfl ?_
                              refine WL.nil ?_
                              refine WE.then_normal ?_
                              refine WC.sub (fr' := [(0, _), (1, _), (4, _), (5, _), (6, _), (7, _), (11, _), (67, _), (83, _)]) ?_ ⟨rfl, rfl, rfl, rfl, rfl, rfl, rfl, rfl, rfl, trivial⟩
                              refine WC.cond rfl (fun q31 => ?_) (fun q31 => ?_)
                              ·
                                try simp only [Bool.not_eq_eq_eq_not, Bool.not_true, Bool.not_false, decide_eq_true_eq, decide_eq_false_iff_not, Int.not_lt, Int.not_le, ne_eq, Decidable.not_not, ← List.length_eq_zero_iff] at q31
                                first | contradiction | (exfalso; omega) | (exfalso; simp_all; done)
                              ·
                                try simp only [Bool.not_eq_eq_eq_not, Bool.not_true, Bool.not_false, decide_eq_true_eq, decide_eq_false_iff_not, Int.not_lt, Int.not_le, ne_eq, Decidable.not_not, ← List.length_eq_zero_iff] at q31
                                refine WC.seq ?_
                                refine WC.region ?_
                                refine WL.q (oq_eql rfl rfl) rfl rfl rfl ?_
                                refine WL.q (oq_assign rfl) rfl rfl rfl ?_
                                refine WL.nil ?_
                                refine WE.then_normal ?_
                                refine WC.sub (fr' := [(0, _), (1, _), (4, _), (5, _), (6, _), (7, _), (11, _), (67, _), (83, _)]) ?_ ⟨rfl, rfl, rfl, rfl, rfl, rfl, rfl, rfl, rfl, trivial⟩
                                refine WC.cond rfl (fun q32 => ?_) (fun q32 => ?_)
                                ·
                                  try simp only [Bool.not_eq_eq_eq_not, Bool.not_true, Bool.not_false, decide_eq_true_eq, decide_eq_false_iff_not, Int.not_lt, Int.not_le, ne_eq, Decidable.not_not, ← List.length_eq_zero_iff] at q32
                                  first | contradiction | (exfalso; omega) | (exfalso; simp_all; done)
                                ·
                                  try simp only [Bool.not_eq_eq_eq_not, Bool.not_true, Bool.not_false, decide_eq_true_eq, decide_eq_false_iff_not, Int.not_lt, Int.not_le, ne_eq, Decidable.not_not, ← List.length_eq_zero_iff] at q32
                                  refine WC.region ?_
                                  refine WL.q (oq_eql rfl rfl) rfl rfl rfl ?_
                                  refine WL.q (oq_assign rfl) rfl rfl rfl ?_
                                  refine WL.nil ?_
                                  refine WE.then_normal ?_
                                  refine WC.sub (fr' := [(0, _), (1, _), (4, _), (5, _), (6, _), (7, _), (11, _), (67, _), (83, _)]) ?_ ⟨rfl, rfl, rfl, rfl, rfl, rfl, rfl, rfl, rfl, trivial⟩
                                  refine WC.cond rfl (fun q33 => ?_) (fun q33 => ?_)
                                  ·
                                    try simp only [Bool.not_eq_eq_eq_not, Bool.not_true, Bool.not_false, decide_eq_true_eq, decide_eq_false_iff_not, Int.not_lt, Int.not_le, ne_eq, Decidable.not_not, ← List.length_eq_zero_iff] at q33
                                    first | contradiction | (exfalso; omega) | (exfalso; simp_all; done)
                                  ·
                                    try simp only [Bool.not_eq_eq_eq_not, Bool.not_true, Bool.not_false, decide_eq_true_eq, decide_eq_false_iff_not, Int.not_lt, Int.not_le, ne_eq, Decidable.not_not, ← List.length_eq_zero_iff] at q33
                                    refine WC.seq ?_
                                    refine WC.seq ?_
                                    refine WC.region ?_
                                    refine WL.q (oq_eql rfl rfl) rfl rfl rfl ?_
                                    refine WL.q (oq_assign rfl) rfl rfl rfl ?_
                                    refine WL.nil ?_
                                    refine WE.then_normal ?_
                                    refine WC.sub (fr' := [(0, _), (1, _), (4, _), (5, _), (6, _), (7, _), (11, _), (67, _), (129, _)]) ?_ ⟨rfl, rfl, rfl, rfl, rfl, rfl, rfl, rfl, rfl, trivial⟩
                                    refine WC.cond rfl (fun q59 => ?_) (fun q59 => ?_)
                                    ·
                                      try simp only [Bool.not_eq_eq_eq_not, Bool.not_true, Bool.not_false, decide_eq_true_eq, decide_eq_false_iff_not, Int.not_lt, Int.not_le, ne_eq, Decidable.not_not, ← List.length_eq_zero_iff] at q59
                                      first | contradiction | (exfalso; omega) | (exfalso; simp_all; done)
                                    ·
                                      try simp only [Bool.not_eq_eq_eq_not, Bool.not_true, Bool.not_false, decide_eq_true_eq, decide_eq_false_iff_not, Int.not_lt, Int.not_le, ne_eq, Decidable.not_not, ← List.length_eq_zero_iff] at q59
                                      refine WC.seq ?_
                                      refine WC.region ?_
                                      refine WL.q (oq_eql rfl rfl) rfl rfl rfl ?_
                                      refine WL.q (oq_assign rfl) rfl rfl rfl ?_
                                      refine WL.nil ?_
                                      refine WE.then_normal ?_
                                      refine WC.sub (fr' := [(0, _), (1, _), (4, _), (5, _), (6, _), (7, _), (11, _), (67, _), (129, _)]) ?_ ⟨rfl, rfl, rfl, rfl, rfl, rfl, rfl, rfl, rfl, trivial⟩
                                      refine WC.cond rfl (fun q60 => ?_) (fun q60 => ?_)
                                      ·
                                        try simp only [Bool.not_eq_eq_eq_not, Bool.not_true, Bool.not_false, decide_eq_true_eq, decide_eq_false_iff_not, Int.not_lt, Int.not_le, ne_eq, Decidable.not_not, ← List.length_eq_zero_iff] at q60
                                        first | contradiction | (exfalso; omega) | (exfalso; simp_all; done)
                                      ·
                                        try simp only [Bool.not_eq_eq_eq_not, Bool.not_true, Bool.not_false, decide_eq_true_eq, decide_eq_false_iff_not, Int.not_lt, Int.not_le, ne_eq, Decidable.not_not, ← List.length_eq_zero_iff] at q60
                                        refine WC.seq ?_
                                        refine WC.region ?_
                                        refine WL.q (oq_eql rfl rfl) rfl rfl rfl ?_
                                        refine WL.q (oq_assign rfl) rfl rfl rfl ?_
                                        refine WL.nil ?_
                                        refine WE.then_normal ?_
                                        refine WC.sub (fr' := [(0, _), (1, _), (4, _), (5, _), (6, _), (7, _), (11, _), (67, _), (129, _)]) ?_ ⟨rfl, rfl, rfl, rfl, rfl, rfl, rfl, rfl, rfl, trivial⟩
                                        refine WC.cond rfl (fun q61 => ?_) (fun q61 => ?_)
                                        ·
                                          try simp only [Bool.not_eq_eq_eq_not, Bool.not_true, Bool.not_false, decide_eq_true_eq, decide_eq_false_iff_not, Int.not_lt, Int.not_le, ne_eq, Decidable.not_not, ← List.length_eq_zero_iff] at q61
                                          first | contradiction | (exfalso; omega) | (exfalso; simp_all; done)
                                        ·
                                          try simp only [Bool.not_eq_eq_eq_not, Bool.not_true, Bool.not_false, decide_eq_true_eq, decide_eq_false_iff_not, Int.not_lt, Int.not_le, ne_eq, Decidable.not_not, ← List.length_eq_zero_iff] at q61
                                          refine WC.seq ?_
                                          refine WC.region ?_
                                          refine WL.q (oq_eql rfl rfl) rfl rfl rfl ?_
                                          refine WL.q (oq_assign rfl) rfl rfl rfl ?_
                                          refine WL.nil ?_
                                          refine WE.then_normal ?_
                                          refine WC.sub (fr' := [(0, _), (1, _), (4, _), (5, _), (6, _), (7, _), (11, _), (67, _), (129, _)]) ?_ ⟨rfl, rfl, rfl, rfl, rfl, rfl, rfl, rfl, rfl, trivial⟩
                                          refine WC.cond rfl (fun q62 => ?_) (fun q62 => ?_)
                                          ·
                                            try simp only [Bool.not_eq_eq_eq_not, Bool.not_true, Bool.not_false, decide_eq_true_eq, decide_eq_false_iff_not, Int.not_lt, Int.not_le, ne_eq, Decidable.not_not, ← List.length_eq_zero_iff] at q62
                                            first | contradiction | (exfalso; omega) | (exfalso; simp_all; done)
                                          ·
                                            try simp only [Bool.not_eq_eq_eq_not, Bool.not_true, Bool.not_false, decide_eq_true_eq, decide_eq_false_iff_not, Int.not_lt, Int.not_le, ne_eq, Decidable.not_not, ← List.length_eq_zero_iff] at q62
                                            refine WC.seq ?_
                                            refine WC.region ?_
                                            refine WL.q (oq_eql rfl rfl) rfl rfl rfl ?_
                                            refine WL.q (oq_assign rfl) rfl rfl rfl ?_
                                            refine WL.nil ?_
                                            refine WE.then_normal ?_
                                            refine WC.sub (fr' := [(0, _), (1, _), (4, _), (5, _), (6, _), (7, _), (11, _), (67, _), (129, _)]) ?_ ⟨rfl, rfl, rfl, rfl, rfl, rfl, rfl, rfl, rfl, trivial⟩
                                            refine WC.cond rfl (fun q63 => ?_) (fun q63 => ?_)
                                            ·
                                              try simp only [Bool.not_eq_eq_eq_not, Bool.not_true, Bool.not_false, decide_eq_true_eq, decide_eq_false_iff_not, Int.not_lt, Int.not_le, ne_eq, Decidable.not_not, ← List.length_eq_zero_iff] at q63
                                              first | contradiction | (exfalso; omega) | (exfalso; simp_all; done)
                                            ·
                                              try simp only [Bool.not_eq_eq_eq_not, Bool.not_true, Bool.not_false, decide_eq_true_eq, decide_eq_false_iff_not, Int.not_lt, Int.not_le, ne_eq, Decidable.not_not, ← List.length_eq_zero_iff] at q63
                                              refine WC.seq ?_
                                              refine WC.region ?_
                                              refine WL.q (oq_eql rfl rfl) rfl rfl rfl ?_
                                              refine WL.q (oq_assign rfl) rfl rfl rfl ?_
                                              refine WL.nil ?_
                                              refine WE.then_normal ?_
                                              refine WC.sub (fr' := [(0, _), (1, _), (4, _), (5, _), (6, _), (7, _), (11, _), (67, _), (129, _)]) ?_ ⟨rfl, rfl, rfl, rfl, rfl, rfl, rfl, rfl, rfl, trivial⟩
                                              refine WC.cond rfl (fun q64 => ?_) (fun q64 => ?_)
                                              ·
                                                try simp only [Bool.not_eq_eq_eq_not, Bool.not_true, Bool.not_false, decide_eq_true_eq, decide_eq_false_iff_not, Int.not_lt, Int.not_le, ne_eq, Decidable.not_not, ← List.length_eq_zero_iff] at q64
                                                first | contradiction | (exfalso; omega) | (exfalso; simp_all; done)
                                              ·
                                                try simp only [Bool.not_eq_eq_eq_not, Bool.not_true, Bool.not_false, decide_eq_true_eq, decide_eq_false_iff_not, Int.not_lt, Int.not_le, ne_eq, Decidable.not_not, ← List.length_eq_zero_iff] at q64
                                                refine WC.seq ?_
                                                refine WC.region ?_
                                                refine WL.q (oq_eql rfl rfl) rfl rfl rfl ?_
                                                refine WL.q (oq_assign rfl) rfl rfl rfl ?_
                                                refine WL.nil ?_
                                                refine WE.then_normal ?_
                                                refine WC.sub (fr' := [(0, _), (1, _), (4, _), (5, _), (6, _), (7, _), (11, _), (67, _), (129, _)]) ?_ ⟨rfl, rfl, rfl, rfl, rfl, rfl, rfl, rfl, rfl, trivial⟩
                                                refine WC.cond rfl (fun q65 => ?_) (fun q65 => ?_)
                                                ·
                                                  try simp only [Bool.not_eq_eq_eq_not, Bool.not_true, Bool.not_false, decide_eq_true_eq, decide_eq_false_iff_not, Int.not_lt, Int.not_le, ne_eq, Decidable.not_not, ← List.length_eq_zero_iff] at q65
                                                  first | contradiction | (exfalso; omega) | (exfalso; simp_all; done)
                                                ·
                                                  try simp only [Bool.not_eq_eq_eq_not, Bool.not_true, Bool.not_false, decide_eq_true_eq, decide_eq_false_iff_not, Int.not_lt, Int.not_le, ne_eq, Decidable.not_not, ← List.length_eq_zero_iff] at q65
                                                  refine WC.region ?_
                                                  refine WL.q (oq_eql rfl rfl) rfl rfl rfl ?_
                                                  refine WL.q (oq_assign rfl) rfl rfl rfl ?_
                                                  refine WL.nil ?_
                                                  refine WE.then_normal ?_
                                                  refine WC.sub (fr' := [(0, _), (1, _), (4, _), (5, _), (6, _), (7, _), (11, _), (67, _), (129, _)]) ?_ ⟨rfl, rfl, rfl, rfl, rfl, rfl, rfl, rfl, rfl, trivial⟩
                                                  refine WC.cond rfl (fun q66 => ?_) (fun q66 => ?_)
                                                  ·
                                                    try simp only [Bool.not_eq_eq_eq_not, Bool.not_true, Bool.not_false, decide_eq_true_eq, decide_eq_false_iff_not, Int.not_lt, Int.not_le, ne_eq, Decidable.not_not, ← List.length_eq_zero_iff] at q66
                                                    first | contradiction | (exfalso; omega) | (exfalso; simp_all; done)
                                                  ·
                                                    try simp only [Bool.not_eq_eq_eq_not, Bool.not_true, Bool.not_false, decide_eq_true_eq, decide_eq_false_iff_not, Int.not_lt, Int.not_le, ne_eq, Decidable.not_not, ← List.length_eq_zero_iff] at q66
                                                    refine WC.seq ?_
                                                    refine WC.region ?_
                                                    refine WL.q (oq_eql rfl rfl) rfl rfl rfl ?_
                                                    refine WL.q (oq_assign rfl) rfl rfl rfl ?_
                                                    refine WL.nil ?_
                                                    refine WE.then_normal ?_
                                                    refine WC.sub (fr' := [(0, _), (1, _), (4, _), (5, _), (6, _), (7, _), (11, _), (67, _), (171, _)]) ?_ ⟨rfl, rfl, rfl, rfl, rfl, rfl, rfl, rfl, rfl, trivial⟩
                                                    refine WC.cond rfl (fun q81 => ?_) (fun q81 => ?_)
                                                    ·
                                                      try simp only [Bool.not_eq_eq_eq_not, Bool.not_true, Bool.not_false, decide_eq_true_eq, decide_eq_false_iff_not, Int.not_lt, Int.not_le, ne_eq, Decidable.not_not, ← List.length_eq_zero_iff] at q81
                                                      refine WC.region ?_
                                                      refine WL.q (oq_assign rfl) rfl rfl rfl ?_
                                                      refine WL.nil ?_
                                                      refine WE.block_normal ?_
                                                      refine WE.then_normal ?_
                                                      refine WC.sub (fr' := [(0, _), (4, _), (5, _), (7, _)]) ?_ ⟨rfl, rfl, rfl, rfl, trivial⟩
                                                      refine WC.seq ?_
                                                      refine WC.region ?_
                                                      refine WL.q (oq_move rfl) rfl rfl rfl ?_
                                                      refine WL.q (oq_assign rfl) rfl rfl rfl ?_
                                                      refine WL.nil ?_
                                                      refine WE.then_normal ?_
                                                      refine WC.sub (fr' := [(4, _), (5, _), (6, _), (7, _)]) ?_ ⟨rfl, rfl, rfl, rfl, trivial⟩
                                                      refine WC.ret ?_
                                                      refine WE.end0 (.inl rfl) (res4 Tryd.results110 rfl rfl rfl rfl) ?_
                                                      -- end 0
                                                      rw [← hdv]; first | rfl | (rw [q81]; rfl)
                                                    ·
                                                      try simp only [Bool.not_eq_eq_eq_not, Bool.not_true, Bool.not_false, decide_eq_true_eq, decide_eq_false_iff_not, Int.not_lt, Int.not_le, ne_eq, Decidable.not_not, ← List.length_eq_zero_iff] at q81
                                                      refine WC.seq ?_
                                                      refine WC.seq ?_
                                                      refine WC.region ?_
                                                      refine WL.q (oq_eql rfl rfl) rfl rfl rfl ?_
                                                      refine WL.q (oq_assign rfl) rfl rfl rfl ?_
                                                      refine WL.nil ?_
                                                      refine WE.then_normal ?_
                                                      refine WC.sub (fr' := [(0, _), (1, _), (4, _), (5, _), (6, _), (7, _), (11, _), (67, _), (173, _)]) ?_ ⟨rfl, rfl, rfl, rfl, rfl, rfl, rfl, rfl, rfl, trivial⟩
                                                      refine WC.cond rfl (fun q83 => ?_) (fun q83 => ?_)
                                                      ·
                                                        try simp only [Bool.not_eq_eq_eq_not, Bool.not_true, Bool.not_false, decide_eq_true_eq, decide_eq_false_iff_not, Int.not_lt, Int.not_le, ne_eq, Decidable.not_not, ← List.length_eq_zero_iff] at q83
                                                        first | contradiction | (exfalso; omega) | (exfalso; simp_all; done)
                                                      ·
                                                        try simp only [Bool.not_eq_eq_eq_not, Bool.not_true, Bool.not_false, decide_eq_true_eq, decide_eq_false_iff_not, Int.not_lt, Int.not_le, ne_eq, Decidable.not_not, ← List.length_eq_zero_iff] at q83
                                                        refine WC.region ?_
                                                        refine WL.q (oq_eql rfl rfl) rfl rfl rfl ?_
                                                        refine WL.q (oq_assign rfl) rfl rfl rfl ?_
                                                        refine WL.nil ?_
                                                        refine WE.then_normal ?_
                                                        refine WC.sub (fr' := [(0, _), (1, _), (4, _), (5, _), (6, _), (7, _), (11, _), (173, _)]) ?_ ⟨rfl, rfl, rfl, rfl, rfl, rfl, rfl, rfl, trivial⟩
                                                        refine WC.cond rfl (fun q84 => ?_) (fun q84 => ?_)
                                                        ·
                                                          try simp only [Bool.not_eq_eq_eq_not, Bool.not_true, Bool.not_false, decide_eq_true_eq, decide_eq_false_iff_not, Int.not_lt, Int.not_le, ne_eq, Decidable.not_not, ← List.length_eq_zero_iff] at q84
                                                          refine WC.seq ?_
                                                          refine WC.seq ?_
                                                          refine WC.region ?_
                                                          refine WL.q (oq_move rfl) rfl rfl rfl ?_
                                                          refine WL.q (oq_move rfl) rfl rfl rfl ?_
                                                          refine WL.q (oq_neq rfl rfl) rfl rfl rfl ?_
                                                          refine WL.nil ?_
                                                          refine WE.then_normal ?_
                                                          refine WC.sub (fr' := [(0, _), (4, _), (5, _), (6, _), (7, _), (11, _), (178, _)]) ?_ ⟨rfl, rfl, rfl, rfl, rfl, rfl, rfl, trivial⟩
                                                          refine WC.cond rfl (fun q85 => ?_) (fun q85 => ?_)
                                                          ·
                                                            try simp only [Bool.not_eq_eq_eq_not, Bool.not_true, Bool.not_false, decide_eq_true_eq, decide_eq_false_iff_not, Int.not_lt, Int.not_le, ne_eq, Decidable.not_not, ← List.length_eq_zero_iff] at q85
                                                            first | contradiction | (exfalso; omega) | (exfalso; simp_all; done)
                                                          ·
                                                            try simp only [Bool.not_eq_eq_eq_not, Bool.not_true, Bool.not_false, decide_eq_true_eq, decide_eq_false_iff_not, Int.not_lt, Int.not_le, ne_eq, Decidable.not_not, ← List.length_eq_zero_iff] at q85
                                                            refine WC.skip ?_
                                                            refine WE.then_normal ?_
                                                            refine WC.sub (fr' := [(0, _), (5, _), (7, _), (11, _)]) ?_ ⟨rfl, rfl, rfl, rfl, trivial⟩
                                                            refine WC.region ?_
                                                            refine WL.q (oq_move rfl) rfl rfl rfl ?_
                                                            refine WL.q (oq_conv Tryd.underlying5 Tryd.underlying21 rfl (by rw [i32_lo, i32_hi]; (first | omega | (simp only [List.length_cons, List.length_nil, List.length_append, List.length_drop, List.length_take]; omega)))) rfl rfl rfl ?_
                                                            refine WL.q (oq_assign rfl) rfl rfl rfl ?_
                                                            refine WL.nil ?_
                                                            refine WE.block_normal ?_
                                                            refine WE.then_normal ?_
                                                            refine WC.sub (fr' := [(0, _), (4, _), (5, _), (7, _)]) ?_ ⟨rfl, rfl, rfl, rfl, trivial⟩
                                                            refine WC.seq ?_
                                                            refine WC.region ?_
                                                            refine WL.q (oq_move rfl) rfl rfl rfl ?_
                                                            refine WL.q (oq_assign rfl) rfl rfl rfl ?_
                                                            refine WL.nil ?_
                                                            refine WE.then_normal ?_
                                                            refine WC.sub (fr' := [(4, _), (5, _), (6, _), (7, _)]) ?_ ⟨rfl, rfl, rfl, rfl, trivial⟩
                                                            refine WC.ret ?_
                                                            refine WE.end0 (.inl rfl) (res4 Tryd.results110 rfl rfl rfl rfl) ?_
                                                            -- end 1
                                                            rw [← hdv]; first | rfl | (rw [q81]; rfl)
                                                        ·
                                                          try simp only [Bool.not_eq_eq_eq_not, Bool.not_true, Bool.not_false, decide_eq_true_eq, decide_eq_false_iff_not, Int.not_lt, Int.not_le, ne_eq, Decidable.not_not, ← List.length_eq_zero_iff] at q84
                                                          first | contradiction | (exfalso; omega) | (exfalso; simp_all; done)
    ·
      try simp only [Bool.not_eq_eq_eq_not, Bool.not_true, Bool.not_false, decide_eq_true_eq, decide_eq_false_iff_not, Int.not_lt, Int.not_le, ne_eq, Decidable.not_not, ← List.length_eq_zero_iff] at s4_3
      refine WL.skip rfl rfl rfl ?_
      refine WL.skip rfl rfl rfl ?_
      refine WL.skip rfl rfl rfl ?_
      refine WL.skip rfl rfl rfl ?_
      refine WL.skip rfl rfl rfl ?_
      refine WL.skip rfl rfl rfl ?_
      refine WL.q (oq_pick_f rfl rfl) rfl rfl rfl ?_
      refine WL.q (oq_assign rfl) rfl rfl rfl ?_
      refine WL.nil ?_
      refine WE.then_normal ?_
      refine WC.sub (fr' := [(0, _), (1, _), (4, _), (5, _), (6, _), (7, _), (8, _), (26, _)]) ?_ ⟨rfl, rfl, rfl, rfl, rfl, rfl, rfl, rfl, trivial⟩
      refine WC.cond_f rfl ?_
      refine WC.seq ?_
      refine WC.region ?_
      refine WL.q (oq_move rfl) rfl rfl rfl ?_
      refine WL.q (oq_geq rfl rfl) rfl rfl rfl ?_
      refine WL.q (oq_assign rfl) rfl rfl rfl ?_
      refine WL.nil ?_
      refine WE.then_normal ?_
      refine WC.sub (fr' := [(0, _), (1, _), (4, _), (5, _), (6, _), (7, _), (8, _), (39, _)]) ?_ ⟨rfl, rfl, rfl, rfl, rfl, rfl, rfl, rfl, trivial⟩
      refine WC.cond rfl (fun q6 => ?_) (fun q6 => ?_)
      ·
        try simp only [Bool.not_eq_eq_eq_not, Bool.not_true, Bool.not_false, decide_eq_true_eq, decide_eq_false_iff_not, Int.not_lt, Int.not_le, ne_eq, Decidable.not_not, ← List.length_eq_zero_iff] at q6
        refine WC.seq ?_
        first | contradiction | (exfalso; omega) | (exfalso; simp only [List.length_cons, List.length_append, List.length_drop, List.length_take, List.length_nil] at *; omega) | (exfalso; simp_all; done)
      ·
        try simp only [Bool.not_eq_eq_eq_not, Bool.not_true, Bool.not_false, decide_eq_true_eq, decide_eq_false_iff_not, Int.not_lt, Int.not_le, ne_eq, Decidable.not_not, ← List.length_eq_zero_iff] at q6
        refine WC.seq ?_
        refine WC.region ?_
        refine WL.q (oq_move rfl) rfl rfl rfl ?_
        refine WL.q (oq_neq rfl rfl) rfl rfl rfl ?_
        refine WL.q (oq_assign rfl) rfl rfl rfl ?_
        refine WL.nil ?_
        refine WE.then_normal ?_
        refine WC.sub (fr' := [(0, _), (1, _), (4, _), (5, _), (6, _), (7, _), (51, _)]) ?_ ⟨rfl, rfl, rfl, rfl, rfl, rfl, rfl, trivial⟩
        refine WC.cond rfl (fun q9 => ?_) (fun q9 => ?_)
        ·
          try simp only [Bool.not_eq_eq_eq_not, Bool.not_true, Bool.not_false, decide_eq_true_eq, decide_eq_false_iff_not, Int.not_lt, Int.not_le, ne_eq, Decidable.not_not, ← List.length_eq_zero_iff] at q9
          refine WC.seq ?_
          first | contradiction | (exfalso; omega) | (exfalso; simp only [List.length_cons, List.length_append, List.length_drop, List.length_take, List.length_nil] at *; omega) | (exfalso; simp_all; done)
        ·
          try simp only [Bool.not_eq_eq_eq_not, Bool.not_true, Bool.not_false, decide_eq_true_eq, decide_eq_false_iff_not, Int.not_lt, Int.not_le, ne_eq, Decidable.not_not, ← List.length_eq_zero_iff] at q9
          refine WC.skip ?_
          refine WE.block_normal ?_
          refine WE.then_normal ?_
          refine WC.sub (fr' := [(0, _), (1, _), (4, _), (5, _), (6, _), (7, _)]) ?_ ⟨rfl, rfl, rfl, rfl, rfl, rfl, trivial⟩
          refine WC.seq ?_
          refine WC.seq ?_
          refine WC.region ?_
          refine WL.q (oq_move rfl) rfl rfl rfl ?_
          refine WL.q (oq_len_s Tryd.underlying9 rfl) rfl rfl rfl ?_
          refine WL.q (oq_leq rfl rfl) rfl rfl rfl ?_
          refine WL.nil ?_
          refine WE.then_normal ?_
          refine WC.sub (fr' := [(0, _), (1, _), (4, _), (5, _), (6, _), (7, _), (61, _)]) ?_ ⟨rfl, rfl, rfl, rfl, rfl, rfl, rfl, trivial⟩
          refine WC.cond rfl (fun q11 => ?_) (fun q11 => ?_)
          ·
            try simp only [Bool.not_eq_eq_eq_not, Bool.not_true, Bool.not_false, decide_eq_true_eq, decide_eq_false_iff_not, Int.not_lt, Int.not_le, ne_eq, Decidable.not_not, ← List.length_eq_zero_iff] at q11
            refine WC.seq ?_
            first | contradiction | (exfalso; omega) | (exfalso; simp only [List.length_cons, List.length_append, List.length_drop, List.length_take, List.length_nil] at *; omega) | (exfalso; simp_all; done)
          ·
            try simp only [Bool.not_eq_eq_eq_not, Bool.not_true, Bool.not_false, decide_eq_true_eq, decide_eq_false_iff_not, Int.not_lt, Int.not_le, ne_eq, Decidable.not_not, ← List.length_eq_zero_iff] at q11
            refine WC.skip ?_
            refine WE.then_normal ?_
            refine WC.sub (fr' := [(0, _), (1, _), (4, _), (5, _), (6, _), (7, _)]) ?_ ⟨rfl, rfl, rfl, rfl, rfl, rfl, trivial⟩
            refine WC.seq ?_
            refine WC.region ?_
            refine WL.q (oq_move rfl) rfl rfl rfl ?_
            refine WL.index_s Tryd.underlying9 rfl rfl (by (first | omega | (simp only [List.length_cons, List.length_nil, List.length_append, List.length_drop, List.length_take]; omega))) rfl rfl fun c13_1 hc13_1 hc13_1l hc13_1u => ?_
            refine WL.q (oq_assign rfl) rfl rfl rfl ?_
            refine WL.nil ?_
            refine WE.then_normal ?_
            refine WC.sub (fr' := [(0, _), (1, _), (4, _), (5, _), (6, _), (7, _), (11, _)]) ?_ ⟨rfl, rfl, rfl, rfl, rfl, rfl, rfl, trivial⟩
            refine WC.seq ?_
            refine WC.region ?_
            refine WL.q (oq_move rfl) rfl rfl rfl ?_
            refine WL.q (oq_slice_s1 Tryd.underlying9 rfl rfl (by (first | omega | (simp only [List.length_cons, List.length_nil, List.length_append, List.length_drop, List.length_take]; omega)))) rfl rfl rfl ?_
            refine WL.q (oq_assign rfl) rfl rfl rfl ?_
            refine WL.nil ?_
            refine WE.then_normal ?_
            refine WC.sub (fr' := [(0, _), (1, _), (4, _), (5, _), (6, _), (7, _), (11, _)]) ?_ ⟨rfl, rfl, rfl, rfl, rfl, rfl, rfl, trivial⟩
            refine WC.seq ?_
            refine WC.seq ?_
            have hd1 : c13_1 = 34 ∨ c13_1 = 92 := by
              rw [hc13_1]; rcases hd with rfl | rfl
              · exact .inl rfl
              · exact .inr rfl
            have hdv : c13_1 = (d.toNat : Int) := hc13_1
            refine WC.region ?_
            refine WL.q (oq_move rfl) rfl rfl rfl ?_
            refine WL.nil ?_
            refine WE.then_normal ?_
            refine WC.sub (fr' := [(0, _), (1, _), (4, _), (5, _), (6, _), (7, _), (11, _), (67, _)]) ?_ ⟨rfl, rfl, rfl, rfl, rfl, rfl, rfl, rfl, trivial⟩
            refine WC.block ?_
            refine WC.seq ?_
            refine WC.region ?_
            refine WL.q (oq_eql rfl rfl) rfl rfl rfl ?_
            refine WL.q (oq_assign rfl) rfl rfl rfl ?_
            refine WL.nil ?_
            refine WE.then_normal ?_
            refine WC.sub (fr' := [(0, _), (1, _), (4, _), (5, _), (6, _), (7, _), (11, _), (67, _), (69, _)]) ?_ ⟨rfl, rfl, rfl, rfl, rfl, rfl, rfl, rfl, rfl, trivial⟩
            refine WC.cond rfl (fun q17 => ?_) (fun q17 => ?_)
            ·
              try simp only [Bool.not_eq_eq_eq_not, Bool.not_true, Bool.not_false, decide_eq_true_eq, decide_eq_false_iff_not, Int.not_lt, Int.not_le, ne_eq, Decidable.not_not, ← List.length_eq_zero_iff] at q17
              first | contradiction | (exfalso; omega) | (exfalso; simp_all; done)
            ·
              try simp only [Bool.not_eq_eq_eq_not, Bool.not_true, Bool.not_false, decide_eq_true_eq, decide_eq_false_iff_not, Int.not_lt, Int.not_le, ne_eq, Decidable.not_not, ← List.length_eq_zero_iff] at q17
              refine WC.seq ?_
              refine WC.region ?_
              refine WL.q (oq_eql rfl rfl) rfl rfl rfl ?_
              refine WL.q (oq_assign rfl) rfl rfl rfl ?_
              refine WL.nil ?_
              refine WE.then_normal ?_
              refine WC.sub (fr' := [(0, _), (1, _), (4, _), (5, _), (6, _), (7, _), (11, _), (67, _), (71, _)]) ?_ ⟨rfl, rfl, rfl, rfl, rfl, rfl, rfl, rfl, rfl, trivial⟩
              refine WC.cond rfl (fun q19 => ?_) (fun q19 => ?_)
              ·
                try simp only [Bool.not_eq_eq_eq_not, Bool.not_true, Bool.not_false, decide_eq_true_eq, decide_eq_false_iff_not, Int.not_lt, Int.not_le, ne_eq, Decidable.not_not, ← List.length_eq_zero_iff] at q19
                first | contradiction | (exfalso; omega) | (exfalso; simp_all; done)
              ·
                try simp only [Bool.not_eq_eq_eq_not, Bool.not_true, Bool.not_false, decide_eq_true_eq, decide_eq_false_iff_not, Int.not_lt, Int.not_le, ne_eq, Decidable.not_not, ← List.length_eq_zero_iff] at q19
                refine WC.seq ?_
                refine WC.region ?_
                refine WL.q (oq_eql rfl rfl) rfl rfl rfl ?_
                refine WL.q (oq_assign rfl) rfl rfl rfl ?_
                refine WL.nil ?_
                refine WE.then_normal ?_
                refine WC.sub (fr' := [(0, _), (1, _), (4, _), (5, _), (6, _), (7, _), (11, _), (67, _), (73, _)]) ?_ ⟨rfl, rfl, rfl, rfl, rfl, rfl, rfl, rfl, rfl, trivial⟩
                refine WC.cond rfl (fun q21 => ?_) (fun q21 => ?_)
                ·
                  try simp only [Bool.not_eq_eq_eq_not, Bool.not_true, Bool.not_false, decide_eq_true_eq, decide_eq_false_iff_not, Int.not_lt, Int.not_le, ne_eq, Decidable.not_not, ← List.length_eq_zero_iff] at q21
                  first | contradiction | (exfalso; omega) | (exfalso; simp_all; done)
                ·
                  try simp only [Bool.not_eq_eq_eq_not, Bool.not_true, Bool.not_false, decide_eq_true_eq, decide_eq_false_iff_not, Int.not_lt, Int.not_le, ne_eq, Decidable.not_not, ← List.length_eq_zero_iff] at q21
                  refine WC.seq ?_
                  refine WC.region ?_
                  refine WL.q (oq_eql rfl rfl) rfl rfl rfl ?_
                  refine WL.q (oq_assign rfl) rfl rfl rfl ?_
                  refine WL.nil ?_
                  refine WE.then_normal ?_
                  refine WC.sub (fr' := [(0, _), (1, _), (4, _), (5, _), (6, _), (7, _), (11, _), (67, _), (75, _)]) ?_ ⟨rfl, rfl, rfl, rfl, rfl, rfl, rfl, rfl, rfl, trivial⟩
                  refine WC.cond rfl (fun q23 => ?_) (fun q23 => ?_)
                  ·
                    try simp only [Bool.not_eq_eq_eq_not, Bool.not_true, Bool.not_false, decide_eq_true_eq, decide_eq_false_iff_not, Int.not_lt, Int.not_le, ne_eq, Decidable.not_not, ← List.length_eq_zero_iff] at q23
                    first | contradiction | (exfalso; omega) | (exfalso; simp_all; done)
                  ·
                    try simp only [Bool.not_eq_eq_eq_not, Bool.not_true, Bool.not_false, decide_eq_true_eq, decide_eq_false_iff_not, Int.not_lt, Int.not_le, ne_eq, Decidable.not_not, ← List.length_eq_zero_iff] at q23
                    refine WC.seq ?_
                    refine WC.region ?_
                    refine WL.q (oq_eql rfl rfl) rfl rfl rfl ?_
                    refine WL.q (oq_assign rfl) rfl rfl rfl ?_
                    refine WL.nil ?_
                    refine WE.then_normal ?_
                    refine WC.sub (fr' := [(0, _), (1, _), (4, _), (5, _), (6, _), (7, _), (11, _), (67, _), (77, _)]) ?_ ⟨rfl, rfl, rfl, rfl, rfl, rfl, rfl, rfl, rfl, trivial⟩
                    refine WC.cond rfl (fun q25 => ?_) (fun q25 => ?_)
                    ·
                      try simp only [Bool.not_eq_eq_eq_not, Bool.not_true, Bool.not_false, decide_eq_true_eq, decide_eq_false_iff_not, Int.not_lt, Int.not_le, ne_eq, Decidable.not_not, ← List.length_eq_zero_iff] at q25
                      first | contradiction | (exfalso; omega) | (exfalso; simp_all; done)
                    ·
                      try simp only [Bool.not_eq_eq_eq_not, Bool.not_true, Bool.not_false, decide_eq_true_eq, decide_eq_false_iff_not, Int.not_lt, Int.not_le, ne_eq, Decidable.not_not, ← List.length_eq_zero_iff] at q25
                      refine WC.seq ?_
                      refine WC.region ?_
                      refine WL.q (oq_eql rfl rfl) rfl rfl rfl ?_
                      refine WL.q (oq_assign rfl) rfl rfl rfl ?_
                      refine WL.nil ?_
                      refine WE.then_normal ?_
                      refine WC.sub (fr' := [(0, _), (1, _), (4, _), (5, _), (6, _), (7, _), (11, _), (67, _), (79, _)]) ?_ ⟨rfl, rfl, rfl, rfl, rfl, rfl, rfl, rfl, rfl, trivial⟩
                      refine WC.cond rfl (fun q27 => ?_) (fun q27 => ?_)
                      ·
                        try simp only [Bool.not_eq_eq_eq_not, Bool.not_true, Bool.not_false, decide_eq_true_eq, decide_eq_false_iff_not, Int.not_lt, Int.not_le, ne_eq, Decidable.not_not, ← List.length_eq_zero_iff] at q27
                        first | contradiction | (exfalso; omega) | (exfalso; simp_all; done)
                      ·
                        try simp only [Bool.not_eq_eq_eq_not, Bool.not_true, Bool.not_false, decide_eq_true_eq, decide_eq_false_iff_not, Int.not_lt, Int.not_le, ne_eq, Decidable.not_not, ← List.length_eq_zero_iff] at q27
                        refine WC.seq ?_
                        refine WC.region ?_
                        refine WL.q (oq_eql rfl rfl) rfl rfl rfl ?_
                        refine WL.q (oq_assign rfl) rfl rfl rfl ?_
                        refine WL.nil ?_
                        refine WE.then_normal ?_
                        refine WC.sub (fr' := [(0, _), (1, _), (4, _), (5, _), (6, _), (7, _), (11, _), (67, _), (81, _)]) ?_ ⟨rfl, rfl, rfl, rfl, rfl, rfl, rfl, rfl, rfl, trivial⟩
                        refine WC.cond rfl (fun q29 => ?_) (fun q29 => ?_)
                        ·
                          try simp only [Bool.not_eq_eq_eq_not, Bool.not_true, Bool.not_false, decide_eq_true_eq, decide_eq_false_iff_not, Int.not_lt, Int.not_le, ne_eq, Decidable.not_not, ← List.length_eq_zero_iff] at q29
                          first | contradiction | (exfalso; omega) | (exfalso; simp_all; done)
                        ·
                          try simp only [Bool.not_eq_eq_eq_not, Bool.not_true, Bool.not_false, decide_eq_true_eq, decide_eq_false_iff_not, Int.not_lt, Int.not_le, ne_eq, Decidable.not_not, ← List.length_eq_zero_iff] at q29
                          refine WC.seq ?_
                          refine WC.seq ?_
                          refine WC.region ?_
                          refine WL.q (oq_eql rfl rfl) rfl rfl rfl ?_
                          refine WL.q (oq_assign rfl) rfl rfl rfl ?_
                          refine WL.nil ?_
                          refine WE.then_normal ?_
                          refine WC.sub (fr' := [(0, _), (1, _), (4, _), (5, _), (6, _), (7, _), (11, _), (67, _), (83, _)]) ?_ ⟨rfl, rfl, rfl, rfl, rfl, rfl, rfl, rfl, rfl, trivial⟩
                          refine WC.cond rfl (fun q31 => ?_) (fun q31 => ?_)
                          ·
                            try simp only [Bool.not_eq_eq_eq_not, Bool.not_true, Bool.not_false, decide_eq_true_eq, decide_eq_false_iff_not, Int.not_lt, Int.not_le, ne_eq, Decidable.not_not, ← List.length_eq_zero_iff] at q31
                            first | contradiction | (exfalso; omega) | (exfalso; simp_all; done)
                          ·
                            try simp only [Bool.not_eq_eq_eq_not, Bool.not_true, Bool.not_false, decide_eq_true_eq, decide_eq_false_iff_not, Int.not_lt, Int.not_le, ne_eq, Decidable.not_not, ← List.length_eq_zero_iff] at q31
                            refine WC.seq ?_
                            refine WC.region ?_
                            refine WL.q (oq_eql rfl rfl) rfl rfl rfl ?_
                            refine WL.q (oq_assign rfl) rfl rfl rfl ?_
                            refine WL.nil ?_
                            refine WE.then_normal ?_
                            refine WC.sub (fr' := [(0, _), (1, _), (4, _), (5, _), (6, _), (7, _), (11, _), (67, _), (83, _)]) ?_ ⟨rfl, rfl, rfl, rfl, rfl, rfl, rfl, rfl, rfl, trivial⟩
                            refine WC.cond rfl (fun q32 => ?_) (fun q32 => ?_)
                            ·
                              try simp only [Bool.not_eq_eq_eq_not, Bool.not_true, Bool.not_false, decide_eq_true_eq, decide_eq_false_iff_not, Int.not_lt, Int.not_le, ne_eq, Decidable.not_not, ← List.length_eq_zero_iff] at q32
                              first | contradiction | (exfalso; omega) | (exfalso; simp_all; done)
                            ·
                              try simp only [Bool.not_eq_eq_eq_not, Bool.not_true, Bool.not_false, decide_eq_true_eq, decide_eq_false_iff_not, Int.not_lt, Int.not_le, ne_eq, Decidable.not_not, ← List.length_eq_zero_iff] at q32
                              refine WC.region ?_
                              refine WL.q (oq_eql rfl rfl) rfl rfl rfl ?_
                              refine WL.q (oq_assign rfl) rfl rfl rfl ?_
                              refine WL.nil ?_
                              refine WE.then_normal ?_
                              refine WC.sub (fr' := [(0, _), (1, _), (4, _), (5, _), (6, _), (7, _), (11, _), (67, _), (83, _)]) ?_ ⟨rfl, rfl, rfl, rfl, rfl, rfl, rfl, rfl, rfl, trivial⟩
                              refine WC.cond rfl (fun q33 => ?_) (fun q33 => ?_)
                              ·
                                try simp only [Bool.not_eq_eq_eq_not, Bool.not_true, Bool.not_false, decide_eq_true_eq, decide_eq_false_iff_not, Int.not_lt, Int.not_le, ne_eq, Decidable.not_not, ← List.length_eq_zero_iff] at q33
                                first | contradiction | (exfalso; omega) | (exfalso; simp_all; done)
                              ·
                                try simp only [Bool.not_eq_eq_eq_not, Bool.not_true, Bool.not_false, decide_eq_true_eq, decide_eq_false_iff_not, Int.not_lt, Int.not_le, ne_eq, Decidable.not_not, ← List.length_eq_zero_iff] at q33
                                refine WC.seq ?_
                                refine WC.seq ?_
                                refine WC.region ?_
                                refine WL.q (oq_eql rfl rfl) rfl rfl rfl ?_
                                refine WL.q (oq_assign rfl) rfl rfl rfl ?_
                                refine WL.nil ?_
                                refine WE.then_normal ?_
                                refine WC.sub (fr' := [(0, _), (1, _), (4, _), (5, _), (6, _), (7, _), (11, _), (67, _), (129, _)]) ?_ ⟨rfl, rfl, rfl, rfl, rfl, rfl, rfl, rfl, rfl, trivial⟩
                                refine WC.cond rfl (fun q59 => ?_) (fun q59 => ?_)
                                ·
                                  try simp only [Bool.not_eq_eq_eq_not, Bool.not_true, Bool.not_false, decide_eq_true_eq, decide_eq_false_iff_not, Int.not_lt, Int.not_le, ne_eq, Decidable.not_not, ← List.length_eq_zero_iff] at q59
                                  first | contradiction | (exfalso; omega) | (exfalso; simp_all; done)
                                ·
                                  try simp only [Bool.not_eq_eq_eq_not, Bool.not_true, Bool.not_false, decide_eq_true_eq, decide_eq_false_iff_not, Int.not_lt, Int.not_le, ne_eq, Decidable.not_not, ← List.length_eq_zero_iff] at q59
                                  refine WC.seq ?_
                                  refine WC.region ?_
                                  refine WL.q (oq_eql rfl rfl) rfl rfl rfl ?_
                                  refine WL.q (oq_assign rfl) rfl rfl rfl ?_
                                  refine WL.nil ?_
                                  refine WE.then_normal ?_
                                  refine WC.sub (fr' := [(0, _), (1, _), (4, _), (5, _), (6, _), (7, _), (11, _), (67, _), (129, _)]) ?_ ⟨rfl, rfl, rfl, rfl, rfl, rfl, rfl, rfl, rfl, trivial⟩
                                  refine WC.cond rfl (fun q60 => ?_) (fun q60 => ?_)
                                  ·
                                    try simp only [Bool.not_eq_eq_eq_not, Bool.not_true, Bool.not_false, decide_eq_true_eq, decide_eq_false_iff_not, Int.not_lt, Int.not_le, ne_eq, Decidable.not_not, ← List.length_eq_zero_iff] at q60
                                    first | contradiction | (exfalso; omega) | (exfalso; simp_all; done)
                                  ·
                                    try simp only [Bool.not_eq_eq_eq_not, Bool.not_true, Bool.not_false, decide_eq_true_eq, decide_eq_false_iff_not, Int.not_lt, Int.not_le, ne_eq, Decidable.not_not, ← List.length_eq_zero_iff] at q60
                                    refine WC.seq ?_
                                    refine WC.region ?_
                                    refine WL.q (oq_eql rfl rfl) rfl rfl rfl ?_
                                    refine WL.q (oq_assign rfl) rfl rfl rfl ?_
                                    refine WL.nil ?_
                                    refine WE.then_normal ?_
                                    refine WC.sub (fr' := [(0, _), (1, _), (4, _), (5, _), (6, _), (7, _), (11, _), (67, _), (129, _)]) ?_ ⟨rfl, rfl, rfl, rfl, rfl, rfl, rfl, rfl, rfl, trivial⟩
                                    refine WC.cond rfl (fun q61 => ?_) (fun q61 => ?_)
                                    ·
                                      try simp only [Bool.not_eq_eq_eq_not, Bool.not_true, Bool.not_false, decide_eq_true_eq, decide_eq_false_iff_not, Int.not_lt, Int.not_le, ne_eq, Decidable.not_not, ← List.length_eq_zero_iff] at q61
                                      first | contradiction | (exfalso; omega) | (exfalso; simp_all; done)
                                    ·
                                      try simp only [Bool.not_eq_eq_eq_not, Bool.not_true, Bool.not_false, decide_eq_true_eq, decide_eq_false_iff_not, Int.not_lt, Int.not_le, ne_eq, Decidable.not_not, ← List.length_eq_zero_iff] at q61
                                      refine WC.seq ?_
                                      refine WC.region ?_
                                      refine WL.q (oq_eql rfl rfl) rfl rfl rfl ?_
                                      refine WL.q (oq_assign rfl) rfl rfl rfl ?_
                                      refine WL.nil ?_
                                      refine WE.then_normal ?_
                                      refine WC.sub (fr' := [(0, _), (1, _), (4, _), (5, _), (6, _), (7, _), (11, _), (67, _), (129, _)]) ?_ ⟨rfl, rfl, rfl, rfl, rfl, rfl, rfl, rfl, rfl, trivial⟩
                                      refine WC.cond rfl (fun q62 => ?_) (fun q62 => ?_)
                                      ·
                                        try simp only [Bool.not_eq_eq_eq_not, Bool.not_true, Bool.not_false, decide_eq_true_eq, decide_eq_false_iff_not, Int.not_lt, Int.not_le, ne_eq, Decidable.not_not, ← List.length_eq_zero_iff] at q62
                                        first | contradiction | (exfalso; omega) | (exfalso; simp_all; done)
                                      ·
                                        try simp only [Bool.not_eq_eq_eq_not, Bool.not_true, Bool.not_false, decide_eq_true_eq, decide_eq_false_iff_not, Int.not_lt, Int.not_le, ne_eq, Decidable.not_not, ← List.length_eq_zero_iff] at q62
                                        refine WC.seq ?_
                                        refine WC.region ?_
                                        refine WL.q (oq_eql rfl rfl) rfl rfl rfl ?_
                                        refine WL.q (oq_assign rfl) rfl rfl rfl ?_
                                        refine WL.nil ?_
                                        refine WE.then_normal ?_
                                        refine WC.sub (fr' := [(0, _), (1, _), (4, _), (5, _), (6, _), (7, _), (11, _), (67, _), (129, _)]) ?_ ⟨rfl, rfl, rfl, rfl, rfl, rfl, rfl, rfl, rfl, trivial⟩
                                        refine WC.cond rfl (fun q63 => ?_) (fun q63 => ?_)
                                        ·
                                          try simp only [Bool.not_eq_eq_eq_not, Bool.not_true, Bool.not_false, decide_eq_true_eq, decide_eq_false_iff_not, Int.not_lt, Int.not_le, ne_eq, Decidable.not_not, ← List.length_eq_zero_iff] at q63
                                          first | contradiction | (exfalso; omega) | (exfalso; simp_all; done)
                                        ·
                                          try simp only [Bool.not_eq_eq_eq_not, Bool.not_true, Bool.not_false, decide_eq_true_eq, decide_eq_false_iff_not, Int.not_lt, Int.not_le, ne_eq, Decidable.not_not, ← List.length_eq_zero_iff] at q63
                                          refine WC.seq ?_
                                          refine WC.region ?_
                                          refine WL.q (oq_eql rfl rfl) rfl rfl rfl ?_
                                          refine WL.q (oq_assign rfl) rfl rfl rfl ?_
                                          refine WL.nil ?_
                                          refine WE.then_normal ?_
                                          refine WC.sub (fr' := [(0, _), (1, _), (4, _), (5, _), (6, _), (7, _), (11, _), (67, _), (129, _)]) ?_ ⟨rfl, rfl, rfl, rfl, rfl, rfl, rfl, rfl, rfl, trivial⟩
                                          refine WC.cond rfl (fun q64 => ?_) (fun q64 => ?_)
                                          ·
                                            try simp only [Bool.not_eq_eq_eq_not, Bool.not_true, Bool.not_false, decide_eq_true_eq, decide_eq_false_iff_not, Int.not_lt, Int.not_le, ne_eq, Decidable.not_not, ← List.length_eq_zero_iff] at q64
                                            first | contradiction | (exfalso; omega) | (exfalso; simp_all; done)
                                          ·
                                            try simp only [Bool.not_eq_eq_eq_not, Bool.not_true, Bool.not_false, decide_eq_true_eq, decide_eq_false_iff_not, Int.not_lt, Int.not_le, ne_eq, Decidable.not_not, ← List.length_eq_zero_iff] at q64
                                            refine WC.seq ?_
                                            refine WC.region ?_
                                            refine WL.q (oq_eql rfl rfl) rfl rfl rfl ?_
                                            refine WL.q (oq_assign rfl) rfl rfl rfl ?_
                                            refine WL.nil ?_
                                            refine WE.then_normal ?_
                                            refine WC.sub (fr' := [(0, _), (1, _), (4, _), (5, _), (6, _), (7, _), (11, _), (67, _), (129, _)]) ?_ ⟨rfl, rfl, rfl, rfl, rfl, rfl, rfl, rfl, rfl, trivial⟩
                                            refine WC.cond rfl (fun q65 => ?_) (fun q65 => ?_)
                                            ·
                                              try simp only [Bool.not_eq_eq_eq_not, Bool.not_true, Bool.not_false, decide_eq_true_eq, decide_eq_false_iff_not, Int.not_lt, Int.not_le, ne_eq, Decidable.not_not, ← List.length_eq_zero_iff] at q65
                                              first | contradiction | (exfalso; omega) | (exfalso; simp_all; done)
                                            ·
                                              try simp only [Bool.not_eq_eq_eq_not, Bool.not_true, Bool.not_false, decide_eq_true_eq, decide_eq_false_iff_not, Int.not_lt, Int.not_le, ne_eq, Decidable.not_not, ← List.length_eq_zero_iff] at q65
                                              refine WC.region ?_
                                              refine WL.q (oq_eql rfl rfl) rfl rfl rfl ?_
                                              refine WL.q (oq_assign rfl) rfl rfl rfl ?_
                                              refine WL.nil ?_
                                              refine WE.then_normal ?_
                                              refine WC.sub (fr' := [(0, _), (1, _), (4, _), (5, _), (6, _), (7, _), (11, _), (67, _), (129, _)]) ?_ ⟨rfl, rfl, rfl, rfl, rfl, rfl, rfl, rfl, rfl, trivial⟩
                                              refine WC.cond rfl (fun q66 => ?_) (fun q66 => ?_)
                                              ·
                                                try simp only [Bool.not_eq_eq_eq_not, Bool.not_true, Bool.not_false, decide_eq_true_eq, decide_eq_false_iff_not, Int.not_lt, Int.not_le, ne_eq, Decidable.not_not, ← List.length_eq_zero_iff] at q66
                                                first | contradiction | (exfalso; omega) | (exfalso; simp_all; done)
                                              ·
                                                try simp only [Bool.not_eq_eq_eq_not, Bool.not_true, Bool.not_false, decide_eq_true_eq, decide_eq_false_iff_not, Int.not_lt, Int.not_le, ne_eq, Decidable.not_not, ← List.length_eq_zero_iff] at q66
                                                refine WC.seq ?_
                                                refine WC.region ?_
                                                refine WL.q (oq_eql rfl rfl) rfl rfl rfl ?_
                                                refine WL.q (oq_assign rfl) rfl rfl rfl ?_
                                                refine WL.nil ?_
                                                refine WE.then_normal ?_
                                                refine WC.sub (fr' := [(0, _), (1, _), (4, _), (5, _), (6, _), (7, _), (11, _), (67, _), (171, _)]) ?_ ⟨rfl, rfl, rfl, rfl, rfl, rfl, rfl, rfl, rfl, trivial⟩
                                                refine WC.cond rfl (fun q81 => ?_) (fun q81 => ?_)
                                                ·
                                                  try simp only [Bool.not_eq_eq_eq_not, Bool.not_true, Bool.not_false, decide_eq_true_eq, decide_eq_false_iff_not, Int.not_lt, Int.not_le, ne_eq, Decidable.not_not, ← List.length_eq_zero_iff] at q81
                                                  refine WC.region ?_
                                                  refine WL.q (oq_assign rfl) rfl rfl rfl ?_
                                                  refine WL.nil ?_
                                                  refine WE.block_normal ?_
                                                  refine WE.then_normal ?_
                                                  refine WC.sub (fr' := [(0, _), (4, _), (5, _), (7, _)]) ?_ ⟨rfl, rfl, rfl, rfl, trivial⟩
                                                  refine WC.seq ?_
                                                  refine WC.region ?_
                                                  refine WL.q (oq_move rfl) rfl rfl rfl ?_
                                                  refine WL.q (oq_assign rfl) rfl rfl rfl ?_
                                                  refine WL.nil ?_
                                                  refine WE.then_normal ?_
                                                  refine WC.sub (fr' := [(4, _), (5, _), (6, _), (7, _)]) ?_ ⟨rfl, rfl, rfl, rfl, trivial⟩
                                                  refine WC.ret ?_
                                                  refine WE.end0 (.inl rfl) (res4 Tryd.results110 rfl rfl rfl rfl) ?_
                                                  -- end 2
                                                  rw [← hdv]; first | rfl | (rw [q81]; rfl)
                                                ·
                                                  try simp only [Bool.not_eq_eq_eq_not, Bool.not_true, Bool.not_false, decide_eq_true_eq, decide_eq_false_iff_not, Int.not_lt, Int.not_le, ne_eq, Decidable.not_not, ← List.length_eq_zero_iff] at q81
                                                  refine WC.seq ?_
                                                  refine WC.seq ?_
                                                  refine WC.region ?_
                                                  refine WL.q (oq_eql rfl rfl) rfl rfl rfl ?_
                                                  refine WL.q (oq_assign rfl) rfl rfl rfl ?_
                                                  refine WL.nil ?_
                                                  refine WE.then_normal ?_
                                                  refine WC.sub (fr' := [(0, _), (1, _), (4, _), (5, _), (6, _), (7, _), (11, _), (67, _), (173, _)]) ?_ ⟨rfl, rfl, rfl, rfl, rfl, rfl, rfl, rfl, rfl, trivial⟩
                                                  refine WC.cond rfl (fun q83 => ?_) (fun q83 => ?_)
                                                  ·
                                                    try simp only [Bool.not_eq_eq_eq_not, Bool.not_true, Bool.not_false, decide_eq_true_eq, decide_eq_false_iff_not, Int.not_lt, Int.not_le, ne_eq, Decidable.not_not, ← List.length_eq_zero_iff] at q83
                                                    first | contradiction | (exfalso; omega) | (exfalso; simp_all; done)
                                                  ·
                                                    try simp only [Bool.not_eq_eq_eq_not, Bool.not_true, Bool.not_false, decide_eq_true_eq, decide_eq_false_iff_not, Int.not_lt, Int.not_le, ne_eq, Decidable.not_not, ← List.length_eq_zero_iff] at q83
                                                    refine WC.region ?_
                                                    refine WL.q (oq_eql rfl rfl) rfl rfl rfl ?_
                                                    refine WL.q (oq_assign rfl) rfl rfl rfl ?_
                                                    refine WL.nil ?_
                                                    refine WE.then_normal ?_
                                                    refine WC.sub (fr' := [(0, _), (1, _), (4, _), (5, _), (6, _), (7, _), (11, _), (173, _)]) ?_ ⟨rfl, rfl, rfl, rfl, rfl, rfl, rfl, rfl, trivial⟩
                                                    refine WC.cond rfl (fun q84 => ?_) (fun q84 => ?_)
                                                    ·
                                                      try simp only [Bool.not_eq_eq_eq_not, Bool.not_true, Bool.not_false, decide_eq_true_eq, decide_eq_false_iff_not, Int.not_lt, Int.not_le, ne_eq, Decidable.not_not, ← List.length_eq_zero_iff] at q84
                                                      refine WC.seq ?_
                                                      refine WC.seq ?_
                                                      refine WC.region ?_
                                                      refine WL.q (oq_move rfl) rfl rfl rfl ?_
                                                      refine WL.q (oq_move rfl) rfl rfl rfl ?_
                                                      refine WL.q (oq_neq rfl rfl) rfl rfl rfl ?_
                                                      refine WL.nil ?_
                                                      refine WE.then_normal ?_
                                                      refine WC.sub (fr' := [(0, _), (4, _), (5, _), (6, _), (7, _), (11, _), (178, _)]) ?_ ⟨rfl, rfl, rfl, rfl, rfl, rfl, rfl, trivial⟩
                                                      refine WC.cond rfl (fun q85 => ?_) (fun q85 => ?_)
                                                      ·
                                                        try simp only [Bool.not_eq_eq_eq_not, Bool.not_true, Bool.not_false, decide_eq_true_eq, decide_eq_false_iff_not, Int.not_lt, Int.not_le, ne_eq, Decidable.not_not, ← List.length_eq_zero_iff] at q85
                                                        first | contradiction | (exfalso; omega) | (exfalso; simp_all; done)
                                                      ·
                                                        try simp only [Bool.not_eq_eq_eq_not, Bool.not_true, Bool.not_false, decide_eq_true_eq, decide_eq_false_iff_not, Int.not_lt, Int.not_le, ne_eq, Decidable.not_not, ← List.length_eq_zero_iff] at q85
                                                        refine WC.skip ?_
                                                        refine WE.then_normal ?_
                                                        refine WC.sub (fr' := [(0, _), (5, _), (7, _), (11, _)]) ?_ ⟨rfl, rfl, rfl, rfl, trivial⟩
                                                        refine WC.region ?_
                                                        refine WL.q (oq_move rfl) rfl rfl rfl ?_
                                                        refine WL.q (oq_conv Tryd.underlying5 Tryd.underlying21 rfl (by rw [i32_lo, i32_hi]; (first | omega | (simp only [List.length_cons, List.length_nil, List.length_append, List.length_drop, List.length_take]; omega)))) rfl rfl rfl ?_
                                                        refine WL.q (oq_assign rfl) rfl rfl rfl ?_
                                                        refine WL.nil ?_
                                                        refine WE.block_normal ?_
                                                        refine WE.then_normal ?_
                                                        refine WC.sub (fr' := [(0, _), (4, _), (5, _), (7, _)]) ?_ ⟨rfl, rfl, rfl, rfl, trivial⟩
                                                        refine WC.seq ?_
                                                        refine WC.region ?_
                                                        refine WL.q (oq_move rfl) rfl rfl rfl ?_
                                                        refine WL.q (oq_assign rfl) rfl rfl rfl ?_
                                                        refine WL.nil ?_
                                                        refine WE.then_normal ?_
                                                        refine WC.sub (fr' := [(4, _), (5, _), (6, _), (7, _)]) ?_ ⟨rfl, rfl, rfl, rfl, trivial⟩
                                                        refine WC.ret ?_
                                                        refine WE.end0 (.inl rfl) (res4 Tryd.results110 rfl rfl rfl rfl) ?_
                                                        -- end 3
                                                        rw [← hdv]; first | rfl | (rw [q81]; rfl)
                                                    ·
                                                      try simp only [Bool.not_eq_eq_eq_not, Bool.not_true, Bool.not_false, decide_eq_true_eq, decide_eq_false_iff_not, Int.not_lt, Int.not_le, ne_eq, Decidable.not_not, ← List.length_eq_zero_iff] at q84
                                                      first | contradiction | (exfalso; omega) | (exfalso; simp_all; done)


theorem uqChar (t : List UInt8) (hl : t.length ≤ 4000000000) (ha : Asc t) (h : (∃ c, c ≠ 34 ∧ c ≠ 92 ∧ c ≠ 10 ∧ t = c :: (un1 t).2 ∧ (un1 t).1 = c) ∨ (∃ d, (d = 34 ∨ d = 92) ∧ t = 92 :: d :: (un1 t).2 ∧ (un1 t).1 = d)) : Fn0 Tryd.prog 110 [S t, .int .u8 34] (.tuple #[.int .i32 ((un1 t).1.toNat : Int), .bool false, S (un1 t).2, .nilIface]) := by
  rcases h with ⟨c, h1, h2, h3, h4, h5⟩ | ⟨d, h1, h4, h5⟩
  · rw [h5]
    have hac := ha
    rw [h4] at hac hl
    have := uqPlain c (un1 t).2 (by simp at hl; omega) (asc_cons hac).1 (fun e => h1 (UInt8.toNat_inj.1 e)) (fun e => h2 (UInt8.toNat_inj.1 e))
    rw [← h4] at this; exact this
  · rw [h5]
    rw [h4] at hl
    have := uqEsc d (un1 t).2 (by simp at hl; omega) h1
    rw [← h4] at this; exact this
end KU
end Go.Proofs.YtcgpajknehhdgaaDoor
