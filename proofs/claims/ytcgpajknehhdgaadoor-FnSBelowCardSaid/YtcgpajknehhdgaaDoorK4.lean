/- The walk of the counting of bits. -/
import Derived.Test.YtcgpajknehhdgaaDoorVI
import Derived.Test.YtcgpajknehhdgaaDoorL2
namespace Go.Proofs.YtcgpajknehhdgaaDoor
open Go Go.RowKit V L2
set_option linter.unusedSimpArgs false
set_option linter.unusedVariables false
set_option maxRecDepth 10000
namespace K4


/-! ### Words: how many bits a number has -/
def bl (m : Nat) : Nat := if m = 0 then 0 else Nat.log2 m + 1
theorem bl_half (m : Nat) (h : 0 < m) : bl m = bl (m / 2) + 1 := by
  unfold bl
  rw [if_neg (by omega)]
  by_cases h2 : m / 2 = 0
  · have : m = 1 := by omega
    subst this; rfl
  · rw [if_neg h2, Nat.log2_def, if_pos (by omega)]
theorem bl_shift : ∀ (k x : Nat), 2 ^ k ≤ x → bl x = bl (x / 2 ^ k) + k
  | 0, x, _ => by simp
  | k + 1, x, h => by
    have hp : 0 < 2 ^ k := Nat.two_pow_pos k
    have e : 2 ^ (k + 1) = 2 * 2 ^ k := by rw [Nat.pow_succ]; omega
    rw [bl_half x (by omega), bl_shift k (x / 2) (by omega), Nat.div_div_eq_div_mul, e]; omega
theorem bl_lt (m : Nat) : m < 2 ^ bl m := by
  unfold bl
  split
  · omega
  · exact Nat.lt_log2_self
theorem bl_le (k : Nat) : ∀ m, m < 2 ^ k → bl m ≤ k := by
  induction k with
  | zero => intro m h; have : m = 0 := by omega
            subst this; exact Nat.le_refl _
  | succ k ih =>
    intro m h
    by_cases h0 : m = 0
    · subst h0; exact Nat.zero_le _
    · rw [bl_half m (by omega)]
      have := ih (m / 2) (by rw [Nat.pow_succ] at h; omega)
      omega
def tab : List UInt8 := (List.append (List.append [0, 1, 2, 2, 3, 3, 3, 3, 4, 4, 4, 4, 4, 4, 4, 4, 5, 5, 5, 5, 5, 5, 5, 5, 5, 5, 5, 5, 5, 5, 5, 5, 6, 6, 6, 6, 6, 6, 6, 6, 6, 6, 6, 6, 6, 6, 6, 6, 6, 6, 6, 6, 6, 6, 6, 6, 6, 6, 6, 6, 6, 6, 6, 6] [7, 7, 7, 7, 7, 7, 7, 7, 7, 7, 7, 7, 7, 7, 7, 7, 7, 7, 7, 7, 7, 7, 7, 7, 7, 7, 7, 7, 7, 7, 7, 7, 7, 7, 7, 7, 7, 7, 7, 7, 7, 7, 7, 7, 7, 7, 7, 7, 7, 7, 7, 7, 7, 7, 7, 7, 7, 7, 7, 7, 7, 7, 7, 7]) (List.append [8, 8, 8, 8, 8, 8, 8, 8, 8, 8, 8, 8, 8, 8, 8, 8, 8, 8, 8, 8, 8, 8, 8, 8, 8, 8, 8, 8, 8, 8, 8, 8, 8, 8, 8, 8, 8, 8, 8, 8, 8, 8, 8, 8, 8, 8, 8, 8, 8, 8, 8, 8, 8, 8, 8, 8, 8, 8, 8, 8, 8, 8, 8, 8] [8, 8, 8, 8, 8, 8, 8, 8, 8, 8, 8, 8, 8, 8, 8, 8, 8, 8, 8, 8, 8, 8, 8, 8, 8, 8, 8, 8, 8, 8, 8, 8, 8, 8, 8, 8, 8, 8, 8, 8, 8, 8, 8, 8, 8, 8, 8, 8, 8, 8, 8, 8, 8, 8, 8, 8, 8, 8, 8, 8, 8, 8, 8, 8]))
theorem tab_all : ((List.range 256).all fun x => decide ((tab.getD x 0).toNat = bl x)) = true := by kernel_rfl
theorem tab_at (x : Nat) (h : x < 256) : byteAt tab (x : Int) = (bl x : Int) := by
  have := List.all_eq_true.1 tab_all x (List.mem_range.2 h)
  rw [byteAt_nat]; simp at this; exact congrArg _ this
/-- math/bits.Len64 -/
theorem len64 (x : Nat) (hx : x < 18446744073709551616) : Fn0 Tryd.prog 78 [.int .u64 (x : Int)] (I (bl x : Int)) := by
  refine Fn0.enter (n := 25) Tryd.func78 rfl rfl fun w0 => ?_
  refine WC.sub (fr' := [(0, _)]) ?_ ⟨rfl, trivial⟩
  refine WC.seq ?_
  refine WC.region ?_
  refine WL.q (oq_assign rfl) rfl rfl rfl ?_
  refine WL.nil ?_
  refine WE.then_normal ?_
  refine WC.sub (fr' := [(0, _), (2, _)]) ?_ ⟨rfl, rfl, trivial⟩
  refine WC.cut (ι := Nat × Nat) (fun i_ => (fun (y : Nat) (n : Nat) => [(0, .int .u64 (y : Int)), (2, I (n : Int))]) i_.1 i_.2) (fun i_ => (fun (y : Nat) (n : Nat) => []) i_.1 i_.2) (fun i_ => (fun (y : Nat) (n : Nat) => bl x = bl y + n ∧ n ≤ 32 ∧ y < 4294967296) i_.1 i_.2) ?_ ?_
  ·
    refine WC.seq ?_
    refine WC.region ?_
    refine WL.q (oq_move rfl) rfl rfl rfl ?_
    refine WL.q (oq_geq rfl rfl) rfl rfl rfl ?_
    refine WL.nil ?_
    refine WE.then_normal ?_
    refine WC.sub (fr' := [(0, _), (2, _), (4, _)]) ?_ ⟨rfl, rfl, rfl, trivial⟩
    refine WC.cond rfl (fun q1 => ?_) (fun q1 => ?_)
    ·
      try simp only [Bool.not_eq_eq_eq_not, Bool.not_true, Bool.not_false, decide_eq_true_eq, decide_eq_false_iff_not, Int.not_lt, Int.not_le, ne_eq, Decidable.not_not, ← List.length_eq_zero_iff] at q1
      refine WC.seq ?_
      refine WC.region ?_
      refine WL.q (oq_move rfl) rfl rfl rfl ?_
      refine WL.q (oq_shrl 4294967296 rfl rfl (by decide) (by decide)) rfl rfl rfl ?_
      refine WL.q (oq_assign rfl) rfl rfl rfl ?_
      refine WL.nil ?_
      refine WE.then_normal ?_
      refine WC.sub (fr' := [(0, _)]) ?_ ⟨rfl, trivial⟩
      refine WC.region ?_
      refine WL.q (oq_assign rfl) rfl rfl rfl ?_
      refine WL.nil ?_
      refine WE.meet (x / 4294967296, 32) ?_ ⟨(gtv rfl (by first | rfl | (congr 1))), rfl, trivial⟩ (List.Perm.refl _)
      try dsimp only
      exact ⟨bl_shift 32 x (by omega), by omega, by omega⟩   -- meet 0
    ·
      try simp only [Bool.not_eq_eq_eq_not, Bool.not_true, Bool.not_false, decide_eq_true_eq, decide_eq_false_iff_not, Int.not_lt, Int.not_le, ne_eq, Decidable.not_not, ← List.length_eq_zero_iff] at q1
      refine WC.skip ?_
      refine WE.meet (x, 0) ?_ ⟨(gtv rfl (by first | rfl | (congr 1))), rfl, trivial⟩ (List.Perm.refl _)
      try dsimp only
      exact ⟨by omega, by omega, by omega⟩   -- meet 1
  · rintro ⟨y, n⟩ hp
    try dsimp only at hp
    obtain ⟨h1, h1n, h1y⟩ := hp
    show WC _ _ _ _ _ _ ([(0, .int .u64 (y : Int)), (2, I (n : Int))]) ([])
    refine WC.cut (ι := Nat × Nat) (fun i_ => (fun (z : Nat) (m : Nat) => [(0, .int .u64 (z : Int)), (2, I (m : Int))]) i_.1 i_.2) (fun i_ => (fun (z : Nat) (m : Nat) => []) i_.1 i_.2) (fun i_ => (fun (z : Nat) (m : Nat) => bl x = bl z + m ∧ m ≤ 48 ∧ z < 65536) i_.1 i_.2) ?_ ?_
    ·
      refine WC.seq ?_
      refine WC.region ?_
      refine WL.q (oq_move rfl) rfl rfl rfl ?_
      refine WL.q (oq_geq rfl rfl) rfl rfl rfl ?_
      refine WL.nil ?_
      refine WE.then_normal ?_
      refine WC.sub (fr' := [(0, _), (2, _), (8, _)]) ?_ ⟨rfl, rfl, rfl, trivial⟩
      refine WC.cond rfl (fun q4 => ?_) (fun q4 => ?_)
      ·
        try simp only [Bool.not_eq_eq_eq_not, Bool.not_true, Bool.not_false, decide_eq_true_eq, decide_eq_false_iff_not, Int.not_lt, Int.not_le, ne_eq, Decidable.not_not, ← List.length_eq_zero_iff] at q4
        refine WC.seq ?_
        refine WC.region ?_
        refine WL.q (oq_move rfl) rfl rfl rfl ?_
        refine WL.q (oq_shrl 65536 rfl rfl (by decide) (by decide)) rfl rfl rfl ?_
        refine WL.q (oq_assign rfl) rfl rfl rfl ?_
        refine WL.nil ?_
        refine WE.then_normal ?_
        refine WC.sub (fr' := [(0, _), (2, _)]) ?_ ⟨rfl, rfl, trivial⟩
        refine WC.region ?_
        refine WL.q (oq_move rfl) rfl rfl rfl ?_
        refine WL.q (oq_add rfl rfl (by rw [i64_lo, i64_hi]; (first | omega | (simp only [List.length_cons, List.length_nil, List.length_append, List.length_drop, List.length_take]; omega)))) rfl rfl rfl ?_
        refine WL.q (oq_assign rfl) rfl rfl rfl ?_
        refine WL.nil ?_
        refine WE.meet (y / 65536, n + 16) ?_ ⟨(gtv rfl (by first | rfl | (congr 1))), rfl, trivial⟩ (List.Perm.refl _)
        try dsimp only
        exact ⟨by have h9 : bl y = bl (y / 65536) + 16 := bl_shift 16 y (by omega); omega, by omega, by omega⟩   -- meet 0
      ·
        try simp only [Bool.not_eq_eq_eq_not, Bool.not_true, Bool.not_false, decide_eq_true_eq, decide_eq_false_iff_not, Int.not_lt, Int.not_le, ne_eq, Decidable.not_not, ← List.length_eq_zero_iff] at q4
        refine WC.skip ?_
        refine WE.meet (y, n) ?_ ⟨(gtv rfl (by first | rfl | (congr 1))), rfl, trivial⟩ (List.Perm.refl _)
        try dsimp only
        exact ⟨by omega, by omega, by omega⟩   -- meet 1
    · rintro ⟨z, m⟩ hp
      try dsimp only at hp
      obtain ⟨h2, h2n, h2y⟩ := hp
      show WC _ _ _ _ _ _ ([(0, .int .u64 (z : Int)), (2, I (m : Int))]) ([])
      refine WC.cut (ι := Nat × Nat) (fun i_ => (fun (t : Nat) (k : Nat) => [(0, .int .u64 (t : Int)), (2, I (k : Int))]) i_.1 i_.2) (fun i_ => (fun (t : Nat) (k : Nat) => []) i_.1 i_.2) (fun i_ => (fun (t : Nat) (k : Nat) => bl x = bl t + k ∧ k ≤ 56 ∧ t < 256) i_.1 i_.2) ?_ ?_
      ·
        refine WC.seq ?_
        refine WC.region ?_
        refine WL.q (oq_move rfl) rfl rfl rfl ?_
        refine WL.q (oq_geq rfl rfl) rfl rfl rfl ?_
        refine WL.nil ?_
        refine WE.then_normal ?_
        refine WC.sub (fr' := [(0, _), (2, _), (14, _)]) ?_ ⟨rfl, rfl, rfl, trivial⟩
        refine WC.cond rfl (fun q7 => ?_) (fun q7 => ?_)
        ·
          try simp only [Bool.not_eq_eq_eq_not, Bool.not_true, Bool.not_false, decide_eq_true_eq, decide_eq_false_iff_not, Int.not_lt, Int.not_le, ne_eq, Decidable.not_not, ← List.length_eq_zero_iff] at q7
          refine WC.seq ?_
          refine WC.region ?_
          refine WL.q (oq_move rfl) rfl rfl rfl ?_
          refine WL.q (oq_shrl 256 rfl rfl (by decide) (by decide)) rfl rfl rfl ?_
          refine WL.q (oq_assign rfl) rfl rfl rfl ?_
          refine WL.nil ?_
          refine WE.then_normal ?_
          refine WC.sub (fr' := [(0, _), (2, _)]) ?_ ⟨rfl, rfl, trivial⟩
          refine WC.region ?_
          refine WL.q (oq_move rfl) rfl rfl rfl ?_
          refine WL.q (oq_add rfl rfl (by rw [i64_lo, i64_hi]; (first | omega | (simp only [List.length_cons, List.length_nil, List.length_append, List.length_drop, List.length_take]; omega)))) rfl rfl rfl ?_
          refine WL.q (oq_assign rfl) rfl rfl rfl ?_
          refine WL.nil ?_
          refine WE.meet (z / 256, m + 8) ?_ ⟨(gtv rfl (by first | rfl | (congr 1))), rfl, trivial⟩ (List.Perm.refl _)
          try dsimp only
          exact ⟨by have h9 : bl z = bl (z / 256) + 8 := bl_shift 8 z (by omega); omega, by omega, by omega⟩   -- meet 0
        ·
          try simp only [Bool.not_eq_eq_eq_not, Bool.not_true, Bool.not_false, decide_eq_true_eq, decide_eq_false_iff_not, Int.not_lt, Int.not_le, ne_eq, Decidable.not_not, ← List.length_eq_zero_iff] at q7
          refine WC.skip ?_
          refine WE.meet (z, m) ?_ ⟨(gtv rfl (by first | rfl | (congr 1))), rfl, trivial⟩ (List.Perm.refl _)
          try dsimp only
          exact ⟨by omega, by omega, by omega⟩   -- meet 1
      · rintro ⟨t, k⟩ hp
        try dsimp only at hp
        obtain ⟨h3, h3n, h3y⟩ := hp
        show WC _ _ _ _ _ _ ([(0, .int .u64 (t : Int)), (2, I (k : Int))]) ([])
        refine WC.seq ?_
        refine WC.region ?_
        refine WL.q (oq_move rfl) rfl rfl rfl ?_
        refine WL.q (oq_move rfl) rfl rfl rfl ?_
        refine WL.q (oq_conv Tryd.underlying62 Tryd.underlying5 rfl (by rw [u8_lo, u8_hi]; (first | omega | (simp only [List.length_cons, List.length_nil, List.length_append, List.length_drop, List.length_take]; omega)))) rfl rfl rfl ?_
        refine WL.index_s Tryd.underlying9 rfl rfl (by (have htl : tab.length = 256 := rfl; first | omega | (refine ⟨by omega, ?_⟩; show _ < ((tab.length : Nat) : Int); omega))) rfl rfl fun c10_3 hc10_3 hc10_3l hc10_3u => ?_
        refine WL.q (oq_conv Tryd.underlying5 Tryd.underlying3 rfl (by rw [i64_lo, i64_hi]; (first | omega | (simp only [List.length_cons, List.length_nil, List.length_append, List.length_drop, List.length_take]; omega)))) rfl rfl rfl ?_
        refine WL.q (oq_add rfl rfl (by rw [i64_lo, i64_hi]; (first | omega | (simp only [List.length_cons, List.length_nil, List.length_append, List.length_drop, List.length_take]; omega)))) rfl rfl rfl ?_
        refine WL.q (oq_assign rfl) rfl rfl rfl ?_
        refine WL.nil ?_
        refine WE.then_normal ?_
        refine WC.sub (fr' := [(2, _)]) ?_ ⟨rfl, trivial⟩
        refine WC.ret ?_
        refine WE.end0 (.inl rfl) (res1 Tryd.results78 rfl) ?_
        -- end 0
        have ht := tab_at t h3y
        rw [h3, hc10_3]
        show I ((k : Int) + byteAt tab (t : Int)) = _
        rw [ht]; congr 1; omega

end K4
end Go.Proofs.YtcgpajknehhdgaaDoor
