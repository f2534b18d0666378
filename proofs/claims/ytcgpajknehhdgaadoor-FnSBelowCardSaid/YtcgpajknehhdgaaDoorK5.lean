/- Walks of the numbers below another one. -/
import Derived.Test.YtcgpajknehhdgaaDoorK0
import Derived.Test.YtcgpajknehhdgaaDoorK4
import Derived.Test.YtcgpajknehhdgaaDoorL2
namespace Go.Proofs.YtcgpajknehhdgaaDoor
open Go Go.RowKit V L2 K0 K4
set_option linter.unusedSimpArgs false
set_option linter.unusedVariables false
set_option maxRecDepth 10000
namespace K5
theorem call57 : Callable Tryd.prog 57 := ⟨_, Tryd.func57, rfl, by kernel_rfl⟩
theorem call78 : Callable Tryd.prog 78 := ⟨_, Tryd.func78, rfl, by kernel_rfl⟩
theorem flat5 : Flat Tryd.prog 5 := ⟨_, Tryd.underlying5, by simp⟩
theorem ty5 : Ty Tryd.prog 5 (.int .u8 0) 1 1 := ty_of (by kernel_rfl)
theorem conc9 : Conc Tryd.prog 9 := ⟨_, Tryd.underlying9, by simp⟩

/-! ### Words: numbers out of bytes -/
def vtk (l : List UInt8) : Nat := l.foldl (fun n c => n * 256 + c.toNat) 0
theorem vtk_snoc (l : List UInt8) (i : Nat) (h : i < l.length) : vtk (l.take (i + 1)) = vtk (l.take i) * 256 + l[i].toNat := by
  rw [List.take_succ_eq_append_getElem h]; simp only [vtk, List.foldl_append, List.foldl_cons, List.foldl_nil]
theorem vtk_snocD (l : List UInt8) (i : Nat) (h : i < l.length) : vtk (l.take (i + 1)) = vtk (l.take i) * 256 + (l.getD i 0).toNat := by
  rw [vtk_snoc l i h, List.getD_eq_getElem?_getD, List.getElem?_eq_getElem h]; rfl
theorem fold_lt : ∀ (l : List UInt8) (n : Nat), l.foldl (fun n c => n * 256 + c.toNat) n < (n + 1) * 256 ^ l.length
  | [], n => by simp
  | c :: l, n => by
    have h := fold_lt l (n * 256 + c.toNat)
    have hc := c.toNat_lt
    have e : 256 ^ (c :: l).length = 256 * 256 ^ l.length := by rw [List.length_cons, Nat.pow_succ, Nat.mul_comm]
    rw [List.foldl_cons, e, ← Nat.mul_assoc]
    exact Nat.lt_of_lt_of_le h (Nat.mul_le_mul_right _ (by omega))
theorem vtk_lt (l : List UInt8) : vtk l < 256 ^ l.length := by have := fold_lt l 0; simpa [vtk] using this
theorem vtk_small (l : List UInt8) (h : l.length ≤ 7) : vtk l < 72057594037927936 :=
  Nat.lt_of_lt_of_le (vtk_lt l) (Nat.le_trans (Nat.pow_le_pow_right (by decide) h) (by decide))
def rem8 (bits : Nat) : Nat := if bits % 8 = 0 then 8 else bits % 8
theorem rem8_rng (bits : Nat) : 1 ≤ rem8 bits ∧ rem8 bits ≤ 8 := by unfold rem8; split <;> omega
def msk (bits : Nat) : List UInt8 → List UInt8
  | [] => []
  | x :: r => UInt8.ofNat (x.toNat % 2 ^ rem8 bits) :: r
theorem msk_len (bits : Nat) (l : List UInt8) : (msk bits l).length = l.length := by cases l <;> rfl
theorem msk_set (bits : Nat) (l : List UInt8) (h : 0 < l.length) (c : Int) (hc : c = byteAt l 0) (p : Nat) (hp : p = 2 ^ rem8 bits) : l.set 0 (UInt8.ofNat (c % (p : Int)).toNat) = msk bits l := by
  cases l with
  | nil => simp at h
  | cons x r =>
    have : c = (x.toNat : Int) := hc
    rw [this, hp]
    show UInt8.ofNat ((x.toNat : Int) % ((2 ^ rem8 bits : Nat) : Int)).toNat :: r = UInt8.ofNat (x.toNat % 2 ^ rem8 bits) :: r
    rw [← Int.natCast_emod, Int.toNat_natCast]
theorem msk_8 (bits : Nat) (l : List UInt8) (h : bits % 8 = 0) : msk bits l = l := by
  cases l with
  | nil => rfl
  | cons x r =>
    have hx := x.toNat_lt
    have e : rem8 bits = 8 := if_pos h
    show UInt8.ofNat (x.toNat % 2 ^ rem8 bits) :: r = x :: r
    rw [e, Nat.mod_eq_of_lt (by omega)]; simp
theorem pow_rng (b : Nat) (h : 1 ≤ b ∧ b ≤ 8) : 2 ≤ 2 ^ b ∧ 2 ^ b ≤ 256 :=
  ⟨Nat.le_trans (by decide) (Nat.pow_le_pow_right (n := 2) (by decide) h.1), Nat.le_trans (Nat.pow_le_pow_right (by decide) h.2) (by decide)⟩
theorem vtk_msk (bits : Nat) (l : List UInt8) (hl : l.length = (bits + 7) / 8) (hb : 0 < bits) : vtk (msk bits l) < 2 ^ bits := by
  cases l with
  | nil => simp at hl; omega
  | cons x r =>
    have h := fold_lt r (UInt8.ofNat (x.toNat % 2 ^ rem8 bits)).toNat
    have hr := rem8_rng bits
    have hp := pow_rng _ hr
    have hm : x.toNat % 2 ^ rem8 bits < 2 ^ rem8 bits := Nat.mod_lt _ (by omega)
    have hx : (UInt8.ofNat (x.toNat % 2 ^ rem8 bits)).toNat = x.toNat % 2 ^ rem8 bits := by simp; omega
    have e : vtk (msk bits (x :: r)) = r.foldl (fun n c => n * 256 + c.toNat) (UInt8.ofNat (x.toNat % 2 ^ rem8 bits)).toNat := by simp [vtk, msk]
    rw [List.length_cons] at hl
    have e2 : rem8 bits + 8 * r.length = bits := by unfold rem8; split <;> omega
    have e3 : (256 : Nat) ^ r.length = 2 ^ (8 * r.length) := by rw [Nat.pow_mul]
    rw [e]
    refine Nat.lt_of_lt_of_le h ?_
    rw [hx]
    calc (x.toNat % 2 ^ rem8 bits + 1) * 256 ^ r.length ≤ 2 ^ rem8 bits * 256 ^ r.length := Nat.mul_le_mul_right _ (by omega)
      _ = 2 ^ bits := by rw [e3, ← Nat.pow_add, e2]
def sch (bits : Nat) (most : Int) : Nat → List UInt8 → Int × Bool
  | 0, _ => (0, false)
  | f + 1, b => if b.length < (bits + 7) / 8 then (0, false) else if (vtk (msk bits (b.take ((bits + 7) / 8))) : Int) < most then ((vtk (msk bits (b.take ((bits + 7) / 8))) : Int), true) else sch bits most f (b.drop ((bits + 7) / 8))
theorem sch_short {bits : Nat} {most : Int} {f : Nat} {b : List UInt8} (hf : 1 ≤ f) (h : b.length < (bits + 7) / 8) : sch bits most f b = (0, false) := by
  obtain ⟨g, rfl⟩ : ∃ g, f = g + 1 := ⟨f - 1, by omega⟩
  exact if_pos h
theorem sch_hit {bits : Nat} {most : Int} {f : Nat} {b : List UInt8} (hf : 1 ≤ f) (h : ¬ b.length < (bits + 7) / 8) (h2 : (vtk (msk bits (b.take ((bits + 7) / 8))) : Int) < most) : sch bits most f b = ((vtk (msk bits (b.take ((bits + 7) / 8))) : Int), true) := by
  obtain ⟨g, rfl⟩ : ∃ g, f = g + 1 := ⟨f - 1, by omega⟩
  show (if _ then _ else _) = _
  rw [if_neg h, if_pos h2]
theorem sch_next {bits : Nat} {most : Int} {f : Nat} {b : List UInt8} (h : ¬ b.length < (bits + 7) / 8) (h2 : ¬ (vtk (msk bits (b.take ((bits + 7) / 8))) : Int) < most) : sch bits most (f + 1) b = sch bits most f (b.drop ((bits + 7) / 8)) := by
  show (if _ then _ else _) = _
  rw [if_neg h, if_neg h2]
theorem sch_ok (bits : Nat) (most : Int) : ∀ (f : Nat) (b : List UInt8), (sch bits most f b).2 = true → 0 ≤ (sch bits most f b).1 ∧ (sch bits most f b).1 < most
  | 0, b, h => by cases h
  | f + 1, b, h => by
    unfold sch at h ⊢
    split
    · rename_i hc; rw [if_pos hc] at h; cases h
    · rename_i hc
      split
      · rename_i h2; exact ⟨by omega, h2⟩
      · rename_i h2
        rw [if_neg hc, if_neg h2] at h
        exact sch_ok bits most f _ h
theorem sch_no (bits : Nat) (most : Int) : ∀ (f : Nat) (b : List UInt8), (sch bits most f b).2 = false → sch bits most f b = (0, false)
  | 0, b, h => rfl
  | f + 1, b, h => by
    unfold sch at h ⊢
    split
    · rfl
    · rename_i hc
      split
      · rename_i h2; rw [if_neg hc, if_pos h2] at h; cases h
      · rename_i h2
        rw [if_neg hc, if_neg h2] at h
        exact sch_no bits most f _ h
def chosen (most : Int) (xs : List UInt8) : Int × Bool := if bl (most - 1).toNat = 0 then (0, true) else sch (bl (most - 1).toNat) most (xs.length + 1) xs
def below (most : Int) (xs : List UInt8) : Int × Bool := if most ≤ 0 then (0, false) else chosen most xs
theorem chosen_0 {M : Nat} {xs : List UInt8} (h : bl M = 0) : chosen ((M : Int) + 1) xs = (0, true) := by
  unfold chosen; rw [show ((M : Int) + 1 - 1).toNat = M by omega, if_pos h]
theorem chosen_s {M : Nat} {xs : List UInt8} (h : bl M ≠ 0) : chosen ((M : Int) + 1) xs = sch (bl M) ((M : Int) + 1) (xs.length + 1) xs := by
  unfold chosen; rw [show ((M : Int) + 1 - 1).toNat = M by omega, if_neg h]
theorem below_ok {most : Int} {xs : List UInt8} (h : (below most xs).2 = true) : 0 ≤ (below most xs).1 ∧ (below most xs).1 < most := by
  unfold below at h ⊢
  split
  · rename_i hc; rw [if_pos hc] at h; cases h
  · rename_i hc
    rw [if_neg hc] at h
    unfold chosen at h ⊢
    split
    · exact ⟨by show (0 : Int) ≤ 0; omega, by show (0 : Int) < most; omega⟩
    · rename_i h2; rw [if_neg h2] at h; exact sch_ok _ _ _ _ h
/-- given.example/pub-tinwright/pub/smithy/rand.zzInt -/
theorem zzInt (base br : Nat) (A : Hp) (xs : List UInt8) (vx : Value) (hr : RdS 1 vx A xs.length (bytesV xs)) (hx : xs.length ≤ 1000000000) (kE : TypeId) (pE : Addr) (hE : Errs A kE pE) (pr : Int) (most : Int) (h1 : 1 ≤ most) (h2 : most ≤ 9223372036854775807) : FnW Tryd.prog 60 [.iface 57 (Pt br 0), I most] base [[(br, .cells #[vx, I 0, I pr] 83 (0, 0))], A] (fun v Hs => (∃ (i2 : Nat) (pr2 : Int), Hs = [RB br vx (i2 : Int) pr2, A]) ∧ ∃ ve, v = .tuple #[I (chosen most xs).1, ve] ∧ ((chosen most xs).2 = true → ve = .nilIface) ∧ ((chosen most xs).2 = false → ∃ k x, ve = .iface k x)) := by
  obtain ⟨M, rfl⟩ : ∃ M : Nat, most = (M : Int) + 1 := ⟨(most - 1).toNat, by omega⟩
  have hbl : bl M ≤ 63 := bl_le 63 M (by omega)
  refine FnW.enter (n := 70) Tryd.func60 rfl rfl fun w0 R0 hbase => ?_
  subst hbase
  show WC _ _ _ _ _ _ _ ([[(br, .cells #[vx, I 0, I pr] 83 (0, 0))], A, R0])
  refine WC.sub (fr' := [(0, _), (1, _)]) ?_ ⟨rfl, rfl, trivial⟩
  refine WC.seq ?_
  refine WC.region ?_
  refine WL.q (oq_assign rfl) rfl rfl rfl ?_
  refine WL.q (oq_assign rfl) rfl rfl rfl ?_
  refine WL.nil ?_
  refine WE.then_normal ?_
  refine WC.sub (fr' := [(0, _), (1, _), (4, _), (5, _)]) ?_ ⟨rfl, rfl, rfl, rfl, trivial⟩
  refine WC.seq ?_
  refine WC.seq ?_
  refine WC.region ?_
  refine WL.q (oq_move rfl) rfl rfl rfl ?_
  refine WL.q (oq_leq rfl rfl) rfl rfl rfl ?_
  refine WL.nil ?_
  refine WE.then_normal ?_
  refine WC.sub (fr' := [(0, _), (1, _), (4, _), (5, _), (15, _)]) ?_ ⟨rfl, rfl, rfl, rfl, rfl, trivial⟩
  refine WC.cond rfl (fun q1 => ?_) (fun q1 => ?_)
  ·
    try simp only [Bool.not_eq_eq_eq_not, Bool.not_true, Bool.not_false, decide_eq_true_eq, decide_eq_false_iff_not, Int.not_lt, Int.not_le, ne_eq, Decidable.not_not, ← List.length_eq_zero_iff] at q1
    refine WC.region ?_
    refine WL.q (oq_makeI conc9 rfl) rfl rfl rfl ?_
    exfalso; omega
  ·
    try simp only [Bool.not_eq_eq_eq_not, Bool.not_true, Bool.not_false, decide_eq_true_eq, decide_eq_false_iff_not, Int.not_lt, Int.not_le, ne_eq, Decidable.not_not, ← List.length_eq_zero_iff] at q1
    refine WC.skip ?_
    refine WE.then_normal ?_
    refine WC.sub (fr' := [(0, _), (1, _), (4, _), (5, _)]) ?_ ⟨rfl, rfl, rfl, rfl, trivial⟩
    refine WC.cut (ι := Unit) (fun _ => [(0, .iface 57 (Pt br 0)), (1, I ((M : Int) + 1)), (4, I 0), (5, .nilIface), (6, .int .u64 (M : Int))]) (fun _ => [[(br, .cells #[vx, I 0, I pr] 83 (0, 0))], A, R0]) (fun _ => True) ?_ ?_
    ·
      refine WC.region ?_
      refine WL.q (oq_move rfl) rfl rfl rfl ?_
      refine WL.q (oq_sub rfl rfl (by rw [i64_lo, i64_hi]; (first | omega | (simp only [List.length_cons, List.length_nil, List.length_append, List.length_drop, List.length_take]; omega)))) rfl rfl rfl ?_
      refine WL.q (oq_conv Tryd.underlying2 Tryd.underlying62 rfl (by rw [u64_lo, u64_hi]; (first | omega | (simp only [List.length_cons, List.length_nil, List.length_append, List.length_drop, List.length_take]; omega)))) rfl rfl rfl ?_
      refine WL.q (oq_assign rfl) rfl rfl rfl ?_
      refine WL.nil ?_
      refine WE.meet () ?_ ⟨rfl, rfl, rfl, rfl, (gtv rfl (by congr 1; omega)), trivial⟩ (List.Perm.refl _)
      try dsimp only
      all_goals trivial   -- meet 0
    · rintro _ hp
      try dsimp only at hp
      show WC _ _ _ _ _ _ ([(0, .iface 57 (Pt br 0)), (1, I ((M : Int) + 1)), (4, I 0), (5, .nilIface), (6, .int .u64 (M : Int))]) ([[(br, .cells #[vx, I 0, I pr] 83 (0, 0))], A, R0])
      refine WC.seq ?_
      refine WC.region ?_
      refine WL.q (oq_move rfl) rfl rfl rfl ?_
      refine WL.qc (oq_call (len64 M (by omega)) call78 rfl) rfl rfl rfl ?_
      refine WL.q (oq_assign rfl) rfl rfl rfl ?_
      refine WL.nil ?_
      refine WE.then_normal ?_
      refine WC.sub (fr' := [(0, _), (1, _), (4, _), (5, _), (7, _)]) ?_ ⟨rfl, rfl, rfl, rfl, rfl, trivial⟩
      refine WC.seq ?_
      refine WC.seq ?_
      refine WC.region ?_
      refine WL.q (oq_move rfl) rfl rfl rfl ?_
      refine WL.q (oq_eql rfl rfl) rfl rfl rfl ?_
      refine WL.nil ?_
      refine WE.then_normal ?_
      refine WC.sub (fr' := [(0, _), (1, _), (4, _), (5, _), (7, _), (23, _)]) ?_ ⟨rfl, rfl, rfl, rfl, rfl, rfl, trivial⟩
      refine WC.cond rfl (fun q5 => ?_) (fun q5 => ?_)
      ·
        try simp only [Bool.not_eq_eq_eq_not, Bool.not_true, Bool.not_false, decide_eq_true_eq, decide_eq_false_iff_not, Int.not_lt, Int.not_le, ne_eq, Decidable.not_not, ← List.length_eq_zero_iff] at q5
        refine WC.ret ?_
        refine WE.then_ret ?_
        refine WE.endW2 (.inl rfl) (res2 Tryd.results60 rfl rfl) ?_
        -- end 0
        exact ⟨⟨0, pr, rfl⟩, .nilIface, by rw [chosen_0 (by omega)], fun _ => rfl, fun h => by rw [chosen_0 (by omega)] at h; cases h⟩
      ·
        try simp only [Bool.not_eq_eq_eq_not, Bool.not_true, Bool.not_false, decide_eq_true_eq, decide_eq_false_iff_not, Int.not_lt, Int.not_le, ne_eq, Decidable.not_not, ← List.length_eq_zero_iff] at q5
        refine WC.skip ?_
        refine WE.then_normal ?_
        refine WC.sub (fr' := [(0, _), (1, _), (7, _)]) ?_ ⟨rfl, rfl, rfl, trivial⟩
        refine WC.seq ?_
        refine WC.region ?_
        refine WL.q (oq_move rfl) rfl rfl rfl ?_
        refine WL.q (oq_add rfl rfl (by rw [i64_lo, i64_hi]; (first | omega | (simp only [List.length_cons, List.length_nil, List.length_append, List.length_drop, List.length_take]; omega)))) rfl rfl rfl ?_
        refine WL.q (oq_quo rfl rfl (by rw [i64_hi]; omega)) rfl rfl rfl ?_
        refine WL.q (oq_assign rfl) rfl rfl rfl ?_
        refine WL.nil ?_
        refine WE.then_normal ?_
        refine WC.sub (fr' := [(0, _), (1, _), (7, _), (8, _)]) ?_ ⟨rfl, rfl, rfl, rfl, trivial⟩
        refine WC.seq ?_
        refine WC.region ?_
        refine WL.q (oq_move rfl) rfl rfl rfl ?_
        refine WL.q (oq_rem rfl rfl (by omega)) rfl rfl rfl ?_
        refine WL.q (oq_conv Tryd.underlying3 Tryd.underlying88 rfl (by rw [u64_lo, u64_hi]; (first | omega | (simp only [List.length_cons, List.length_nil, List.length_append, List.length_drop, List.length_take]; omega)))) rfl rfl rfl ?_
        refine WL.q (oq_assign rfl) rfl rfl rfl ?_
        refine WL.nil ?_
        refine WE.then_normal ?_
        refine WC.sub (fr' := [(0, _), (1, _), (8, _), (9, _)]) ?_ ⟨rfl, rfl, rfl, rfl, trivial⟩
        refine WC.cut (ι := Nat × Nat) (fun i_ => (fun (K : Nat) (B : Nat) => [(0, .iface 57 (Pt br 0)), (1, I ((M : Int) + 1)), (8, I (K : Int)), (9, .int .u64 (B : Int))]) i_.1 i_.2) (fun i_ => (fun (K : Nat) (B : Nat) => [[(br, .cells #[vx, I 0, I pr] 83 (0, 0))], A, R0]) i_.1 i_.2) (fun i_ => (fun (K : Nat) (B : Nat) => K = (bl M + 7) / 8 ∧ B = rem8 (bl M) ∧ bl M ≠ 0) i_.1 i_.2) ?_ ?_
        ·
          refine WC.seq ?_
          refine WC.region ?_
          refine WL.q (oq_move rfl) rfl rfl rfl ?_
          refine WL.q (oq_eql rfl rfl) rfl rfl rfl ?_
          refine WL.nil ?_
          refine WE.then_normal ?_
          refine WC.sub (fr' := [(0, _), (1, _), (8, _), (9, _), (31, _)]) ?_ ⟨rfl, rfl, rfl, rfl, rfl, trivial⟩
          refine WC.cond rfl (fun q8 => ?_) (fun q8 => ?_)
          ·
            try simp only [Bool.not_eq_eq_eq_not, Bool.not_true, Bool.not_false, decide_eq_true_eq, decide_eq_false_iff_not, Int.not_lt, Int.not_le, ne_eq, Decidable.not_not, ← List.length_eq_zero_iff] at q8
            refine WC.region ?_
            refine WL.q (oq_assign rfl) rfl rfl rfl ?_
            refine WL.nil ?_
            refine WE.meet ((bl M + 7) / 8, rem8 (bl M)) ?_ ⟨rfl, rfl, (gtv rfl (by first | rfl | (congr 1))), (gtv rfl (by unfold rem8; first | (rw [if_pos (by omega)]; rfl) | (rw [if_neg (by omega)]; rfl))), trivial⟩ (List.Perm.refl _)
            try dsimp only
            exact ⟨rfl, rfl, by omega⟩   -- meet 0
          ·
            try simp only [Bool.not_eq_eq_eq_not, Bool.not_true, Bool.not_false, decide_eq_true_eq, decide_eq_false_iff_not, Int.not_lt, Int.not_le, ne_eq, Decidable.not_not, ← List.length_eq_zero_iff] at q8
            refine WC.skip ?_
            refine WE.meet ((bl M + 7) / 8, rem8 (bl M)) ?_ ⟨rfl, rfl, (gtv rfl (by first | rfl | (congr 1))), (gtv rfl (by unfold rem8; first | (rw [if_pos (by omega)]; rfl) | (rw [if_neg (by omega)]; rfl))), trivial⟩ (List.Perm.refl _)
            try dsimp only
            exact ⟨rfl, rfl, by omega⟩   -- meet 1
        · rintro ⟨K, B⟩ hp
          try dsimp only at hp
          obtain ⟨hK, hB, hb0⟩ := hp
          show WC _ _ _ _ _ _ ([(0, .iface 57 (Pt br 0)), (1, I ((M : Int) + 1)), (8, I (K : Int)), (9, .int .u64 (B : Int))]) ([[(br, .cells #[vx, I 0, I pr] 83 (0, 0))], A, R0])
          refine WC.seq ?_
          refine WC.region ?_
          refine WL.q (oq_move rfl) rfl rfl rfl ?_
          refine WL.makeB Tryd.underlying22 ty5 rfl rfl (by omega) (by unfold maxLen; omega) rfl rfl fun bb hbb => ?_
          refine WL.q (oq_assign rfl) rfl rfl rfl ?_
          refine WL.nil ?_
          refine WE.then_normal ?_
          refine WC.sub (fr' := [(0, _), (1, _), (9, _), (10, _)]) ?_ ⟨rfl, rfl, rfl, rfl, trivial⟩
          refine WC.block ?_
          refine WC.f3 ?_
          refine WC.f3 ?_
          refine WC.f2 ?_
          refine WC.f3 ?_
          refine WC.loop (ι := Nat × Int × (List UInt8) × Nat) (fun i_ => (fun (i : Nat) (pr2 : Int) (l : List UInt8) (f : Nat) => [(0, .iface 57 (Pt br 0)), (1, I ((M : Int) + 1)), (9, .int .u64 (B : Int)), (10, Sl bb 0 K K)]) i_.1 i_.2.1 i_.2.2.1 i_.2.2.2) (fun i_ => (fun (i : Nat) (pr2 : Int) (l : List UInt8) (f : Nat) => [[(br, .cells #[vx, I (i : Int), I pr2] 83 (0, 0))], Bf bb 5 l, A, R0]) i_.1 i_.2.1 i_.2.2.1 i_.2.2.2) (fun i_ => (fun (i : Nat) (pr2 : Int) (l : List UInt8) (f : Nat) => i ≤ xs.length ∧ l.length = K ∧ xs.length - i + 1 ≤ f ∧ sch (bl M) ((M : Int) + 1) f (xs.drop i) = sch (bl M) ((M : Int) + 1) (xs.length + 1) xs) i_.1 i_.2.1 i_.2.2.1 i_.2.2.2) (fun i_ => (fun (i : Nat) (pr2 : Int) (l : List UInt8) (f : Nat) => xs.length - i) i_.1 i_.2.1 i_.2.2.1 i_.2.2.2) ((0, pr, _, xs.length + 1)) ?_ ⟨rfl, rfl, rfl, rfl, trivial⟩ (List.Perm.refl _) ?_
          · try dsimp only
            exact ⟨by omega, by simp, by omega, rfl⟩
          · rintro ⟨i, pr2, l, f⟩ hp
            try dsimp only at hp
            obtain ⟨hi, hl, hf, hs⟩ := hp
            show WC _ _ _ _ _ _ ([(0, .iface 57 (Pt br 0)), (1, I ((M : Int) + 1)), (9, .int .u64 (B : Int)), (10, Sl bb 0 K K)]) ([[(br, .cells #[vx, I (i : Int), I pr2] 83 (0, 0))], Bf bb 5 l, A, R0])
            refine WC.block ?_
            refine WC.seq ?_
            refine WC.region ?_
            refine WL.q (oq_move rfl) rfl rfl rfl ?_
            refine WL.q (oq_move rfl) rfl rfl rfl ?_
            refine WL.f2 ?_
            refine WL.f2 ?_
            refine WL.f2 ?_
            refine WL.callWE (fun a w hf => ent_fn call57 rfl hf w) (readFull _ br bb K 5 l A xs vx hr hx kE pE hE i pr2 hi hl (by omega) (by omega)) rfl rfl rfl rfl fun v11_2 Hs11_2 hR11_2 => ?_
            obtain ⟨vn, ve, i2, pr3, l2, rfl, rfl, hi2, hl2, hor⟩ := hR11_2
            have hve : ve = .nilIface ∨ ∃ k x, ve = .iface k x := by
              rcases hor with ⟨_, _, h, _⟩ | ⟨_, k, x, h⟩
              · exact .inl h
              · exact .inr ⟨k, x, h⟩
            refine WL.app3 ?_
            refine WL.q (oq_move rfl) rfl rfl rfl ?_
            refine WL.q (oq_extract rfl rfl) rfl rfl rfl ?_
            refine WL.q (oq_extract rfl rfl) rfl rfl rfl ?_
            refine WL.q (oq_assign rfl) rfl rfl rfl ?_
            refine WL.nil ?_
            refine WE.then_normal ?_
            refine WC.sub (fr' := [(0, _), (1, _), (5, _), (9, _), (10, _)]) ?_ ⟨rfl, rfl, rfl, rfl, rfl, trivial⟩
            refine WC.seq ?_
            refine WC.seq ?_
            refine WC.region ?_
            refine WL.q (oq_move rfl) rfl rfl rfl ?_
            refine WL.q (oq_ineq Tryd.underlying53 rfl (hve)) rfl rfl rfl ?_
            refine WL.nil ?_
            refine WE.then_normal ?_
            refine WC.sub (fr' := [(0, _), (1, _), (5, _), (9, _), (10, _), (41, _)]) ?_ ⟨rfl, rfl, rfl, rfl, rfl, rfl, trivial⟩
            refine WC.cond rfl (fun q12 => ?_) (fun q12 => ?_)
            ·
              try simp only [Bool.not_eq_eq_eq_not, Bool.not_true, Bool.not_false, decide_eq_true_eq, decide_eq_false_iff_not, Int.not_lt, Int.not_le, ne_eq, Decidable.not_not, ← List.length_eq_zero_iff] at q12
              refine WC.seq ?_
              refine WC.region ?_
              refine WL.q (oq_move rfl) rfl rfl rfl ?_
              refine WL.q (oq_assign rfl) rfl rfl rfl ?_
              refine WL.q (oq_assign rfl) rfl rfl rfl ?_
              refine WL.nil ?_
              refine WE.then_normal ?_
              refine WC.sub (fr' := [(4, _), (5, _)]) ?_ ⟨rfl, rfl, trivial⟩
              refine WC.ret ?_
              refine WE.then_ret ?_
              refine WE.block_ret ?_
              refine WE.then_ret ?_
              refine WE.block_ret ?_
              refine WE.f1 ?_
              refine WE.lose hbb ?_
              refine WE.endW2 (.inl rfl) (res2 Tryd.results60 rfl rfl) ?_
              -- end 1
              rcases hor with ⟨_, _, h, _⟩ | ⟨g1, k, x, h⟩
              · rw [h] at q12; cases q12
              · have hc : chosen ((M : Int) + 1) xs = (0, false) := by
                  rw [chosen_s hb0, ← hs]; exact sch_short (by omega) (by rw [List.length_drop]; omega)
                exact ⟨⟨i2, pr3, rfl⟩, ve, by rw [hc], fun h2 => by (rw [hc] at h2; cases h2), fun _ => ⟨k, x, h⟩⟩
            ·
              try simp only [Bool.not_eq_eq_eq_not, Bool.not_true, Bool.not_false, decide_eq_true_eq, decide_eq_false_iff_not, Int.not_lt, Int.not_le, ne_eq, Decidable.not_not, ← List.length_eq_zero_iff] at q12
              refine WC.skip ?_
              refine WE.then_normal ?_
              refine WC.sub (fr' := [(0, _), (1, _), (9, _), (10, _)]) ?_ ⟨rfl, rfl, rfl, rfl, trivial⟩
              refine WC.seq ?_
              have hBr := rem8_rng (bl M)
              obtain ⟨p2, hp2⟩ : ∃ p2 : Nat, p2 = 2 ^ B := ⟨_, rfl⟩
              have hp2b : 2 ≤ p2 ∧ p2 ≤ 256 := by rw [hp2]; exact pow_rng B (by omega)
              have hp2i : (2 : Int) ^ B = (p2 : Int) := by rw [hp2]; simp
              have hsh : (2 : Int) ^ (min ((B : Int)).toNat IntKind.i64.bits) = (p2 : Int) := by rw [Int.toNat_natCast, Nat.min_eq_left (by show B ≤ 64; omega)]; exact hp2i
              refine WC.region ?_
              refine WL.q (oq_move rfl) rfl rfl rfl ?_
              refine WL.q (oq_ixSl (i := 0) Tryd.underlying22 ty5 rfl rfl (by (first | omega | (simp only [List.length_set, msk_len]; omega)))) rfl rfl rfl ?_
              refine WL.loadB flat5 rfl (.tail _ (.head _)) (by (first | omega | (simp only [List.length_set, msk_len]; omega))) rfl rfl fun c14_2 hc14_2 hc14_2l hc14_2u => ?_
              refine WL.q (oq_move rfl) rfl rfl rfl ?_
              refine WL.q (oq_shll (p2 : Int) rfl rfl (by omega) hsh (by rw [i64_lo, i64_hi]; omega)) rfl rfl rfl ?_
              refine WL.q (oq_sub rfl rfl (by rw [i64_lo, i64_hi]; (first | omega | (simp only [List.length_cons, List.length_nil, List.length_append, List.length_drop, List.length_take]; omega)))) rfl rfl rfl ?_
              refine WL.q (oq_conv Tryd.underlying3 Tryd.underlying5 rfl (by rw [u8_lo, u8_hi]; (first | omega | (simp only [List.length_cons, List.length_nil, List.length_append, List.length_drop, List.length_take]; omega)))) rfl rfl rfl ?_
              refine WL.q (oq_mask B (p2 : Int) rfl rfl (by rw [u8_hi]; omega) (by rw [hp2i]; omega) (by rw [u8_hi]; omega) (by omega)) rfl rfl rfl ?_
              refine WL.q (oq_ixSl (i := 0) Tryd.underlying22 ty5 rfl rfl (by (first | omega | (simp only [List.length_set, msk_len]; omega)))) rfl rfl rfl ?_
              refine WL.f1 ?_
              refine WL.storeB ty5 rfl rfl (by (have h7 := Int.emod_nonneg c14_2 (b := (p2 : Int)) (by omega); have h8 := Int.emod_lt_of_pos c14_2 (b := (p2 : Int)) (by omega); omega)) (by (first | omega | (simp only [List.length_set, msk_len]; omega))) rfl ?_
              refine WL.nil ?_
              refine WE.then_normal ?_
              refine WC.sub (fr' := [(0, _), (1, _), (9, _), (10, _)]) ?_ ⟨rfl, rfl, rfl, rfl, trivial⟩
              refine WC.seq ?_
              rw [msk_set (bl M) l2 (by omega) c14_2 hc14_2 p2 (by rw [hp2, hB])]
              refine WC.region ?_
              refine WL.q (oq_assign rfl) rfl rfl rfl ?_
              refine WL.nil ?_
              refine WE.then_normal ?_
              refine WC.sub (fr' := [(0, _), (1, _), (9, _), (10, _), (11, _)]) ?_ ⟨rfl, rfl, rfl, rfl, rfl, trivial⟩
              refine WC.seq ?_
              refine WC.seq ?_
              refine WC.region ?_
              refine WL.q (oq_move rfl) rfl rfl rfl ?_
              refine WL.q (oq_len_sl Tryd.underlying22 rfl) rfl rfl rfl ?_
              refine WL.q (oq_move rfl) rfl rfl rfl ?_
              refine WL.nil ?_
              refine WE.then_normal ?_
              refine WC.sub (fr' := [(0, _), (1, _), (9, _), (10, _), (11, _), (52, _), (53, _), (54, _)]) ?_ ⟨rfl, rfl, rfl, rfl, rfl, rfl, rfl, rfl, trivial⟩
              refine WC.block ?_
              refine WC.f3 ?_
              refine WC.f3 ?_
              refine WC.f2 ?_
              refine WC.f3 ?_
              refine WC.loop (ι := Nat × Nat) (fun i_ => (fun (j : Nat) (v : Nat) => [(0, .iface 57 (Pt br 0)), (1, I ((M : Int) + 1)), (9, .int .u64 (B : Int)), (10, Sl bb 0 K K), (11, .int .u64 (v : Int)), (52, Sl bb 0 K K), (53, I (K : Int)), (54, I (j : Int))]) i_.1 i_.2) (fun i_ => (fun (j : Nat) (v : Nat) => [[(br, .cells #[vx, I (i2 : Int), I pr3] 83 (0, 0))], Bf bb 5 (msk (bl M) l2), A, R0]) i_.1 i_.2) (fun i_ => (fun (j : Nat) (v : Nat) => j ≤ K ∧ v = vtk ((msk (bl M) l2).take j)) i_.1 i_.2) (fun i_ => (fun (j : Nat) (v : Nat) => K - j) i_.1 i_.2) ((0, 0)) ?_ ⟨rfl, rfl, rfl, rfl, rfl, rfl, rfl, rfl, trivial⟩ (List.Perm.refl _) ?_
              · try dsimp only
                exact ⟨by omega, rfl⟩
              · rintro ⟨j, v⟩ hp
                try dsimp only at hp
                obtain ⟨hj, hv⟩ := hp
                show WC _ _ _ _ _ _ ([(0, .iface 57 (Pt br 0)), (1, I ((M : Int) + 1)), (9, .int .u64 (B : Int)), (10, Sl bb 0 K K), (11, .int .u64 (v : Int)), (52, Sl bb 0 K K), (53, I (K : Int)), (54, I (j : Int))]) ([[(br, .cells #[vx, I (i2 : Int), I pr3] 83 (0, 0))], Bf bb 5 (msk (bl M) l2), A, R0])
                refine WC.seq ?_
                refine WC.region ?_
                refine WL.q (oq_lss rfl rfl) rfl rfl rfl ?_
                refine WL.nil ?_
                refine WE.then_normal ?_
                refine WC.sub (fr' := [(0, _), (1, _), (9, _), (10, _), (11, _), (52, _), (53, _), (54, _), (55, _)]) ?_ ⟨rfl, rfl, rfl, rfl, rfl, rfl, rfl, rfl, rfl, trivial⟩
                refine WC.seq ?_
                refine WC.cond rfl (fun q17 => ?_) (fun q17 => ?_)
                ·
                  try simp only [Bool.not_eq_eq_eq_not, Bool.not_true, Bool.not_false, decide_eq_true_eq, decide_eq_false_iff_not, Int.not_lt, Int.not_le, ne_eq, Decidable.not_not, ← List.length_eq_zero_iff] at q17
                  refine WC.skip ?_
                  refine WE.then_normal ?_
                  refine WC.sub (fr' := [(0, _), (1, _), (9, _), (10, _), (11, _), (52, _), (53, _), (54, _)]) ?_ ⟨rfl, rfl, rfl, rfl, rfl, rfl, rfl, rfl, trivial⟩
                  refine WC.seq ?_
                  refine WC.block ?_
                  refine WC.seq ?_
                  refine WC.region ?_
                  refine WL.q (oq_ixSl (i := j) Tryd.underlying22 ty5 rfl rfl (by (first | omega | (simp only [List.length_set, msk_len]; omega)))) rfl rfl rfl ?_
                  refine WL.loadB flat5 rfl (.tail _ (.head _)) (by (first | omega | (simp only [List.length_set, msk_len]; omega))) rfl rfl fun c18_1 hc18_1 hc18_1l hc18_1u => ?_
                  refine WL.q (oq_assign rfl) rfl rfl rfl ?_
                  refine WL.nil ?_
                  refine WE.then_normal ?_
                  refine WC.sub (fr' := [(0, _), (1, _), (9, _), (10, _), (11, _), (13, _), (52, _), (53, _), (54, _)]) ?_ ⟨rfl, rfl, rfl, rfl, rfl, rfl, rfl, rfl, rfl, trivial⟩
                  have hvb : v < 72057594037927936 := by rw [hv]; exact vtk_small _ (by rw [List.length_take, msk_len]; omega)
                  refine WC.region ?_
                  refine WL.q (oq_move rfl) rfl rfl rfl ?_
                  refine WL.q (oq_shll 256 rfl rfl (by decide) (by decide) (by rw [u64_lo, u64_hi]; (first | omega | (simp only [List.length_cons, List.length_nil, List.length_append, List.length_drop, List.length_take]; omega)))) rfl rfl rfl ?_
                  refine WL.q (oq_move rfl) rfl rfl rfl ?_
                  refine WL.q (oq_conv Tryd.underlying5 Tryd.underlying62 rfl (by rw [u64_lo, u64_hi]; (first | omega | (simp only [List.length_cons, List.length_nil, List.length_append, List.length_drop, List.length_take]; omega)))) rfl rfl rfl ?_
                  refine WL.q (oq_orl 8 rfl rfl (by omega) (by omega) (by omega) (by rw [u64_hi]; omega)) rfl rfl rfl ?_
                  refine WL.q (oq_assign rfl) rfl rfl rfl ?_
                  refine WL.nil ?_
                  refine WE.block_normal ?_
                  refine WE.then_normal ?_
                  refine WC.sub (fr' := [(0, _), (1, _), (9, _), (10, _), (11, _), (52, _), (53, _), (54, _)]) ?_ ⟨rfl, rfl, rfl, rfl, rfl, rfl, rfl, rfl, trivial⟩
                  refine WC.region ?_
                  refine WL.q (oq_add rfl rfl (by rw [i64_lo, i64_hi]; (first | omega | (simp only [List.length_cons, List.length_nil, List.length_append, List.length_drop, List.length_take]; omega)))) rfl rfl rfl ?_
                  refine WL.q (oq_move rfl) rfl rfl rfl ?_
                  refine WL.nil ?_
                  refine WE.again (j + 1, v * 256 + ((msk (bl M) l2).getD j 0).toNat) ?_ ?_ ⟨rfl, rfl, rfl, rfl, (gtv rfl (by rw [hc18_1, show ((0 + j : Nat) : Int) = (j : Int) by omega, byteAt_nat]; exact congrArg (Value.int .u64) (by omega))), rfl, rfl, rfl, trivial⟩ (List.Perm.refl _)
                  · try dsimp only   -- again 0
                    exact ⟨by omega, by rw [vtk_snocD _ j (by rw [msk_len]; omega), hv]⟩
                  · (try dsimp only); omega
                ·
                  try simp only [Bool.not_eq_eq_eq_not, Bool.not_true, Bool.not_false, decide_eq_true_eq, decide_eq_false_iff_not, Int.not_lt, Int.not_le, ne_eq, Decidable.not_not, ← List.length_eq_zero_iff] at q17
                  refine WC.exit ?_
                  refine WE.then_exit ?_
                  refine WE.then_exit ?_
                  refine WE.block_same ?_
                  refine WE.then_normal ?_
                  refine WC.sub (fr' := [(0, _), (1, _), (9, _), (10, _), (11, _)]) ?_ ⟨rfl, rfl, rfl, rfl, rfl, trivial⟩
                  refine WC.seq ?_
                  have hvm := vtk_msk (bl M) l2 (by omega) (by omega)
                  have hvv : v = vtk (msk (bl M) l2) := by rw [hv, List.take_of_length_le (by rw [msk_len]; omega)]
                  refine WC.region ?_
                  refine WL.q (oq_move rfl) rfl rfl rfl ?_
                  refine WL.q (oq_move rfl) rfl rfl rfl ?_
                  refine WL.q (oq_conv Tryd.underlying2 Tryd.underlying62 rfl (by rw [u64_lo, u64_hi]; (first | omega | (simp only [List.length_cons, List.length_nil, List.length_append, List.length_drop, List.length_take]; omega)))) rfl rfl rfl ?_
                  refine WL.q (oq_lss rfl rfl) rfl rfl rfl ?_
                  refine WL.nil ?_
                  refine WE.then_normal ?_
                  refine WC.sub (fr' := [(0, _), (1, _), (9, _), (10, _), (11, _), (67, _)]) ?_ ⟨rfl, rfl, rfl, rfl, rfl, rfl, trivial⟩
                  refine WC.cond rfl (fun q21 => ?_) (fun q21 => ?_)
                  ·
                    try simp only [Bool.not_eq_eq_eq_not, Bool.not_true, Bool.not_false, decide_eq_true_eq, decide_eq_false_iff_not, Int.not_lt, Int.not_le, ne_eq, Decidable.not_not, ← List.length_eq_zero_iff] at q21
                    refine WC.seq ?_
                    refine WC.region ?_
                    refine WL.q (oq_move rfl) rfl rfl rfl ?_
                    refine WL.q (oq_conv Tryd.underlying62 Tryd.underlying2 rfl (by rw [i64_lo, i64_hi]; (first | omega | (simp only [List.length_cons, List.length_nil, List.length_append, List.length_drop, List.length_take]; omega)))) rfl rfl rfl ?_
                    refine WL.q (oq_assign rfl) rfl rfl rfl ?_
                    refine WL.q (oq_assign rfl) rfl rfl rfl ?_
                    refine WL.nil ?_
                    refine WE.then_normal ?_
                    refine WC.sub (fr' := [(4, _), (5, _)]) ?_ ⟨rfl, rfl, trivial⟩
                    refine WC.ret ?_
                    refine WE.block_ret ?_
                    refine WE.then_ret ?_
                    refine WE.block_ret ?_
                    refine WE.f1 ?_
                    refine WE.lose hbb ?_
                    refine WE.endW2 (.inl rfl) (res2 Tryd.results60 rfl rfl) ?_
                    -- end 2
                    rcases hor with ⟨g1, _, h, _, g4⟩ | ⟨g1, k, x, h⟩
                    · have hc : chosen ((M : Int) + 1) xs = ((v : Int), true) := by
                        rw [chosen_s hb0, ← hs, sch_hit (by omega) (by rw [List.length_drop]; omega) (by rw [← hK, ← g4, ← hvv]; omega), ← hK, ← g4, ← hvv]
                      exact ⟨⟨i2, pr3, rfl⟩, .nilIface, by rw [hc], fun _ => rfl, fun h2 => by rw [hc] at h2; cases h2⟩
                    · rw [h] at q12; cases q12
                  ·
                    try simp only [Bool.not_eq_eq_eq_not, Bool.not_true, Bool.not_false, decide_eq_true_eq, decide_eq_false_iff_not, Int.not_lt, Int.not_le, ne_eq, Decidable.not_not, ← List.length_eq_zero_iff] at q21
                    refine WC.skip ?_
                    refine WE.block_normal ?_
                    refine WE.again (i2, pr3, msk (bl M) l2, f - 1) ?_ ?_ ⟨rfl, rfl, rfl, rfl, trivial⟩ (List.Perm.refl _)
                    · try dsimp only   -- again 0
                      rcases hor with ⟨g1, _, _, g3, g4⟩ | ⟨g1, k, x, h⟩
                      · refine ⟨by omega, by rw [msk_len]; exact hl2, by omega, ?_⟩
                        rw [← hs, g3, show f = (f - 1) + 1 by omega, sch_next (by rw [List.length_drop]; omega) (by rw [← hK, ← g4]; omega), ← hK, List.drop_drop, Nat.add_sub_cancel]
                      · rw [h] at q12; cases q12
                    · (try dsimp only); rcases hor with ⟨g1, _, _, g3, _⟩ | ⟨g1, k, x, h⟩ <;> first | omega | (rw [h] at q12; cases q12)

end K5
end Go.Proofs.YtcgpajknehhdgaaDoor
