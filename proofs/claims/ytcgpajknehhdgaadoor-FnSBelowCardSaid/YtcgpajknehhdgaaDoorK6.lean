/- Walks of the law on numbers below another one. -/
import Derived.Test.YtcgpajknehhdgaaDoorK2
import Derived.Test.YtcgpajknehhdgaaDoorK5
import Derived.Test.YtcgpajknehhdgaaDoorL2
namespace Go.Proofs.YtcgpajknehhdgaaDoor
open Go Go.RowKit V L2 K0 K2 K4 K5
set_option linter.unusedSimpArgs false
set_option linter.unusedVariables false
set_option maxRecDepth 10000
namespace K6
theorem call10 : Callable Tryd.prog 10 := ⟨_, Tryd.func10, rfl, by kernel_rfl⟩
theorem call13 : Callable Tryd.prog 13 := ⟨_, Tryd.func13, rfl, by kernel_rfl⟩
theorem call14 : Callable Tryd.prog 14 := ⟨_, Tryd.func14, rfl, by kernel_rfl⟩
theorem call34 : Callable Tryd.prog 34 := ⟨_, Tryd.func34, rfl, by kernel_rfl⟩
theorem call37 : Callable Tryd.prog 37 := ⟨_, Tryd.func37, rfl, by kernel_rfl⟩
theorem call38 : Callable Tryd.prog 38 := ⟨_, Tryd.func38, rfl, by kernel_rfl⟩
theorem call60 : Callable Tryd.prog 60 := ⟨_, Tryd.func60, rfl, by kernel_rfl⟩
theorem call61 : Callable Tryd.prog 61 := ⟨_, Tryd.func61, rfl, by kernel_rfl⟩
theorem flat5 : Flat Tryd.prog 5 := ⟨_, Tryd.underlying5, by simp⟩
theorem ty5 : Ty Tryd.prog 5 (.int .u8 0) 1 1 := ty_of (by kernel_rfl)
theorem ty116 : Ty Tryd.prog 116 (.agg #[(S [])]) 1 16 := ty_of (by kernel_rfl)
theorem conc57 : Conc Tryd.prog 57 := ⟨_, Tryd.underlying57, by simp⟩
theorem conc114 : Conc Tryd.prog 114 := ⟨_, Tryd.underlying114, by simp⟩
theorem str116 : Str Tryd.prog 116 #[(0, 1)] := ⟨_, Tryd.underlying116, fun w => by kernel_rfl⟩

theorem chosen_no {most : Int} {xs : List UInt8} (h : (chosen most xs).2 = false) : (chosen most xs).1 = 0 := by
  unfold chosen at h ⊢
  split
  · rfl
  · rename_i h2; rw [if_neg h2] at h; rw [sch_no _ _ _ _ h]
theorem below_pos {most : Int} {xs : List UInt8} (h : 0 < most) : below most xs = chosen most xs := if_neg (by omega)
theorem below_neg {most : Int} {xs : List UInt8} (h : most ≤ 0) : below most xs = (0, false) := if_pos h
theorem bits_of {bits m M : Nat} (h : bits + bl m = bl M) (h0 : m = 0) : bits = bl M := by
  subst h0; have : bl 0 = 0 := rfl
  omega
theorem cutK (xs : List UInt8) (i K : Nat) : cut (bytesV (xs.drop i)) ((0 : Int) * ((1 : Nat) : Int)) ((K : Int) * ((1 : Nat) : Int)) = bytesV ((xs.drop i).take K) := by
  rw [cut_bytes]; unfold cut
  rw [show ((K : Int) * ((1 : Nat) : Int)).toNat = K by omega]; rfl
theorem cutD (xs : List UInt8) (i K m : Nat) (hm : (xs.drop i).length = m) : cut (bytesV (xs.drop i)) ((K : Int) * ((1 : Nat) : Int)) ((m : Int) * ((1 : Nat) : Int)) = bytesV (xs.drop (i + K)) := by
  rw [cut_bytes]; unfold cut
  rw [show ((m : Int) * ((1 : Nat) : Int)).toNat = m by omega, show ((K : Int) * ((1 : Nat) : Int)).toNat = K by omega, List.take_of_length_le (by omega), List.drop_drop]
/-- errors.New -/
theorem errNew (s : List UInt8) : FnA Tryd.prog 61 [S s] [] (fun v N => ∃ k x, v = .iface k x) := by
  refine FnA.enter0 (n := 7) Tryd.func61 rfl rfl fun w0 => ?_
  refine WC.sub (fr' := [(0, _)]) ?_ ⟨rfl, trivial⟩
  refine WC.seq ?_
  refine WC.region ?_
  refine WL.q (oq_assign rfl) rfl rfl rfl ?_
  refine WL.nil ?_
  refine WE.then_normal ?_
  refine WC.sub (fr' := [(0, _)]) ?_ ⟨rfl, trivial⟩
  refine WC.seq ?_
  refine WC.region ?_
  refine WL.q (oq_move rfl) rfl rfl rfl ?_
  refine WL.q (oq_build #[_] str116 ty116 rfl rfl) rfl rfl rfl ?_
  refine WL.box rfl rfl rfl fun b1_2 hb1_2 => ?_
  refine WL.q (oq_makeI conc114 rfl) rfl rfl rfl ?_
  refine WL.q (oq_assign rfl) rfl rfl rfl ?_
  refine WL.nil ?_
  refine WE.then_normal ?_
  refine WC.sub (fr' := [(2, _)]) ?_ ⟨rfl, trivial⟩
  refine WC.ret ?_
  refine WE.lose hb1_2 ?_
  refine WE.add0 ?_
  refine WE.endA0 (.inl rfl) (res1 Tryd.results61 rfl) ?_ fresh0
  -- end 0
  exact ⟨_, _, rfl⟩

/-- given.example/pub-tinwright/pub/smithy/rand.Int63n -/
theorem int63n (base br : Nat) (A : Hp) (xs : List UInt8) (vx : Value) (hr : RdS 1 vx A xs.length (bytesV xs)) (hx : xs.length ≤ 1000000000) (kE : TypeId) (pE : Addr) (hE : Errs A kE pE) (pr : Int) (most : Int) (h1 : 1 ≤ most) (h2 : most ≤ 9223372036854775807) : FnW Tryd.prog 37 [.iface 57 (Pt br 0), I most] base [[(br, .cells #[vx, I 0, I pr] 83 (0, 0))], A] (fun v Hs => (∃ (i2 : Nat) (pr2 : Int), Hs = [RB br vx (i2 : Int) pr2, A]) ∧ ∃ ve, v = .tuple #[I (chosen most xs).1, ve] ∧ ((chosen most xs).2 = true → ve = .nilIface) ∧ ((chosen most xs).2 = false → ∃ k x, ve = .iface k x)) := by
  refine FnW.enter (n := 18) Tryd.func37 rfl rfl fun w0 R0 hbase => ?_
  subst hbase
  show WC _ _ _ _ _ _ _ ([[(br, .cells #[vx, I 0, I pr] 83 (0, 0))], A, R0])
  refine WC.sub (fr' := [(0, _), (1, _)]) ?_ ⟨rfl, rfl, trivial⟩
  refine WC.seq ?_
  refine WC.region ?_
  refine WL.q (oq_assign rfl) rfl rfl rfl ?_
  refine WL.q (oq_assign rfl) rfl rfl rfl ?_
  refine WL.nil ?_
  refine WE.then_normal ?_
  refine WC.sub (fr' := [(0, _), (1, _)]) ?_ ⟨rfl, rfl, trivial⟩
  refine WC.seq ?_
  refine WC.region ?_
  refine WL.q (oq_move rfl) rfl rfl rfl ?_
  refine WL.q (oq_move rfl) rfl rfl rfl ?_
  refine WL.f1 ?_
  refine WL.f1 ?_
  refine WL.callWE (fun a w hf => ent_fn call60 rfl hf w) (zzInt _ br A xs vx hr hx kE pE hE pr most h1 h2) rfl rfl rfl rfl fun v1_2 Hs1_2 hR1_2 => ?_
  obtain ⟨⟨i2, pr2, rfl⟩, ve, rfl, hv1, hv2⟩ := hR1_2
  have hve : ve = .nilIface ∨ ∃ k x, ve = .iface k x := by
    cases hc : (chosen most xs).2 with
    | true => exact .inl (hv1 hc)
    | false => obtain ⟨k, x, h⟩ := hv2 hc; exact .inr ⟨k, x, h⟩
  have hvn : nilI ve = (chosen most xs).2 := by
    cases hc : (chosen most xs).2 with
    | true => rw [hv1 hc]; rfl
    | false => obtain ⟨k, x, h⟩ := hv2 hc; rw [h]; rfl
  refine WL.app2 ?_
  refine WL.q (oq_move rfl) rfl rfl rfl ?_
  refine WL.q (oq_extract rfl rfl) rfl rfl rfl ?_
  refine WL.q (oq_extract rfl rfl) rfl rfl rfl ?_
  refine WL.q (oq_assign rfl) rfl rfl rfl ?_
  refine WL.q (oq_assign rfl) rfl rfl rfl ?_
  refine WL.nil ?_
  refine WE.then_normal ?_
  refine WC.sub (fr' := [(6, _), (7, _)]) ?_ ⟨rfl, rfl, trivial⟩
  refine WC.seq ?_
  refine WC.seq ?_
  refine WC.region ?_
  refine WL.q (oq_move rfl) rfl rfl rfl ?_
  refine WL.q (oq_ineq Tryd.underlying53 rfl (hve)) rfl rfl rfl ?_
  refine WL.nil ?_
  refine WE.then_normal ?_
  refine WC.sub (fr' := [(6, _), (15, _)]) ?_ ⟨rfl, rfl, trivial⟩
  refine WC.cond rfl (fun q2 => ?_) (fun q2 => ?_)
  ·
    try simp only [Bool.not_eq_eq_eq_not, Bool.not_true, Bool.not_false, decide_eq_true_eq, decide_eq_false_iff_not, Int.not_lt, Int.not_le, ne_eq, Decidable.not_not, ← List.length_eq_zero_iff] at q2
    refine WC.seq ?_
    refine WC.region ?_
    refine WL.callA0 (errNew _) call61 rfl rfl rfl fun v3_0 N3_0 hR3_0 hN3_0 => ?_
    obtain ⟨ek, ex, rfl⟩ := hR3_0
    refine WL.q (oq_assign rfl) rfl rfl rfl ?_
    refine WL.q (oq_assign rfl) rfl rfl rfl ?_
    refine WL.nil ?_
    refine WE.then_normal ?_
    refine WC.sub (fr' := [(4, _), (5, _)]) ?_ ⟨rfl, rfl, trivial⟩
    refine WC.ret ?_
    refine WE.then_ret ?_
    refine WE.forget hN3_0 ?_
    refine WE.endW2 (.inl rfl) (res2 Tryd.results37 rfl rfl) ?_
    -- end 0
    rw [hvn] at q2
    exact ⟨⟨i2, pr2, rfl⟩, _, by rw [chosen_no q2], (fun h => by rw [q2] at h; cases h), fun _ => ⟨_, _, rfl⟩⟩
  ·
    try simp only [Bool.not_eq_eq_eq_not, Bool.not_true, Bool.not_false, decide_eq_true_eq, decide_eq_false_iff_not, Int.not_lt, Int.not_le, ne_eq, Decidable.not_not, ← List.length_eq_zero_iff] at q2
    refine WC.skip ?_
    refine WE.then_normal ?_
    refine WC.sub (fr' := [(6, _)]) ?_ ⟨rfl, trivial⟩
    refine WC.seq ?_
    refine WC.region ?_
    refine WL.q (oq_move rfl) rfl rfl rfl ?_
    refine WL.q (oq_assign rfl) rfl rfl rfl ?_
    refine WL.q (oq_assign rfl) rfl rfl rfl ?_
    refine WL.nil ?_
    refine WE.then_normal ?_
    refine WC.sub (fr' := [(4, _), (5, _)]) ?_ ⟨rfl, rfl, trivial⟩
    refine WC.ret ?_
    refine WE.endW2 (.inl rfl) (res2 Tryd.results37 rfl rfl) ?_
    -- end 1
    rw [hvn] at q2
    exact ⟨⟨i2, pr2, rfl⟩, _, rfl, fun _ => rfl, fun h => by rw [q2] at h; cases h⟩

/-- given.example/pub-tinwright/impl.SBelow -/
theorem sBelow (A : Hp) (xs : List UInt8) (vx : Value) (hr : RdS 1 vx A xs.length (bytesV xs)) (hx : xs.length ≤ 1000000000) (kE : TypeId) (pE : Addr) (hE : Errs A kE pE) (most : Int) (hmn : -9223372036854775808 ≤ most) (h2 : most ≤ 9223372036854775807) : FnR Tryd.prog 13 [vx, I most] A (.tuple #[I (below most xs).1, .bool (below most xs).2]) := by
  obtain ⟨p0, c0, rfl⟩ := hr.shape
  refine FnR.enter (n := 21) Tryd.func13 rfl rfl fun w0 => ?_
  refine WC.sub (fr' := [(0, _), (1, _)]) ?_ ⟨rfl, rfl, trivial⟩
  refine WC.seq ?_
  refine WC.region ?_
  refine WL.q (oq_assign rfl) rfl rfl rfl ?_
  refine WL.q (oq_assign rfl) rfl rfl rfl ?_
  refine WL.nil ?_
  refine WE.then_normal ?_
  refine WC.sub (fr' := [(0, _), (1, _)]) ?_ ⟨rfl, rfl, trivial⟩
  refine WC.seq ?_
  refine WC.seq ?_
  refine WC.region ?_
  refine WL.q (oq_move rfl) rfl rfl rfl ?_
  refine WL.q (oq_leq rfl rfl) rfl rfl rfl ?_
  refine WL.nil ?_
  refine WE.then_normal ?_
  refine WC.sub (fr' := [(0, _), (1, _), (9, _)]) ?_ ⟨rfl, rfl, rfl, trivial⟩
  refine WC.cond rfl (fun q1 => ?_) (fun q1 => ?_)
  ·
    try simp only [Bool.not_eq_eq_eq_not, Bool.not_true, Bool.not_false, decide_eq_true_eq, decide_eq_false_iff_not, Int.not_lt, Int.not_le, ne_eq, Decidable.not_not, ← List.length_eq_zero_iff] at q1
    refine WC.seq ?_
    refine WC.region ?_
    refine WL.q (oq_assign rfl) rfl rfl rfl ?_
    refine WL.q (oq_assign rfl) rfl rfl rfl ?_
    refine WL.nil ?_
    refine WE.then_normal ?_
    refine WC.sub (fr' := [(4, _), (5, _)]) ?_ ⟨rfl, rfl, trivial⟩
    refine WC.ret ?_
    refine WE.then_ret ?_
    refine WE.endR (.inl rfl) (res2 Tryd.results13 rfl rfl) ?_
    -- end 0
    rw [below_neg (by omega)]
  ·
    try simp only [Bool.not_eq_eq_eq_not, Bool.not_true, Bool.not_false, decide_eq_true_eq, decide_eq_false_iff_not, Int.not_lt, Int.not_le, ne_eq, Decidable.not_not, ← List.length_eq_zero_iff] at q1
    refine WC.skip ?_
    refine WE.then_normal ?_
    refine WC.sub (fr' := [(0, _), (1, _)]) ?_ ⟨rfl, rfl, trivial⟩
    refine WC.seq ?_
    refine WC.region ?_
    refine WL.q (oq_move rfl) rfl rfl rfl ?_
    refine WL.callA0 (newReader p0 _ c0) call34 rfl rfl rfl fun v3_1 N3_1 hR3_1 hN3_1 => ?_
    obtain ⟨br, rfl, rfl⟩ := hR3_1
    have hbr := hN3_1 _ _ (List.mem_singleton.2 rfl)
    refine WL.q (oq_makeI conc57 rfl) rfl rfl rfl ?_
    refine WL.q (oq_move rfl) rfl rfl rfl ?_
    refine WL.f1 ?_
    refine WL.f1 ?_
    refine WL.callWE (fun a w hf => ent_fn call37 rfl hf w) (int63n _ br A xs _ hr hx kE pE hE (-1) most (by omega) h2) rfl rfl rfl rfl fun v3_4 Hs3_4 hR3_4 => ?_
    obtain ⟨⟨i2, pr2, rfl⟩, ve, rfl, hv1, hv2⟩ := hR3_4
    have hve : ve = .nilIface ∨ ∃ k x, ve = .iface k x := by
      cases hc : (chosen most xs).2 with
      | true => exact .inl (hv1 hc)
      | false => obtain ⟨k, x, h⟩ := hv2 hc; exact .inr ⟨k, x, h⟩
    have hvn : nilI ve = (chosen most xs).2 := by
      cases hc : (chosen most xs).2 with
      | true => rw [hv1 hc]; rfl
      | false => obtain ⟨k, x, h⟩ := hv2 hc; rw [h]; rfl
    refine WL.app2 ?_
    refine WL.q (oq_move rfl) rfl rfl rfl ?_
    refine WL.q (oq_extract rfl rfl) rfl rfl rfl ?_
    refine WL.q (oq_extract rfl rfl) rfl rfl rfl ?_
    refine WL.q (oq_assign rfl) rfl rfl rfl ?_
    refine WL.q (oq_assign rfl) rfl rfl rfl ?_
    refine WL.nil ?_
    refine WE.then_normal ?_
    refine WC.sub (fr' := [(6, _), (7, _)]) ?_ ⟨rfl, rfl, trivial⟩
    refine WC.seq ?_
    refine WC.seq ?_
    refine WC.region ?_
    refine WL.q (oq_move rfl) rfl rfl rfl ?_
    refine WL.q (oq_ineq Tryd.underlying53 rfl (hve)) rfl rfl rfl ?_
    refine WL.nil ?_
    refine WE.then_normal ?_
    refine WC.sub (fr' := [(6, _), (19, _)]) ?_ ⟨rfl, rfl, trivial⟩
    refine WC.cond rfl (fun q4 => ?_) (fun q4 => ?_)
    ·
      try simp only [Bool.not_eq_eq_eq_not, Bool.not_true, Bool.not_false, decide_eq_true_eq, decide_eq_false_iff_not, Int.not_lt, Int.not_le, ne_eq, Decidable.not_not, ← List.length_eq_zero_iff] at q4
      refine WC.seq ?_
      refine WC.region ?_
      refine WL.q (oq_assign rfl) rfl rfl rfl ?_
      refine WL.q (oq_assign rfl) rfl rfl rfl ?_
      refine WL.nil ?_
      refine WE.then_normal ?_
      refine WC.sub (fr' := [(4, _), (5, _)]) ?_ ⟨rfl, rfl, trivial⟩
      refine WC.ret ?_
      refine WE.then_ret ?_
      refine WE.lose hbr ?_
      refine WE.endR (.inl rfl) (res2 Tryd.results13 rfl rfl) ?_
      -- end 1
      rw [hvn] at q4
      rw [below_pos (by omega), chosen_no q4, q4]
    ·
      try simp only [Bool.not_eq_eq_eq_not, Bool.not_true, Bool.not_false, decide_eq_true_eq, decide_eq_false_iff_not, Int.not_lt, Int.not_le, ne_eq, Decidable.not_not, ← List.length_eq_zero_iff] at q4
      refine WC.skip ?_
      refine WE.then_normal ?_
      refine WC.sub (fr' := [(6, _)]) ?_ ⟨rfl, trivial⟩
      refine WC.seq ?_
      refine WC.region ?_
      refine WL.q (oq_move rfl) rfl rfl rfl ?_
      refine WL.q (oq_assign rfl) rfl rfl rfl ?_
      refine WL.q (oq_assign rfl) rfl rfl rfl ?_
      refine WL.nil ?_
      refine WE.then_normal ?_
      refine WC.sub (fr' := [(4, _), (5, _)]) ?_ ⟨rfl, rfl, trivial⟩
      refine WC.ret ?_
      refine WE.lose hbr ?_
      refine WE.endR (.inl rfl) (res2 Tryd.results13 rfl rfl) ?_
      -- end 2
      rw [hvn] at q4
      rw [below_pos (by omega), q4]

/-- given.example/pub-tinwright/spec.vTaken -/
theorem vTaken (v : Value) (A : Hp) (l : List UInt8) (hr : RdS 1 v A l.length (bytesV l)) (hl : l.length ≤ 8) : FnR Tryd.prog 38 [v] A (.int .u64 (vtk l : Int)) := by
  refine FnR.enter (n := 20) Tryd.func38 rfl rfl fun w0 => ?_
  refine WC.sub (fr' := [(0, _)]) ?_ ⟨rfl, trivial⟩
  refine WC.seq ?_
  refine WC.region ?_
  refine WL.q (oq_assign rfl) rfl rfl rfl ?_
  refine WL.nil ?_
  refine WE.then_normal ?_
  refine WC.sub (fr' := [(0, _)]) ?_ ⟨rfl, trivial⟩
  refine WC.seq ?_
  refine WC.region ?_
  refine WL.q (oq_assign rfl) rfl rfl rfl ?_
  refine WL.nil ?_
  refine WE.then_normal ?_
  refine WC.sub (fr' := [(0, _), (3, _)]) ?_ ⟨rfl, rfl, trivial⟩
  refine WC.seq ?_
  refine WC.seq ?_
  refine WC.region ?_
  refine WL.q (oq_assign rfl) rfl rfl rfl ?_
  refine WL.nil ?_
  refine WE.then_normal ?_
  refine WC.sub (fr' := [(0, _), (3, _), (4, _)]) ?_ ⟨rfl, rfl, rfl, trivial⟩
  refine WC.block ?_
  refine WC.loop (ι := Nat × Nat) (fun i_ => (fun (i : Nat) (n : Nat) => [(0, v), (3, .int .u64 (n : Int)), (4, I (i : Int))]) i_.1 i_.2) (fun i_ => (fun (i : Nat) (n : Nat) => [A]) i_.1 i_.2) (fun i_ => (fun (i : Nat) (n : Nat) => i ≤ l.length ∧ n = vtk (l.take i)) i_.1 i_.2) (fun i_ => (fun (i : Nat) (n : Nat) => l.length - i) i_.1 i_.2) ((0, 0)) ?_ ⟨rfl, rfl, rfl, trivial⟩ (List.Perm.refl _) ?_
  · try dsimp only
    exact ⟨by omega, rfl⟩
  · rintro ⟨i, n⟩ hp
    try dsimp only at hp
    obtain ⟨hi, hn⟩ := hp
    show WC _ _ _ _ _ _ ([(0, v), (3, .int .u64 (n : Int)), (4, I (i : Int))]) ([A])
    refine WC.seq ?_
    refine WC.seq ?_
    refine WC.region ?_
    refine WL.q (oq_move rfl) rfl rfl rfl ?_
    refine WL.q (oq_move rfl) rfl rfl rfl ?_
    refine WL.q (oq_len_rd hr Tryd.underlying22 rfl) rfl rfl rfl ?_
    refine WL.q (oq_lss rfl rfl) rfl rfl rfl ?_
    refine WL.nil ?_
    refine WE.then_normal ?_
    refine WC.sub (fr' := [(0, _), (3, _), (4, _), (8, _)]) ?_ ⟨rfl, rfl, rfl, rfl, trivial⟩
    refine WC.cond rfl (fun q3 => ?_) (fun q3 => ?_)
    ·
      try simp only [Bool.not_eq_eq_eq_not, Bool.not_true, Bool.not_false, decide_eq_true_eq, decide_eq_false_iff_not, Int.not_lt, Int.not_le, ne_eq, Decidable.not_not, ← List.length_eq_zero_iff] at q3
      refine WC.skip ?_
      refine WE.then_normal ?_
      refine WC.sub (fr' := [(0, _), (3, _), (4, _)]) ?_ ⟨rfl, rfl, rfl, trivial⟩
      refine WC.seq ?_
      refine WC.block ?_
      have hnb : n < 72057594037927936 := by rw [hn]; exact vtk_small _ (by rw [List.length_take]; omega)
      refine WC.region ?_
      refine WL.q (oq_move rfl) rfl rfl rfl ?_
      refine WL.q (oq_shll 256 rfl rfl (by decide) (by decide) (by rw [u64_lo, u64_hi]; (first | omega | (simp only [List.length_cons, List.length_nil, List.length_append, List.length_drop, List.length_take]; omega)))) rfl rfl rfl ?_
      refine WL.q (oq_move rfl) rfl rfl rfl ?_
      refine WL.q (oq_move rfl) rfl rfl rfl ?_
      refine WL.q (oq_ixaddr hr Tryd.underlying22 ty5 rfl rfl (by (first | omega | (simp only [List.length_cons, List.length_nil, List.length_append, List.length_drop, List.length_take]; omega)))) rfl rfl rfl ?_
      refine WL.load_byte hr (.head _) flat5 rfl (by (first | omega | (simp only [List.length_cons, List.length_nil, List.length_append, List.length_drop, List.length_take]; omega))) rfl rfl fun c5_5 hc5_5 hc5_5l hc5_5u => ?_
      refine WL.q (oq_conv Tryd.underlying5 Tryd.underlying62 rfl (by rw [u64_lo, u64_hi]; (first | omega | (simp only [List.length_cons, List.length_nil, List.length_append, List.length_drop, List.length_take]; omega)))) rfl rfl rfl ?_
      refine WL.q (oq_orl 8 rfl rfl (by omega) (by omega) (by omega) (by rw [u64_hi]; omega)) rfl rfl rfl ?_
      refine WL.q (oq_assign rfl) rfl rfl rfl ?_
      refine WL.nil ?_
      refine WE.block_normal ?_
      refine WE.then_normal ?_
      refine WC.sub (fr' := [(0, _), (3, _), (4, _)]) ?_ ⟨rfl, rfl, rfl, trivial⟩
      refine WC.region ?_
      refine WL.q (oq_move rfl) rfl rfl rfl ?_
      refine WL.q (oq_add rfl rfl (by rw [i64_lo, i64_hi]; (first | omega | (simp only [List.length_cons, List.length_nil, List.length_append, List.length_drop, List.length_take]; omega)))) rfl rfl rfl ?_
      refine WL.q (oq_assign rfl) rfl rfl rfl ?_
      refine WL.nil ?_
      refine WE.again (i + 1, n * 256 + (l.getD i 0).toNat) ?_ ?_ ⟨rfl, (gtv rfl (by rw [hc5_5, byteAt_nat]; exact congrArg (Value.int .u64) (by omega))), rfl, trivial⟩ (List.Perm.refl _)
      · try dsimp only   -- again 0
        exact ⟨by omega, by rw [vtk_snocD _ i (by omega), hn]⟩
      · (try dsimp only); omega
    ·
      try simp only [Bool.not_eq_eq_eq_not, Bool.not_true, Bool.not_false, decide_eq_true_eq, decide_eq_false_iff_not, Int.not_lt, Int.not_le, ne_eq, Decidable.not_not, ← List.length_eq_zero_iff] at q3
      refine WC.exit ?_
      refine WE.then_exit ?_
      refine WE.then_exit ?_
      refine WE.block_same ?_
      refine WE.then_normal ?_
      refine WC.sub (fr' := [(3, _)]) ?_ ⟨rfl, trivial⟩
      refine WC.seq ?_
      refine WC.region ?_
      refine WL.q (oq_move rfl) rfl rfl rfl ?_
      refine WL.q (oq_assign rfl) rfl rfl rfl ?_
      refine WL.nil ?_
      refine WE.then_normal ?_
      refine WC.sub (fr' := [(2, _)]) ?_ ⟨rfl, trivial⟩
      refine WC.ret ?_
      refine WE.endR (.inl rfl) (res1 Tryd.results38 rfl) ?_
      -- end 0
      rw [hn, List.take_of_length_le (by omega)]

/-- given.example/pub-tinwright/spec.SChosen -/
theorem sChosen (A : Hp) (xs : List UInt8) (vx : Value) (hr : RdS 1 vx A xs.length (bytesV xs)) (hx : xs.length ≤ 1000000000) (most : Int) (hmn : -9223372036854775808 ≤ most) (h2 : most ≤ 9223372036854775807) : FnR Tryd.prog 14 [vx, I most] A (.tuple #[I (below most xs).1, .bool (below most xs).2]) := by
  refine FnR.enter (n := 58) Tryd.func14 rfl rfl fun w0 => ?_
  refine WC.sub (fr' := [(0, _), (1, _)]) ?_ ⟨rfl, rfl, trivial⟩
  refine WC.seq ?_
  refine WC.region ?_
  refine WL.q (oq_assign rfl) rfl rfl rfl ?_
  refine WL.q (oq_assign rfl) rfl rfl rfl ?_
  refine WL.nil ?_
  refine WE.then_normal ?_
  refine WC.sub (fr' := [(0, _), (1, _)]) ?_ ⟨rfl, rfl, trivial⟩
  refine WC.seq ?_
  refine WC.seq ?_
  refine WC.region ?_
  refine WL.q (oq_move rfl) rfl rfl rfl ?_
  refine WL.q (oq_lss rfl rfl) rfl rfl rfl ?_
  refine WL.nil ?_
  refine WE.then_normal ?_
  refine WC.sub (fr' := [(0, _), (1, _), (12, _)]) ?_ ⟨rfl, rfl, rfl, trivial⟩
  refine WC.cond rfl (fun q1 => ?_) (fun q1 => ?_)
  ·
    try simp only [Bool.not_eq_eq_eq_not, Bool.not_true, Bool.not_false, decide_eq_true_eq, decide_eq_false_iff_not, Int.not_lt, Int.not_le, ne_eq, Decidable.not_not, ← List.length_eq_zero_iff] at q1
    refine WC.seq ?_
    refine WC.region ?_
    refine WL.q (oq_assign rfl) rfl rfl rfl ?_
    refine WL.q (oq_assign rfl) rfl rfl rfl ?_
    refine WL.nil ?_
    refine WE.then_normal ?_
    refine WC.sub (fr' := [(4, _), (5, _)]) ?_ ⟨rfl, rfl, trivial⟩
    refine WC.ret ?_
    refine WE.then_ret ?_
    refine WE.endR (.inl rfl) (res2 Tryd.results14 rfl rfl) ?_
    -- end 0
    rw [below_neg (by omega)]
  ·
    try simp only [Bool.not_eq_eq_eq_not, Bool.not_true, Bool.not_false, decide_eq_true_eq, decide_eq_false_iff_not, Int.not_lt, Int.not_le, ne_eq, Decidable.not_not, ← List.length_eq_zero_iff] at q1
    refine WC.skip ?_
    refine WE.then_normal ?_
    refine WC.sub (fr' := [(0, _), (1, _)]) ?_ ⟨rfl, rfl, trivial⟩
    refine WC.seq ?_
    refine WC.region ?_
    refine WL.q (oq_assign rfl) rfl rfl rfl ?_
    refine WL.nil ?_
    refine WE.then_normal ?_
    refine WC.sub (fr' := [(0, _), (1, _), (6, _)]) ?_ ⟨rfl, rfl, rfl, trivial⟩
    refine WC.seq ?_
    refine WC.cut (ι := Nat) (fun (M : Nat) => [(0, vx), (1, I most), (6, I 0), (7, I (M : Int))]) (fun (M : Nat) => [A]) (fun (M : Nat) => most = (M : Int) + 1) ?_ ?_
    ·
      refine WC.region ?_
      refine WL.q (oq_move rfl) rfl rfl rfl ?_
      refine WL.q (oq_sub rfl rfl (by rw [i64_lo, i64_hi]; (first | omega | (simp only [List.length_cons, List.length_nil, List.length_append, List.length_drop, List.length_take]; omega)))) rfl rfl rfl ?_
      refine WL.q (oq_assign rfl) rfl rfl rfl ?_
      refine WL.nil ?_
      refine WE.meet ((most - 1).toNat) ?_ ⟨rfl, rfl, rfl, (gtv rfl (by exact congrArg (Value.int .i64) (by omega))), trivial⟩ (List.Perm.refl _)
      try dsimp only
      omega   -- meet 0
    · rintro M hp
      try dsimp only at hp
      show WC _ _ _ _ _ _ ([(0, vx), (1, I most), (6, I 0), (7, I (M : Int))]) ([A])
      have hMo := hp
      have hbl : bl M ≤ 63 := bl_le 63 M (by omega)
      refine WC.block ?_
      refine WC.loop (ι := Nat × Nat) (fun i_ => (fun (m : Nat) (bits : Nat) => [(0, vx), (1, I most), (6, I (bits : Int)), (7, I (m : Int))]) i_.1 i_.2) (fun i_ => (fun (m : Nat) (bits : Nat) => [A]) i_.1 i_.2) (fun i_ => (fun (m : Nat) (bits : Nat) => bits + bl m = bl M ∧ m ≤ M) i_.1 i_.2) (fun i_ => (fun (m : Nat) (bits : Nat) => m) i_.1 i_.2) ((M, 0)) ?_ ⟨rfl, rfl, rfl, rfl, trivial⟩ (List.Perm.refl _) ?_
      · try dsimp only
        exact ⟨by omega, by omega⟩
      · rintro ⟨m, bits⟩ hp
        try dsimp only at hp
        obtain ⟨hbm, hmM⟩ := hp
        show WC _ _ _ _ _ _ ([(0, vx), (1, I most), (6, I (bits : Int)), (7, I (m : Int))]) ([A])
        refine WC.seq ?_
        refine WC.seq ?_
        refine WC.region ?_
        refine WL.q (oq_move rfl) rfl rfl rfl ?_
        refine WL.q (oq_gtr rfl rfl) rfl rfl rfl ?_
        refine WL.nil ?_
        refine WE.then_normal ?_
        refine WC.sub (fr' := [(0, _), (1, _), (6, _), (7, _), (16, _)]) ?_ ⟨rfl, rfl, rfl, rfl, rfl, trivial⟩
        refine WC.cond rfl (fun q5 => ?_) (fun q5 => ?_)
        ·
          try simp only [Bool.not_eq_eq_eq_not, Bool.not_true, Bool.not_false, decide_eq_true_eq, decide_eq_false_iff_not, Int.not_lt, Int.not_le, ne_eq, Decidable.not_not, ← List.length_eq_zero_iff] at q5
          refine WC.skip ?_
          refine WE.then_normal ?_
          refine WC.sub (fr' := [(0, _), (1, _), (6, _), (7, _)]) ?_ ⟨rfl, rfl, rfl, rfl, trivial⟩
          refine WC.seq ?_
          refine WC.block ?_
          refine WC.region ?_
          refine WL.q (oq_move rfl) rfl rfl rfl ?_
          refine WL.q (oq_add rfl rfl (by rw [i64_lo, i64_hi]; (first | omega | (simp only [List.length_cons, List.length_nil, List.length_append, List.length_drop, List.length_take]; omega)))) rfl rfl rfl ?_
          refine WL.q (oq_assign rfl) rfl rfl rfl ?_
          refine WL.nil ?_
          refine WE.block_normal ?_
          refine WE.then_normal ?_
          refine WC.sub (fr' := [(0, _), (1, _), (6, _), (7, _)]) ?_ ⟨rfl, rfl, rfl, rfl, trivial⟩
          refine WC.region ?_
          refine WL.q (oq_move rfl) rfl rfl rfl ?_
          refine WL.q (oq_quo rfl rfl (by rw [i64_hi]; omega)) rfl rfl rfl ?_
          refine WL.q (oq_assign rfl) rfl rfl rfl ?_
          refine WL.nil ?_
          refine WE.again (m / 2, bits + 1) ?_ ?_ ⟨rfl, rfl, rfl, (gtv rfl (by exact congrArg (Value.int .i64) (by omega))), trivial⟩ (List.Perm.refl _)
          · try dsimp only   -- again 0
            exact ⟨by have := bl_half m (by omega); omega, by omega⟩
          · (try dsimp only); omega
        ·
          try simp only [Bool.not_eq_eq_eq_not, Bool.not_true, Bool.not_false, decide_eq_true_eq, decide_eq_false_iff_not, Int.not_lt, Int.not_le, ne_eq, Decidable.not_not, ← List.length_eq_zero_iff] at q5
          refine WC.exit ?_
          refine WE.then_exit ?_
          refine WE.then_exit ?_
          refine WE.block_same ?_
          refine WE.then_normal ?_
          refine WC.sub (fr' := [(0, _), (1, _), (6, _)]) ?_ ⟨rfl, rfl, rfl, trivial⟩
          refine WC.cut (ι := Nat) (fun (K : Nat) => [(0, vx), (1, I most), (6, I (bits : Int)), (8, I (K : Int))]) (fun (K : Nat) => [A]) (fun (K : Nat) => K = (bits + 7) / 8 ∧ bits = bl M) ?_ ?_
          ·
            refine WC.region ?_
            refine WL.q (oq_move rfl) rfl rfl rfl ?_
            refine WL.q (oq_add rfl rfl (by rw [i64_lo, i64_hi]; (first | omega | (simp only [List.length_cons, List.length_nil, List.length_append, List.length_drop, List.length_take]; omega)))) rfl rfl rfl ?_
            refine WL.q (oq_quo rfl rfl (by rw [i64_hi]; omega)) rfl rfl rfl ?_
            refine WL.q (oq_assign rfl) rfl rfl rfl ?_
            refine WL.nil ?_
            refine WE.meet ((bits + 7) / 8) ?_ ⟨rfl, rfl, rfl, (gtv rfl (by exact congrArg (Value.int .i64) (by omega))), trivial⟩ (List.Perm.refl _)
            try dsimp only
            exact ⟨rfl, bits_of hbm (by omega)⟩   -- meet 0
          · rintro K hp
            try dsimp only at hp
            obtain ⟨hK, hbb⟩ := hp
            show WC _ _ _ _ _ _ ([(0, vx), (1, I most), (6, I (bits : Int)), (8, I (K : Int))]) ([A])
            refine WC.seq ?_
            refine WC.block ?_
            refine WC.loop (ι := Nat × Value × Nat) (fun i_ => (fun (i : Nat) (vb : Value) (f : Nat) => [(0, vb), (1, I most), (6, I (bits : Int)), (8, I (K : Int))]) i_.1 i_.2.1 i_.2.2) (fun i_ => (fun (i : Nat) (vb : Value) (f : Nat) => [A]) i_.1 i_.2.1 i_.2.2) (fun i_ => (fun (i : Nat) (vb : Value) (f : Nat) => i ≤ xs.length ∧ RdS 1 vb A (xs.length - i) (bytesV (xs.drop i)) ∧ xs.length - i + 1 ≤ f ∧ sch bits most f (xs.drop i) = sch bits most (xs.length + 1) xs) i_.1 i_.2.1 i_.2.2) (fun i_ => (fun (i : Nat) (vb : Value) (f : Nat) => xs.length - i) i_.1 i_.2.1 i_.2.2) ((0, vx, xs.length + 1)) ?_ ⟨rfl, rfl, rfl, rfl, trivial⟩ (List.Perm.refl _) ?_
            · try dsimp only
              exact ⟨by omega, hr, by omega, rfl⟩
            · rintro ⟨i, vb, f⟩ hp
              try dsimp only at hp
              obtain ⟨hi, hrb, hf, hs⟩ := hp
              show WC _ _ _ _ _ _ ([(0, vb), (1, I most), (6, I (bits : Int)), (8, I (K : Int))]) ([A])
              refine WC.seq ?_
              refine WC.seq ?_
              refine WC.region ?_
              refine WL.q (oq_move rfl) rfl rfl rfl ?_
              refine WL.q (oq_gtr rfl rfl) rfl rfl rfl ?_
              refine WL.nil ?_
              refine WE.then_normal ?_
              refine WC.sub (fr' := [(0, _), (1, _), (6, _), (8, _), (25, _)]) ?_ ⟨rfl, rfl, rfl, rfl, rfl, trivial⟩
              refine WC.cond rfl (fun q9 => ?_) (fun q9 => ?_)
              ·
                try simp only [Bool.not_eq_eq_eq_not, Bool.not_true, Bool.not_false, decide_eq_true_eq, decide_eq_false_iff_not, Int.not_lt, Int.not_le, ne_eq, Decidable.not_not, ← List.length_eq_zero_iff] at q9
                refine WC.skip ?_
                refine WE.then_normal ?_
                refine WC.sub (fr' := [(0, _), (1, _), (6, _), (8, _)]) ?_ ⟨rfl, rfl, rfl, rfl, trivial⟩
                refine WC.block ?_
                refine WC.seq ?_
                refine WC.seq ?_
                refine WC.region ?_
                refine WL.q (oq_move rfl) rfl rfl rfl ?_
                refine WL.q (oq_len_rd hrb Tryd.underlying22 rfl) rfl rfl rfl ?_
                refine WL.q (oq_move rfl) rfl rfl rfl ?_
                refine WL.q (oq_lss rfl rfl) rfl rfl rfl ?_
                refine WL.nil ?_
                refine WE.then_normal ?_
                refine WC.sub (fr' := [(0, _), (1, _), (6, _), (8, _), (29, _)]) ?_ ⟨rfl, rfl, rfl, rfl, rfl, trivial⟩
                refine WC.cond rfl (fun q10 => ?_) (fun q10 => ?_)
                ·
                  try simp only [Bool.not_eq_eq_eq_not, Bool.not_true, Bool.not_false, decide_eq_true_eq, decide_eq_false_iff_not, Int.not_lt, Int.not_le, ne_eq, Decidable.not_not, ← List.length_eq_zero_iff] at q10
                  refine WC.seq ?_
                  refine WC.region ?_
                  refine WL.q (oq_assign rfl) rfl rfl rfl ?_
                  refine WL.q (oq_assign rfl) rfl rfl rfl ?_
                  refine WL.nil ?_
                  refine WE.then_normal ?_
                  refine WC.sub (fr' := [(4, _), (5, _)]) ?_ ⟨rfl, rfl, trivial⟩
                  refine WC.ret ?_
                  refine WE.then_ret ?_
                  refine WE.block_ret ?_
                  refine WE.then_ret ?_
                  refine WE.block_ret ?_
                  refine WE.then_ret ?_
                  refine WE.endR (.inl rfl) (res2 Tryd.results14 rfl rfl) ?_
                  -- end 1
                  rw [below_pos (by omega), hMo, chosen_s (by omega), ← hMo, ← hbb, ← hs, sch_short (by omega) (by rw [List.length_drop]; omega)]
                ·
                  try simp only [Bool.not_eq_eq_eq_not, Bool.not_true, Bool.not_false, decide_eq_true_eq, decide_eq_false_iff_not, Int.not_lt, Int.not_le, ne_eq, Decidable.not_not, ← List.length_eq_zero_iff] at q10
                  refine WC.skip ?_
                  refine WE.then_normal ?_
                  refine WC.sub (fr' := [(0, _), (1, _), (6, _), (8, _)]) ?_ ⟨rfl, rfl, rfl, rfl, trivial⟩
                  refine WC.seq ?_
                  refine WC.region ?_
                  refine WL.build0 Tryd.underlying22 ty5 rfl rfl fun v12 A12 ho12 hne12 => ?_
                  refine WL.q (oq_move rfl) rfl rfl rfl ?_
                  refine WL.q (oq_move rfl) rfl rfl rfl ?_
                  refine WL.slice_rd hrb Tryd.underlying22 ty5 rfl rfl ⟨_, rfl⟩ (by (first | omega | (simp only [List.length_cons, List.length_nil, List.length_append, List.length_drop, List.length_take]; omega))) rfl rfl fun v12_3 hr12_3 => ?_
                  have hbk : RdS 1 v12_3 A K (bytesV ((xs.drop i).take K)) := by have := hr12_3; rw [cutK] at this; simpa using this
                  refine WL.appendS ho12 Tryd.underlying22 ty5 rfl (by decide) rfl rfl hbk (.head _) (bytesV_one _) (by unfold maxLen; omega) (by omega) rfl rfl fun v12 A12 ho12 hne12 => ?_
                  refine WL.q (oq_assign rfl) rfl rfl rfl ?_
                  refine WL.nil ?_
                  refine WE.then_normal ?_
                  refine WC.sub (fr' := [(0, _), (1, _), (6, _), (8, _), (9, _)]) ?_ ⟨rfl, rfl, rfl, rfl, rfl, trivial⟩
                  refine WC.cut (ι := Value × Hp) (fun i_ => (fun (vl : Value) (B : Hp) => [(0, vb), (1, I most), (6, I (bits : Int)), (8, I (K : Int)), (9, vl)]) i_.1 i_.2) (fun i_ => (fun (vl : Value) (B : Hp) => [A, B]) i_.1 i_.2) (fun i_ => (fun (vl : Value) (B : Hp) => OwS w0.heap.size 5 1 vl B K (bytesV (msk bits ((xs.drop i).take K)))) i_.1 i_.2) ?_ ?_
                  ·
                    refine WC.seq ?_
                    have hlk : ((xs.drop i).take K).length = K := by rw [List.length_take, List.length_drop]; omega
                    have hoL : OwS w0.heap.size 5 1 v12 A12 K (bytesV ((xs.drop i).take K)) := by simpa using ho12
                    refine WC.region ?_
                    refine WL.q (oq_move rfl) rfl rfl rfl ?_
                    refine WL.q (oq_rem rfl rfl (by omega)) rfl rfl rfl ?_
                    refine WL.q (oq_gtr rfl rfl) rfl rfl rfl ?_
                    refine WL.nil ?_
                    refine WE.then_normal ?_
                    refine WC.sub (fr' := [(0, _), (1, _), (6, _), (8, _), (9, _), (37, _)]) ?_ ⟨rfl, rfl, rfl, rfl, rfl, rfl, trivial⟩
                    refine WC.cond rfl (fun q13 => ?_) (fun q13 => ?_)
                    ·
                      try simp only [Bool.not_eq_eq_eq_not, Bool.not_true, Bool.not_false, decide_eq_true_eq, decide_eq_false_iff_not, Int.not_lt, Int.not_le, ne_eq, Decidable.not_not, ← List.length_eq_zero_iff] at q13
                      obtain ⟨p2, hp2⟩ : ∃ p2 : Nat, p2 = 2 ^ (bits % 8) := ⟨_, rfl⟩
                      have hp2b : 2 ≤ p2 ∧ p2 ≤ 128 := by rw [hp2]; exact ⟨Nat.le_trans (by decide) (Nat.pow_le_pow_right (n := 2) (by decide) (show 1 ≤ bits % 8 by omega)), Nat.le_trans (Nat.pow_le_pow_right (by decide) (show bits % 8 ≤ 7 by omega)) (by decide)⟩
                      have hp2i : (2 : Int) ^ (bits % 8) = (p2 : Int) := by rw [hp2]; simp
                      have hsh : (2 : Int) ^ (min ((bits : Int) % 8).toNat IntKind.u8.bits) = (p2 : Int) := by rw [show ((bits : Int) % 8).toNat = bits % 8 by omega, Nat.min_eq_left (by show bits % 8 ≤ 8; omega)]; exact hp2i
                      have hcb : 0 ≤ byteAt ((xs.drop i).take K) 0 % (p2 : Int) ∧ byteAt ((xs.drop i).take K) 0 % (p2 : Int) < 256 := by have h7 := Int.emod_nonneg (byteAt ((xs.drop i).take K) 0) (b := (p2 : Int)) (by omega); have h8 := Int.emod_lt_of_pos (byteAt ((xs.drop i).take K) 0) (b := (p2 : Int)) (by omega); omega
                      refine WC.tailM (pl := []) (ql := [_, _, _, _, _, _, _, _, _, _]) (tl := [_]) [] [0, 1, 2, 3, 4, 5, 6, 7, 8, 9] 10 [] (by kernel_rfl) (by kernel_rfl) (by kernel_rfl) (by kernel_rfl) (by kernel_rfl) (by kernel_rfl) (by decide) rfl rfl rfl (by decide) (by repeat (first | with_reducible exact QOk.body | with_reducible apply QOk.then | with_reducible apply QOk.block | exact QOk.body | apply QOk.then | apply QOk.block)) ?_
                      refine WM.nil ?_
                      refine WY.q (oq_move rfl) rfl rfl rfl ?_
                      refine WY.q (oq_move rfl) rfl rfl rfl ?_
                      refine WY.q (oq_ixaddr hoL.rd Tryd.underlying22 ty5 rfl rfl (by (first | omega | (simp only [List.length_cons, List.length_nil, List.length_append, List.length_drop, List.length_take]; omega)))) rfl rfl rfl ?_
                      refine WY.load_byte hoL.rd (.head _) flat5 rfl (by (first | omega | (simp only [List.length_cons, List.length_nil, List.length_append, List.length_drop, List.length_take]; omega))) rfl rfl fun c14_3 hc14_3 hc14_3l hc14_3u => ?_
                      refine WY.q (oq_move rfl) rfl rfl rfl ?_
                      refine WY.q (oq_rem rfl rfl (by omega)) rfl rfl rfl ?_
                      refine WY.q (oq_shll (p2 : Int) rfl rfl (by omega) hsh (by rw [u8_lo, u8_hi]; omega)) rfl rfl rfl ?_
                      refine WY.q (oq_sub rfl rfl (by rw [u8_lo, u8_hi]; (first | omega | (simp only [List.length_cons, List.length_nil, List.length_append, List.length_drop, List.length_take]; omega)))) rfl rfl rfl ?_
                      refine WY.q (oq_mask (bits % 8) (p2 : Int) rfl rfl (by have h1 := byteAt_lo ((xs.drop i).take K) 0; have h2 := byteAt_hi ((xs.drop i).take K) 0; rw [u8_hi]; omega) (by rw [hp2i]; omega) (by rw [u8_hi]; omega) (by omega)) rfl rfl rfl ?_
                      refine WY.q (oq_ixaddr hoL.rd Tryd.underlying22 ty5 rfl rfl (by (first | omega | (simp only [List.length_cons, List.length_nil, List.length_append, List.length_drop, List.length_take]; omega)))) rfl rfl rfl ?_
                      refine WY.nil ?_
                      refine WL.storeOw (i := 0) hoL ty5 rfl rfl (by first | rfl | simp) (by (first | omega | (simp only [List.length_cons, List.length_nil, List.length_append, List.length_drop, List.length_take]; omega))) rfl fun A14_10 ho14_10 => ?_
                      refine WL.nil ?_
                      refine WE.f1 ?_
                      refine WE.meet (_, _) ?_ ⟨rfl, rfl, rfl, rfl, rfl, trivial⟩ (List.Perm.refl _)
                      try dsimp only
                      rw [hc14_3, bytesV_set _ _ _ hcb, msk_set bits _ (by omega) _ rfl p2 (by rw [hp2, show rem8 bits = bits % 8 from if_neg (by omega)])] at ho14_10; exact ho14_10   -- meet 0
                    ·
                      try simp only [Bool.not_eq_eq_eq_not, Bool.not_true, Bool.not_false, decide_eq_true_eq, decide_eq_false_iff_not, Int.not_lt, Int.not_le, ne_eq, Decidable.not_not, ← List.length_eq_zero_iff] at q13
                      refine WC.skip ?_
                      refine WE.f1 ?_
                      refine WE.meet (_, _) ?_ ⟨rfl, rfl, rfl, rfl, rfl, trivial⟩ (List.Perm.refl _)
                      try dsimp only
                      rw [msk_8 bits _ (by omega)]; exact hoL   -- meet 1
                  · rintro ⟨vl, B⟩ hp
                    try dsimp only at hp
                    show WC _ _ _ _ _ _ ([(0, vb), (1, I most), (6, I (bits : Int)), (8, I (K : Int)), (9, vl)]) ([A, B])
                    have hlk : ((xs.drop i).take K).length = K := by rw [List.length_take, List.length_drop]; omega
                    have ho := hp
                    have hmr := ho.rd
                    have hlm : (msk bits ((xs.drop i).take K)).length = K := by rw [msk_len]; exact hlk
                    have hvm := vtk_msk bits ((xs.drop i).take K) (by omega) (by omega)
                    have hp63 : 2 ^ bits ≤ 2 ^ 63 := Nat.pow_le_pow_right (by decide) (by omega)
                    refine WC.seq ?_
                    refine WC.seq ?_
                    refine WC.region ?_
                    refine WL.q (oq_move rfl) rfl rfl rfl ?_
                    refine WL.qc (oq_callRm (vTaken vl B _ (by rw [hlm]; exact hmr) (by omega)) (.tail _ (.head _)) call38 rfl) rfl rfl rfl ?_
                    refine WL.q (oq_conv Tryd.underlying62 Tryd.underlying2 rfl (by rw [i64_lo, i64_hi]; (first | omega | (simp only [List.length_cons, List.length_nil, List.length_append, List.length_drop, List.length_take]; omega)))) rfl rfl rfl ?_
                    refine WL.q (oq_assign rfl) rfl rfl rfl ?_
                    refine WL.nil ?_
                    refine WE.then_normal ?_
                    refine WC.sub (fr' := [(0, _), (1, _), (6, _), (8, _), (10, _)]) ?_ ⟨rfl, rfl, rfl, rfl, rfl, trivial⟩
                    refine WC.seq ?_
                    refine WC.region ?_
                    refine WL.q (oq_move rfl) rfl rfl rfl ?_
                    refine WL.q (oq_move rfl) rfl rfl rfl ?_
                    refine WL.q (oq_lss rfl rfl) rfl rfl rfl ?_
                    refine WL.nil ?_
                    refine WE.then_normal ?_
                    refine WC.sub (fr' := [(0, _), (1, _), (6, _), (8, _), (10, _), (53, _)]) ?_ ⟨rfl, rfl, rfl, rfl, rfl, rfl, trivial⟩
                    refine WC.cond rfl (fun q16 => ?_) (fun q16 => ?_)
                    ·
                      try simp only [Bool.not_eq_eq_eq_not, Bool.not_true, Bool.not_false, decide_eq_true_eq, decide_eq_false_iff_not, Int.not_lt, Int.not_le, ne_eq, Decidable.not_not, ← List.length_eq_zero_iff] at q16
                      refine WC.seq ?_
                      refine WC.region ?_
                      refine WL.q (oq_move rfl) rfl rfl rfl ?_
                      refine WL.q (oq_assign rfl) rfl rfl rfl ?_
                      refine WL.q (oq_assign rfl) rfl rfl rfl ?_
                      refine WL.nil ?_
                      refine WE.then_normal ?_
                      refine WC.sub (fr' := [(4, _), (5, _)]) ?_ ⟨rfl, rfl, trivial⟩
                      refine WC.ret ?_
                      refine WE.then_ret ?_
                      refine WE.block_ret ?_
                      refine WE.then_ret ?_
                      refine WE.block_ret ?_
                      refine WE.then_ret ?_
                      refine WE.f1 ?_
                      refine WE.forget ho.fresh ?_
                      refine WE.endR (.inl rfl) (res2 Tryd.results14 rfl rfl) ?_
                      -- end 2
                      rw [below_pos (by omega), hMo, chosen_s (by omega), ← hMo, ← hbb, ← hs, sch_hit (by omega) (by rw [List.length_drop]; omega) (by rw [← hK]; omega), ← hK]
                    ·
                      try simp only [Bool.not_eq_eq_eq_not, Bool.not_true, Bool.not_false, decide_eq_true_eq, decide_eq_false_iff_not, Int.not_lt, Int.not_le, ne_eq, Decidable.not_not, ← List.length_eq_zero_iff] at q16
                      refine WC.skip ?_
                      refine WE.then_normal ?_
                      refine WC.sub (fr' := [(0, _), (1, _), (6, _), (8, _)]) ?_ ⟨rfl, rfl, rfl, rfl, trivial⟩
                      refine WC.region ?_
                      refine WL.q (oq_move rfl) rfl rfl rfl ?_
                      refine WL.q (oq_move rfl) rfl rfl rfl ?_
                      refine WL.slice_rd hrb Tryd.underlying22 ty5 rfl ⟨_, rfl⟩ rfl (by (first | omega | (simp only [List.length_cons, List.length_nil, List.length_append, List.length_drop, List.length_take]; omega))) rfl rfl fun v18_2 hr18_2 => ?_
                      have hx2 : RdS 1 v18_2 A (xs.length - (i + K)) (bytesV (xs.drop (i + K))) := by have := hr18_2; rw [cutD _ _ _ _ (by rw [List.length_drop])] at this; rw [show (((xs.length - i : Nat) : Int) - (K : Int)).toNat = xs.length - (i + K) by omega] at this; exact this
                      refine WL.q (oq_assign rfl) rfl rfl rfl ?_
                      refine WL.nil ?_
                      refine WE.block_normal ?_
                      refine WE.f1 ?_
                      refine WE.forget ho.fresh ?_
                      refine WE.again (i + K, _, f - 1) ?_ ?_ ⟨rfl, rfl, rfl, rfl, trivial⟩ (List.Perm.refl _)
                      · try dsimp only   -- again 0
                        refine ⟨by omega, hx2, by omega, ?_⟩
                        rw [← hs, show f = (f - 1) + 1 by omega, sch_next (by rw [List.length_drop]; omega) (by rw [← hK]; omega), ← hK, List.drop_drop, Nat.add_sub_cancel]
                      · (try dsimp only); omega
              ·
                try simp only [Bool.not_eq_eq_eq_not, Bool.not_true, Bool.not_false, decide_eq_true_eq, decide_eq_false_iff_not, Int.not_lt, Int.not_le, ne_eq, Decidable.not_not, ← List.length_eq_zero_iff] at q9
                refine WC.exit ?_
                refine WE.then_exit ?_
                refine WE.then_exit ?_
                refine WE.block_same ?_
                refine WE.then_normal ?_
                refine WC.sub (fr' := []) ?_ trivial
                refine WC.seq ?_
                refine WC.region ?_
                refine WL.q (oq_assign rfl) rfl rfl rfl ?_
                refine WL.q (oq_assign rfl) rfl rfl rfl ?_
                refine WL.nil ?_
                refine WE.then_normal ?_
                refine WC.sub (fr' := [(4, _), (5, _)]) ?_ ⟨rfl, rfl, trivial⟩
                refine WC.ret ?_
                refine WE.endR (.inl rfl) (res2 Tryd.results14 rfl rfl) ?_
                -- end 3
                rw [below_pos (by omega), hMo, chosen_0 (by omega)]

/-- given.example/pub-tinwright/laws.FnSBelow -/
theorem law (A : Hp) (xs : List UInt8) (vx : Value) (hr : RdS 1 vx A xs.length (bytesV xs)) (kE : TypeId) (pE : Addr) (hE : Errs A kE pE) (most : Int) (hmn : -9223372036854775808 ≤ most ∧ most ≤ 9223372036854775807) : FnR Tryd.prog 4 [vx, I most] A (.bool true) := by
  refine FnR.enter (n := 52) Tryd.func4 rfl rfl fun w0 => ?_
  refine WC.sub (fr' := [(0, _), (1, _)]) ?_ ⟨rfl, rfl, trivial⟩
  refine WC.seq ?_
  refine WC.region ?_
  refine WL.q (oq_assign rfl) rfl rfl rfl ?_
  refine WL.nil ?_
  refine WE.then_normal ?_
  refine WC.sub (fr' := [(0, _), (1, _)]) ?_ ⟨rfl, rfl, trivial⟩
  refine WC.seq ?_
  refine WC.seq ?_
  refine WC.region ?_
  refine WL.q (oq_move rfl) rfl rfl rfl ?_
  refine WL.q (oq_len_rd hr Tryd.underlying22 rfl) rfl rfl rfl ?_
  refine WL.q (oq_gtr rfl rfl) rfl rfl rfl ?_
  refine WL.nil ?_
  refine WE.then_normal ?_
  refine WC.sub (fr' := [(0, _), (1, _), (11, _)]) ?_ ⟨rfl, rfl, rfl, trivial⟩
  refine WC.cond rfl (fun q1 => ?_) (fun q1 => ?_)
  ·
    try simp only [Bool.not_eq_eq_eq_not, Bool.not_true, Bool.not_false, decide_eq_true_eq, decide_eq_false_iff_not, Int.not_lt, Int.not_le, ne_eq, Decidable.not_not, ← List.length_eq_zero_iff] at q1
    refine WC.seq ?_
    refine WC.region ?_
    refine WL.q (oq_assign rfl) rfl rfl rfl ?_
    refine WL.nil ?_
    refine WE.then_normal ?_
    refine WC.sub (fr' := [(4, _)]) ?_ ⟨rfl, trivial⟩
    refine WC.ret ?_
    refine WE.then_ret ?_
    refine WE.endR (.inl rfl) (res1 Tryd.results4 rfl) ?_
    -- end 0
    first | rfl | (exfalso; simp_all; done) | (exfalso; simp_all; omega)
  ·
    try simp only [Bool.not_eq_eq_eq_not, Bool.not_true, Bool.not_false, decide_eq_true_eq, decide_eq_false_iff_not, Int.not_lt, Int.not_le, ne_eq, Decidable.not_not, ← List.length_eq_zero_iff] at q1
    refine WC.skip ?_
    refine WE.then_normal ?_
    refine WC.sub (fr' := [(0, _), (1, _)]) ?_ ⟨rfl, rfl, trivial⟩
    refine WC.seq ?_
    refine WC.seq ?_
    refine WC.region ?_
    refine WL.q (oq_move rfl) rfl rfl rfl ?_
    refine WL.q (oq_len_rd hr Tryd.underlying22 rfl) rfl rfl rfl ?_
    refine WL.q (oq_gtr rfl rfl) rfl rfl rfl ?_
    refine WL.nil ?_
    refine WE.then_normal ?_
    refine WC.sub (fr' := [(0, _), (1, _), (14, _)]) ?_ ⟨rfl, rfl, rfl, trivial⟩
    refine WC.cond rfl (fun q3 => ?_) (fun q3 => ?_)
    ·
      try simp only [Bool.not_eq_eq_eq_not, Bool.not_true, Bool.not_false, decide_eq_true_eq, decide_eq_false_iff_not, Int.not_lt, Int.not_le, ne_eq, Decidable.not_not, ← List.length_eq_zero_iff] at q3
      refine WC.seq ?_
      refine WC.region ?_
      refine WL.qc (oq_call (L2.eAwake) call10 rfl) rfl rfl rfl ?_
      refine WL.q (oq_assign rfl) rfl rfl rfl ?_
      refine WL.nil ?_
      refine WE.then_normal ?_
      refine WC.sub (fr' := [(4, _)]) ?_ ⟨rfl, trivial⟩
      refine WC.ret ?_
      refine WE.then_ret ?_
      refine WE.endR (.inl rfl) (res1 Tryd.results4 rfl) ?_
      -- end 1
      first | rfl | (exfalso; simp_all; done) | (exfalso; simp_all; omega)
    ·
      try simp only [Bool.not_eq_eq_eq_not, Bool.not_true, Bool.not_false, decide_eq_true_eq, decide_eq_false_iff_not, Int.not_lt, Int.not_le, ne_eq, Decidable.not_not, ← List.length_eq_zero_iff] at q3
      refine WC.skip ?_
      refine WE.then_normal ?_
      refine WC.sub (fr' := [(0, _), (1, _)]) ?_ ⟨rfl, rfl, trivial⟩
      refine WC.seq ?_
      refine WC.region ?_
      refine WL.q (oq_move rfl) rfl rfl rfl ?_
      refine WL.q (oq_move rfl) rfl rfl rfl ?_
      refine WL.qc (oq_callRm (sBelow A xs vx hr (by omega) kE pE hE most hmn.1 hmn.2) (.head _) call13 rfl) rfl rfl rfl ?_
      refine WL.q (oq_move rfl) rfl rfl rfl ?_
      refine WL.q (oq_extract rfl rfl) rfl rfl rfl ?_
      refine WL.q (oq_extract rfl rfl) rfl rfl rfl ?_
      refine WL.q (oq_assign rfl) rfl rfl rfl ?_
      refine WL.q (oq_assign rfl) rfl rfl rfl ?_
      refine WL.nil ?_
      refine WE.then_normal ?_
      refine WC.sub (fr' := [(0, _), (1, _), (5, _), (6, _)]) ?_ ⟨rfl, rfl, rfl, rfl, trivial⟩
      refine WC.seq ?_
      refine WC.region ?_
      refine WL.q (oq_move rfl) rfl rfl rfl ?_
      refine WL.q (oq_move rfl) rfl rfl rfl ?_
      refine WL.qc (oq_callRm (sChosen A xs vx hr (by omega) most hmn.1 hmn.2) (.head _) call14 rfl) rfl rfl rfl ?_
      refine WL.q (oq_move rfl) rfl rfl rfl ?_
      refine WL.q (oq_extract rfl rfl) rfl rfl rfl ?_
      refine WL.q (oq_extract rfl rfl) rfl rfl rfl ?_
      refine WL.q (oq_assign rfl) rfl rfl rfl ?_
      refine WL.q (oq_assign rfl) rfl rfl rfl ?_
      refine WL.nil ?_
      refine WE.then_normal ?_
      refine WC.sub (fr' := [(1, _), (5, _), (6, _), (7, _), (8, _)]) ?_ ⟨rfl, rfl, rfl, rfl, rfl, trivial⟩
      refine WC.seq ?_
      have hok := below_ok (most := most) (xs := xs)
      refine WC.region ?_
      refine WL.q (oq_move rfl) rfl rfl rfl ?_
      refine WL.q (oq_move rfl) rfl rfl rfl ?_
      refine WL.q (oq_beql Tryd.underlying4 rfl rfl) rfl rfl rfl ?_
      refine WL.q (oq_move rfl) rfl rfl rfl ?_
      refine WL.split 31 rfl (fun s7_3 => ?_) (fun s7_3 => ?_)
      ·
        try simp only [Bool.not_eq_eq_eq_not, Bool.not_true, Bool.not_false, decide_eq_true_eq, decide_eq_false_iff_not, Int.not_lt, Int.not_le, ne_eq, Decidable.not_not, ← List.length_eq_zero_iff] at s7_3
        refine WL.q (oq_move rfl) rfl rfl rfl ?_
        refine WL.q (oq_not rfl) rfl rfl rfl ?_
        refine WL.q (oq_move rfl) rfl rfl rfl ?_
        refine WL.split 34 rfl (fun s7_6 => ?_) (fun s7_6 => ?_)
        ·
          try simp only [Bool.not_eq_eq_eq_not, Bool.not_true, Bool.not_false, decide_eq_true_eq, decide_eq_false_iff_not, Int.not_lt, Int.not_le, ne_eq, Decidable.not_not, ← List.length_eq_zero_iff] at s7_6
          refine WL.skip rfl rfl rfl ?_
          refine WL.skip rfl rfl rfl ?_
          refine WL.skip rfl rfl rfl ?_
          refine WL.skip rfl rfl rfl ?_
          refine WL.skip rfl rfl rfl ?_
          refine WL.skip rfl rfl rfl ?_
          refine WL.skip rfl rfl rfl ?_
          refine WL.skip rfl rfl rfl ?_
          refine WL.skip rfl rfl rfl ?_
          refine WL.skip rfl rfl rfl ?_
          refine WL.skip rfl rfl rfl ?_
          refine WL.skip rfl rfl rfl ?_
          refine WL.q (oq_pick_t rfl rfl) rfl rfl rfl ?_
          refine WL.q (oq_pick_t rfl rfl) rfl rfl rfl ?_
          refine WL.q (oq_move rfl) rfl rfl rfl ?_
          refine WL.qc (oq_call (L2.eAwake) call10 rfl) rfl rfl rfl ?_
          refine WL.q (oq_pick_t rfl rfl) rfl rfl rfl ?_
          refine WL.q (oq_assign rfl) rfl rfl rfl ?_
          refine WL.nil ?_
          refine WE.then_normal ?_
          refine WC.sub (fr' := [(4, _)]) ?_ ⟨rfl, trivial⟩
          refine WC.ret ?_
          refine WE.endR (.inl rfl) (res1 Tryd.results4 rfl) ?_
          -- end 2
          first | rfl | (exfalso; simp_all; done) | (exfalso; simp_all; omega)
        ·
          try simp only [Bool.not_eq_eq_eq_not, Bool.not_true, Bool.not_false, decide_eq_true_eq, decide_eq_false_iff_not, Int.not_lt, Int.not_le, ne_eq, Decidable.not_not, ← List.length_eq_zero_iff] at s7_6
          refine WL.q (oq_move rfl) rfl rfl rfl ?_
          refine WL.q (oq_move rfl) rfl rfl rfl ?_
          refine WL.q (oq_eql rfl rfl) rfl rfl rfl ?_
          refine WL.q (oq_move rfl) rfl rfl rfl ?_
          refine WL.split 38 rfl (fun s7_10 => ?_) (fun s7_10 => ?_)
          ·
            try simp only [Bool.not_eq_eq_eq_not, Bool.not_true, Bool.not_false, decide_eq_true_eq, decide_eq_false_iff_not, Int.not_lt, Int.not_le, ne_eq, Decidable.not_not, ← List.length_eq_zero_iff] at s7_10
            refine WL.q (oq_move rfl) rfl rfl rfl ?_
            refine WL.q (oq_geq rfl rfl) rfl rfl rfl ?_
            refine WL.q (oq_pick_t rfl rfl) rfl rfl rfl ?_
            refine WL.q (oq_move rfl) rfl rfl rfl ?_
            refine WL.split 42 rfl (fun s7_14 => ?_) (fun s7_14 => ?_)
            ·
              try simp only [Bool.not_eq_eq_eq_not, Bool.not_true, Bool.not_false, decide_eq_true_eq, decide_eq_false_iff_not, Int.not_lt, Int.not_le, ne_eq, Decidable.not_not, ← List.length_eq_zero_iff] at s7_14
              refine WL.q (oq_move rfl) rfl rfl rfl ?_
              refine WL.q (oq_move rfl) rfl rfl rfl ?_
              refine WL.q (oq_lss rfl rfl) rfl rfl rfl ?_
              refine WL.q (oq_pick_t rfl rfl) rfl rfl rfl ?_
              refine WL.q (oq_pick_f rfl rfl) rfl rfl rfl ?_
              refine WL.q (oq_pick_t rfl rfl) rfl rfl rfl ?_
              refine WL.q (oq_move rfl) rfl rfl rfl ?_
              refine WL.split 49 rfl (fun s7_21 => ?_) (fun s7_21 => ?_)
              ·
                try simp only [Bool.not_eq_eq_eq_not, Bool.not_true, Bool.not_false, decide_eq_true_eq, decide_eq_false_iff_not, Int.not_lt, Int.not_le, ne_eq, Decidable.not_not, ← List.length_eq_zero_iff] at s7_21
                refine WL.qc (oq_call (L2.eAwake) call10 rfl) rfl rfl rfl ?_
                refine WL.q (oq_pick_t rfl rfl) rfl rfl rfl ?_
                refine WL.q (oq_assign rfl) rfl rfl rfl ?_
                refine WL.nil ?_
                refine WE.then_normal ?_
                refine WC.sub (fr' := [(4, _)]) ?_ ⟨rfl, trivial⟩
                refine WC.ret ?_
                refine WE.endR (.inl rfl) (res1 Tryd.results4 rfl) ?_
                -- end 3
                first | rfl | (exfalso; simp_all; done) | (exfalso; simp_all; omega)
              ·
                try simp only [Bool.not_eq_eq_eq_not, Bool.not_true, Bool.not_false, decide_eq_true_eq, decide_eq_false_iff_not, Int.not_lt, Int.not_le, ne_eq, Decidable.not_not, ← List.length_eq_zero_iff] at s7_21
                refine WL.skip rfl rfl rfl ?_
                refine WL.q (oq_pick_f rfl rfl) rfl rfl rfl ?_
                refine WL.q (oq_assign rfl) rfl rfl rfl ?_
                refine WL.nil ?_
                refine WE.then_normal ?_
                refine WC.sub (fr' := [(4, _)]) ?_ ⟨rfl, trivial⟩
                refine WC.ret ?_
                refine WE.endR (.inl rfl) (res1 Tryd.results4 rfl) ?_
                -- end 4
                first | rfl | (exfalso; simp_all; done) | (exfalso; simp_all; omega)
            ·
              try simp only [Bool.not_eq_eq_eq_not, Bool.not_true, Bool.not_false, decide_eq_true_eq, decide_eq_false_iff_not, Int.not_lt, Int.not_le, ne_eq, Decidable.not_not, ← List.length_eq_zero_iff] at s7_14
              refine WL.skip rfl rfl rfl ?_
              refine WL.skip rfl rfl rfl ?_
              refine WL.skip rfl rfl rfl ?_
              refine WL.q (oq_pick_f rfl rfl) rfl rfl rfl ?_
              refine WL.q (oq_pick_f rfl rfl) rfl rfl rfl ?_
              refine WL.q (oq_pick_t rfl rfl) rfl rfl rfl ?_
              refine WL.q (oq_move rfl) rfl rfl rfl ?_
              refine WL.skip rfl rfl rfl ?_
              refine WL.q (oq_pick_f rfl rfl) rfl rfl rfl ?_
              refine WL.q (oq_assign rfl) rfl rfl rfl ?_
              refine WL.nil ?_
              refine WE.then_normal ?_
              refine WC.sub (fr' := [(4, _)]) ?_ ⟨rfl, trivial⟩
              refine WC.ret ?_
              refine WE.endR (.inl rfl) (res1 Tryd.results4 rfl) ?_
              -- end 5
              first | rfl | (exfalso; simp_all; done) | (exfalso; simp_all; omega)
          ·
            try simp only [Bool.not_eq_eq_eq_not, Bool.not_true, Bool.not_false, decide_eq_true_eq, decide_eq_false_iff_not, Int.not_lt, Int.not_le, ne_eq, Decidable.not_not, ← List.length_eq_zero_iff] at s7_10
            refine WL.skip rfl rfl rfl ?_
            refine WL.skip rfl rfl rfl ?_
            refine WL.q (oq_pick_f rfl rfl) rfl rfl rfl ?_
            refine WL.q (oq_move rfl) rfl rfl rfl ?_
            refine WL.skip rfl rfl rfl ?_
            refine WL.skip rfl rfl rfl ?_
            refine WL.skip rfl rfl rfl ?_
            refine WL.q (oq_pick_f rfl rfl) rfl rfl rfl ?_
            refine WL.q (oq_pick_f rfl rfl) rfl rfl rfl ?_
            refine WL.q (oq_pick_t rfl rfl) rfl rfl rfl ?_
            refine WL.q (oq_move rfl) rfl rfl rfl ?_
            refine WL.skip rfl rfl rfl ?_
            refine WL.q (oq_pick_f rfl rfl) rfl rfl rfl ?_
            refine WL.q (oq_assign rfl) rfl rfl rfl ?_
            refine WL.nil ?_
            refine WE.then_normal ?_
            refine WC.sub (fr' := [(4, _)]) ?_ ⟨rfl, trivial⟩
            refine WC.ret ?_
            refine WE.endR (.inl rfl) (res1 Tryd.results4 rfl) ?_
            -- end 6
            first | rfl | (exfalso; simp_all; done) | (exfalso; simp_all; omega)
      ·
        try simp only [Bool.not_eq_eq_eq_not, Bool.not_true, Bool.not_false, decide_eq_true_eq, decide_eq_false_iff_not, Int.not_lt, Int.not_le, ne_eq, Decidable.not_not, ← List.length_eq_zero_iff] at s7_3
        refine WL.skip rfl rfl rfl ?_
        refine WL.skip rfl rfl rfl ?_
        refine WL.skip rfl rfl rfl ?_
        refine WL.skip rfl rfl rfl ?_
        refine WL.skip rfl rfl rfl ?_
        refine WL.skip rfl rfl rfl ?_
        refine WL.skip rfl rfl rfl ?_
        refine WL.skip rfl rfl rfl ?_
        refine WL.skip rfl rfl rfl ?_
        refine WL.skip rfl rfl rfl ?_
        refine WL.skip rfl rfl rfl ?_
        refine WL.skip rfl rfl rfl ?_
        refine WL.skip rfl rfl rfl ?_
        refine WL.skip rfl rfl rfl ?_
        refine WL.skip rfl rfl rfl ?_
        refine WL.skip rfl rfl rfl ?_
        refine WL.q (oq_pick_f rfl rfl) rfl rfl rfl ?_
        refine WL.q (oq_move rfl) rfl rfl rfl ?_
        refine WL.skip rfl rfl rfl ?_
        refine WL.q (oq_pick_f rfl rfl) rfl rfl rfl ?_
        refine WL.q (oq_assign rfl) rfl rfl rfl ?_
        refine WL.nil ?_
        refine WE.then_normal ?_
        refine WC.sub (fr' := [(4, _)]) ?_ ⟨rfl, trivial⟩
        refine WC.ret ?_
        refine WE.endR (.inl rfl) (res1 Tryd.results4 rfl) ?_
        -- end 7
        first | rfl | (exfalso; simp_all; done) | (exfalso; simp_all; omega)

end K6
end Go.Proofs.YtcgpajknehhdgaaDoor
