/- Walks of the lists in headers, with quotes. -/
import Derived.Test.YtcgpajknehhdgaaDoorKQ
import Derived.Test.YtcgpajknehhdgaaDoorKV
import Derived.Test.YtcgpajknehhdgaaDoorVE
import Derived.Test.YtcgpajknehhdgaaDoorL2
namespace Go.Proofs.YtcgpajknehhdgaaDoor
open Go Go.RowKit V KP KQ H1 H2 H0 KU KV L2 L1
set_option linter.unusedSimpArgs false
set_option linter.unusedVariables false
set_option maxRecDepth 10000
namespace KW
theorem call96 : Callable Tryd.prog 96 := ⟨_, Tryd.func96, rfl, by kernel_rfl⟩
theorem ty116 : Ty Tryd.prog 116 (.agg #[(S [])]) 1 16 := ty_of (by kernel_rfl)
theorem conc114 : Conc Tryd.prog 114 := ⟨_, Tryd.underlying114, by simp⟩
theorem str116 : Str Tryd.prog 116 #[(0, 1)] := ⟨_, Tryd.underlying116, fun w => by kernel_rfl⟩

theorem dropc (t : List UInt8) (k : Nat) (h : k < t.length) : ∃ c : UInt8, byteAt (34 :: t) ((k + 1 : Nat) : Int) = (c.toNat : Int) ∧ t.drop k = c :: t.drop (k + 1) ∧ ((c.toNat : Int) = 34 ↔ c = 34) ∧ ((c.toNat : Int) = 92 ↔ c = 92) ∧ ((c.toNat : Int) = 10 ↔ c = 10) ∧ cut (34 :: t) ((k + 1 : Nat) : Int) (((k + 1 : Nat) : Int) + 1) = [c] := by
  refine ⟨t[k], ?_, List.drop_eq_getElem_cons h, ?_, ?_, ?_, ?_⟩
  · show ((t.getD k 0).toNat : Int) = _
    rw [List.getD_eq_getElem?_getD, List.getElem?_eq_getElem h]; rfl
  · exact ⟨fun e => UInt8.toNat_inj.1 (by show t[k].toNat = 34; omega), fun e => by rw [e]; rfl⟩
  · exact ⟨fun e => UInt8.toNat_inj.1 (by show t[k].toNat = 92; omega), fun e => by rw [e]; rfl⟩
  · exact ⟨fun e => UInt8.toNat_inj.1 (by show t[k].toNat = 10; omega), fun e => by rw [e]; rfl⟩
  · unfold cut
    rw [show (((k + 1 : Nat) : Int) + 1).toNat = k + 1 + 1 by omega, show ((k + 1 : Nat) : Int).toNat = k + 1 by omega, List.take_succ_cons, List.drop_succ_cons, List.take_succ_eq_append_getElem h, List.drop_left' (by rw [List.length_take]; omega)]
def hqJ (o : List UInt8) (b : Bool) (x : List UInt8 × Option (List UInt8) × Bool) : List UInt8 × Option (List UInt8) × Bool := (o ++ x.1, x.2.1, b || x.2.2)
theorem hqJ_c {o : List UInt8} {b : Bool} {c : UInt8} {r : List UInt8} (h1 : c ≠ 34) (h2 : c ≠ 92) : hqJ o b (hq (c :: r)) = hqJ (o ++ [c]) (b || decide (c = 10)) (hq r) := by
  rw [hq_c c r h1 h2]; simp [hqJ, Bool.or_assoc]
theorem hqJ_b {o : List UInt8} {b : Bool} {d : UInt8} {r : List UInt8} : hqJ o b (hq (92 :: d :: r)) = hqJ (o ++ [d]) (b || decide (d ≠ 34 ∧ d ≠ 92)) (hq r) := by
  rw [hq_b d r]; simp [hqJ, Bool.or_assoc]
theorem hqJ_q {o : List UInt8} {b : Bool} {r : List UInt8} : hqJ o b (hq (34 :: r)) = (o, some r, b) := by rw [hq_q]; simp [hqJ]
theorem hqJ_n {o : List UInt8} {b : Bool} : hqJ o b (hq []) = (o, none, b) := by rw [hq_nil]; simp [hqJ]
theorem hqJ_b0 {o : List UInt8} {b : Bool} : hqJ o b (hq [92]) = (o, none, b) := by rw [hq_b0]; simp [hqJ]
/-- errors.New -/
theorem errNew (s : List UInt8) : FnA Tryd.prog 61 [S s] [] (fun v N => ∃ k x, v = .iface k x) := by
  refine FnA.enter0 (n := 7) Tryd.func61 rfl rfl fun w0 => ?_
  refine WC.sub (fr' := [(0, _)]) ?_ ⟨rfl, trivial⟩
  refine WC.seq ?_
  refine WC.region ?_
  refine WL.q (oq_assign rfl) rfl rfl rfl ?_
  refine WL.nil ?_
  refine WE.then_normal ?_
  refine WC.sub (fr' := [(0, _)]) ?_ ⟨rfl, trivial⟩
  refine WC.seq ?_
  refine WC.region ?_
  refine WL.q (oq_move rfl) rfl rfl rfl ?_
  refine WL.q (oq_build #[_] str116 ty116 rfl rfl) rfl rfl rfl ?_
  refine WL.box rfl rfl rfl fun b1_2 hb1_2 => ?_
  refine WL.q (oq_makeI conc114 rfl) rfl rfl rfl ?_
  refine WL.q (oq_assign rfl) rfl rfl rfl ?_
  refine WL.nil ?_
  refine WE.then_normal ?_
  refine WC.sub (fr' := [(2, _)]) ?_ ⟨rfl, trivial⟩
  refine WC.ret ?_
  refine WE.lose hb1_2 ?_
  refine WE.add0 ?_
  refine WE.endA0 (.inl rfl) (res1 Tryd.results61 rfl) ?_ fresh0
  -- end 0
  exact ⟨_, _, rfl⟩

/-- strconv.Unquote -/
theorem unq (q out : List UInt8) (hq1 : hq (q ++ [34]) = (out, some [], false)) (ha : Asc q) (hl : q.length ≤ 20000) : Fn0 Tryd.prog 84 [S (34 :: (q ++ [34]))] (.tuple #[S out, .nilIface]) := by
  refine Fn0.enter (n := 19) Tryd.func84 rfl rfl fun w0 => ?_
  refine WC.sub (fr' := [(0, _)]) ?_ ⟨rfl, trivial⟩
  refine WC.seq ?_
  refine WC.region ?_
  refine WL.q (oq_assign rfl) rfl rfl rfl ?_
  refine WL.q (oq_assign rfl) rfl rfl rfl ?_
  refine WL.nil ?_
  refine WE.then_normal ?_
  refine WC.sub (fr' := [(0, _)]) ?_ ⟨rfl, trivial⟩
  refine WC.seq ?_
  refine WC.region ?_
  refine WL.q (oq_move rfl) rfl rfl rfl ?_
  refine WL.qc (oq_call (unquote_ q out hq1 ha hl) call96 rfl) rfl rfl rfl ?_
  refine WL.q (oq_move rfl) rfl rfl rfl ?_
  refine WL.q (oq_extract rfl rfl) rfl rfl rfl ?_
  refine WL.q (oq_extract rfl rfl) rfl rfl rfl ?_
  refine WL.q (oq_extract rfl rfl) rfl rfl rfl ?_
  refine WL.q (oq_assign rfl) rfl rfl rfl ?_
  refine WL.q (oq_assign rfl) rfl rfl rfl ?_
  refine WL.q (oq_assign rfl) rfl rfl rfl ?_
  refine WL.nil ?_
  refine WE.then_normal ?_
  refine WC.sub (fr' := [(4, _), (5, _), (6, _)]) ?_ ⟨rfl, rfl, rfl, trivial⟩
  refine WC.seq ?_
  refine WC.seq ?_
  refine WC.region ?_
  refine WL.q (oq_move rfl) rfl rfl rfl ?_
  refine WL.q (oq_len_s Tryd.underlying9 rfl) rfl rfl rfl ?_
  refine WL.q (oq_gtr rfl rfl) rfl rfl rfl ?_
  refine WL.nil ?_
  refine WE.then_normal ?_
  refine WC.sub (fr' := [(4, _), (6, _), (15, _)]) ?_ ⟨rfl, rfl, rfl, trivial⟩
  refine WC.cond rfl (fun q2 => ?_) (fun q2 => ?_)
  ·
    try simp only [Bool.not_eq_eq_eq_not, Bool.not_true, Bool.not_false, decide_eq_true_eq, decide_eq_false_iff_not, Int.not_lt, Int.not_le, ne_eq, Decidable.not_not, ← List.length_eq_zero_iff] at q2
    refine WC.seq ?_
    first | contradiction | (exfalso; omega) | (exfalso; simp only [List.length_cons, List.length_append, List.length_drop, List.length_take, List.length_nil] at *; omega) | (exfalso; simp_all; done)
  ·
    try simp only [Bool.not_eq_eq_eq_not, Bool.not_true, Bool.not_false, decide_eq_true_eq, decide_eq_false_iff_not, Int.not_lt, Int.not_le, ne_eq, Decidable.not_not, ← List.length_eq_zero_iff] at q2
    refine WC.skip ?_
    refine WE.then_normal ?_
    refine WC.sub (fr' := [(4, _), (6, _)]) ?_ ⟨rfl, rfl, trivial⟩
    refine WC.seq ?_
    refine WC.region ?_
    refine WL.q (oq_move rfl) rfl rfl rfl ?_
    refine WL.q (oq_move rfl) rfl rfl rfl ?_
    refine WL.q (oq_assign rfl) rfl rfl rfl ?_
    refine WL.q (oq_assign rfl) rfl rfl rfl ?_
    refine WL.nil ?_
    refine WE.then_normal ?_
    refine WC.sub (fr' := [(2, _), (3, _)]) ?_ ⟨rfl, rfl, trivial⟩
    refine WC.ret ?_
    refine WE.end0 (.inl rfl) (res2 Tryd.results84 rfl rfl) ?_
    -- end 0
    rfl

/-- given.example/pub-tinwright/spec.HQuoted -/
theorem hQuoted (t : List UInt8) (hl : t.length ≤ 4000000000) : Fn0 Tryd.prog 49 [S (34 :: t)] (.tuple #[S ((hq t).2.1.elim [] fun _ => (hq t).1), S ((hq t).2.1.getD []), .bool ((hq t).2.1.isSome && decide ((hq t).1 ≠ [])), .bool (hq t).2.2]) := by
  have hll : (34 :: t).length = t.length + 1 := rfl
  refine Fn0.enter (n := 72) Tryd.func49 rfl rfl fun w0 => ?_
  refine WC.sub (fr' := [(0, _)]) ?_ ⟨rfl, trivial⟩
  refine WC.seq ?_
  refine WC.region ?_
  refine WL.q (oq_assign rfl) rfl rfl rfl ?_
  refine WL.q (oq_assign rfl) rfl rfl rfl ?_
  refine WL.q (oq_assign rfl) rfl rfl rfl ?_
  refine WL.q (oq_assign rfl) rfl rfl rfl ?_
  refine WL.nil ?_
  refine WE.then_normal ?_
  refine WC.sub (fr' := [(0, _), (5, _)]) ?_ ⟨rfl, rfl, trivial⟩
  refine WC.seq ?_
  refine WC.region ?_
  refine WL.q (oq_assign rfl) rfl rfl rfl ?_
  refine WL.nil ?_
  refine WE.then_normal ?_
  refine WC.sub (fr' := [(0, _), (5, _), (6, _)]) ?_ ⟨rfl, rfl, rfl, trivial⟩
  refine WC.seq ?_
  refine WC.seq ?_
  refine WC.region ?_
  refine WL.q (oq_assign rfl) rfl rfl rfl ?_
  refine WL.nil ?_
  refine WE.then_normal ?_
  refine WC.sub (fr' := [(0, _), (5, _), (6, _), (7, _)]) ?_ ⟨rfl, rfl, rfl, rfl, trivial⟩
  refine WC.block ?_
  refine WC.loop (ι := Nat × (List UInt8) × Bool) (fun i_ => (fun (k : Nat) (o : List UInt8) (b : Bool) => [(0, S (34 :: t)), (5, .bool b), (6, S o), (7, I ((k + 1 : Nat) : Int))]) i_.1 i_.2.1 i_.2.2) (fun i_ => (fun (k : Nat) (o : List UInt8) (b : Bool) => []) i_.1 i_.2.1 i_.2.2) (fun i_ => (fun (k : Nat) (o : List UInt8) (b : Bool) => k ≤ t.length ∧ hq t = hqJ o b (hq (t.drop k)) ∧ (o = [] ↔ k = 0) ∧ o.length ≤ k) i_.1 i_.2.1 i_.2.2) (fun i_ => (fun (k : Nat) (o : List UInt8) (b : Bool) => t.length + 1 - k) i_.1 i_.2.1 i_.2.2) ((0, [], false)) ?_ ⟨rfl, rfl, rfl, rfl, trivial⟩ (List.Perm.refl _) ?_
  · try dsimp only
    exact ⟨by omega, by simp [hqJ], by simp, by simp⟩
  · rintro ⟨k, o, b⟩ hp
    try dsimp only at hp
    obtain ⟨hk, hh, hok, hol⟩ := hp
    show WC _ _ _ _ _ _ ([(0, S (34 :: t)), (5, .bool b), (6, S o), (7, I ((k + 1 : Nat) : Int))]) ([])
    refine WC.seq ?_
    refine WC.seq ?_
    refine WC.region ?_
    refine WL.q (oq_move rfl) rfl rfl rfl ?_
    refine WL.q (oq_move rfl) rfl rfl rfl ?_
    refine WL.q (oq_len_s Tryd.underlying9 rfl) rfl rfl rfl ?_
    refine WL.q (oq_lss rfl rfl) rfl rfl rfl ?_
    refine WL.nil ?_
    refine WE.then_normal ?_
    refine WC.sub (fr' := [(0, _), (5, _), (6, _), (7, _), (12, _)]) ?_ ⟨rfl, rfl, rfl, rfl, rfl, trivial⟩
    refine WC.cond rfl (fun q3 => ?_) (fun q3 => ?_)
    ·
      try simp only [Bool.not_eq_eq_eq_not, Bool.not_true, Bool.not_false, decide_eq_true_eq, decide_eq_false_iff_not, Int.not_lt, Int.not_le, ne_eq, Decidable.not_not, ← List.length_eq_zero_iff] at q3
      refine WC.skip ?_
      refine WE.then_normal ?_
      refine WC.sub (fr' := [(0, _), (5, _), (6, _), (7, _)]) ?_ ⟨rfl, rfl, rfl, rfl, trivial⟩
      refine WC.seq ?_
      refine WC.block ?_
      refine WC.seq ?_
      obtain ⟨c, hc, hD, hc34, hc92, hc10, hcut⟩ := dropc t k (by omega)
      refine WC.region ?_
      refine WL.q (oq_move rfl) rfl rfl rfl ?_
      refine WL.q (oq_move rfl) rfl rfl rfl ?_
      refine WL.index_s Tryd.underlying9 rfl rfl (by (first | omega | (simp only [List.length_cons, List.length_nil, List.length_append, List.length_drop, List.length_take]; omega))) rfl rfl fun c5_2 hc5_2 hc5_2l hc5_2u => ?_
      refine WL.q (oq_assign rfl) rfl rfl rfl ?_
      refine WL.nil ?_
      refine WE.then_normal ?_
      refine WC.sub (fr' := [(0, _), (5, _), (6, _), (7, _), (8, _)]) ?_ ⟨rfl, rfl, rfl, rfl, rfl, trivial⟩
      refine WC.block ?_
      refine WC.seq ?_
      refine WC.region ?_
      refine WL.q (oq_move rfl) rfl rfl rfl ?_
      refine WL.q (oq_eql rfl rfl) rfl rfl rfl ?_
      refine WL.q (oq_assign rfl) rfl rfl rfl ?_
      refine WL.nil ?_
      refine WE.then_normal ?_
      refine WC.sub (fr' := [(0, _), (5, _), (6, _), (7, _), (8, _), (30, _)]) ?_ ⟨rfl, rfl, rfl, rfl, rfl, rfl, trivial⟩
      refine WC.cond rfl (fun q8 => ?_) (fun q8 => ?_)
      ·
        try simp only [Bool.not_eq_eq_eq_not, Bool.not_true, Bool.not_false, decide_eq_true_eq, decide_eq_false_iff_not, Int.not_lt, Int.not_le, ne_eq, Decidable.not_not, ← List.length_eq_zero_iff] at q8
        refine WC.seq ?_
        refine WC.quiet (by kernel_rfl) (by kernel_rfl) ?_
        refine WQ.q (oq_move rfl) rfl rfl rfl ?_
        refine WQ.q (oq_move rfl) rfl rfl rfl ?_
        refine WQ.q (oq_move rfl) rfl rfl rfl ?_
        refine WQ.q (oq_add rfl rfl (by rw [i64_lo, i64_hi]; (first | omega | (simp only [List.length_cons, List.length_nil, List.length_append, List.length_drop, List.length_take]; omega)))) rfl rfl rfl ?_
        refine WQ.q (oq_slice_s1 Tryd.underlying9 rfl rfl (by (first | omega | (simp only [List.length_cons, List.length_nil, List.length_append, List.length_drop, List.length_take]; omega)))) rfl rfl rfl ?_
        refine WQ.q (oq_move rfl) rfl rfl rfl ?_
        refine WQ.q (oq_gtr rfl rfl) rfl rfl rfl ?_
        refine WQ.q (oq_move rfl) rfl rfl rfl ?_
        refine WQ.q (oq_assign rfl) rfl rfl rfl ?_
        refine WQ.q (oq_assign rfl) rfl rfl rfl ?_
        refine WQ.q (oq_assign rfl) rfl rfl rfl ?_
        refine WQ.q (oq_assign rfl) rfl rfl rfl ?_
        refine WQ.nil ?_
        refine WE.then_normal ?_
        refine WC.sub (fr' := [(2, _), (3, _), (4, _), (5, _)]) ?_ ⟨rfl, rfl, rfl, rfl, trivial⟩
        refine WC.ret ?_
        refine WE.block_ret ?_
        refine WE.block_ret ?_
        refine WE.then_ret ?_
        refine WE.then_ret ?_
        refine WE.block_ret ?_
        refine WE.then_ret ?_
        refine WE.end0 (.inl rfl) (res4 Tryd.results49 rfl rfl rfl rfl) ?_
        -- end 0
        have hc9 : c = 34 := hc34.1 (by omega)
        rw [hh, hD, hc9, hqJ_q, show (((k + 1 : Nat) : Int) + 1).toNat = k + 2 by omega]
        have hde : decide ((1 : Int) < ((k + 1 : Nat) : Int)) = (true && decide (o ≠ [])) := by rw [Bool.true_and]; exact decide_eq_decide.2 (by rw [ne_eq, hok]; omega)
        rw [hde]; rfl
      ·
        try simp only [Bool.not_eq_eq_eq_not, Bool.not_true, Bool.not_false, decide_eq_true_eq, decide_eq_false_iff_not, Int.not_lt, Int.not_le, ne_eq, Decidable.not_not, ← List.length_eq_zero_iff] at q8
        refine WC.seq ?_
        refine WC.region ?_
        refine WL.q (oq_move rfl) rfl rfl rfl ?_
        refine WL.q (oq_eql rfl rfl) rfl rfl rfl ?_
        refine WL.q (oq_assign rfl) rfl rfl rfl ?_
        refine WL.nil ?_
        refine WE.then_normal ?_
        refine WC.sub (fr' := [(0, _), (5, _), (6, _), (7, _), (8, _), (41, _)]) ?_ ⟨rfl, rfl, rfl, rfl, rfl, rfl, trivial⟩
        refine WC.cond rfl (fun q10 => ?_) (fun q10 => ?_)
        ·
          try simp only [Bool.not_eq_eq_eq_not, Bool.not_true, Bool.not_false, decide_eq_true_eq, decide_eq_false_iff_not, Int.not_lt, Int.not_le, ne_eq, Decidable.not_not, ← List.length_eq_zero_iff] at q10
          refine WC.seq ?_
          refine WC.region ?_
          refine WL.q (oq_move rfl) rfl rfl rfl ?_
          refine WL.q (oq_add rfl rfl (by rw [i64_lo, i64_hi]; (first | omega | (simp only [List.length_cons, List.length_nil, List.length_append, List.length_drop, List.length_take]; omega)))) rfl rfl rfl ?_
          refine WL.q (oq_assign rfl) rfl rfl rfl ?_
          refine WL.nil ?_
          refine WE.then_normal ?_
          refine WC.sub (fr' := [(0, _), (5, _), (6, _), (7, _)]) ?_ ⟨rfl, rfl, rfl, rfl, trivial⟩
          refine WC.seq ?_
          refine WC.seq ?_
          refine WC.region ?_
          refine WL.q (oq_move rfl) rfl rfl rfl ?_
          refine WL.q (oq_move rfl) rfl rfl rfl ?_
          refine WL.q (oq_len_s Tryd.underlying9 rfl) rfl rfl rfl ?_
          refine WL.q (oq_eql rfl rfl) rfl rfl rfl ?_
          refine WL.nil ?_
          refine WE.then_normal ?_
          refine WC.sub (fr' := [(0, _), (5, _), (6, _), (7, _), (49, _)]) ?_ ⟨rfl, rfl, rfl, rfl, rfl, trivial⟩
          refine WC.cond rfl (fun q12 => ?_) (fun q12 => ?_)
          ·
            try simp only [Bool.not_eq_eq_eq_not, Bool.not_true, Bool.not_false, decide_eq_true_eq, decide_eq_false_iff_not, Int.not_lt, Int.not_le, ne_eq, Decidable.not_not, ← List.length_eq_zero_iff] at q12
            refine WC.seq ?_
            refine WC.region ?_
            refine WL.q (oq_move rfl) rfl rfl rfl ?_
            refine WL.q (oq_assign rfl) rfl rfl rfl ?_
            refine WL.q (oq_assign rfl) rfl rfl rfl ?_
            refine WL.q (oq_assign rfl) rfl rfl rfl ?_
            refine WL.q (oq_assign rfl) rfl rfl rfl ?_
            refine WL.nil ?_
            refine WE.then_normal ?_
            refine WC.sub (fr' := [(2, _), (3, _), (4, _), (5, _)]) ?_ ⟨rfl, rfl, rfl, rfl, trivial⟩
            refine WC.ret ?_
            refine WE.then_ret ?_
            refine WE.block_ret ?_
            refine WE.block_ret ?_
            refine WE.then_ret ?_
            refine WE.then_ret ?_
            refine WE.block_ret ?_
            refine WE.then_ret ?_
            refine WE.end0 (.inl rfl) (res4 Tryd.results49 rfl rfl rfl rfl) ?_
            -- end 1
            rw [hh, hD, hc92.1 (by omega), List.drop_eq_nil_of_le (by omega), hqJ_b0]; rfl
          ·
            try simp only [Bool.not_eq_eq_eq_not, Bool.not_true, Bool.not_false, decide_eq_true_eq, decide_eq_false_iff_not, Int.not_lt, Int.not_le, ne_eq, Decidable.not_not, ← List.length_eq_zero_iff] at q12
            refine WC.skip ?_
            refine WE.then_normal ?_
            refine WC.sub (fr' := [(0, _), (5, _), (6, _), (7, _)]) ?_ ⟨rfl, rfl, rfl, rfl, trivial⟩
            refine WC.cut (ι := UInt8 × Bool) (fun i_ => (fun (d : UInt8) (b2 : Bool) => [(0, S (34 :: t)), (5, .bool b2), (6, S o), (7, I ((k + 1 + 1 : Nat) : Int))]) i_.1 i_.2) (fun i_ => (fun (d : UInt8) (b2 : Bool) => []) i_.1 i_.2) (fun i_ => (fun (d : UInt8) (b2 : Bool) => t.drop k = 92 :: d :: t.drop (k + 2) ∧ b2 = (b || decide (d ≠ 34 ∧ d ≠ 92)) ∧ k + 1 < t.length ∧ cut (34 :: t) ((k + 1 + 1 : Nat) : Int) (((k + 1 + 1 : Nat) : Int) + 1) = [d]) i_.1 i_.2) ?_ ?_
            ·
              obtain ⟨d, hd, hD2, hd34, hd92, hd10, hcut2⟩ := dropc t (k + 1) (by omega)
              have hd1 : byteAt (34 :: t) (((k + 1 : Nat) : Int) + 1) = (d.toNat : Int) := hd
              refine WC.region ?_
              refine WL.q (oq_move rfl) rfl rfl rfl ?_
              refine WL.q (oq_move rfl) rfl rfl rfl ?_
              refine WL.split 52 rfl (fun s14_1 => ?_) (fun s14_1 => ?_)
              ·
                try simp only [Bool.not_eq_eq_eq_not, Bool.not_true, Bool.not_false, decide_eq_true_eq, decide_eq_false_iff_not, Int.not_lt, Int.not_le, ne_eq, Decidable.not_not, ← List.length_eq_zero_iff] at s14_1
                refine WL.skip rfl rfl rfl ?_
                refine WL.skip rfl rfl rfl ?_
                refine WL.skip rfl rfl rfl ?_
                refine WL.skip rfl rfl rfl ?_
                refine WL.skip rfl rfl rfl ?_
                refine WL.skip rfl rfl rfl ?_
                refine WL.skip rfl rfl rfl ?_
                refine WL.skip rfl rfl rfl ?_
                refine WL.skip rfl rfl rfl ?_
                refine WL.skip rfl rfl rfl ?_
                refine WL.q (oq_pick_t rfl rfl) rfl rfl rfl ?_
                refine WL.q (oq_assign rfl) rfl rfl rfl ?_
                refine WL.nil ?_
                have hc9 : c = 92 := hc92.1 (by omega)
                have hkl : k + 1 < t.length := by omega
                refine WE.meet (d, _) ?_ ⟨rfl, rfl, rfl, rfl, trivial⟩ (List.Perm.refl _)
                try dsimp only
                exact ⟨by rw [hD, hD2, hc9], by first | (rw [s14_1]; rfl) | (rw [s14_1, Bool.false_or]; exact decide_eq_decide.2 ⟨fun h => ⟨fun e => s14_6 (by have := hd34.2 e; omega), fun e => h (by have := hd92.2 e; omega)⟩, fun h e => h.2 (hd92.1 (by omega))⟩) | (rw [s14_1, Bool.false_or]; exact (decide_eq_false (fun h => h.1 (hd34.1 (by omega)))).symm), hkl, hcut2⟩   -- meet 0
              ·
                try simp only [Bool.not_eq_eq_eq_not, Bool.not_true, Bool.not_false, decide_eq_true_eq, decide_eq_false_iff_not, Int.not_lt, Int.not_le, ne_eq, Decidable.not_not, ← List.length_eq_zero_iff] at s14_1
                refine WL.q (oq_move rfl) rfl rfl rfl ?_
                refine WL.q (oq_move rfl) rfl rfl rfl ?_
                refine WL.index_s Tryd.underlying9 rfl rfl (by (first | omega | (simp only [List.length_cons, List.length_nil, List.length_append, List.length_drop, List.length_take]; omega))) rfl rfl fun c14_4 hc14_4 hc14_4l hc14_4u => ?_
                refine WL.q (oq_neq rfl rfl) rfl rfl rfl ?_
                refine WL.q (oq_move rfl) rfl rfl rfl ?_
                refine WL.split 57 rfl (fun s14_6 => ?_) (fun s14_6 => ?_)
                ·
                  try simp only [Bool.not_eq_eq_eq_not, Bool.not_true, Bool.not_false, decide_eq_true_eq, decide_eq_false_iff_not, Int.not_lt, Int.not_le, ne_eq, Decidable.not_not, ← List.length_eq_zero_iff] at s14_6
                  refine WL.q (oq_move rfl) rfl rfl rfl ?_
                  refine WL.q (oq_move rfl) rfl rfl rfl ?_
                  refine WL.index_s Tryd.underlying9 rfl rfl (by (first | omega | (simp only [List.length_cons, List.length_nil, List.length_append, List.length_drop, List.length_take]; omega))) rfl rfl fun c14_9 hc14_9 hc14_9l hc14_9u => ?_
                  refine WL.q (oq_neq rfl rfl) rfl rfl rfl ?_
                  refine WL.q (oq_pick_t rfl rfl) rfl rfl rfl ?_
                  refine WL.q (oq_pick_f rfl rfl) rfl rfl rfl ?_
                  refine WL.q (oq_assign rfl) rfl rfl rfl ?_
                  refine WL.nil ?_
                  have hc9 : c = 92 := hc92.1 (by omega)
                  have hkl : k + 1 < t.length := by omega
                  refine WE.meet (d, _) ?_ ⟨rfl, rfl, rfl, rfl, trivial⟩ (List.Perm.refl _)
                  try dsimp only
                  exact ⟨by rw [hD, hD2, hc9], by first | (rw [s14_1]; rfl) | (rw [s14_1, Bool.false_or]; exact decide_eq_decide.2 ⟨fun h => ⟨fun e => s14_6 (by have := hd34.2 e; omega), fun e => h (by have := hd92.2 e; omega)⟩, fun h e => h.2 (hd92.1 (by omega))⟩) | (rw [s14_1, Bool.false_or]; exact (decide_eq_false (fun h => h.1 (hd34.1 (by omega)))).symm), hkl, hcut2⟩   -- meet 1
                ·
                  try simp only [Bool.not_eq_eq_eq_not, Bool.not_true, Bool.not_false, decide_eq_true_eq, decide_eq_false_iff_not, Int.not_lt, Int.not_le, ne_eq, Decidable.not_not, ← List.length_eq_zero_iff] at s14_6
                  refine WL.skip rfl rfl rfl ?_
                  refine WL.skip rfl rfl rfl ?_
                  refine WL.skip rfl rfl rfl ?_
                  refine WL.skip rfl rfl rfl ?_
                  refine WL.q (oq_pick_f rfl rfl) rfl rfl rfl ?_
                  refine WL.q (oq_pick_f rfl rfl) rfl rfl rfl ?_
                  refine WL.q (oq_assign rfl) rfl rfl rfl ?_
                  refine WL.nil ?_
                  have hc9 : c = 92 := hc92.1 (by omega)
                  have hkl : k + 1 < t.length := by omega
                  refine WE.meet (d, _) ?_ ⟨rfl, rfl, rfl, rfl, trivial⟩ (List.Perm.refl _)
                  try dsimp only
                  exact ⟨by rw [hD, hD2, hc9], by first | (rw [s14_1]; rfl) | (rw [s14_1, Bool.false_or]; exact decide_eq_decide.2 ⟨fun h => ⟨fun e => s14_6 (by have := hd34.2 e; omega), fun e => h (by have := hd92.2 e; omega)⟩, fun h e => h.2 (hd92.1 (by omega))⟩) | (rw [s14_1, Bool.false_or]; exact (decide_eq_false (fun h => h.1 (hd34.1 (by omega)))).symm), hkl, hcut2⟩   -- meet 2
            · rintro ⟨d, b2⟩ hp
              try dsimp only at hp
              obtain ⟨hD3, hb2, hk2, hcutd⟩ := hp
              show WC _ _ _ _ _ _ ([(0, S (34 :: t)), (5, .bool b2), (6, S o), (7, I ((k + 1 + 1 : Nat) : Int))]) ([])
              refine WC.region ?_
              refine WL.q (oq_move rfl) rfl rfl rfl ?_
              refine WL.q (oq_move rfl) rfl rfl rfl ?_
              refine WL.q (oq_move rfl) rfl rfl rfl ?_
              refine WL.q (oq_move rfl) rfl rfl rfl ?_
              refine WL.q (oq_add rfl rfl (by rw [i64_lo, i64_hi]; (first | omega | (simp only [List.length_cons, List.length_nil, List.length_append, List.length_drop, List.length_take]; omega)))) rfl rfl rfl ?_
              refine WL.q (oq_slice_s2 Tryd.underlying9 rfl rfl rfl (by (first | omega | (simp only [List.length_cons, List.length_nil, List.length_append, List.length_drop, List.length_take]; omega)))) rfl rfl rfl ?_
              refine WL.q (oq_concat rfl rfl (by (first | (have h1 := congrArg List.length hcutd; simp only [List.length_cons, List.length_nil, List.length_append] at h1 ⊢; omega) | (have h1 := congrArg List.length hcut; simp only [List.length_cons, List.length_nil, List.length_append] at h1 ⊢; omega)))) rfl rfl rfl ?_
              refine WL.q (oq_assign rfl) rfl rfl rfl ?_
              refine WL.nil ?_
              refine WE.block_normal ?_
              refine WE.block_normal ?_
              refine WE.then_normal ?_
              refine WC.sub (fr' := [(0, _), (5, _), (6, _), (7, _)]) ?_ ⟨rfl, rfl, rfl, rfl, trivial⟩
              refine WC.region ?_
              refine WL.q (oq_move rfl) rfl rfl rfl ?_
              refine WL.q (oq_add rfl rfl (by rw [i64_lo, i64_hi]; (first | omega | (simp only [List.length_cons, List.length_nil, List.length_append, List.length_drop, List.length_take]; omega)))) rfl rfl rfl ?_
              refine WL.q (oq_assign rfl) rfl rfl rfl ?_
              refine WL.nil ?_
              refine WE.again (k + 2, o ++ [d], b2) ?_ ?_ ⟨rfl, rfl, (gtv rfl (by first | (rw [hcutd]) | (rw [hcut]))), rfl, trivial⟩ (List.Perm.refl _)
              · try dsimp only   -- again 0
                exact ⟨by omega, by rw [hh, hD3, hqJ_b, ← hb2], by simp, by simp; omega⟩
              · (try dsimp only); omega
        ·
          try simp only [Bool.not_eq_eq_eq_not, Bool.not_true, Bool.not_false, decide_eq_true_eq, decide_eq_false_iff_not, Int.not_lt, Int.not_le, ne_eq, Decidable.not_not, ← List.length_eq_zero_iff] at q10
          refine WC.cut (ι := Bool) (fun (b2 : Bool) => [(0, S (34 :: t)), (5, .bool b2), (6, S o), (7, I ((k + 1 : Nat) : Int))]) (fun (b2 : Bool) => []) (fun (b2 : Bool) => b2 = (b || decide (c = 10))) ?_ ?_
          ·
            refine WC.region ?_
            refine WL.q (oq_move rfl) rfl rfl rfl ?_
            refine WL.q (oq_move rfl) rfl rfl rfl ?_
            refine WL.split 19 rfl (fun s6_1 => ?_) (fun s6_1 => ?_)
            ·
              try simp only [Bool.not_eq_eq_eq_not, Bool.not_true, Bool.not_false, decide_eq_true_eq, decide_eq_false_iff_not, Int.not_lt, Int.not_le, ne_eq, Decidable.not_not, ← List.length_eq_zero_iff] at s6_1
              refine WL.skip rfl rfl rfl ?_
              refine WL.skip rfl rfl rfl ?_
              refine WL.q (oq_pick_t rfl rfl) rfl rfl rfl ?_
              refine WL.q (oq_assign rfl) rfl rfl rfl ?_
              refine WL.nil ?_
              refine WE.meet _ ?_ ⟨rfl, rfl, rfl, rfl, trivial⟩ (List.Perm.refl _)
              try dsimp only
              first | (rw [s6_1]; rfl) | (rw [s6_1, Bool.false_or]; exact decide_eq_decide.2 ⟨fun h => hc10.1 (by omega), fun h => by have := hc10.2 h; omega⟩)   -- meet 0
            ·
              try simp only [Bool.not_eq_eq_eq_not, Bool.not_true, Bool.not_false, decide_eq_true_eq, decide_eq_false_iff_not, Int.not_lt, Int.not_le, ne_eq, Decidable.not_not, ← List.length_eq_zero_iff] at s6_1
              refine WL.q (oq_move rfl) rfl rfl rfl ?_
              refine WL.q (oq_eql rfl rfl) rfl rfl rfl ?_
              refine WL.q (oq_pick_f rfl rfl) rfl rfl rfl ?_
              refine WL.q (oq_assign rfl) rfl rfl rfl ?_
              refine WL.nil ?_
              refine WE.meet _ ?_ ⟨rfl, rfl, rfl, rfl, trivial⟩ (List.Perm.refl _)
              try dsimp only
              first | (rw [s6_1]; rfl) | (rw [s6_1, Bool.false_or]; exact decide_eq_decide.2 ⟨fun h => hc10.1 (by omega), fun h => by have := hc10.2 h; omega⟩)   -- meet 1
          · rintro b2 hp
            try dsimp only at hp
            show WC _ _ _ _ _ _ ([(0, S (34 :: t)), (5, .bool b2), (6, S o), (7, I ((k + 1 : Nat) : Int))]) ([])
            have hb2 := hp
            refine WC.region ?_
            refine WL.q (oq_move rfl) rfl rfl rfl ?_
            refine WL.q (oq_move rfl) rfl rfl rfl ?_
            refine WL.q (oq_move rfl) rfl rfl rfl ?_
            refine WL.q (oq_move rfl) rfl rfl rfl ?_
            refine WL.q (oq_add rfl rfl (by rw [i64_lo, i64_hi]; (first | omega | (simp only [List.length_cons, List.length_nil, List.length_append, List.length_drop, List.length_take]; omega)))) rfl rfl rfl ?_
            refine WL.q (oq_slice_s2 Tryd.underlying9 rfl rfl rfl (by (first | omega | (simp only [List.length_cons, List.length_nil, List.length_append, List.length_drop, List.length_take]; omega)))) rfl rfl rfl ?_
            refine WL.q (oq_concat rfl rfl (by (first | (have h1 := congrArg List.length hcutd; simp only [List.length_cons, List.length_nil, List.length_append] at h1 ⊢; omega) | (have h1 := congrArg List.length hcut; simp only [List.length_cons, List.length_nil, List.length_append] at h1 ⊢; omega)))) rfl rfl rfl ?_
            refine WL.q (oq_assign rfl) rfl rfl rfl ?_
            refine WL.nil ?_
            refine WE.block_normal ?_
            refine WE.block_normal ?_
            refine WE.then_normal ?_
            refine WC.sub (fr' := [(0, _), (5, _), (6, _), (7, _)]) ?_ ⟨rfl, rfl, rfl, rfl, trivial⟩
            refine WC.region ?_
            refine WL.q (oq_move rfl) rfl rfl rfl ?_
            refine WL.q (oq_add rfl rfl (by rw [i64_lo, i64_hi]; (first | omega | (simp only [List.length_cons, List.length_nil, List.length_append, List.length_drop, List.length_take]; omega)))) rfl rfl rfl ?_
            refine WL.q (oq_assign rfl) rfl rfl rfl ?_
            refine WL.nil ?_
            refine WE.again (k + 1, o ++ [c], b2) ?_ ?_ ⟨rfl, rfl, (gtv rfl (by first | (rw [hcutd]) | (rw [hcut]))), rfl, trivial⟩ (List.Perm.refl _)
            · try dsimp only   -- again 1
              exact ⟨by omega, by rw [hh, hD, hqJ_c (fun e => q8 (by have := hc34.2 e; omega)) (fun e => q10 (by have := hc92.2 e; omega)), ← hb2], by simp, by simp; omega⟩
            · (try dsimp only); omega
    ·
      try simp only [Bool.not_eq_eq_eq_not, Bool.not_true, Bool.not_false, decide_eq_true_eq, decide_eq_false_iff_not, Int.not_lt, Int.not_le, ne_eq, Decidable.not_not, ← List.length_eq_zero_iff] at q3
      refine WC.exit ?_
      refine WE.then_exit ?_
      refine WE.then_exit ?_
      refine WE.block_same ?_
      refine WE.then_normal ?_
      refine WC.sub (fr' := [(5, _)]) ?_ ⟨rfl, trivial⟩
      refine WC.seq ?_
      refine WC.region ?_
      refine WL.q (oq_move rfl) rfl rfl rfl ?_
      refine WL.q (oq_assign rfl) rfl rfl rfl ?_
      refine WL.q (oq_assign rfl) rfl rfl rfl ?_
      refine WL.q (oq_assign rfl) rfl rfl rfl ?_
      refine WL.q (oq_assign rfl) rfl rfl rfl ?_
      refine WL.nil ?_
      refine WE.then_normal ?_
      refine WC.sub (fr' := [(2, _), (3, _), (4, _), (5, _)]) ?_ ⟨rfl, rfl, rfl, rfl, trivial⟩
      refine WC.ret ?_
      refine WE.end0 (.inl rfl) (res4 Tryd.results49 rfl rfl rfl rfl) ?_
      -- end 2
      rw [hh, List.drop_eq_nil_of_le (by omega), hqJ_n]; rfl

end KW
end Go.Proofs.YtcgpajknehhdgaaDoor
