/- Walks of labels and of the numbers of ports. -/
import Derived.Test.YtbcmbmmnpnbakaaDoorN0
import Derived.Test.YtbcmbmmnpnbakaaDoorL2
namespace Go.Proofs.YtbcmbmmnpnbakaaDoor
open Go Go.RowKit V L0 L1 L2 HB N0
set_option linter.unusedSimpArgs false
set_option linter.unusedVariables false
set_option maxRecDepth 10000
namespace N1
theorem call12 : Callable Tryd.prog 12 := ⟨_, Tryd.func12, rfl, by kernel_rfl⟩
theorem call13 : Callable Tryd.prog 13 := ⟨_, Tryd.func13, rfl, by kernel_rfl⟩
theorem call14 : Callable Tryd.prog 14 := ⟨_, Tryd.func14, rfl, by kernel_rfl⟩
theorem call18 : Callable Tryd.prog 18 := ⟨_, Tryd.func18, rfl, by kernel_rfl⟩

def SETN : List UInt8 := [97, 98, 99, 100, 101, 102, 103, 104, 105, 106, 107, 108, 109, 110, 111, 112, 113, 114, 115, 116, 117, 118, 119, 120, 121, 122, 65, 66, 67, 68, 69, 70, 71, 72, 73, 74, 75, 76, 77, 78, 79, 80, 81, 82, 83, 84, 85, 86, 87, 88, 89, 90, 48, 49, 50, 51, 52, 53, 54, 55, 56, 57, 45]
def SETD : List UInt8 := [48, 49, 50, 51, 52, 53, 54, 55, 56, 57]
theorem setn_ok (c : UInt8) : SETN.contains c = okb c := by
  have h : ∀ n : Fin 256, SETN.contains (UInt8.ofNat n.val) = okb (UInt8.ofNat n.val) := by decide +kernel
  have := h ⟨c.toNat, c.toNat_lt⟩
  rwa [UInt8.ofNat_toNat] at this
theorem setd_ok (c : UInt8) : SETD.contains c = dig c := by
  have h : ∀ n : Fin 256, SETD.contains (UInt8.ofNat n.val) = dig (UInt8.ofNat n.val) := by decide +kernel
  have := h ⟨c.toNat, c.toNat_lt⟩
  rwa [UInt8.ofNat_toNat] at this
theorem all_n (s : List UInt8) : s.all (fun c => SETN.contains c) = s.all okb := by congr 1; funext c; exact setn_ok c
theorem all_d (s : List UInt8) : s.all (fun c => SETD.contains c) = s.all dig := by congr 1; funext c; exact setd_ok c
theorem vport_ok {s : List UInt8} {m : Int} (h : Lib.atoiAll s = .ok m) : vport s = decide (0 ≤ m ∧ m ≤ 65535) := by unfold vport; rw [h]
theorem vport_no {s : List UInt8} (h : ∀ m, Lib.atoiAll s ≠ .ok m) : vport s = false := by
  unfold vport
  cases he : Lib.atoiAll s with
  | ok m => exact absurd he (h m)
  | range => rfl
  | _ => rfl
theorem has_snoc (b : Bool) (set : List UInt8) (j : Nat) (c : UInt8) (hj : j < set.length) (hb : b = (set.take j).contains c) : (b || decide (set.getD j 0 = c)) = (set.take (j + 1)).contains c := by
  rw [List.take_succ_eq_append_getElem hj, List.getD_eq_getElem?_getD, List.getElem?_eq_getElem hj, hb]
  rw [Bool.eq_iff_iff]
  simp only [Bool.or_eq_true, List.contains_iff_mem, decide_eq_true_eq, List.mem_append, List.mem_singleton, Option.getD_some]
  constructor
  · rintro (h | h)
    · exact .inl h
    · exact .inr h.symm
  · rintro (h | h)
    · exact .inl h
    · exact .inr h.symm
theorem cmp_c {s t : List UInt8} {i j : Nat} {x y : Int} (hx : x = byteAt s (i : Int)) (hy : y = byteAt t (j : Int)) : decide (x = y) = decide (s.getD i 0 = t.getD j 0) := by
  rw [hx, hy, byteAt_nat, byteAt_nat]
  apply decide_eq_decide.2
  constructor
  · intro h; exact UInt8.toNat_inj.1 (by omega)
  · intro h; rw [h]
theorem neg_is {s : List UInt8} {x : Int} (h0 : s ≠ []) (hx : x = byteAt s ((0 : Nat) : Int)) : (hneg s = decide (x = 45)) ∧ (s.head? = some 43 ↔ x = 43) ∧ (s.head? = some 45 ↔ x = 45) := by
  cases s with
  | nil => exact absurd rfl h0
  | cons c r =>
    have e : byteAt (c :: r) ((0 : Nat) : Int) = (c.toNat : Int) := by rw [byteAt_nat]; rfl
    rw [e] at hx
    have h45 : c = 45 ↔ x = 45 := by rw [hx]; constructor; (intro h; rw [h]; rfl); (intro h; exact UInt8.toNat_inj.1 (by show c.toNat = 45; omega))
    have h43 : c = 43 ↔ x = 43 := by rw [hx]; constructor; (intro h; rw [h]; rfl); (intro h; exact UInt8.toNat_inj.1 (by show c.toNat = 43; omega))
    refine ⟨?_, ?_, ?_⟩
    · rw [Bool.eq_iff_iff]; simp [hneg, h45]
    · simp [h43]
    · simp [h45]
theorem htl_y {s : List UInt8} {x : Int} (h0 : ¬ s.length = 0) (hx : x = byteAt s ((0 : Nat) : Int)) (h : x = 45 ∨ x = 43) : s.tail = htail s := by
  obtain ⟨_, h43, h45⟩ := neg_is (fun e => h0 (by rw [e]; rfl)) hx
  unfold htail
  rw [if_pos (by rw [h43, h45]; exact h)]
theorem htl_n {s : List UInt8} {x : Int} (h0 : ¬ s.length = 0) (hx : x = byteAt s ((0 : Nat) : Int)) (h1 : ¬ x = 45) (h2 : ¬ x = 43) : s = htail s := by
  obtain ⟨_, h43, h45⟩ := neg_is (fun e => h0 (by rw [e]; rfl)) hx
  unfold htail
  rw [if_neg (by rw [h43, h45]; exact fun h => h.elim h1 h2)]
theorem htl_0 {s : List UInt8} (h : s.length = 0) : s = htail s := by rw [List.eq_nil_of_length_eq_zero h]; rfl
theorem tail_1 (s : List UInt8) : s.drop (Int.toNat 1) = s.tail := by cases s <;> rfl
theorem dig_b {s : List UInt8} {i : Nat} {x : Int} (hi : i < s.length) (hx : x = byteAt s (i : Int)) (h : (s.take (i + 1)).all dig = true) : (s.take i).all dig = true ∧ 48 ≤ x ∧ x ≤ 57 ∧ x = ((s.getD i 0).toNat : Int) := by
  rw [List.take_succ_eq_append_getElem hi, List.all_append, Bool.and_eq_true] at h
  have hd : dig s[i] = true := by simpa using h.2
  have he : x = ((s.getD i 0).toNat : Int) := by rw [hx, byteAt_nat]
  have hg : s.getD i 0 = s[i] := by rw [List.getD_eq_getElem?_getD, List.getElem?_eq_getElem hi]; rfl
  unfold dig at hd
  simp only [decide_eq_true_eq] at hd
  rw [hg] at he
  exact ⟨h.1, by omega, by omega, by rw [hg]; exact he⟩
theorem hnum_of {s : List UInt8} {n : Int} (hn : (htail s).all dig = true → n = (ncut 0 (htail s) : Int)) : hnum s = (decide (htail s ≠ []) && (htail s).all dig && decide (n ≤ 65535) && (!hneg s || decide (n = 0))) := by
  unfold hnum
  cases hd : (htail s).all dig with
  | false => simp
  | true =>
    rw [hn hd]
    congr 1
    · congr 1; apply decide_eq_decide.2; omega
    · congr 1; apply decide_eq_decide.2; omega
/-- given.example/pub-tinwright/pub/smithy/transport/http.ValidPortNumber -/
theorem vportN (A : Hp) (hE : HE A) (s : List UInt8) (hs : s.length ≤ 100000) : FnR Tryd.prog 14 [S s] A (.bool (vport s)) := by
  refine FnR.enter (n := 18) Tryd.func14 rfl rfl fun w0 => ?_
  refine WC.sub (fr' := [(0, _)]) ?_ ⟨rfl, trivial⟩
  refine WC.seq ?_
  refine WC.region ?_
  refine WL.q (oq_assign rfl) rfl rfl rfl ?_
  refine WL.nil ?_
  refine WE.then_normal ?_
  refine WC.sub (fr' := [(0, _)]) ?_ ⟨rfl, trivial⟩
  refine WC.seq ?_
  refine WC.region ?_
  refine WL.q (oq_move rfl) rfl rfl rfl ?_
  refine HB.WL.callBl (atoi s hs (.head _) hE) call18 rfl rfl rfl fun v1 hv1 => ?_
  obtain ⟨m, ve, rfl, hve⟩ := hv1
  refine WL.q (oq_move rfl) rfl rfl rfl ?_
  refine WL.q (oq_extract rfl rfl) rfl rfl rfl ?_
  refine WL.q (oq_extract rfl rfl) rfl rfl rfl ?_
  refine WL.q (oq_assign rfl) rfl rfl rfl ?_
  refine WL.q (oq_assign rfl) rfl rfl rfl ?_
  refine WL.nil ?_
  refine WE.then_normal ?_
  refine WC.sub (fr' := [(3, _), (4, _)]) ?_ ⟨rfl, rfl, trivial⟩
  refine WC.seq ?_
  refine WC.seq ?_
  refine WC.region ?_
  refine WL.q (oq_move rfl) rfl rfl rfl ?_
  refine WL.q (oq_ineq Tryd.underlying27 rfl ((by rcases hve with ⟨h, _⟩ | ⟨⟨k, u, h⟩, _⟩; exact .inl h; exact .inr ⟨k, u, h⟩))) rfl rfl rfl ?_
  refine WL.nil ?_
  refine WE.then_normal ?_
  refine WC.sub (fr' := [(3, _), (11, _)]) ?_ ⟨rfl, rfl, trivial⟩
  refine WC.cond rfl (fun q2 => ?_) (fun q2 => ?_)
  ·
    try simp only [Bool.not_eq_eq_eq_not, Bool.not_true, Bool.not_false, decide_eq_true_eq, decide_eq_false_iff_not, Int.not_lt, Int.not_le, ne_eq, Decidable.not_not, ← List.length_eq_zero_iff] at q2
    refine WC.seq ?_
    refine WC.region ?_
    refine WL.q (oq_assign rfl) rfl rfl rfl ?_
    refine WL.nil ?_
    refine WE.then_normal ?_
    refine WC.sub (fr' := [(2, _)]) ?_ ⟨rfl, trivial⟩
    refine WC.ret ?_
    refine WE.then_ret ?_
    refine WE.endR (.inl rfl) (res1 Tryd.results14 rfl) ?_
    -- end 0
    rw [vport_no (by rcases hve with ⟨rfl, _⟩ | ⟨_, h⟩; simp [nilI] at q2; exact h)]
  ·
    try simp only [Bool.not_eq_eq_eq_not, Bool.not_true, Bool.not_false, decide_eq_true_eq, decide_eq_false_iff_not, Int.not_lt, Int.not_le, ne_eq, Decidable.not_not, ← List.length_eq_zero_iff] at q2
    refine WC.skip ?_
    refine WE.then_normal ?_
    refine WC.sub (fr' := [(3, _)]) ?_ ⟨rfl, trivial⟩
    refine WC.seq ?_
    refine WC.seq ?_
    have ham : Lib.atoiAll s = .ok m := by rcases hve with ⟨_, h⟩ | ⟨⟨k, u, rfl⟩, _⟩; exact h; simp [nilI] at q2
    refine WC.region ?_
    refine WL.q (oq_move rfl) rfl rfl rfl ?_
    refine WL.q (oq_lss rfl rfl) rfl rfl rfl ?_
    refine WL.q (oq_move rfl) rfl rfl rfl ?_
    refine WL.split 14 rfl (fun s4_2 => ?_) (fun s4_2 => ?_)
    ·
      try simp only [Bool.not_eq_eq_eq_not, Bool.not_true, Bool.not_false, decide_eq_true_eq, decide_eq_false_iff_not, Int.not_lt, Int.not_le, ne_eq, Decidable.not_not, ← List.length_eq_zero_iff] at s4_2
      refine WL.skip rfl rfl rfl ?_
      refine WL.skip rfl rfl rfl ?_
      refine WL.q (oq_pick_t rfl rfl) rfl rfl rfl ?_
      refine WL.nil ?_
      refine WE.then_normal ?_
      refine WC.sub (fr' := [(17, _)]) ?_ ⟨rfl, trivial⟩
      refine WC.cond_t rfl ?_
      refine WC.seq ?_
      refine WC.region ?_
      refine WL.q (oq_assign rfl) rfl rfl rfl ?_
      refine WL.nil ?_
      refine WE.then_normal ?_
      refine WC.sub (fr' := [(2, _)]) ?_ ⟨rfl, trivial⟩
      refine WC.ret ?_
      refine WE.then_ret ?_
      refine WE.endR (.inl rfl) (res1 Tryd.results14 rfl) ?_
      -- end 1
      rw [vport_ok ham]; first | (rw [decide_eq_true (show 0 ≤ m ∧ m ≤ 65535 by omega)]; done) | (rw [decide_eq_false (show ¬ (0 ≤ m ∧ m ≤ 65535) by omega)]; done)
    ·
      try simp only [Bool.not_eq_eq_eq_not, Bool.not_true, Bool.not_false, decide_eq_true_eq, decide_eq_false_iff_not, Int.not_lt, Int.not_le, ne_eq, Decidable.not_not, ← List.length_eq_zero_iff] at s4_2
      refine WL.q (oq_move rfl) rfl rfl rfl ?_
      refine WL.q (oq_gtr rfl rfl) rfl rfl rfl ?_
      refine WL.q (oq_pick_f rfl rfl) rfl rfl rfl ?_
      refine WL.nil ?_
      refine WE.then_normal ?_
      refine WC.sub (fr' := [(17, _)]) ?_ ⟨rfl, trivial⟩
      refine WC.cond rfl (fun q4 => ?_) (fun q4 => ?_)
      ·
        try simp only [Bool.not_eq_eq_eq_not, Bool.not_true, Bool.not_false, decide_eq_true_eq, decide_eq_false_iff_not, Int.not_lt, Int.not_le, ne_eq, Decidable.not_not, ← List.length_eq_zero_iff] at q4
        refine WC.seq ?_
        refine WC.region ?_
        refine WL.q (oq_assign rfl) rfl rfl rfl ?_
        refine WL.nil ?_
        refine WE.then_normal ?_
        refine WC.sub (fr' := [(2, _)]) ?_ ⟨rfl, trivial⟩
        refine WC.ret ?_
        refine WE.then_ret ?_
        refine WE.endR (.inl rfl) (res1 Tryd.results14 rfl) ?_
        -- end 2
        rw [vport_ok ham]; first | (rw [decide_eq_true (show 0 ≤ m ∧ m ≤ 65535 by omega)]; done) | (rw [decide_eq_false (show ¬ (0 ≤ m ∧ m ≤ 65535) by omega)]; done)
      ·
        try simp only [Bool.not_eq_eq_eq_not, Bool.not_true, Bool.not_false, decide_eq_true_eq, decide_eq_false_iff_not, Int.not_lt, Int.not_le, ne_eq, Decidable.not_not, ← List.length_eq_zero_iff] at q4
        refine WC.skip ?_
        refine WE.then_normal ?_
        refine WC.sub (fr' := []) ?_ trivial
        refine WC.seq ?_
        refine WC.region ?_
        refine WL.q (oq_assign rfl) rfl rfl rfl ?_
        refine WL.nil ?_
        refine WE.then_normal ?_
        refine WC.sub (fr' := [(2, _)]) ?_ ⟨rfl, trivial⟩
        refine WC.ret ?_
        refine WE.endR (.inl rfl) (res1 Tryd.results14 rfl) ?_
        -- end 3
        rw [vport_ok ham]; first | (rw [decide_eq_true (show 0 ≤ m ∧ m ≤ 65535 by omega)]; done) | (rw [decide_eq_false (show ¬ (0 ≤ m ∧ m ≤ 65535) by omega)]; done)

/-- given.example/pub-tinwright/impl.HPort -/
theorem iPort (A : Hp) (hE : HE A) (s : List UInt8) (hs : s.length ≤ 100000) : FnR Tryd.prog 7 [S s] A (.bool (vport s)) := by
  refine FnR.enter (n := 5) Tryd.func7 rfl rfl fun w0 => ?_
  refine WC.sub (fr' := [(0, _)]) ?_ ⟨rfl, trivial⟩
  refine WC.seq ?_
  refine WC.region ?_
  refine WL.q (oq_assign rfl) rfl rfl rfl ?_
  refine WL.nil ?_
  refine WE.then_normal ?_
  refine WC.sub (fr' := [(0, _)]) ?_ ⟨rfl, trivial⟩
  refine WC.seq ?_
  refine WC.region ?_
  refine WL.q (oq_move rfl) rfl rfl rfl ?_
  refine WL.qc (oq_callRm (vportN A hE s hs) (.head _) call14 rfl) rfl rfl rfl ?_
  refine WL.q (oq_assign rfl) rfl rfl rfl ?_
  refine WL.nil ?_
  refine WE.then_normal ?_
  refine WC.sub (fr' := [(2, _)]) ?_ ⟨rfl, trivial⟩
  refine WC.ret ?_
  refine WE.endR (.inl rfl) (res1 Tryd.results7 rfl) ?_
  -- end 0
  rfl

/-- given.example/pub-tinwright/impl.HLabel -/
theorem iLabel (s : List UInt8) : Fn0 Tryd.prog 5 [S s] (.bool (vlabel s)) := by
  refine Fn0.enter (n := 5) Tryd.func5 rfl rfl fun w0 => ?_
  refine WC.sub (fr' := [(0, _)]) ?_ ⟨rfl, trivial⟩
  refine WC.seq ?_
  refine WC.region ?_
  refine WL.q (oq_assign rfl) rfl rfl rfl ?_
  refine WL.nil ?_
  refine WE.then_normal ?_
  refine WC.sub (fr' := [(0, _)]) ?_ ⟨rfl, trivial⟩
  refine WC.seq ?_
  refine WC.region ?_
  refine WL.q (oq_move rfl) rfl rfl rfl ?_
  refine WL.qc (oq_call (hlabel s) call12 rfl) rfl rfl rfl ?_
  refine WL.q (oq_assign rfl) rfl rfl rfl ?_
  refine WL.nil ?_
  refine WE.then_normal ?_
  refine WC.sub (fr' := [(2, _)]) ?_ ⟨rfl, trivial⟩
  refine WC.ret ?_
  refine WE.end0 (.inl rfl) (res1 Tryd.results5 rfl) ?_
  -- end 0
  rfl

/-- given.example/pub-tinwright/spec.eAll -/
theorem eAll (s set : List UInt8) (hs : s.length ≤ 1000000) (ht : set.length ≤ 1000000) : Fn0 Tryd.prog 13 [S s, S set] (.bool (s.all (fun c => set.contains c))) := by
  refine Fn0.enter (n := 32) Tryd.func13 rfl rfl fun w0 => ?_
  refine WC.sub (fr' := [(0, _), (1, _)]) ?_ ⟨rfl, rfl, trivial⟩
  refine WC.seq ?_
  refine WC.region ?_
  refine WL.q (oq_assign rfl) rfl rfl rfl ?_
  refine WL.nil ?_
  refine WE.then_normal ?_
  refine WC.sub (fr' := [(0, _), (1, _)]) ?_ ⟨rfl, rfl, trivial⟩
  refine WC.seq ?_
  refine WC.seq ?_
  refine WC.region ?_
  refine WL.q (oq_assign rfl) rfl rfl rfl ?_
  refine WL.nil ?_
  refine WE.then_normal ?_
  refine WC.sub (fr' := [(0, _), (1, _), (5, _)]) ?_ ⟨rfl, rfl, rfl, trivial⟩
  refine WC.block ?_
  refine WC.loop (ι := Nat) (fun (i : Nat) => [(0, S s), (1, S set), (5, I (i : Int))]) (fun (i : Nat) => []) (fun (i : Nat) => i ≤ s.length ∧ s.all (fun c => set.contains c) = (s.drop i).all (fun c => set.contains c)) (fun (i : Nat) => s.length - i) (0) ?_ ⟨rfl, rfl, rfl, trivial⟩ (List.Perm.refl _) ?_
  · try dsimp only
    exact ⟨by omega, rfl⟩
  · rintro i hp
    try dsimp only at hp
    obtain ⟨hi, hf⟩ := hp
    show WC _ _ _ _ _ _ ([(0, S s), (1, S set), (5, I (i : Int))]) ([])
    refine WC.seq ?_
    refine WC.seq ?_
    refine WC.region ?_
    refine WL.q (oq_move rfl) rfl rfl rfl ?_
    refine WL.q (oq_move rfl) rfl rfl rfl ?_
    refine WL.q (oq_len_s Tryd.underlying9 rfl) rfl rfl rfl ?_
    refine WL.q (oq_lss rfl rfl) rfl rfl rfl ?_
    refine WL.nil ?_
    refine WE.then_normal ?_
    refine WC.sub (fr' := [(0, _), (1, _), (5, _), (11, _)]) ?_ ⟨rfl, rfl, rfl, rfl, trivial⟩
    refine WC.cond rfl (fun q2 => ?_) (fun q2 => ?_)
    ·
      try simp only [Bool.not_eq_eq_eq_not, Bool.not_true, Bool.not_false, decide_eq_true_eq, decide_eq_false_iff_not, Int.not_lt, Int.not_le, ne_eq, Decidable.not_not, ← List.length_eq_zero_iff] at q2
      refine WC.skip ?_
      refine WE.then_normal ?_
      refine WC.sub (fr' := [(0, _), (1, _), (5, _)]) ?_ ⟨rfl, rfl, rfl, trivial⟩
      refine WC.seq ?_
      refine WC.block ?_
      refine WC.seq ?_
      refine WC.region ?_
      refine WL.q (oq_assign rfl) rfl rfl rfl ?_
      refine WL.nil ?_
      refine WE.then_normal ?_
      refine WC.sub (fr' := [(0, _), (1, _), (5, _), (6, _)]) ?_ ⟨rfl, rfl, rfl, rfl, trivial⟩
      refine WC.seq ?_
      refine WC.seq ?_
      refine WC.region ?_
      refine WL.q (oq_assign rfl) rfl rfl rfl ?_
      refine WL.nil ?_
      refine WE.then_normal ?_
      refine WC.sub (fr' := [(0, _), (1, _), (5, _), (6, _), (7, _)]) ?_ ⟨rfl, rfl, rfl, rfl, rfl, trivial⟩
      refine WC.block ?_
      refine WC.loop (ι := Nat × Bool) (fun i_ => (fun (j : Nat) (b : Bool) => [(0, S s), (1, S set), (5, I (i : Int)), (6, .bool b), (7, I (j : Int))]) i_.1 i_.2) (fun i_ => (fun (j : Nat) (b : Bool) => []) i_.1 i_.2) (fun i_ => (fun (j : Nat) (b : Bool) => j ≤ set.length ∧ b = (set.take j).contains (s.getD i 0)) i_.1 i_.2) (fun i_ => (fun (j : Nat) (b : Bool) => set.length - j) i_.1 i_.2) ((0, false)) ?_ ⟨rfl, rfl, rfl, rfl, rfl, trivial⟩ (List.Perm.refl _) ?_
      · try dsimp only
        exact ⟨by omega, by simp⟩
      · rintro ⟨j, b⟩ hp
        try dsimp only at hp
        obtain ⟨hj, hb⟩ := hp
        show WC _ _ _ _ _ _ ([(0, S s), (1, S set), (5, I (i : Int)), (6, .bool b), (7, I (j : Int))]) ([])
        refine WC.seq ?_
        refine WC.seq ?_
        refine WC.region ?_
        refine WL.q (oq_move rfl) rfl rfl rfl ?_
        refine WL.q (oq_move rfl) rfl rfl rfl ?_
        refine WL.q (oq_len_s Tryd.underlying9 rfl) rfl rfl rfl ?_
        refine WL.q (oq_lss rfl rfl) rfl rfl rfl ?_
        refine WL.nil ?_
        refine WE.then_normal ?_
        refine WC.sub (fr' := [(0, _), (1, _), (5, _), (6, _), (7, _), (17, _)]) ?_ ⟨rfl, rfl, rfl, rfl, rfl, rfl, trivial⟩
        refine WC.cond rfl (fun q6 => ?_) (fun q6 => ?_)
        ·
          try simp only [Bool.not_eq_eq_eq_not, Bool.not_true, Bool.not_false, decide_eq_true_eq, decide_eq_false_iff_not, Int.not_lt, Int.not_le, ne_eq, Decidable.not_not, ← List.length_eq_zero_iff] at q6
          refine WC.skip ?_
          refine WE.then_normal ?_
          refine WC.sub (fr' := [(0, _), (1, _), (5, _), (6, _), (7, _)]) ?_ ⟨rfl, rfl, rfl, rfl, rfl, trivial⟩
          refine WC.seq ?_
          refine WC.block ?_
          refine WC.quiet (by kernel_rfl) (by kernel_rfl) ?_
          refine WQ.q (oq_move rfl) rfl rfl rfl ?_
          refine WQ.q (oq_move rfl) rfl rfl rfl ?_
          refine WQ.split 21 rfl (fun s8_1 => ?_) (fun s8_1 => ?_)
          ·
            try simp only [Bool.not_eq_eq_eq_not, Bool.not_true, Bool.not_false, decide_eq_true_eq, decide_eq_false_iff_not, Int.not_lt, Int.not_le, ne_eq, Decidable.not_not, ← List.length_eq_zero_iff] at s8_1
            refine WQ.skip rfl rfl rfl ?_
            refine WQ.skip rfl rfl rfl ?_
            refine WQ.skip rfl rfl rfl ?_
            refine WQ.skip rfl rfl rfl ?_
            refine WQ.skip rfl rfl rfl ?_
            refine WQ.skip rfl rfl rfl ?_
            refine WQ.skip rfl rfl rfl ?_
            refine WQ.q (oq_pick_t rfl rfl) rfl rfl rfl ?_
            refine WQ.q (oq_assign rfl) rfl rfl rfl ?_
            refine WQ.nil ?_
            refine WE.block_normal ?_
            refine WE.then_normal ?_
            refine WC.sub (fr' := [(0, _), (1, _), (5, _), (6, _), (7, _)]) ?_ ⟨rfl, rfl, rfl, rfl, rfl, trivial⟩
            refine WC.region ?_
            refine WL.q (oq_move rfl) rfl rfl rfl ?_
            refine WL.q (oq_add rfl rfl (by rw [i64_lo, i64_hi]; (first | omega | (simp only [List.length_cons, List.length_nil, List.length_append, List.length_drop, List.length_take]; omega)))) rfl rfl rfl ?_
            refine WL.q (oq_assign rfl) rfl rfl rfl ?_
            refine WL.nil ?_
            refine WE.again (j + 1, true) ?_ ?_ ⟨rfl, rfl, rfl, rfl, rfl, trivial⟩ (List.Perm.refl _)
            · try dsimp only   -- again 0
              exact ⟨by omega, by rw [← has_snoc b set j _ (by omega) hb, s8_1]; rfl⟩
            · (try dsimp only); omega
          ·
            try simp only [Bool.not_eq_eq_eq_not, Bool.not_true, Bool.not_false, decide_eq_true_eq, decide_eq_false_iff_not, Int.not_lt, Int.not_le, ne_eq, Decidable.not_not, ← List.length_eq_zero_iff] at s8_1
            refine WQ.q (oq_move rfl) rfl rfl rfl ?_
            refine WQ.q (oq_move rfl) rfl rfl rfl ?_
            refine WQ.index_s Tryd.underlying9 rfl rfl (by (first | omega | (simp only [List.length_cons, List.length_nil, List.length_append, List.length_drop, List.length_take]; omega))) rfl rfl fun c8_4 hc8_4 hc8_4l hc8_4u => ?_
            refine WQ.q (oq_move rfl) rfl rfl rfl ?_
            refine WQ.q (oq_move rfl) rfl rfl rfl ?_
            refine WQ.index_s Tryd.underlying9 rfl rfl (by (first | omega | (simp only [List.length_cons, List.length_nil, List.length_append, List.length_drop, List.length_take]; omega))) rfl rfl fun c8_7 hc8_7 hc8_7l hc8_7u => ?_
            refine WQ.q (oq_eql rfl rfl) rfl rfl rfl ?_
            refine WQ.q (oq_pick_f rfl rfl) rfl rfl rfl ?_
            refine WQ.q (oq_assign rfl) rfl rfl rfl ?_
            refine WQ.nil ?_
            refine WE.block_normal ?_
            refine WE.then_normal ?_
            refine WC.sub (fr' := [(0, _), (1, _), (5, _), (6, _), (7, _)]) ?_ ⟨rfl, rfl, rfl, rfl, rfl, trivial⟩
            refine WC.region ?_
            refine WL.q (oq_move rfl) rfl rfl rfl ?_
            refine WL.q (oq_add rfl rfl (by rw [i64_lo, i64_hi]; (first | omega | (simp only [List.length_cons, List.length_nil, List.length_append, List.length_drop, List.length_take]; omega)))) rfl rfl rfl ?_
            refine WL.q (oq_assign rfl) rfl rfl rfl ?_
            refine WL.nil ?_
            refine WE.again (j + 1, decide (c8_4 = c8_7)) ?_ ?_ ⟨rfl, rfl, rfl, rfl, rfl, trivial⟩ (List.Perm.refl _)
            · try dsimp only   -- again 1
              exact ⟨by omega, by rw [← has_snoc b set j _ (by omega) hb, s8_1, cmp_c hc8_4 hc8_7]; rfl⟩
            · (try dsimp only); omega
        ·
          try simp only [Bool.not_eq_eq_eq_not, Bool.not_true, Bool.not_false, decide_eq_true_eq, decide_eq_false_iff_not, Int.not_lt, Int.not_le, ne_eq, Decidable.not_not, ← List.length_eq_zero_iff] at q6
          refine WC.exit ?_
          refine WE.then_exit ?_
          refine WE.then_exit ?_
          refine WE.block_same ?_
          refine WE.then_normal ?_
          refine WC.sub (fr' := [(0, _), (1, _), (5, _), (6, _)]) ?_ ⟨rfl, rfl, rfl, rfl, trivial⟩
          refine WC.seq ?_
          refine WC.region ?_
          refine WL.q (oq_move rfl) rfl rfl rfl ?_
          refine WL.q (oq_not rfl) rfl rfl rfl ?_
          refine WL.nil ?_
          refine WE.then_normal ?_
          refine WC.sub (fr' := [(0, _), (1, _), (5, _), (31, _)]) ?_ ⟨rfl, rfl, rfl, rfl, trivial⟩
          refine WC.cond rfl (fun q9 => ?_) (fun q9 => ?_)
          ·
            try simp only [Bool.not_eq_eq_eq_not, Bool.not_true, Bool.not_false, decide_eq_true_eq, decide_eq_false_iff_not, Int.not_lt, Int.not_le, ne_eq, Decidable.not_not, ← List.length_eq_zero_iff] at q9
            refine WC.seq ?_
            refine WC.region ?_
            refine WL.q (oq_assign rfl) rfl rfl rfl ?_
            refine WL.nil ?_
            refine WE.then_normal ?_
            refine WC.sub (fr' := [(4, _)]) ?_ ⟨rfl, trivial⟩
            refine WC.ret ?_
            refine WE.block_ret ?_
            refine WE.then_ret ?_
            refine WE.then_ret ?_
            refine WE.block_ret ?_
            refine WE.then_ret ?_
            refine WE.end0 (.inl rfl) (res1 Tryd.results13 rfl) ?_
            -- end 0
            rw [show j = set.length by omega, List.take_length] at hb
            rw [hf, all_get s i 0 (by omega), ← hb, q9]; rfl
          ·
            try simp only [Bool.not_eq_eq_eq_not, Bool.not_true, Bool.not_false, decide_eq_true_eq, decide_eq_false_iff_not, Int.not_lt, Int.not_le, ne_eq, Decidable.not_not, ← List.length_eq_zero_iff] at q9
            refine WC.skip ?_
            refine WE.block_normal ?_
            refine WE.then_normal ?_
            refine WC.sub (fr' := [(0, _), (1, _), (5, _)]) ?_ ⟨rfl, rfl, rfl, trivial⟩
            refine WC.region ?_
            refine WL.q (oq_move rfl) rfl rfl rfl ?_
            refine WL.q (oq_add rfl rfl (by rw [i64_lo, i64_hi]; (first | omega | (simp only [List.length_cons, List.length_nil, List.length_append, List.length_drop, List.length_take]; omega)))) rfl rfl rfl ?_
            refine WL.q (oq_assign rfl) rfl rfl rfl ?_
            refine WL.nil ?_
            rw [show j = set.length by omega, List.take_length] at hb
            refine WE.again (i + 1) ?_ ?_ ⟨rfl, rfl, rfl, trivial⟩ (List.Perm.refl _)
            · try dsimp only   -- again 0
              exact ⟨by omega, by rw [hf, all_get s i 0 (by omega), ← hb, q9, Bool.true_and]⟩
            · (try dsimp only); omega
    ·
      try simp only [Bool.not_eq_eq_eq_not, Bool.not_true, Bool.not_false, decide_eq_true_eq, decide_eq_false_iff_not, Int.not_lt, Int.not_le, ne_eq, Decidable.not_not, ← List.length_eq_zero_iff] at q2
      refine WC.exit ?_
      refine WE.then_exit ?_
      refine WE.then_exit ?_
      refine WE.block_same ?_
      refine WE.then_normal ?_
      refine WC.sub (fr' := []) ?_ trivial
      refine WC.seq ?_
      refine WC.region ?_
      refine WL.q (oq_assign rfl) rfl rfl rfl ?_
      refine WL.nil ?_
      refine WE.then_normal ?_
      refine WC.sub (fr' := [(4, _)]) ?_ ⟨rfl, trivial⟩
      refine WC.ret ?_
      refine WE.end0 (.inl rfl) (res1 Tryd.results13 rfl) ?_
      -- end 1
      rw [hf, List.drop_eq_nil_of_le (by omega)]; rfl

/-- given.example/pub-tinwright/spec.HName -/
theorem sName (s : List UInt8) (hs : s.length ≤ 1000000) : Fn0 Tryd.prog 6 [S s] (.bool (vlabel s)) := by
  refine Fn0.enter (n := 15) Tryd.func6 rfl rfl fun w0 => ?_
  refine WC.sub (fr' := [(0, _)]) ?_ ⟨rfl, trivial⟩
  refine WC.seq ?_
  refine WC.region ?_
  refine WL.q (oq_assign rfl) rfl rfl rfl ?_
  refine WL.nil ?_
  refine WE.then_normal ?_
  refine WC.sub (fr' := [(0, _)]) ?_ ⟨rfl, trivial⟩
  refine WC.seq ?_
  refine WC.region ?_
  refine WL.q (oq_move rfl) rfl rfl rfl ?_
  refine WL.q (oq_len_s Tryd.underlying9 rfl) rfl rfl rfl ?_
  refine WL.q (oq_geq rfl rfl) rfl rfl rfl ?_
  refine WL.q (oq_move rfl) rfl rfl rfl ?_
  refine WL.split 6 rfl (fun s1_3 => ?_) (fun s1_3 => ?_)
  ·
    try simp only [Bool.not_eq_eq_eq_not, Bool.not_true, Bool.not_false, decide_eq_true_eq, decide_eq_false_iff_not, Int.not_lt, Int.not_le, ne_eq, Decidable.not_not, ← List.length_eq_zero_iff] at s1_3
    refine WL.q (oq_move rfl) rfl rfl rfl ?_
    refine WL.q (oq_len_s Tryd.underlying9 rfl) rfl rfl rfl ?_
    refine WL.q (oq_leq rfl rfl) rfl rfl rfl ?_
    refine WL.q (oq_pick_t rfl rfl) rfl rfl rfl ?_
    refine WL.q (oq_move rfl) rfl rfl rfl ?_
    refine WL.split 11 rfl (fun s1_8 => ?_) (fun s1_8 => ?_)
    ·
      try simp only [Bool.not_eq_eq_eq_not, Bool.not_true, Bool.not_false, decide_eq_true_eq, decide_eq_false_iff_not, Int.not_lt, Int.not_le, ne_eq, Decidable.not_not, ← List.length_eq_zero_iff] at s1_8
      refine WL.q (oq_move rfl) rfl rfl rfl ?_
      refine WL.qc (oq_call (eAll s SETN hs (by decide)) call13 rfl) rfl rfl rfl ?_
      refine WL.q (oq_pick_t rfl rfl) rfl rfl rfl ?_
      refine WL.q (oq_assign rfl) rfl rfl rfl ?_
      refine WL.nil ?_
      refine WE.then_normal ?_
      refine WC.sub (fr' := [(2, _)]) ?_ ⟨rfl, trivial⟩
      refine WC.ret ?_
      refine WE.end0 (.inl rfl) (res1 Tryd.results6 rfl) ?_
      -- end 0
      unfold vlabel; first | (rw [decide_eq_false (show ¬ (1 ≤ s.length ∧ s.length ≤ 63) by omega)]; rfl) | (rw [decide_eq_true (show 1 ≤ s.length ∧ s.length ≤ 63 by omega), Bool.true_and, all_n])
    ·
      try simp only [Bool.not_eq_eq_eq_not, Bool.not_true, Bool.not_false, decide_eq_true_eq, decide_eq_false_iff_not, Int.not_lt, Int.not_le, ne_eq, Decidable.not_not, ← List.length_eq_zero_iff] at s1_8
      refine WL.skip rfl rfl rfl ?_
      refine WL.skip rfl rfl rfl ?_
      refine WL.q (oq_pick_f rfl rfl) rfl rfl rfl ?_
      refine WL.q (oq_assign rfl) rfl rfl rfl ?_
      refine WL.nil ?_
      refine WE.then_normal ?_
      refine WC.sub (fr' := [(2, _)]) ?_ ⟨rfl, trivial⟩
      refine WC.ret ?_
      refine WE.end0 (.inl rfl) (res1 Tryd.results6 rfl) ?_
      -- end 1
      unfold vlabel; first | (rw [decide_eq_false (show ¬ (1 ≤ s.length ∧ s.length ≤ 63) by omega)]; rfl) | (rw [decide_eq_true (show 1 ≤ s.length ∧ s.length ≤ 63 by omega), Bool.true_and, all_n])
  ·
    try simp only [Bool.not_eq_eq_eq_not, Bool.not_true, Bool.not_false, decide_eq_true_eq, decide_eq_false_iff_not, Int.not_lt, Int.not_le, ne_eq, Decidable.not_not, ← List.length_eq_zero_iff] at s1_3
    refine WL.skip rfl rfl rfl ?_
    refine WL.skip rfl rfl rfl ?_
    refine WL.skip rfl rfl rfl ?_
    refine WL.q (oq_pick_f rfl rfl) rfl rfl rfl ?_
    refine WL.q (oq_move rfl) rfl rfl rfl ?_
    refine WL.skip rfl rfl rfl ?_
    refine WL.skip rfl rfl rfl ?_
    refine WL.q (oq_pick_f rfl rfl) rfl rfl rfl ?_
    refine WL.q (oq_assign rfl) rfl rfl rfl ?_
    refine WL.nil ?_
    refine WE.then_normal ?_
    refine WC.sub (fr' := [(2, _)]) ?_ ⟨rfl, trivial⟩
    refine WC.ret ?_
    refine WE.end0 (.inl rfl) (res1 Tryd.results6 rfl) ?_
    -- end 2
    unfold vlabel; first | (rw [decide_eq_false (show ¬ (1 ≤ s.length ∧ s.length ≤ 63) by omega)]; rfl) | (rw [decide_eq_true (show 1 ≤ s.length ∧ s.length ≤ 63 by omega), Bool.true_and, all_n])

/-- given.example/pub-tinwright/spec.HNumber -/
theorem sNumber (s : List UInt8) (hs : s.length ≤ 1000000) : Fn0 Tryd.prog 8 [S s] (.bool (hnum s)) := by
  refine Fn0.enter (n := 63) Tryd.func8 rfl rfl fun w0 => ?_
  refine WC.sub (fr' := [(0, _)]) ?_ ⟨rfl, trivial⟩
  refine WC.seq ?_
  refine WC.region ?_
  refine WL.q (oq_assign rfl) rfl rfl rfl ?_
  refine WL.nil ?_
  refine WE.then_normal ?_
  refine WC.sub (fr' := [(0, _)]) ?_ ⟨rfl, trivial⟩
  refine WC.cut (ι := Unit) (fun _ => [(0, S s), (3, .bool (hneg s))]) (fun _ => []) (fun _ => True) ?_ ?_
  ·
    refine WC.region ?_
    refine WL.q (oq_move rfl) rfl rfl rfl ?_
    refine WL.q (oq_sneq rfl rfl) rfl rfl rfl ?_
    refine WL.q (oq_move rfl) rfl rfl rfl ?_
    refine WL.split 8 rfl (fun s1_2 => ?_) (fun s1_2 => ?_)
    ·
      try simp only [Bool.not_eq_eq_eq_not, Bool.not_true, Bool.not_false, decide_eq_true_eq, decide_eq_false_iff_not, Int.not_lt, Int.not_le, ne_eq, Decidable.not_not, ← List.length_eq_zero_iff] at s1_2
      refine WL.q (oq_move rfl) rfl rfl rfl ?_
      refine WL.index_s Tryd.underlying9 rfl rfl (by (first | omega | (simp only [List.length_cons, List.length_nil, List.length_append, List.length_drop, List.length_take]; omega))) rfl rfl fun c1_4 hc1_4 hc1_4l hc1_4u => ?_
      refine WL.q (oq_eql rfl rfl) rfl rfl rfl ?_
      refine WL.q (oq_pick_t rfl rfl) rfl rfl rfl ?_
      refine WL.q (oq_assign rfl) rfl rfl rfl ?_
      refine WL.nil ?_
      refine WE.meet () ?_ ⟨rfl, (gtv rfl (by first | (rw [(neg_is (fun e => s1_2 (by rw [e]; rfl)) hc1_4).1]; done) | (congr 1; rw [show s = [] from List.eq_nil_of_length_eq_zero s1_2]; rfl))), trivial⟩ (List.Perm.refl _)
      try dsimp only
      all_goals trivial   -- meet 0
    ·
      try simp only [Bool.not_eq_eq_eq_not, Bool.not_true, Bool.not_false, decide_eq_true_eq, decide_eq_false_iff_not, Int.not_lt, Int.not_le, ne_eq, Decidable.not_not, ← List.length_eq_zero_iff] at s1_2
      refine WL.skip rfl rfl rfl ?_
      refine WL.skip rfl rfl rfl ?_
      refine WL.skip rfl rfl rfl ?_
      refine WL.q (oq_pick_f rfl rfl) rfl rfl rfl ?_
      refine WL.q (oq_assign rfl) rfl rfl rfl ?_
      refine WL.nil ?_
      refine WE.meet () ?_ ⟨rfl, (gtv rfl (by first | (rw [(neg_is (fun e => s1_2 (by rw [e]; rfl)) hc1_4).1]; done) | (congr 1; rw [show s = [] from List.eq_nil_of_length_eq_zero s1_2]; rfl))), trivial⟩ (List.Perm.refl _)
      try dsimp only
      all_goals trivial   -- meet 1
  · rintro _ hp
    try dsimp only at hp
    show WC _ _ _ _ _ _ ([(0, S s), (3, .bool (hneg s))]) ([])
    refine WC.cut (ι := (List UInt8)) (fun (t : List UInt8) => [(0, S t), (3, .bool (hneg s))]) (fun (t : List UInt8) => []) (fun (t : List UInt8) => t = htail s ∧ t.length ≤ s.length) ?_ ?_
    ·
      refine WC.seq ?_
      refine WC.region ?_
      refine WL.q (oq_move rfl) rfl rfl rfl ?_
      refine WL.q (oq_sneq rfl rfl) rfl rfl rfl ?_
      refine WL.q (oq_move rfl) rfl rfl rfl ?_
      refine WL.split 15 rfl (fun s2_2 => ?_) (fun s2_2 => ?_)
      ·
        try simp only [Bool.not_eq_eq_eq_not, Bool.not_true, Bool.not_false, decide_eq_true_eq, decide_eq_false_iff_not, Int.not_lt, Int.not_le, ne_eq, Decidable.not_not, ← List.length_eq_zero_iff] at s2_2
        refine WL.q (oq_move rfl) rfl rfl rfl ?_
        refine WL.index_s Tryd.underlying9 rfl rfl (by (first | omega | (simp only [List.length_cons, List.length_nil, List.length_append, List.length_drop, List.length_take]; omega))) rfl rfl fun c2_4 hc2_4 hc2_4l hc2_4u => ?_
        refine WL.q (oq_eql rfl rfl) rfl rfl rfl ?_
        refine WL.q (oq_move rfl) rfl rfl rfl ?_
        refine WL.split 19 rfl (fun s2_6 => ?_) (fun s2_6 => ?_)
        ·
          try simp only [Bool.not_eq_eq_eq_not, Bool.not_true, Bool.not_false, decide_eq_true_eq, decide_eq_false_iff_not, Int.not_lt, Int.not_le, ne_eq, Decidable.not_not, ← List.length_eq_zero_iff] at s2_6
          refine WL.skip rfl rfl rfl ?_
          refine WL.skip rfl rfl rfl ?_
          refine WL.skip rfl rfl rfl ?_
          refine WL.q (oq_pick_t rfl rfl) rfl rfl rfl ?_
          refine WL.q (oq_pick_t rfl rfl) rfl rfl rfl ?_
          refine WL.nil ?_
          refine WE.then_normal ?_
          refine WC.sub (fr' := [(0, _), (3, _), (24, _)]) ?_ ⟨rfl, rfl, rfl, trivial⟩
          refine WC.cond_t rfl ?_
          refine WC.region ?_
          refine WL.q (oq_move rfl) rfl rfl rfl ?_
          refine WL.q (oq_slice_s1 Tryd.underlying9 rfl rfl (by (first | omega | (simp only [List.length_cons, List.length_nil, List.length_append, List.length_drop, List.length_take]; omega)))) rfl rfl rfl ?_
          refine WL.q (oq_assign rfl) rfl rfl rfl ?_
          refine WL.nil ?_
          refine WE.meet s.tail ?_ ⟨(gtv rfl (by first | rfl | (rw [tail_1]))), rfl, trivial⟩ (List.Perm.refl _)
          try dsimp only
          exact ⟨htl_y s2_2 hc2_4 (.inl s2_6), by simp⟩   -- meet 0
        ·
          try simp only [Bool.not_eq_eq_eq_not, Bool.not_true, Bool.not_false, decide_eq_true_eq, decide_eq_false_iff_not, Int.not_lt, Int.not_le, ne_eq, Decidable.not_not, ← List.length_eq_zero_iff] at s2_6
          refine WL.q (oq_move rfl) rfl rfl rfl ?_
          refine WL.index_s Tryd.underlying9 rfl rfl (by (first | omega | (simp only [List.length_cons, List.length_nil, List.length_append, List.length_drop, List.length_take]; omega))) rfl rfl fun c2_8 hc2_8 hc2_8l hc2_8u => ?_
          refine WL.q (oq_eql rfl rfl) rfl rfl rfl ?_
          refine WL.q (oq_pick_f rfl rfl) rfl rfl rfl ?_
          refine WL.q (oq_pick_t rfl rfl) rfl rfl rfl ?_
          refine WL.nil ?_
          refine WE.then_normal ?_
          refine WC.sub (fr' := [(0, _), (3, _), (24, _)]) ?_ ⟨rfl, rfl, rfl, trivial⟩
          refine WC.cond rfl (fun q2 => ?_) (fun q2 => ?_)
          ·
            try simp only [Bool.not_eq_eq_eq_not, Bool.not_true, Bool.not_false, decide_eq_true_eq, decide_eq_false_iff_not, Int.not_lt, Int.not_le, ne_eq, Decidable.not_not, ← List.length_eq_zero_iff] at q2
            refine WC.region ?_
            refine WL.q (oq_move rfl) rfl rfl rfl ?_
            refine WL.q (oq_slice_s1 Tryd.underlying9 rfl rfl (by (first | omega | (simp only [List.length_cons, List.length_nil, List.length_append, List.length_drop, List.length_take]; omega)))) rfl rfl rfl ?_
            refine WL.q (oq_assign rfl) rfl rfl rfl ?_
            refine WL.nil ?_
            refine WE.meet s.tail ?_ ⟨(gtv rfl (by first | rfl | (rw [tail_1]))), rfl, trivial⟩ (List.Perm.refl _)
            try dsimp only
            exact ⟨htl_y s2_2 hc2_8 (.inr q2), by simp⟩   -- meet 1
          ·
            try simp only [Bool.not_eq_eq_eq_not, Bool.not_true, Bool.not_false, decide_eq_true_eq, decide_eq_false_iff_not, Int.not_lt, Int.not_le, ne_eq, Decidable.not_not, ← List.length_eq_zero_iff] at q2
            refine WC.skip ?_
            refine WE.meet s ?_ ⟨(gtv rfl (by first | rfl | (rw [tail_1]))), rfl, trivial⟩ (List.Perm.refl _)
            try dsimp only
            exact ⟨htl_n s2_2 hc2_8 (by omega) q2, Nat.le_refl _⟩   -- meet 2
      ·
        try simp only [Bool.not_eq_eq_eq_not, Bool.not_true, Bool.not_false, decide_eq_true_eq, decide_eq_false_iff_not, Int.not_lt, Int.not_le, ne_eq, Decidable.not_not, ← List.length_eq_zero_iff] at s2_2
        refine WL.skip rfl rfl rfl ?_
        refine WL.skip rfl rfl rfl ?_
        refine WL.skip rfl rfl rfl ?_
        refine WL.skip rfl rfl rfl ?_
        refine WL.skip rfl rfl rfl ?_
        refine WL.skip rfl rfl rfl ?_
        refine WL.skip rfl rfl rfl ?_
        refine WL.skip rfl rfl rfl ?_
        refine WL.q (oq_pick_f rfl rfl) rfl rfl rfl ?_
        refine WL.nil ?_
        refine WE.then_normal ?_
        refine WC.sub (fr' := [(0, _), (3, _), (24, _)]) ?_ ⟨rfl, rfl, rfl, trivial⟩
        refine WC.cond_f rfl ?_
        refine WC.skip ?_
        refine WE.meet s ?_ ⟨(gtv rfl (by first | rfl | (rw [tail_1]))), rfl, trivial⟩ (List.Perm.refl _)
        try dsimp only
        exact ⟨htl_0 s2_2, Nat.le_refl _⟩   -- meet 3
    · rintro t hp
      try dsimp only at hp
      obtain ⟨ht, htl⟩ := hp
      show WC _ _ _ _ _ _ ([(0, S t), (3, .bool (hneg s))]) ([])
      refine WC.seq ?_
      refine WC.region ?_
      refine WL.q (oq_assign rfl) rfl rfl rfl ?_
      refine WL.nil ?_
      refine WE.then_normal ?_
      refine WC.sub (fr' := [(0, _), (3, _), (4, _)]) ?_ ⟨rfl, rfl, rfl, trivial⟩
      refine WC.seq ?_
      refine WC.seq ?_
      refine WC.region ?_
      refine WL.q (oq_assign rfl) rfl rfl rfl ?_
      refine WL.nil ?_
      refine WE.then_normal ?_
      refine WC.sub (fr' := [(0, _), (3, _), (4, _), (5, _)]) ?_ ⟨rfl, rfl, rfl, rfl, trivial⟩
      refine WC.block ?_
      refine WC.loop (ι := Nat × Int) (fun i_ => (fun (i : Nat) (n : Int) => [(0, S t), (3, .bool (hneg s)), (4, I n), (5, I (i : Int))]) i_.1 i_.2) (fun i_ => (fun (i : Nat) (n : Int) => []) i_.1 i_.2) (fun i_ => (fun (i : Nat) (n : Int) => i ≤ t.length ∧ ((t.take i).all dig = true → n = (ncut 0 (t.take i) : Int))) i_.1 i_.2) (fun i_ => (fun (i : Nat) (n : Int) => t.length - i) i_.1 i_.2) ((0, 0)) ?_ ⟨rfl, rfl, rfl, rfl, trivial⟩ (List.Perm.refl _) ?_
      · try dsimp only
        exact ⟨by omega, fun _ => rfl⟩
      · rintro ⟨i, n⟩ hp
        try dsimp only at hp
        obtain ⟨hi, hn⟩ := hp
        show WC _ _ _ _ _ _ ([(0, S t), (3, .bool (hneg s)), (4, I n), (5, I (i : Int))]) ([])
        refine WC.seq ?_
        refine WC.seq ?_
        refine WC.region ?_
        refine WL.q (oq_move rfl) rfl rfl rfl ?_
        refine WL.q (oq_move rfl) rfl rfl rfl ?_
        refine WL.q (oq_len_s Tryd.underlying9 rfl) rfl rfl rfl ?_
        refine WL.q (oq_lss rfl rfl) rfl rfl rfl ?_
        refine WL.q (oq_move rfl) rfl rfl rfl ?_
        refine WL.split 31 rfl (fun s6_4 => ?_) (fun s6_4 => ?_)
        ·
          try simp only [Bool.not_eq_eq_eq_not, Bool.not_true, Bool.not_false, decide_eq_true_eq, decide_eq_false_iff_not, Int.not_lt, Int.not_le, ne_eq, Decidable.not_not, ← List.length_eq_zero_iff] at s6_4
          refine WL.q (oq_move rfl) rfl rfl rfl ?_
          refine WL.q (oq_leq rfl rfl) rfl rfl rfl ?_
          refine WL.q (oq_pick_t rfl rfl) rfl rfl rfl ?_
          refine WL.nil ?_
          refine WE.then_normal ?_
          refine WC.sub (fr' := [(0, _), (3, _), (4, _), (5, _), (34, _)]) ?_ ⟨rfl, rfl, rfl, rfl, rfl, trivial⟩
          refine WC.cond rfl (fun q6 => ?_) (fun q6 => ?_)
          ·
            try simp only [Bool.not_eq_eq_eq_not, Bool.not_true, Bool.not_false, decide_eq_true_eq, decide_eq_false_iff_not, Int.not_lt, Int.not_le, ne_eq, Decidable.not_not, ← List.length_eq_zero_iff] at q6
            refine WC.skip ?_
            refine WE.then_normal ?_
            refine WC.sub (fr' := [(0, _), (3, _), (4, _), (5, _)]) ?_ ⟨rfl, rfl, rfl, rfl, trivial⟩
            refine WC.seq ?_
            refine WC.block ?_
            refine WC.region ?_
            refine WL.q (oq_move rfl) rfl rfl rfl ?_
            refine WL.q (oq_mulw rfl rfl) rfl rfl rfl ?_
            refine WL.q (oq_move rfl) rfl rfl rfl ?_
            refine WL.q (oq_move rfl) rfl rfl rfl ?_
            refine WL.index_s Tryd.underlying9 rfl rfl (by (first | omega | (simp only [List.length_cons, List.length_nil, List.length_append, List.length_drop, List.length_take]; omega))) rfl rfl fun c8_4 hc8_4 hc8_4l hc8_4u => ?_
            refine WL.q (oq_conv Tryd.underlying5 Tryd.underlying3 rfl (by rw [i64_lo, i64_hi]; (first | omega | (simp only [List.length_cons, List.length_nil, List.length_append, List.length_drop, List.length_take]; omega)))) rfl rfl rfl ?_
            refine WL.q (oq_addw rfl rfl) rfl rfl rfl ?_
            refine WL.q (oq_subw rfl rfl) rfl rfl rfl ?_
            refine WL.q (oq_assign rfl) rfl rfl rfl ?_
            refine WL.nil ?_
            refine WE.block_normal ?_
            refine WE.then_normal ?_
            refine WC.sub (fr' := [(0, _), (3, _), (4, _), (5, _)]) ?_ ⟨rfl, rfl, rfl, rfl, trivial⟩
            refine WC.region ?_
            refine WL.q (oq_move rfl) rfl rfl rfl ?_
            refine WL.q (oq_add rfl rfl (by rw [i64_lo, i64_hi]; (first | omega | (simp only [List.length_cons, List.length_nil, List.length_append, List.length_drop, List.length_take]; omega)))) rfl rfl rfl ?_
            refine WL.q (oq_assign rfl) rfl rfl rfl ?_
            refine WL.nil ?_
            refine WE.again (i + 1, IntKind.i64.wrap (IntKind.i64.wrap (IntKind.i64.wrap (n * 10) + c8_4) - 48)) ?_ ?_ ⟨rfl, rfl, rfl, rfl, trivial⟩ (List.Perm.refl _)
            · try dsimp only   -- again 0
              refine ⟨by omega, fun hd => ?_⟩
              obtain ⟨h1, h2, h3, h4⟩ := dig_b (by omega) hc8_4 hd
              have hn2 := hn h1
              have hlt : ncut 0 (t.take i) ≤ 65535 := by omega
              rw [wrap_in (i := n * 10) (by rw [i64_lo, i64_hi]; omega), wrap_in (i := n * 10 + c8_4) (by rw [i64_lo, i64_hi]; omega), wrap_in (i := n * 10 + c8_4 - 48) (by rw [i64_lo, i64_hi]; omega)]
              have e : t.take (i + 1) = t.take i ++ [t.getD i 0] := by rw [List.take_succ_eq_append_getElem (show i < t.length by omega), List.getD_eq_getElem?_getD, List.getElem?_eq_getElem (show i < t.length by omega)]; rfl
              rw [e, ncut_snoc _ _ _ hlt]; omega
            · (try dsimp only); omega
          ·
            try simp only [Bool.not_eq_eq_eq_not, Bool.not_true, Bool.not_false, decide_eq_true_eq, decide_eq_false_iff_not, Int.not_lt, Int.not_le, ne_eq, Decidable.not_not, ← List.length_eq_zero_iff] at q6
            refine WC.exit ?_
            refine WE.then_exit ?_
            refine WE.then_exit ?_
            refine WE.block_same ?_
            refine WE.then_normal ?_
            refine WC.sub (fr' := [(0, _), (3, _), (4, _)]) ?_ ⟨rfl, rfl, rfl, trivial⟩
            refine WC.seq ?_
            have hn3 : (htail s).all dig = true → n = (ncut 0 (htail s) : Int) := by
              rw [← ht]
              intro hd
              have h1 : (t.take i).all dig = true := by rw [← List.take_append_drop i t, List.all_append, Bool.and_eq_true] at hd; exact hd.1
              have hn2 := hn h1
              rw [hn2]
              rcases Nat.lt_or_ge i t.length with h | h
              · have e : ncut 0 t = ncut (ncut 0 (t.take i)) (t.drop i) := by rw [← ncut_app, List.take_append_drop]
                rw [e, ncut_big (acc := ncut 0 (t.take i)) (by omega)]
              · rw [List.take_of_length_le h]
            rw [hnum_of hn3]
            rw [← ht]
            refine WC.region ?_
            refine WL.q (oq_move rfl) rfl rfl rfl ?_
            refine WL.q (oq_sneq rfl rfl) rfl rfl rfl ?_
            refine WL.q (oq_move rfl) rfl rfl rfl ?_
            refine WL.split 47 rfl (fun s9_2 => ?_) (fun s9_2 => ?_)
            ·
              try simp only [Bool.not_eq_eq_eq_not, Bool.not_true, Bool.not_false, decide_eq_true_eq, decide_eq_false_iff_not, Int.not_lt, Int.not_le, ne_eq, Decidable.not_not, ← List.length_eq_zero_iff] at s9_2
              refine WL.q (oq_move rfl) rfl rfl rfl ?_
              refine WL.qc (oq_call (eAll _ SETD (by omega) (by decide)) call13 rfl) rfl rfl rfl ?_
              refine WL.q (oq_pick_t rfl rfl) rfl rfl rfl ?_
              refine WL.q (oq_move rfl) rfl rfl rfl ?_
              refine WL.split 51 rfl (fun s9_6 => ?_) (fun s9_6 => ?_)
              ·
                try simp only [Bool.not_eq_eq_eq_not, Bool.not_true, Bool.not_false, decide_eq_true_eq, decide_eq_false_iff_not, Int.not_lt, Int.not_le, ne_eq, Decidable.not_not, ← List.length_eq_zero_iff] at s9_6
                refine WL.q (oq_move rfl) rfl rfl rfl ?_
                refine WL.q (oq_leq rfl rfl) rfl rfl rfl ?_
                refine WL.q (oq_pick_t rfl rfl) rfl rfl rfl ?_
                refine WL.q (oq_move rfl) rfl rfl rfl ?_
                refine WL.split 55 rfl (fun s9_10 => ?_) (fun s9_10 => ?_)
                ·
                  try simp only [Bool.not_eq_eq_eq_not, Bool.not_true, Bool.not_false, decide_eq_true_eq, decide_eq_false_iff_not, Int.not_lt, Int.not_le, ne_eq, Decidable.not_not, ← List.length_eq_zero_iff] at s9_10
                  refine WL.q (oq_move rfl) rfl rfl rfl ?_
                  refine WL.q (oq_not rfl) rfl rfl rfl ?_
                  refine WL.q (oq_move rfl) rfl rfl rfl ?_
                  refine WL.split 58 rfl (fun s9_13 => ?_) (fun s9_13 => ?_)
                  ·
                    try simp only [Bool.not_eq_eq_eq_not, Bool.not_true, Bool.not_false, decide_eq_true_eq, decide_eq_false_iff_not, Int.not_lt, Int.not_le, ne_eq, Decidable.not_not, ← List.length_eq_zero_iff] at s9_13
                    refine WL.skip rfl rfl rfl ?_
                    refine WL.skip rfl rfl rfl ?_
                    refine WL.q (oq_pick_t rfl rfl) rfl rfl rfl ?_
                    refine WL.q (oq_pick_t rfl rfl) rfl rfl rfl ?_
                    refine WL.q (oq_assign rfl) rfl rfl rfl ?_
                    refine WL.nil ?_
                    refine WE.then_normal ?_
                    refine WC.sub (fr' := [(2, _)]) ?_ ⟨rfl, trivial⟩
                    refine WC.ret ?_
                    refine WE.end0 (.inl rfl) (res1 Tryd.results8 rfl) ?_
                    -- end 0
                    congr 1
                    rw [← all_d]
                    have hte : decide (t ≠ []) = decide (¬ t.length = 0) := by apply decide_eq_decide.2; simp
                    rw [hte]
                    first | (rw [decide_eq_false (show ¬ n ≤ 65535 by omega)]; simp; done) | (rw [s9_6]; simp; done) | (rw [s9_6, decide_eq_true (show n ≤ 65535 by omega)]; simp [*]; done) | (simp [*]; done) | (simp_all; done)
                  ·
                    try simp only [Bool.not_eq_eq_eq_not, Bool.not_true, Bool.not_false, decide_eq_true_eq, decide_eq_false_iff_not, Int.not_lt, Int.not_le, ne_eq, Decidable.not_not, ← List.length_eq_zero_iff] at s9_13
                    refine WL.q (oq_move rfl) rfl rfl rfl ?_
                    refine WL.q (oq_eql rfl rfl) rfl rfl rfl ?_
                    refine WL.q (oq_pick_f rfl rfl) rfl rfl rfl ?_
                    refine WL.q (oq_pick_t rfl rfl) rfl rfl rfl ?_
                    refine WL.q (oq_assign rfl) rfl rfl rfl ?_
                    refine WL.nil ?_
                    refine WE.then_normal ?_
                    refine WC.sub (fr' := [(2, _)]) ?_ ⟨rfl, trivial⟩
                    refine WC.ret ?_
                    refine WE.end0 (.inl rfl) (res1 Tryd.results8 rfl) ?_
                    -- end 1
                    congr 1
                    rw [← all_d]
                    have hte : decide (t ≠ []) = decide (¬ t.length = 0) := by apply decide_eq_decide.2; simp
                    rw [hte]
                    first | (rw [decide_eq_false (show ¬ n ≤ 65535 by omega)]; simp; done) | (rw [s9_6]; simp; done) | (rw [s9_6, decide_eq_true (show n ≤ 65535 by omega)]; simp [*]; done) | (simp [*]; done) | (simp_all; done)
                ·
                  try simp only [Bool.not_eq_eq_eq_not, Bool.not_true, Bool.not_false, decide_eq_true_eq, decide_eq_false_iff_not, Int.not_lt, Int.not_le, ne_eq, Decidable.not_not, ← List.length_eq_zero_iff] at s9_10
                  refine WL.skip rfl rfl rfl ?_
                  refine WL.skip rfl rfl rfl ?_
                  refine WL.skip rfl rfl rfl ?_
                  refine WL.skip rfl rfl rfl ?_
                  refine WL.skip rfl rfl rfl ?_
                  refine WL.skip rfl rfl rfl ?_
                  refine WL.q (oq_pick_f rfl rfl) rfl rfl rfl ?_
                  refine WL.q (oq_assign rfl) rfl rfl rfl ?_
                  refine WL.nil ?_
                  refine WE.then_normal ?_
                  refine WC.sub (fr' := [(2, _)]) ?_ ⟨rfl, trivial⟩
                  refine WC.ret ?_
                  refine WE.end0 (.inl rfl) (res1 Tryd.results8 rfl) ?_
                  -- end 2
                  congr 1
                  rw [← all_d]
                  have hte : decide (t ≠ []) = decide (¬ t.length = 0) := by apply decide_eq_decide.2; simp
                  rw [hte]
                  first | (rw [decide_eq_false (show ¬ n ≤ 65535 by omega)]; simp; done) | (rw [s9_6]; simp; done) | (rw [s9_6, decide_eq_true (show n ≤ 65535 by omega)]; simp [*]; done) | (simp [*]; done) | (simp_all; done)
              ·
                try simp only [Bool.not_eq_eq_eq_not, Bool.not_true, Bool.not_false, decide_eq_true_eq, decide_eq_false_iff_not, Int.not_lt, Int.not_le, ne_eq, Decidable.not_not, ← List.length_eq_zero_iff] at s9_6
                refine WL.skip rfl rfl rfl ?_
                refine WL.skip rfl rfl rfl ?_
                refine WL.q (oq_pick_f rfl rfl) rfl rfl rfl ?_
                refine WL.q (oq_move rfl) rfl rfl rfl ?_
                refine WL.skip rfl rfl rfl ?_
                refine WL.skip rfl rfl rfl ?_
                refine WL.skip rfl rfl rfl ?_
                refine WL.skip rfl rfl rfl ?_
                refine WL.skip rfl rfl rfl ?_
                refine WL.skip rfl rfl rfl ?_
                refine WL.q (oq_pick_f rfl rfl) rfl rfl rfl ?_
                refine WL.q (oq_assign rfl) rfl rfl rfl ?_
                refine WL.nil ?_
                refine WE.then_normal ?_
                refine WC.sub (fr' := [(2, _)]) ?_ ⟨rfl, trivial⟩
                refine WC.ret ?_
                refine WE.end0 (.inl rfl) (res1 Tryd.results8 rfl) ?_
                -- end 3
                congr 1
                rw [← all_d]
                have hte : decide (t ≠ []) = decide (¬ t.length = 0) := by apply decide_eq_decide.2; simp
                rw [hte]
                first | (rw [decide_eq_false (show ¬ n ≤ 65535 by omega)]; simp; done) | (rw [s9_6]; simp; done) | (rw [s9_6, decide_eq_true (show n ≤ 65535 by omega)]; simp [*]; done) | (simp [*]; done) | (simp_all; done)
            ·
              try simp only [Bool.not_eq_eq_eq_not, Bool.not_true, Bool.not_false, decide_eq_true_eq, decide_eq_false_iff_not, Int.not_lt, Int.not_le, ne_eq, Decidable.not_not, ← List.length_eq_zero_iff] at s9_2
              refine WL.skip rfl rfl rfl ?_
              refine WL.skip rfl rfl rfl ?_
              refine WL.q (oq_pick_f rfl rfl) rfl rfl rfl ?_
              refine WL.q (oq_move rfl) rfl rfl rfl ?_
              refine WL.skip rfl rfl rfl ?_
              refine WL.skip rfl rfl rfl ?_
              refine WL.q (oq_pick_f rfl rfl) rfl rfl rfl ?_
              refine WL.q (oq_move rfl) rfl rfl rfl ?_
              refine WL.skip rfl rfl rfl ?_
              refine WL.skip rfl rfl rfl ?_
              refine WL.skip rfl rfl rfl ?_
              refine WL.skip rfl rfl rfl ?_
              refine WL.skip rfl rfl rfl ?_
              refine WL.skip rfl rfl rfl ?_
              refine WL.q (oq_pick_f rfl rfl) rfl rfl rfl ?_
              refine WL.q (oq_assign rfl) rfl rfl rfl ?_
              refine WL.nil ?_
              refine WE.then_normal ?_
              refine WC.sub (fr' := [(2, _)]) ?_ ⟨rfl, trivial⟩
              refine WC.ret ?_
              refine WE.end0 (.inl rfl) (res1 Tryd.results8 rfl) ?_
              -- end 4
              congr 1
              rw [← all_d]
              have hte : decide (t ≠ []) = decide (¬ t.length = 0) := by apply decide_eq_decide.2; simp
              rw [hte]
              first | (rw [decide_eq_false (show ¬ n ≤ 65535 by omega)]; simp; done) | (rw [s9_6]; simp; done) | (rw [s9_6, decide_eq_true (show n ≤ 65535 by omega)]; simp [*]; done) | (simp [*]; done) | (simp_all; done)
        ·
          try simp only [Bool.not_eq_eq_eq_not, Bool.not_true, Bool.not_false, decide_eq_true_eq, decide_eq_false_iff_not, Int.not_lt, Int.not_le, ne_eq, Decidable.not_not, ← List.length_eq_zero_iff] at s6_4
          refine WL.skip rfl rfl rfl ?_
          refine WL.skip rfl rfl rfl ?_
          refine WL.q (oq_pick_f rfl rfl) rfl rfl rfl ?_
          refine WL.nil ?_
          refine WE.then_normal ?_
          refine WC.sub (fr' := [(0, _), (3, _), (4, _), (5, _), (34, _)]) ?_ ⟨rfl, rfl, rfl, rfl, rfl, trivial⟩
          refine WC.cond_f rfl ?_
          refine WC.exit ?_
          refine WE.then_exit ?_
          refine WE.then_exit ?_
          refine WE.block_same ?_
          refine WE.then_normal ?_
          refine WC.sub (fr' := [(0, _), (3, _), (4, _)]) ?_ ⟨rfl, rfl, rfl, trivial⟩
          refine WC.seq ?_
          have hn3 : (htail s).all dig = true → n = (ncut 0 (htail s) : Int) := by
            rw [← ht]
            intro hd
            have h1 : (t.take i).all dig = true := by rw [← List.take_append_drop i t, List.all_append, Bool.and_eq_true] at hd; exact hd.1
            have hn2 := hn h1
            rw [hn2]
            rcases Nat.lt_or_ge i t.length with h | h
            · have e : ncut 0 t = ncut (ncut 0 (t.take i)) (t.drop i) := by rw [← ncut_app, List.take_append_drop]
              rw [e, ncut_big (acc := ncut 0 (t.take i)) (by omega)]
            · rw [List.take_of_length_le h]
          rw [hnum_of hn3]
          rw [← ht]
          refine WC.region ?_
          refine WL.q (oq_move rfl) rfl rfl rfl ?_
          refine WL.q (oq_sneq rfl rfl) rfl rfl rfl ?_
          refine WL.q (oq_move rfl) rfl rfl rfl ?_
          refine WL.split 47 rfl (fun s9_2 => ?_) (fun s9_2 => ?_)
          ·
            try simp only [Bool.not_eq_eq_eq_not, Bool.not_true, Bool.not_false, decide_eq_true_eq, decide_eq_false_iff_not, Int.not_lt, Int.not_le, ne_eq, Decidable.not_not, ← List.length_eq_zero_iff] at s9_2
            refine WL.q (oq_move rfl) rfl rfl rfl ?_
            refine WL.qc (oq_call (eAll _ SETD (by omega) (by decide)) call13 rfl) rfl rfl rfl ?_
            refine WL.q (oq_pick_t rfl rfl) rfl rfl rfl ?_
            refine WL.q (oq_move rfl) rfl rfl rfl ?_
            refine WL.split 51 rfl (fun s9_6 => ?_) (fun s9_6 => ?_)
            ·
              try simp only [Bool.not_eq_eq_eq_not, Bool.not_true, Bool.not_false, decide_eq_true_eq, decide_eq_false_iff_not, Int.not_lt, Int.not_le, ne_eq, Decidable.not_not, ← List.length_eq_zero_iff] at s9_6
              refine WL.q (oq_move rfl) rfl rfl rfl ?_
              refine WL.q (oq_leq rfl rfl) rfl rfl rfl ?_
              refine WL.q (oq_pick_t rfl rfl) rfl rfl rfl ?_
              refine WL.q (oq_move rfl) rfl rfl rfl ?_
              refine WL.split 55 rfl (fun s9_10 => ?_) (fun s9_10 => ?_)
              ·
                try simp only [Bool.not_eq_eq_eq_not, Bool.not_true, Bool.not_false, decide_eq_true_eq, decide_eq_false_iff_not, Int.not_lt, Int.not_le, ne_eq, Decidable.not_not, ← List.length_eq_zero_iff] at s9_10
                refine WL.q (oq_move rfl) rfl rfl rfl ?_
                refine WL.q (oq_not rfl) rfl rfl rfl ?_
                refine WL.q (oq_move rfl) rfl rfl rfl ?_
                refine WL.split 58 rfl (fun s9_13 => ?_) (fun s9_13 => ?_)
                ·
                  try simp only [Bool.not_eq_eq_eq_not, Bool.not_true, Bool.not_false, decide_eq_true_eq, decide_eq_false_iff_not, Int.not_lt, Int.not_le, ne_eq, Decidable.not_not, ← List.length_eq_zero_iff] at s9_13
                  refine WL.skip rfl rfl rfl ?_
                  refine WL.skip rfl rfl rfl ?_
                  refine WL.q (oq_pick_t rfl rfl) rfl rfl rfl ?_
                  refine WL.q (oq_pick_t rfl rfl) rfl rfl rfl ?_
                  refine WL.q (oq_assign rfl) rfl rfl rfl ?_
                  refine WL.nil ?_
                  refine WE.then_normal ?_
                  refine WC.sub (fr' := [(2, _)]) ?_ ⟨rfl, trivial⟩
                  refine WC.ret ?_
                  refine WE.end0 (.inl rfl) (res1 Tryd.results8 rfl) ?_
                  -- end 5
                  congr 1
                  rw [← all_d]
                  have hte : decide (t ≠ []) = decide (¬ t.length = 0) := by apply decide_eq_decide.2; simp
                  rw [hte]
                  first | (rw [decide_eq_false (show ¬ n ≤ 65535 by omega)]; simp; done) | (rw [s9_6]; simp; done) | (rw [s9_6, decide_eq_true (show n ≤ 65535 by omega)]; simp [*]; done) | (simp [*]; done) | (simp_all; done)
                ·
                  try simp only [Bool.not_eq_eq_eq_not, Bool.not_true, Bool.not_false, decide_eq_true_eq, decide_eq_false_iff_not, Int.not_lt, Int.not_le, ne_eq, Decidable.not_not, ← List.length_eq_zero_iff] at s9_13
                  refine WL.q (oq_move rfl) rfl rfl rfl ?_
                  refine WL.q (oq_eql rfl rfl) rfl rfl rfl ?_
                  refine WL.q (oq_pick_f rfl rfl) rfl rfl rfl ?_
                  refine WL.q (oq_pick_t rfl rfl) rfl rfl rfl ?_
                  refine WL.q (oq_assign rfl) rfl rfl rfl ?_
                  refine WL.nil ?_
                  refine WE.then_normal ?_
                  refine WC.sub (fr' := [(2, _)]) ?_ ⟨rfl, trivial⟩
                  refine WC.ret ?_
                  refine WE.end0 (.inl rfl) (res1 Tryd.results8 rfl) ?_
                  -- end 6
                  congr 1
                  rw [← all_d]
                  have hte : decide (t ≠ []) = decide (¬ t.length = 0) := by apply decide_eq_decide.2; simp
                  rw [hte]
                  first | (rw [decide_eq_false (show ¬ n ≤ 65535 by omega)]; simp; done) | (rw [s9_6]; simp; done) | (rw [s9_6, decide_eq_true (show n ≤ 65535 by omega)]; simp [*]; done) | (simp [*]; done) | (simp_all; done)
              ·
                try simp only [Bool.not_eq_eq_eq_not, Bool.not_true, Bool.not_false, decide_eq_true_eq, decide_eq_false_iff_not, Int.not_lt, Int.not_le, ne_eq, Decidable.not_not, ← List.length_eq_zero_iff] at s9_10
                refine WL.skip rfl rfl rfl ?_
                refine WL.skip rfl rfl rfl ?_
                refine WL.skip rfl rfl rfl ?_
                refine WL.skip rfl rfl rfl ?_
                refine WL.skip rfl rfl rfl ?_
                refine WL.skip rfl rfl rfl ?_
                refine WL.q (oq_pick_f rfl rfl) rfl rfl rfl ?_
                refine WL.q (oq_assign rfl) rfl rfl rfl ?_
                refine WL.nil ?_
                refine WE.then_normal ?_
                refine WC.sub (fr' := [(2, _)]) ?_ ⟨rfl, trivial⟩
                refine WC.ret ?_
                refine WE.end0 (.inl rfl) (res1 Tryd.results8 rfl) ?_
                -- end 7
                congr 1
                rw [← all_d]
                have hte : decide (t ≠ []) = decide (¬ t.length = 0) := by apply decide_eq_decide.2; simp
                rw [hte]
                first | (rw [decide_eq_false (show ¬ n ≤ 65535 by omega)]; simp; done) | (rw [s9_6]; simp; done) | (rw [s9_6, decide_eq_true (show n ≤ 65535 by omega)]; simp [*]; done) | (simp [*]; done) | (simp_all; done)
            ·
              try simp only [Bool.not_eq_eq_eq_not, Bool.not_true, Bool.not_false, decide_eq_true_eq, decide_eq_false_iff_not, Int.not_lt, Int.not_le, ne_eq, Decidable.not_not, ← List.length_eq_zero_iff] at s9_6
              refine WL.skip rfl rfl rfl ?_
              refine WL.skip rfl rfl rfl ?_
              refine WL.q (oq_pick_f rfl rfl) rfl rfl rfl ?_
              refine WL.q (oq_move rfl) rfl rfl rfl ?_
              refine WL.skip rfl rfl rfl ?_
              refine WL.skip rfl rfl rfl ?_
              refine WL.skip rfl rfl rfl ?_
              refine WL.skip rfl rfl rfl ?_
              refine WL.skip rfl rfl rfl ?_
              refine WL.skip rfl rfl rfl ?_
              refine WL.q (oq_pick_f rfl rfl) rfl rfl rfl ?_
              refine WL.q (oq_assign rfl) rfl rfl rfl ?_
              refine WL.nil ?_
              refine WE.then_normal ?_
              refine WC.sub (fr' := [(2, _)]) ?_ ⟨rfl, trivial⟩
              refine WC.ret ?_
              refine WE.end0 (.inl rfl) (res1 Tryd.results8 rfl) ?_
              -- end 8
              congr 1
              rw [← all_d]
              have hte : decide (t ≠ []) = decide (¬ t.length = 0) := by apply decide_eq_decide.2; simp
              rw [hte]
              first | (rw [decide_eq_false (show ¬ n ≤ 65535 by omega)]; simp; done) | (rw [s9_6]; simp; done) | (rw [s9_6, decide_eq_true (show n ≤ 65535 by omega)]; simp [*]; done) | (simp [*]; done) | (simp_all; done)
          ·
            try simp only [Bool.not_eq_eq_eq_not, Bool.not_true, Bool.not_false, decide_eq_true_eq, decide_eq_false_iff_not, Int.not_lt, Int.not_le, ne_eq, Decidable.not_not, ← List.length_eq_zero_iff] at s9_2
            refine WL.skip rfl rfl rfl ?_
            refine WL.skip rfl rfl rfl ?_
            refine WL.q (oq_pick_f rfl rfl) rfl rfl rfl ?_
            refine WL.q (oq_move rfl) rfl rfl rfl ?_
            refine WL.skip rfl rfl rfl ?_
            refine WL.skip rfl rfl rfl ?_
            refine WL.q (oq_pick_f rfl rfl) rfl rfl rfl ?_
            refine WL.q (oq_move rfl) rfl rfl rfl ?_
            refine WL.skip rfl rfl rfl ?_
            refine WL.skip rfl rfl rfl ?_
            refine WL.skip rfl rfl rfl ?_
            refine WL.skip rfl rfl rfl ?_
            refine WL.skip rfl rfl rfl ?_
            refine WL.skip rfl rfl rfl ?_
            refine WL.q (oq_pick_f rfl rfl) rfl rfl rfl ?_
            refine WL.q (oq_assign rfl) rfl rfl rfl ?_
            refine WL.nil ?_
            refine WE.then_normal ?_
            refine WC.sub (fr' := [(2, _)]) ?_ ⟨rfl, trivial⟩
            refine WC.ret ?_
            refine WE.end0 (.inl rfl) (res1 Tryd.results8 rfl) ?_
            -- end 9
            congr 1
            rw [← all_d]
            have hte : decide (t ≠ []) = decide (¬ t.length = 0) := by apply decide_eq_decide.2; simp
            rw [hte]
            first | (rw [decide_eq_false (show ¬ n ≤ 65535 by omega)]; simp; done) | (rw [s9_6]; simp; done) | (rw [s9_6, decide_eq_true (show n ≤ 65535 by omega)]; simp [*]; done) | (simp [*]; done) | (simp_all; done)

end N1
end Go.Proofs.YtbcmbmmnpnbakaaDoor
