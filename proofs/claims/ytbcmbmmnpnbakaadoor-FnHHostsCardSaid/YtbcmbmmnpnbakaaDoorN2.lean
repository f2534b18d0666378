/- Walks of the check of a host. -/
import Derived.Test.YtbcmbmmnpnbakaaDoorN1
import Derived.Test.YtbcmbmmnpnbakaaDoorB0
namespace Go.Proofs.YtbcmbmmnpnbakaaDoor
open Go Go.RowKit V L0 L1 L2 HB N0 N1
set_option linter.unusedSimpArgs false
set_option linter.unusedVariables false
set_option maxRecDepth 10000
namespace N2
theorem call12 : Callable Tryd.prog 12 := ⟨_, Tryd.func12, rfl, by kernel_rfl⟩
theorem call14 : Callable Tryd.prog 14 := ⟨_, Tryd.func14, rfl, by kernel_rfl⟩
theorem call15 : Callable Tryd.prog 15 := ⟨_, Tryd.func15, rfl, by kernel_rfl⟩
theorem call19 : Callable Tryd.prog 19 := ⟨_, Tryd.func19, rfl, by kernel_rfl⟩
theorem call20 : Callable Tryd.prog 20 := ⟨_, Tryd.func20, rfl, by kernel_rfl⟩
theorem call21 : Callable Tryd.prog 21 := ⟨_, Tryd.func21, rfl, by kernel_rfl⟩
theorem call22 : Callable Tryd.prog 22 := ⟨_, Tryd.func22, rfl, by kernel_rfl⟩
theorem call23 : Callable Tryd.prog 23 := ⟨_, Tryd.func23, rfl, by kernel_rfl⟩
theorem call24 : Callable Tryd.prog 24 := ⟨_, Tryd.func24, rfl, by kernel_rfl⟩
theorem ty36 : Ty Tryd.prog 36 (.agg #[(.pointer none), (.slice none 0 0)]) 2 32 := ty_of (by kernel_rfl)

theorem lies36 : liesAt Tryd.prog Tryd.prog.depth 36 (2 / Tryd.prog.cellsOf 36) 0 36 1 = true := by kernel_rfl
theorem inv45_Error : Inv0 Tryd.prog 45 "Error" 74 := fun x w => by kernel_rfl
theorem SHP.cases {s : List UInt8} {v : Value} {N : Hp} (h : SHP s v N) : ∃ hh pp ve, v = .tuple #[S hh, S pp, ve] ∧ hh.length ≤ s.length ∧ pp.length ≤ s.length ∧
    ((ve = .nilIface ∧ split [58] s = [hh, pp]) ∨ (hh = [] ∧ pp = [] ∧ 3 ≤ (split [58] s).length ∧ ∃ q why, ve = .iface 45 (Pt q 0) ∧ N = [(q, .cells #[S why] 47 (0, 0))] ∧ why.length ≤ 100)) := by
  rcases h with ⟨hh, pp, h1, h2, _, h3, h4⟩ | ⟨h1, q, why, h2, h3, h4⟩
  · exact ⟨hh, pp, _, h2, h3, h4, .inl ⟨rfl, h1⟩⟩
  · exact ⟨[], [], _, h2, by simp, by simp, .inr ⟨rfl, rfl, h1, q, why, rfl, h3, h4⟩⟩
/-- the host, the port, and whether all is well with them as parts -/
def HST (s h pt : List UInt8) (b0 : Bool) : Prop := (split [58] s = [h] ∧ pt = [] ∧ b0 = true) ∨ (split [58] s = [h, pt] ∧ b0 = hnum pt) ∨ (3 ≤ (split [58] s).length ∧ h = [] ∧ pt = [] ∧ b0 = false)
theorem hnum_nil : hnum [] = false := by decide
theorem vhost_of {s h pt : List UInt8} {b0 : Bool} (hh : HST s h pt b0) : vhost s = (b0 && lok (split [46] h) && !(decide (h = []) && decide (pt ≠ [])) && decide (h.length ≤ 255)) := by
  unfold vhost
  rcases hh with ⟨h1, rfl, rfl⟩ | ⟨h1, rfl⟩ | ⟨h1, rfl, rfl, rfl⟩
  · rw [h1]; simp
  · rw [h1]
    by_cases hp : pt = []
    · simp [hp, hnum_nil]
    · have : (h == ([] : List UInt8)) = decide (h = []) := by rw [Bool.eq_iff_iff]; simp
      simp [hp, this]
  · obtain ⟨a, b, c, r, e⟩ : ∃ a b c r, split [58] s = a :: b :: c :: r := by
      match split [58] s, h1 with
      | a :: b :: c :: r, _ => exact ⟨a, b, c, r, rfl⟩
    rw [e]; rfl
theorem lok_cons {x : List UInt8} {ls : List (List UInt8)} (h : ls ≠ []) : lok (x :: ls) = (vlabel x && lok ls) := by
  cases ls with
  | nil => exact absurd rfl h
  | cons y r => rfl
theorem lok_step (ls : List (List UInt8)) (i : Nat) (h : i < ls.length) : lok (ls.drop i) = ((if i + 1 < ls.length then vlabel (ls.getD i []) else (ls.getD i [] == [] || vlabel (ls.getD i []))) && lok (ls.drop (i + 1))) := by
  rw [List.drop_eq_getElem_cons h, List.getD_eq_getElem?_getD, List.getElem?_eq_getElem h]
  show lok (ls[i] :: ls.drop (i + 1)) = _
  by_cases h1 : i + 1 < ls.length
  · rw [if_pos h1, lok_cons (by intro e; have := congrArg List.length e; rw [List.length_drop] at this; simp at this; omega)]; rfl
  · rw [if_neg h1, List.drop_eq_nil_of_le (by omega)]; show _ = (_ && true); rw [Bool.and_true]; rfl
theorem arith_acc {a b st d : Nat} (h1 : a ≤ b + 100200) (h2 : b ≤ 3000 + 200000 * st) : a ≤ 3000 + 200000 * (st + d + 1) := by
  have e : 200000 * (st + d + 1) = 200000 * st + 200000 * d + 200000 := by rw [Nat.mul_add, Nat.mul_add, Nat.mul_one]
  rw [e]
  have h3 : 100200 ≤ 200000 * d + 200000 := Nat.le_trans (show 100200 ≤ 200000 by decide) (Nat.le_add_left _ _)
  exact Nat.le_trans h1 (Nat.le_trans (Nat.add_le_add h2 h3) (by rw [Nat.add_assoc, Nat.add_assoc]; exact Nat.le_refl _))
theorem dec_nil (x : List UInt8) (y : List UInt8) (h : y ≠ []) : decide (x ++ y = []) = false := decide_eq_false (by simp [h])
theorem dec_len (x : List UInt8) : decide (x = []) = decide (x.length = 0) := by apply decide_eq_decide.2; exact List.length_eq_zero_iff.symm
/-- given.example/pub-tinwright/pub/smithy/transport/http.ValidateEndpointHost -/
theorem vEndpoint (A : Hp) (hE : HE A) (s : List UInt8) (hs : s.length ≤ 100000) (hb1 : (91 : UInt8) ∉ s) (hb2 : (93 : UInt8) ∉ s) : FnA Tryd.prog 15 [S s] A (fun v N => (vhost s = true ∧ v = .nilIface) ∨ (vhost s = false ∧ ∃ k u, v = .iface k u)) := by
  refine FnA.enter (n := 83) Tryd.func15 rfl rfl fun w0 => ?_
  refine WC.sub (fr' := [(0, _)]) ?_ ⟨rfl, trivial⟩
  refine WC.seq ?_
  refine WC.region ?_
  refine WL.q (oq_assign rfl) rfl rfl rfl ?_
  refine WL.nil ?_
  refine WE.then_normal ?_
  refine WC.sub (fr' := [(0, _)]) ?_ ⟨rfl, trivial⟩
  refine WC.seq ?_
  refine WC.region ?_
  refine WL.alloc ty36 rfl rfl fun b hb => ?_
  refine WL.nil ?_
  refine WE.then_normal ?_
  refine WC.sub (fr' := [(0, _), (3, _)]) ?_ ⟨rfl, rfl, trivial⟩
  refine WC.seq ?_
  refine WC.add0 ?_
  refine WC.region ?_
  refine WL.q (oq_assign rfl) rfl rfl rfl ?_
  refine WL.nil ?_
  refine WE.then_normal ?_
  refine WC.sub (fr' := [(0, _), (3, _)]) ?_ ⟨rfl, rfl, trivial⟩
  refine WC.seq ?_
  refine WC.region ?_
  refine WL.q (oq_assign rfl) rfl rfl rfl ?_
  refine WL.nil ?_
  refine WE.then_normal ?_
  refine WC.sub (fr' := [(0, _), (3, _), (5, _)]) ?_ ⟨rfl, rfl, rfl, trivial⟩
  refine WC.seq ?_
  refine WC.region ?_
  refine WL.q (oq_assign rfl) rfl rfl rfl ?_
  refine WL.nil ?_
  refine WE.then_normal ?_
  refine WC.sub (fr' := [(0, _), (3, _), (5, _)]) ?_ ⟨rfl, rfl, rfl, trivial⟩
  refine WC.cut (ι := (List UInt8) × (List UInt8) × Bool × Value × Value × Hp × (List UInt8)) (fun i_ => (fun (h : List UInt8) (pt : List UInt8) (b0 : Bool) (p2 : Value) (v2 : Value) (B2 : Hp) (acc2 : List UInt8) => [(3, Pt b 0), (4, S h), (5, S pt)]) i_.1 i_.2.1 i_.2.2.1 i_.2.2.2.1 i_.2.2.2.2.1 i_.2.2.2.2.2.1 i_.2.2.2.2.2.2) (fun i_ => (fun (h : List UInt8) (pt : List UInt8) (b0 : Bool) (p2 : Value) (v2 : Value) (B2 : Hp) (acc2 : List UInt8) => [[(b, .cells #[p2, v2] 36 (0, 0))], B2, A]) i_.1 i_.2.1 i_.2.2.1 i_.2.2.2.1 i_.2.2.2.2.1 i_.2.2.2.2.2.1 i_.2.2.2.2.2.2) (fun i_ => (fun (h : List UInt8) (pt : List UInt8) (b0 : Bool) (p2 : Value) (v2 : Value) (B2 : Hp) (acc2 : List UInt8) => HST s h pt b0 ∧ h.length ≤ 100000 ∧ B0.Own b p2 ∧ BufS w0.heap.size 5 v2 B2 acc2 ∧ acc2.length ≤ 2000 ∧ decide (acc2 = []) = b0) i_.1 i_.2.1 i_.2.2.1 i_.2.2.2.1 i_.2.2.2.2.1 i_.2.2.2.2.2.1 i_.2.2.2.2.2.2) ?_ ?_
  ·
    refine WC.seq ?_
    refine WC.region ?_
    refine WL.q (oq_move rfl) rfl rfl rfl ?_
    refine WL.qc (oq_call (hContains s [58] (by omega) (by decide)) call19 rfl) rfl rfl rfl ?_
    refine WL.nil ?_
    refine WE.then_normal ?_
    refine WC.sub (fr' := [(0, _), (3, _), (5, _), (12, _)]) ?_ ⟨rfl, rfl, rfl, rfl, trivial⟩
    refine WC.cond rfl (fun q5 => ?_) (fun q5 => ?_)
    ·
      try simp only [Bool.not_eq_eq_eq_not, Bool.not_true, Bool.not_false, decide_eq_true_eq, decide_eq_false_iff_not, Int.not_lt, Int.not_le, ne_eq, Decidable.not_not, ← List.length_eq_zero_iff] at q5
      refine WC.seq ?_
      refine WC.region ?_
      refine WL.q (oq_move rfl) rfl rfl rfl ?_
      refine WL.callA0 (shp s hs hb1 hb2 (findI_mem q5)) call20 rfl rfl rfl fun v6_1 N6_1 hR6_1 hN6_1 => ?_
      obtain ⟨hh, pp, ve, rfl, hhl, hpl, hve⟩ := SHP.cases hR6_1
      refine WL.q (oq_move rfl) rfl rfl rfl ?_
      refine WL.q (oq_extract rfl rfl) rfl rfl rfl ?_
      refine WL.q (oq_extract rfl rfl) rfl rfl rfl ?_
      refine WL.q (oq_extract rfl rfl) rfl rfl rfl ?_
      refine WL.q (oq_assign rfl) rfl rfl rfl ?_
      refine WL.q (oq_assign rfl) rfl rfl rfl ?_
      refine WL.q (oq_assign rfl) rfl rfl rfl ?_
      refine WL.nil ?_
      refine WE.then_normal ?_
      refine WC.sub (fr' := [(3, _), (4, _), (5, _), (6, _)]) ?_ ⟨rfl, rfl, rfl, rfl, trivial⟩
      refine WC.cut (ι := Value × Value × Hp × (List UInt8)) (fun i_ => (fun (p1 : Value) (v1 : Value) (B1 : Hp) (acc1 : List UInt8) => [(3, Pt b 0), (4, S hh), (5, S pp)]) i_.1 i_.2.1 i_.2.2.1 i_.2.2.2) (fun i_ => (fun (p1 : Value) (v1 : Value) (B1 : Hp) (acc1 : List UInt8) => [[(b, .cells #[p1, v1] 36 (0, 0))], B1, A]) i_.1 i_.2.1 i_.2.2.1 i_.2.2.2) (fun i_ => (fun (p1 : Value) (v1 : Value) (B1 : Hp) (acc1 : List UInt8) => B0.Own b p1 ∧ BufS w0.heap.size 5 v1 B1 acc1 ∧ acc1.length ≤ 1000 ∧ decide (acc1 = []) = nilI ve) i_.1 i_.2.1 i_.2.2.1 i_.2.2.2) ?_ ?_
      ·
        refine WC.seq ?_
        refine WC.region ?_
        refine WL.q (oq_move rfl) rfl rfl rfl ?_
        refine WL.q (oq_ineq Tryd.underlying27 rfl ((by rcases hve with ⟨h, _⟩ | ⟨_, _, _, q, why, h, _⟩; exact .inl h; exact .inr ⟨_, _, h⟩))) rfl rfl rfl ?_
        refine WL.nil ?_
        refine WE.then_normal ?_
        refine WC.sub (fr' := [(3, _), (4, _), (5, _), (6, _), (20, _)]) ?_ ⟨rfl, rfl, rfl, rfl, rfl, trivial⟩
        refine WC.cond rfl (fun q7 => ?_) (fun q7 => ?_)
        ·
          try simp only [Bool.not_eq_eq_eq_not, Bool.not_true, Bool.not_false, decide_eq_true_eq, decide_eq_false_iff_not, Int.not_lt, Int.not_le, ne_eq, Decidable.not_not, ← List.length_eq_zero_iff] at q7
          refine WC.seq ?_
          obtain ⟨he1, he2, he3, q, why, rfl, rfl, hwl⟩ : hh = [] ∧ pp = [] ∧ 3 ≤ (split [58] s).length ∧ ∃ q why, ve = .iface 45 (Pt q 0) ∧ N6_1 = [(q, .cells #[S why] 47 (0, 0))] ∧ why.length ≤ 100 := by
            rcases hve with ⟨rfl, _⟩ | h
            · simp [nilI] at q7
            · exact h
          refine WC.region ?_
          refine WL.f1 ?_
          refine WL.f2 ?_
          refine WL.callW2 (B0.writeString _ b 36 (.pointer none) (.slice none 0 0) [] [] (.inl rfl) lies36 (BufS.nil _ _) _ (by first | (simp; done) | (simp; omega) | omega)) call21 rfl rfl rfl fun v8_0 Hs8_0 hR8_0 => ?_
          obtain ⟨x8_0, A8_0, rfl, rfl, hbz8_0⟩ := hR8_0
          obtain ⟨acc8_0, hn8_0, hL8_0, hb8_0⟩ : ∃ acc, acc ≠ [] ∧ acc.length ≤ 0 + 100 ∧ BufS w0.heap.size 5 x8_0 A8_0 acc := ⟨_, by simp, by first | (simp; done) | (simp; omega), hbz8_0⟩
          refine WL.to2 ?_
          refine WL.nil ?_
          refine WE.then_normal ?_
          refine WC.sub (fr' := [(3, _), (4, _), (5, _), (6, _)]) ?_ ⟨rfl, rfl, rfl, rfl, trivial⟩
          refine WC.region ?_
          refine WL.q (oq_move rfl) rfl rfl rfl ?_
          refine WL.f2 ?_
          refine WL.callWE (fun a w hf => ent_inv0 inv45_Error rfl hf w) (errText _ q why) rfl rfl rfl rfl fun v9_1 Hs9_1 hR9_1 => ?_
          obtain ⟨rfl, rfl⟩ := hR9_1
          refine WL.app1 ?_
          refine WL.f2 ?_
          refine WL.f2 ?_
          refine WL.callW2 (B0.writeString _ b 36 (Pt b 0) x8_0 A8_0 acc8_0 (.inr rfl) lies36 hb8_0 _ (by first | (simp; done) | (simp; omega) | omega)) call21 rfl rfl rfl fun v9_2 Hs9_2 hR9_2 => ?_
          obtain ⟨x9_2, A9_2, rfl, rfl, hbz9_2⟩ := hR9_2
          obtain ⟨acc9_2, hn9_2, hL9_2, hb9_2⟩ : ∃ acc, acc ≠ [] ∧ acc.length ≤ acc8_0.length + 100 ∧ BufS w0.heap.size 5 x9_2 A9_2 acc := ⟨_, by simp [hn8_0], by first | (simp; done) | (simp; omega), hbz9_2⟩
          refine WL.to2 ?_
          refine WL.nil ?_
          refine WE.f2 ?_
          refine WE.forget hN6_1 ?_
          refine WE.meet (_, _, _, acc9_2) ?_ ⟨rfl, rfl, rfl, trivial⟩ (List.Perm.refl _)
          try dsimp only
          exact ⟨.inr rfl, hb9_2, by omega, by rw [q7]; exact decide_eq_false hn9_2⟩   -- meet 0
        ·
          try simp only [Bool.not_eq_eq_eq_not, Bool.not_true, Bool.not_false, decide_eq_true_eq, decide_eq_false_iff_not, Int.not_lt, Int.not_le, ne_eq, Decidable.not_not, ← List.length_eq_zero_iff] at q7
          refine WC.skip ?_
          refine WE.forget hN6_1 ?_
          refine WE.f2 ?_
          refine WE.f1 ?_
          refine WE.f2 ?_
          refine WE.meet (_, _, _, []) ?_ ⟨rfl, rfl, rfl, trivial⟩ (List.Perm.refl _)
          try dsimp only
          exact ⟨.inl rfl, BufS.nil _ _, by simp, by rw [q7]; exact decide_eq_true rfl⟩   -- meet 1
      · rintro ⟨p1, v1, B1, acc1⟩ hp
        try dsimp only at hp
        obtain ⟨ho1, hb1_, hl1, hx1⟩ := hp
        show WC _ _ _ _ _ _ ([(3, Pt b 0), (4, S hh), (5, S pp)]) ([[(b, .cells #[p1, v1] 36 (0, 0))], B1, A])
        refine WC.seq ?_
        refine WC.region ?_
        refine WL.q (oq_move rfl) rfl rfl rfl ?_
        refine WL.qc (oq_callRm (vportN A hE pp (by omega)) (.tail _ (.tail _ (.head _))) call14 rfl) rfl rfl rfl ?_
        refine WL.q (oq_not rfl) rfl rfl rfl ?_
        refine WL.nil ?_
        refine WE.then_normal ?_
        refine WC.sub (fr' := [(3, _), (4, _), (5, _), (27, _)]) ?_ ⟨rfl, rfl, rfl, rfl, trivial⟩
        refine WC.cond rfl (fun q10 => ?_) (fun q10 => ?_)
        ·
          try simp only [Bool.not_eq_eq_eq_not, Bool.not_true, Bool.not_false, decide_eq_true_eq, decide_eq_false_iff_not, Int.not_lt, Int.not_le, ne_eq, Decidable.not_not, ← List.length_eq_zero_iff] at q10
          refine WC.region ?_
          refine WL.f1 ?_
          refine WL.f1 ?_
          refine WL.callW2 (B0.writeString _ b 36 p1 v1 B1 acc1 ho1 lies36 hb1_ _ (by first | (simp; done) | (simp; omega) | omega)) call21 rfl rfl rfl fun v11_0 Hs11_0 hR11_0 => ?_
          obtain ⟨x11_0, A11_0, rfl, rfl, hbz11_0⟩ := hR11_0
          obtain ⟨acc11_0, hn11_0, hL11_0, hb11_0⟩ : ∃ acc, acc ≠ [] ∧ acc.length ≤ acc1.length + 100 ∧ BufS w0.heap.size 5 x11_0 A11_0 acc := ⟨_, by simp, by first | (simp; done) | (simp; omega), hbz11_0⟩
          refine WL.to2 ?_
          refine WL.nil ?_
          have hpn := port_eq pp
          rw [q10] at hpn
          refine WE.meet (hh, pp, false, _, _, _, acc11_0) ?_ ⟨rfl, rfl, rfl, trivial⟩ (List.Perm.refl _)
          try dsimp only
          exact ⟨by rcases hve with ⟨_, h2⟩ | ⟨h1, h2, h3, _⟩; exact .inr (.inl ⟨h2, hpn⟩); exact .inr (.inr ⟨h3, h1, h2, rfl⟩), by omega, .inr rfl, hb11_0, by omega, decide_eq_false hn11_0⟩   -- meet 0
        ·
          try simp only [Bool.not_eq_eq_eq_not, Bool.not_true, Bool.not_false, decide_eq_true_eq, decide_eq_false_iff_not, Int.not_lt, Int.not_le, ne_eq, Decidable.not_not, ← List.length_eq_zero_iff] at q10
          refine WC.skip ?_
          have hpn := port_eq pp
          rw [q10] at hpn
          have hve1 : ve = .nilIface ∧ split [58] s = [hh, pp] := by rcases hve with h | ⟨h1, h2, h3, _⟩; exact h; rw [h2, hnum_nil] at hpn; cases hpn
          refine WE.meet (hh, pp, true, _, _, _, acc1) ?_ ⟨rfl, rfl, rfl, trivial⟩ (List.Perm.refl _)
          try dsimp only
          exact ⟨.inr (.inl ⟨hve1.2, hpn⟩), by omega, ho1, hb1_, by omega, by rw [hx1, hve1.1]; rfl⟩   -- meet 1
    ·
      try simp only [Bool.not_eq_eq_eq_not, Bool.not_true, Bool.not_false, decide_eq_true_eq, decide_eq_false_iff_not, Int.not_lt, Int.not_le, ne_eq, Decidable.not_not, ← List.length_eq_zero_iff] at q5
      refine WC.region ?_
      refine WL.q (oq_move rfl) rfl rfl rfl ?_
      refine WL.q (oq_assign rfl) rfl rfl rfl ?_
      refine WL.nil ?_
      refine WE.f2 ?_
      refine WE.f1 ?_
      refine WE.f2 ?_
      refine WE.meet (s, [], true, _, _, _, []) ?_ ⟨rfl, rfl, rfl, trivial⟩ (List.Perm.refl _)
      try dsimp only
      exact ⟨.inl ⟨split_no (findI_no (by omega)), rfl, rfl⟩, by omega, .inl rfl, BufS.nil _ _, by simp, rfl⟩   -- meet 2
  · rintro ⟨h, pt, b0, p2, v2, B2, acc2⟩ hp
    try dsimp only at hp
    obtain ⟨hst, hhl2, ho2, hb2_, hl2, hx2⟩ := hp
    show WC _ _ _ _ _ _ ([(3, Pt b 0), (4, S h), (5, S pt)]) ([[(b, .cells #[p2, v2] 36 (0, 0))], B2, A])
    refine WC.cut (ι := Value × Value × Hp × (List UInt8)) (fun i_ => (fun (p5 : Value) (v5 : Value) (B5 : Hp) (acc5 : List UInt8) => [(3, Pt b 0), (4, S h), (5, S pt)]) i_.1 i_.2.1 i_.2.2.1 i_.2.2.2) (fun i_ => (fun (p5 : Value) (v5 : Value) (B5 : Hp) (acc5 : List UInt8) => [[(b, .cells #[p5, v5] 36 (0, 0))], B5, A]) i_.1 i_.2.1 i_.2.2.1 i_.2.2.2) (fun i_ => (fun (p5 : Value) (v5 : Value) (B5 : Hp) (acc5 : List UInt8) => B0.Own b p5 ∧ BufS w0.heap.size 5 v5 B5 acc5 ∧ acc5.length < 90000000000000 ∧ decide (acc5 = []) = (b0 && lok (split [46] h))) i_.1 i_.2.1 i_.2.2.1 i_.2.2.2) ?_ ?_
    ·
      refine WC.seq ?_
      refine WC.region ?_
      refine WL.q (oq_assign rfl) rfl rfl rfl ?_
      refine WL.nil ?_
      refine WE.then_normal ?_
      refine WC.sub (fr' := [(3, _), (4, _), (5, _), (7, _)]) ?_ ⟨rfl, rfl, rfl, rfl, trivial⟩
      refine WC.block ?_
      refine WC.loop (ι := Nat × Value × Value × Hp × (List UInt8)) (fun i_ => (fun (st : Nat) (p3 : Value) (v3 : Value) (B3 : Hp) (acc3 : List UInt8) => [(3, Pt b 0), (4, S h), (5, S pt), (7, I (st : Int))]) i_.1 i_.2.1 i_.2.2.1 i_.2.2.2.1 i_.2.2.2.2) (fun i_ => (fun (st : Nat) (p3 : Value) (v3 : Value) (B3 : Hp) (acc3 : List UInt8) => [[(b, .cells #[p3, v3] 36 (0, 0))], B3, A]) i_.1 i_.2.1 i_.2.2.1 i_.2.2.2.1 i_.2.2.2.2) (fun i_ => (fun (st : Nat) (p3 : Value) (v3 : Value) (B3 : Hp) (acc3 : List UInt8) => st ≤ h.length ∧ (decide (acc3 = []) && lok (split [46] (h.drop st))) = (b0 && lok (split [46] h)) ∧ B0.Own b p3 ∧ BufS w0.heap.size 5 v3 B3 acc3 ∧ acc3.length ≤ 3000 + 200000 * st) i_.1 i_.2.1 i_.2.2.1 i_.2.2.2.1 i_.2.2.2.2) (fun i_ => (fun (st : Nat) (p3 : Value) (v3 : Value) (B3 : Hp) (acc3 : List UInt8) => h.length - st) i_.1 i_.2.1 i_.2.2.1 i_.2.2.2.1 i_.2.2.2.2) ((0, _, _, _, acc2)) ?_ ⟨rfl, rfl, rfl, rfl, trivial⟩ (List.Perm.refl _) ?_
      · try dsimp only
        exact ⟨by omega, by rw [hx2]; rfl, ho2, hb2_, by omega⟩
      · rintro ⟨st, p3, v3, B3, acc3⟩ hp
        try dsimp only at hp
        obtain ⟨hst3, hx3, ho3, hb3, hl3⟩ := hp
        show WC _ _ _ _ _ _ ([(3, Pt b 0), (4, S h), (5, S pt), (7, I (st : Int))]) ([[(b, .cells #[p3, v3] 36 (0, 0))], B3, A])
        refine WC.block ?_
        refine WC.seq ?_
        refine WC.region ?_
        refine WL.q (oq_move rfl) rfl rfl rfl ?_
        refine WL.q (oq_move rfl) rfl rfl rfl ?_
        refine WL.q (oq_slice_s1 Tryd.underlying9 rfl rfl (by (first | omega | (simp only [List.length_cons, List.length_nil, List.length_append, List.length_drop, List.length_take]; omega)))) rfl rfl rfl ?_
        refine WL.qc (oq_call (sbyte (h.drop st) 46 46 (by decide)) call22 rfl) rfl rfl rfl ?_
        refine WL.q (oq_assign rfl) rfl rfl rfl ?_
        refine WL.nil ?_
        refine WE.then_normal ?_
        refine WC.sub (fr' := [(3, _), (4, _), (5, _), (7, _), (8, _)]) ?_ ⟨rfl, rfl, rfl, rfl, rfl, trivial⟩
        refine WC.cut (ι := Nat) (fun (d : Nat) => [(3, Pt b 0), (4, S h), (5, S pt), (7, I (st : Int)), (8, I (d : Int))]) (fun (d : Nat) => [[(b, .cells #[p3, v3] 36 (0, 0))], B3, A]) (fun (d : Nat) => findI [46] (h.drop st) = (d : Int)) ?_ ?_
        ·
          refine WC.seq ?_
          refine WC.region ?_
          refine WL.q (oq_move rfl) rfl rfl rfl ?_
          refine WL.q (oq_lss rfl rfl) rfl rfl rfl ?_
          refine WL.nil ?_
          refine WE.then_normal ?_
          refine WC.sub (fr' := [(3, _), (4, _), (5, _), (7, _), (8, _), (35, _)]) ?_ ⟨rfl, rfl, rfl, rfl, rfl, rfl, trivial⟩
          refine WC.cond rfl (fun q15 => ?_) (fun q15 => ?_)
          ·
            try simp only [Bool.not_eq_eq_eq_not, Bool.not_true, Bool.not_false, decide_eq_true_eq, decide_eq_false_iff_not, Int.not_lt, Int.not_le, ne_eq, Decidable.not_not, ← List.length_eq_zero_iff] at q15
            refine WC.seq ?_
            refine WC.seq ?_
            have hdl : (h.drop st).length = h.length - st := List.length_drop
            refine WC.region ?_
            refine WL.q (oq_move rfl) rfl rfl rfl ?_
            refine WL.q (oq_move rfl) rfl rfl rfl ?_
            refine WL.q (oq_slice_s1 Tryd.underlying9 rfl rfl (by (first | omega | (simp only [List.length_cons, List.length_nil, List.length_append, List.length_drop, List.length_take]; omega)))) rfl rfl rfl ?_
            refine WL.q (oq_assign rfl) rfl rfl rfl ?_
            refine WL.nil ?_
            refine WE.then_normal ?_
            refine WC.sub (fr' := [(3, _), (4, _), (5, _), (9, _)]) ?_ ⟨rfl, rfl, rfl, rfl, trivial⟩
            refine WC.seq ?_
            refine WC.region ?_
            refine WL.q (oq_move rfl) rfl rfl rfl ?_
            refine WL.q (oq_len_s Tryd.underlying9 rfl) rfl rfl rfl ?_
            refine WL.q (oq_neq rfl rfl) rfl rfl rfl ?_
            refine WL.q (oq_move rfl) rfl rfl rfl ?_
            refine WL.split 42 rfl (fun s17_3 => ?_) (fun s17_3 => ?_)
            ·
              try simp only [Bool.not_eq_eq_eq_not, Bool.not_true, Bool.not_false, decide_eq_true_eq, decide_eq_false_iff_not, Int.not_lt, Int.not_le, ne_eq, Decidable.not_not, ← List.length_eq_zero_iff] at s17_3
              refine WL.q (oq_move rfl) rfl rfl rfl ?_
              refine WL.qc (oq_call (hlabel _) call12 rfl) rfl rfl rfl ?_
              refine WL.q (oq_not rfl) rfl rfl rfl ?_
              refine WL.q (oq_pick_t rfl rfl) rfl rfl rfl ?_
              refine WL.nil ?_
              refine WE.then_normal ?_
              refine WC.sub (fr' := [(3, _), (4, _), (5, _), (9, _), (46, _)]) ?_ ⟨rfl, rfl, rfl, rfl, rfl, trivial⟩
              refine WC.cond rfl (fun q17 => ?_) (fun q17 => ?_)
              ·
                try simp only [Bool.not_eq_eq_eq_not, Bool.not_true, Bool.not_false, decide_eq_true_eq, decide_eq_false_iff_not, Int.not_lt, Int.not_le, ne_eq, Decidable.not_not, ← List.length_eq_zero_iff] at q17
                refine WC.seq ?_
                refine WC.region ?_
                refine WL.f1 ?_
                refine WL.f1 ?_
                refine WL.callW2 (B0.writeString _ b 36 p3 v3 B3 acc3 ho3 lies36 hb3 _ (by first | (simp; done) | (simp; omega) | omega)) call21 rfl rfl rfl fun v18_0 Hs18_0 hR18_0 => ?_
                obtain ⟨x18_0, A18_0, rfl, rfl, hbz18_0⟩ := hR18_0
                obtain ⟨acc18_0, hn18_0, hL18_0, hb18_0⟩ : ∃ acc, acc ≠ [] ∧ acc.length ≤ acc3.length + 200 ∧ BufS w0.heap.size 5 x18_0 A18_0 acc := ⟨_, by simp, by first | (simp; done) | (simp; omega), hbz18_0⟩
                refine WL.to2 ?_
                refine WL.nil ?_
                refine WE.then_normal ?_
                refine WC.sub (fr' := [(3, _), (4, _), (5, _), (9, _)]) ?_ ⟨rfl, rfl, rfl, rfl, trivial⟩
                refine WC.region ?_
                refine WL.q (oq_move rfl) rfl rfl rfl ?_
                refine WL.f1 ?_
                refine WL.f1 ?_
                refine WL.callW2 (B0.writeString _ b 36 (Pt b 0) x18_0 A18_0 acc18_0 (.inr rfl) lies36 hb18_0 _ (by first | (simp; done) | (simp; omega) | omega)) call21 rfl rfl rfl fun v19_1 Hs19_1 hR19_1 => ?_
                obtain ⟨x19_1, A19_1, rfl, rfl, hbz19_1⟩ := hR19_1
                obtain ⟨acc19_1, hn19_1, hL19_1, hb19_1⟩ : ∃ acc, acc ≠ [] ∧ acc.length ≤ acc18_0.length + 100000 ∧ BufS w0.heap.size 5 x19_1 A19_1 acc := ⟨_, by simp [hn18_0], by first | (simp; done) | (simp; omega), hbz19_1⟩
                refine WL.to2 ?_
                refine WL.nil ?_
                refine WE.then_normal ?_
                refine WC.sub (fr' := [(3, _), (4, _), (5, _)]) ?_ ⟨rfl, rfl, rfl, trivial⟩
                refine WC.exit ?_
                refine WE.then_exit ?_
                refine WE.block_other rfl ?_
                refine WE.then_exit ?_
                refine WE.block_same ?_
                try simp only [Int.toNat_natCast] at q17
                try simp only [Int.toNat_natCast] at s17_3
                refine WE.meet (_, _, _, acc19_1) ?_ ⟨rfl, rfl, rfl, trivial⟩ (List.Perm.refl _)
                try dsimp only
                exact ⟨.inr rfl, hb19_1, by omega, by rw [decide_eq_false hn19_1, ← hx3, split_none _ _ (findI_neg _ _ q15)]; show _ = (_ && (h.drop st == [] || vlabel (h.drop st))); rw [q17]; have : h.drop st ≠ [] := fun e => s17_3 (by rw [e]; rfl); simp [this]⟩   -- meet 0
              ·
                try simp only [Bool.not_eq_eq_eq_not, Bool.not_true, Bool.not_false, decide_eq_true_eq, decide_eq_false_iff_not, Int.not_lt, Int.not_le, ne_eq, Decidable.not_not, ← List.length_eq_zero_iff] at q17
                refine WC.skip ?_
                refine WE.then_normal ?_
                refine WC.sub (fr' := [(3, _), (4, _), (5, _)]) ?_ ⟨rfl, rfl, rfl, trivial⟩
                refine WC.exit ?_
                refine WE.then_exit ?_
                refine WE.block_other rfl ?_
                refine WE.then_exit ?_
                refine WE.block_same ?_
                try simp only [Int.toNat_natCast] at q17
                try simp only [Int.toNat_natCast] at s17_3
                refine WE.meet (_, _, _, acc3) ?_ ⟨rfl, rfl, rfl, trivial⟩ (List.Perm.refl _)
                try dsimp only
                exact ⟨ho3, hb3, by omega, by rw [← hx3, split_none _ _ (findI_neg _ _ q15)]; show _ = (_ && (h.drop st == [] || vlabel (h.drop st))); rw [q17]; simp⟩   -- meet 1
            ·
              try simp only [Bool.not_eq_eq_eq_not, Bool.not_true, Bool.not_false, decide_eq_true_eq, decide_eq_false_iff_not, Int.not_lt, Int.not_le, ne_eq, Decidable.not_not, ← List.length_eq_zero_iff] at s17_3
              refine WL.skip rfl rfl rfl ?_
              refine WL.skip rfl rfl rfl ?_
              refine WL.skip rfl rfl rfl ?_
              refine WL.q (oq_pick_f rfl rfl) rfl rfl rfl ?_
              refine WL.nil ?_
              refine WE.then_normal ?_
              refine WC.sub (fr' := [(3, _), (4, _), (5, _), (9, _), (46, _)]) ?_ ⟨rfl, rfl, rfl, rfl, rfl, trivial⟩
              refine WC.cond_f rfl ?_
              refine WC.skip ?_
              refine WE.then_normal ?_
              refine WC.sub (fr' := [(3, _), (4, _), (5, _)]) ?_ ⟨rfl, rfl, rfl, trivial⟩
              refine WC.exit ?_
              refine WE.then_exit ?_
              refine WE.block_other rfl ?_
              refine WE.then_exit ?_
              refine WE.block_same ?_
              try simp only [Int.toNat_natCast] at q17
              try simp only [Int.toNat_natCast] at s17_3
              refine WE.meet (_, _, _, acc3) ?_ ⟨rfl, rfl, rfl, trivial⟩ (List.Perm.refl _)
              try dsimp only
              exact ⟨ho3, hb3, by omega, by rw [← hx3, split_none _ _ (findI_neg _ _ q15)]; show _ = (_ && (h.drop st == [] || vlabel (h.drop st))); rw [List.eq_nil_of_length_eq_zero (by omega : (h.drop st).length = 0)]; simp⟩   -- meet 2
          ·
            try simp only [Bool.not_eq_eq_eq_not, Bool.not_true, Bool.not_false, decide_eq_true_eq, decide_eq_false_iff_not, Int.not_lt, Int.not_le, ne_eq, Decidable.not_not, ← List.length_eq_zero_iff] at q15
            refine WC.skip ?_
            refine WE.meet (findI [46] (h.drop st)).toNat ?_ ⟨rfl, rfl, rfl, rfl, (gti rfl (by omega)), trivial⟩ (List.Perm.refl _)
            try dsimp only
            omega   -- meet 0
        · rintro d hp
          try dsimp only at hp
          show WC _ _ _ _ _ _ ([(3, Pt b 0), (4, S h), (5, S pt), (7, I (st : Int)), (8, I (d : Int))]) ([[(b, .cells #[p3, v3] 36 (0, 0))], B3, A])
          have hd := hp
          obtain ⟨hf1, hf2⟩ := findI_pos [46] (h.drop st) (by omega)
          rw [hd, Int.toNat_natCast] at hf1 hf2
          have hdl : (h.drop st).length = h.length - st := List.length_drop
          simp only [List.length_cons, List.length_nil] at hf2
          have hcl : (cut h (st : Int) ((st : Int) + (d : Int))).length ≤ 100000 := by rw [cut_nat]; simp; omega
          refine WC.cut (ι := Value × Value × Hp × (List UInt8)) (fun i_ => (fun (p4 : Value) (v4 : Value) (B4 : Hp) (acc4 : List UInt8) => [(3, Pt b 0), (4, S h), (5, S pt), (7, I (st : Int)), (8, I (d : Int))]) i_.1 i_.2.1 i_.2.2.1 i_.2.2.2) (fun i_ => (fun (p4 : Value) (v4 : Value) (B4 : Hp) (acc4 : List UInt8) => [[(b, .cells #[p4, v4] 36 (0, 0))], B4, A]) i_.1 i_.2.1 i_.2.2.1 i_.2.2.2) (fun i_ => (fun (p4 : Value) (v4 : Value) (B4 : Hp) (acc4 : List UInt8) => B0.Own b p4 ∧ BufS w0.heap.size 5 v4 B4 acc4 ∧ acc4.length ≤ acc3.length + 100200 ∧ decide (acc4 = []) = (decide (acc3 = []) && vlabel (cut h (st : Int) ((st : Int) + (d : Int))))) i_.1 i_.2.1 i_.2.2.1 i_.2.2.2) ?_ ?_
          ·
            refine WC.seq ?_
            refine WC.region ?_
            refine WL.q (oq_move rfl) rfl rfl rfl ?_
            refine WL.q (oq_move rfl) rfl rfl rfl ?_
            refine WL.q (oq_move rfl) rfl rfl rfl ?_
            refine WL.q (oq_move rfl) rfl rfl rfl ?_
            refine WL.q (oq_add rfl rfl (by rw [i64_lo, i64_hi]; (first | omega | (simp only [List.length_cons, List.length_nil, List.length_append, List.length_drop, List.length_take]; omega)))) rfl rfl rfl ?_
            refine WL.q (oq_slice_s2 Tryd.underlying9 rfl rfl rfl (by (first | omega | (simp only [List.length_cons, List.length_nil, List.length_append, List.length_drop, List.length_take]; omega)))) rfl rfl rfl ?_
            refine WL.q (oq_assign rfl) rfl rfl rfl ?_
            refine WL.nil ?_
            refine WE.then_normal ?_
            refine WC.sub (fr' := [(3, _), (4, _), (5, _), (7, _), (8, _), (10, _)]) ?_ ⟨rfl, rfl, rfl, rfl, rfl, rfl, trivial⟩
            refine WC.seq ?_
            refine WC.region ?_
            refine WL.q (oq_move rfl) rfl rfl rfl ?_
            refine WL.qc (oq_call (hlabel _) call12 rfl) rfl rfl rfl ?_
            refine WL.q (oq_not rfl) rfl rfl rfl ?_
            refine WL.nil ?_
            refine WE.then_normal ?_
            refine WC.sub (fr' := [(3, _), (4, _), (5, _), (7, _), (8, _), (10, _), (58, _)]) ?_ ⟨rfl, rfl, rfl, rfl, rfl, rfl, rfl, trivial⟩
            refine WC.cond rfl (fun q21 => ?_) (fun q21 => ?_)
            ·
              try simp only [Bool.not_eq_eq_eq_not, Bool.not_true, Bool.not_false, decide_eq_true_eq, decide_eq_false_iff_not, Int.not_lt, Int.not_le, ne_eq, Decidable.not_not, ← List.length_eq_zero_iff] at q21
              refine WC.seq ?_
              refine WC.region ?_
              refine WL.f1 ?_
              refine WL.f1 ?_
              refine WL.callW2 (B0.writeString _ b 36 p3 v3 B3 acc3 ho3 lies36 hb3 _ (by first | (simp; done) | (simp; omega) | omega)) call21 rfl rfl rfl fun v22_0 Hs22_0 hR22_0 => ?_
              obtain ⟨x22_0, A22_0, rfl, rfl, hbz22_0⟩ := hR22_0
              obtain ⟨acc22_0, hn22_0, hL22_0, hb22_0⟩ : ∃ acc, acc ≠ [] ∧ acc.length ≤ acc3.length + 200 ∧ BufS w0.heap.size 5 x22_0 A22_0 acc := ⟨_, by simp, by first | (simp; done) | (simp; omega), hbz22_0⟩
              refine WL.to2 ?_
              refine WL.nil ?_
              refine WE.then_normal ?_
              refine WC.sub (fr' := [(3, _), (4, _), (5, _), (7, _), (8, _), (10, _)]) ?_ ⟨rfl, rfl, rfl, rfl, rfl, rfl, trivial⟩
              refine WC.region ?_
              refine WL.q (oq_move rfl) rfl rfl rfl ?_
              refine WL.f1 ?_
              refine WL.f1 ?_
              refine WL.callW2 (B0.writeString _ b 36 (Pt b 0) x22_0 A22_0 acc22_0 (.inr rfl) lies36 hb22_0 _ (by first | (simp; done) | (simp; omega) | omega)) call21 rfl rfl rfl fun v23_1 Hs23_1 hR23_1 => ?_
              obtain ⟨x23_1, A23_1, rfl, rfl, hbz23_1⟩ := hR23_1
              obtain ⟨acc23_1, hn23_1, hL23_1, hb23_1⟩ : ∃ acc, acc ≠ [] ∧ acc.length ≤ acc22_0.length + 100000 ∧ BufS w0.heap.size 5 x23_1 A23_1 acc := ⟨_, by simp [hn22_0], by first | (simp; done) | (simp; omega), hbz23_1⟩
              refine WL.to2 ?_
              refine WL.nil ?_
              refine WE.meet (_, _, _, acc23_1) ?_ ⟨rfl, rfl, rfl, rfl, rfl, trivial⟩ (List.Perm.refl _)
              try dsimp only
              exact ⟨.inr rfl, hb23_1, by omega, by rw [q21, Bool.and_false]; exact decide_eq_false hn23_1⟩   -- meet 0
            ·
              try simp only [Bool.not_eq_eq_eq_not, Bool.not_true, Bool.not_false, decide_eq_true_eq, decide_eq_false_iff_not, Int.not_lt, Int.not_le, ne_eq, Decidable.not_not, ← List.length_eq_zero_iff] at q21
              refine WC.skip ?_
              refine WE.meet (_, _, _, acc3) ?_ ⟨rfl, rfl, rfl, rfl, rfl, trivial⟩ (List.Perm.refl _)
              try dsimp only
              exact ⟨ho3, hb3, by omega, by rw [q21, Bool.and_true]⟩   -- meet 1
          · rintro ⟨p4, v4, B4, acc4⟩ hp
            try dsimp only at hp
            obtain ⟨ho4, hb4, hl4, hx4⟩ := hp
            show WC _ _ _ _ _ _ ([(3, Pt b 0), (4, S h), (5, S pt), (7, I (st : Int)), (8, I (d : Int))]) ([[(b, .cells #[p4, v4] 36 (0, 0))], B4, A])
            refine WC.region ?_
            refine WL.q (oq_move rfl) rfl rfl rfl ?_
            refine WL.q (oq_move rfl) rfl rfl rfl ?_
            refine WL.q (oq_add rfl rfl (by rw [i64_lo, i64_hi]; (first | omega | (simp only [List.length_cons, List.length_nil, List.length_append, List.length_drop, List.length_take]; omega)))) rfl rfl rfl ?_
            refine WL.q (oq_add rfl rfl (by rw [i64_lo, i64_hi]; (first | omega | (simp only [List.length_cons, List.length_nil, List.length_append, List.length_drop, List.length_take]; omega)))) rfl rfl rfl ?_
            refine WL.q (oq_assign rfl) rfl rfl rfl ?_
            refine WL.nil ?_
            refine WE.block_normal ?_
            refine WE.again (st + d + 1, _, _, _, acc4) ?_ ?_ ⟨rfl, rfl, rfl, (gti rfl (by omega)), trivial⟩ (List.Perm.refl _)
            · try dsimp only   -- again 0
              have hl5 : acc4.length ≤ 3000 + 200000 * (st + d + 1) := arith_acc hl4 hl3
              refine ⟨by omega, ?_, ho4, hb4, hl5⟩
              rw [← hx3, hx4, cut_nat, split_some [46] (h.drop st) (by simp) d hf1, lok_cons (fun e => by have := split_pos 46 ((h.drop st).drop (d + 1)); rw [show ([46] : List UInt8).length = 1 from rfl] at e; rw [e] at this; simp at this), List.drop_drop, Bool.and_assoc]; rfl
            · (try dsimp only); omega
    · rintro ⟨p5, v5, B5, acc5⟩ hp
      try dsimp only at hp
      obtain ⟨ho5, hb5, hl5, hx5⟩ := hp
      show WC _ _ _ _ _ _ ([(3, Pt b 0), (4, S h), (5, S pt)]) ([[(b, .cells #[p5, v5] 36 (0, 0))], B5, A])
      refine WC.cut (ι := Value × Value × Hp × (List UInt8)) (fun i_ => (fun (p6 : Value) (v6 : Value) (B6 : Hp) (acc6 : List UInt8) => [(3, Pt b 0), (4, S h)]) i_.1 i_.2.1 i_.2.2.1 i_.2.2.2) (fun i_ => (fun (p6 : Value) (v6 : Value) (B6 : Hp) (acc6 : List UInt8) => [[(b, .cells #[p6, v6] 36 (0, 0))], B6, A]) i_.1 i_.2.1 i_.2.2.1 i_.2.2.2) (fun i_ => (fun (p6 : Value) (v6 : Value) (B6 : Hp) (acc6 : List UInt8) => B0.Own b p6 ∧ BufS w0.heap.size 5 v6 B6 acc6 ∧ acc6.length < 90000000001000 ∧ decide (acc6 = []) = (b0 && lok (split [46] h) && !(decide (h = []) && decide (pt ≠ [])))) i_.1 i_.2.1 i_.2.2.1 i_.2.2.2) ?_ ?_
      ·
        refine WC.seq ?_
        refine WC.region ?_
        refine WL.q (oq_move rfl) rfl rfl rfl ?_
        refine WL.q (oq_len_s Tryd.underlying9 rfl) rfl rfl rfl ?_
        refine WL.q (oq_eql rfl rfl) rfl rfl rfl ?_
        refine WL.q (oq_move rfl) rfl rfl rfl ?_
        refine WL.split 69 rfl (fun s25_3 => ?_) (fun s25_3 => ?_)
        ·
          try simp only [Bool.not_eq_eq_eq_not, Bool.not_true, Bool.not_false, decide_eq_true_eq, decide_eq_false_iff_not, Int.not_lt, Int.not_le, ne_eq, Decidable.not_not, ← List.length_eq_zero_iff] at s25_3
          refine WL.q (oq_move rfl) rfl rfl rfl ?_
          refine WL.q (oq_len_s Tryd.underlying9 rfl) rfl rfl rfl ?_
          refine WL.q (oq_neq rfl rfl) rfl rfl rfl ?_
          refine WL.q (oq_pick_t rfl rfl) rfl rfl rfl ?_
          refine WL.nil ?_
          refine WE.then_normal ?_
          refine WC.sub (fr' := [(3, _), (4, _), (73, _)]) ?_ ⟨rfl, rfl, rfl, trivial⟩
          refine WC.cond rfl (fun q25 => ?_) (fun q25 => ?_)
          ·
            try simp only [Bool.not_eq_eq_eq_not, Bool.not_true, Bool.not_false, decide_eq_true_eq, decide_eq_false_iff_not, Int.not_lt, Int.not_le, ne_eq, Decidable.not_not, ← List.length_eq_zero_iff] at q25
            refine WC.region ?_
            refine WL.f1 ?_
            refine WL.f1 ?_
            refine WL.callW2 (B0.writeString _ b 36 p5 v5 B5 acc5 ho5 lies36 hb5 _ (by first | (simp; done) | (simp; omega) | omega)) call21 rfl rfl rfl fun v26_0 Hs26_0 hR26_0 => ?_
            obtain ⟨x26_0, A26_0, rfl, rfl, hbz26_0⟩ := hR26_0
            obtain ⟨acc26_0, hn26_0, hL26_0, hb26_0⟩ : ∃ acc, acc ≠ [] ∧ acc.length ≤ acc5.length + 100 ∧ BufS w0.heap.size 5 x26_0 A26_0 acc := ⟨_, by simp, by first | (simp; done) | (simp; omega), hbz26_0⟩
            refine WL.to2 ?_
            refine WL.nil ?_
            refine WE.meet (_, _, _, acc26_0) ?_ ⟨rfl, rfl, trivial⟩ (List.Perm.refl _)
            try dsimp only
            exact ⟨.inr rfl, hb26_0, by omega, by rw [decide_eq_false hn26_0, decide_eq_true (show h = [] from List.eq_nil_of_length_eq_zero (by omega)), decide_eq_true (show pt ≠ [] from fun e => q25 (by rw [e]; rfl))]; simp⟩   -- meet 0
          ·
            try simp only [Bool.not_eq_eq_eq_not, Bool.not_true, Bool.not_false, decide_eq_true_eq, decide_eq_false_iff_not, Int.not_lt, Int.not_le, ne_eq, Decidable.not_not, ← List.length_eq_zero_iff] at q25
            refine WC.skip ?_
            refine WE.meet (_, _, _, acc5) ?_ ⟨rfl, rfl, trivial⟩ (List.Perm.refl _)
            try dsimp only
            exact ⟨ho5, hb5, by omega, by rw [hx5, decide_eq_false (show ¬ pt ≠ [] from fun hp => hp (List.eq_nil_of_length_eq_zero (by omega)))]; simp⟩   -- meet 1
        ·
          try simp only [Bool.not_eq_eq_eq_not, Bool.not_true, Bool.not_false, decide_eq_true_eq, decide_eq_false_iff_not, Int.not_lt, Int.not_le, ne_eq, Decidable.not_not, ← List.length_eq_zero_iff] at s25_3
          refine WL.skip rfl rfl rfl ?_
          refine WL.skip rfl rfl rfl ?_
          refine WL.skip rfl rfl rfl ?_
          refine WL.q (oq_pick_f rfl rfl) rfl rfl rfl ?_
          refine WL.nil ?_
          refine WE.then_normal ?_
          refine WC.sub (fr' := [(3, _), (4, _), (73, _)]) ?_ ⟨rfl, rfl, rfl, trivial⟩
          refine WC.cond_f rfl ?_
          refine WC.skip ?_
          refine WE.meet (_, _, _, acc5) ?_ ⟨rfl, rfl, trivial⟩ (List.Perm.refl _)
          try dsimp only
          exact ⟨ho5, hb5, by omega, by rw [hx5, decide_eq_false (show ¬ h = [] from fun e => s25_3 (by rw [e]; rfl))]; simp⟩   -- meet 2
      · rintro ⟨p6, v6, B6, acc6⟩ hp
        try dsimp only at hp
        obtain ⟨ho6, hb6, hl6, hx6⟩ := hp
        show WC _ _ _ _ _ _ ([(3, Pt b 0), (4, S h)]) ([[(b, .cells #[p6, v6] 36 (0, 0))], B6, A])
        refine WC.cut (ι := Value × Value × Hp × (List UInt8)) (fun i_ => (fun (p7 : Value) (v7 : Value) (B7 : Hp) (acc7 : List UInt8) => [(3, Pt b 0)]) i_.1 i_.2.1 i_.2.2.1 i_.2.2.2) (fun i_ => (fun (p7 : Value) (v7 : Value) (B7 : Hp) (acc7 : List UInt8) => [[(b, .cells #[p7, v7] 36 (0, 0))], B7, A]) i_.1 i_.2.1 i_.2.2.1 i_.2.2.2) (fun i_ => (fun (p7 : Value) (v7 : Value) (B7 : Hp) (acc7 : List UInt8) => B0.Own b p7 ∧ BufS w0.heap.size 5 v7 B7 acc7 ∧ acc7.length < 90000000002000 ∧ decide (acc7 = []) = vhost s) i_.1 i_.2.1 i_.2.2.1 i_.2.2.2) ?_ ?_
        ·
          refine WC.seq ?_
          refine WC.region ?_
          refine WL.q (oq_move rfl) rfl rfl rfl ?_
          refine WL.q (oq_len_s Tryd.underlying9 rfl) rfl rfl rfl ?_
          refine WL.q (oq_gtr rfl rfl) rfl rfl rfl ?_
          refine WL.nil ?_
          refine WE.then_normal ?_
          refine WC.sub (fr' := [(3, _), (77, _)]) ?_ ⟨rfl, rfl, trivial⟩
          refine WC.cond rfl (fun q27 => ?_) (fun q27 => ?_)
          ·
            try simp only [Bool.not_eq_eq_eq_not, Bool.not_true, Bool.not_false, decide_eq_true_eq, decide_eq_false_iff_not, Int.not_lt, Int.not_le, ne_eq, Decidable.not_not, ← List.length_eq_zero_iff] at q27
            refine WC.region ?_
            refine WL.f1 ?_
            refine WL.f1 ?_
            refine WL.callW2 (B0.writeString _ b 36 p6 v6 B6 acc6 ho6 lies36 hb6 _ (by first | (simp; done) | (simp; omega) | omega)) call21 rfl rfl rfl fun v28_0 Hs28_0 hR28_0 => ?_
            obtain ⟨x28_0, A28_0, rfl, rfl, hbz28_0⟩ := hR28_0
            obtain ⟨acc28_0, hn28_0, hL28_0, hb28_0⟩ : ∃ acc, acc ≠ [] ∧ acc.length ≤ acc6.length + 100 ∧ BufS w0.heap.size 5 x28_0 A28_0 acc := ⟨_, by simp, by first | (simp; done) | (simp; omega), hbz28_0⟩
            refine WL.to2 ?_
            refine WL.nil ?_
            refine WE.meet (_, _, _, acc28_0) ?_ ⟨rfl, trivial⟩ (List.Perm.refl _)
            try dsimp only
            exact ⟨.inr rfl, hb28_0, by omega, by rw [decide_eq_false hn28_0, vhost_of hst, ← hx6, decide_eq_false (show ¬ h.length ≤ 255 by omega)]; simp⟩   -- meet 0
          ·
            try simp only [Bool.not_eq_eq_eq_not, Bool.not_true, Bool.not_false, decide_eq_true_eq, decide_eq_false_iff_not, Int.not_lt, Int.not_le, ne_eq, Decidable.not_not, ← List.length_eq_zero_iff] at q27
            refine WC.skip ?_
            refine WE.meet (_, _, _, acc6) ?_ ⟨rfl, trivial⟩ (List.Perm.refl _)
            try dsimp only
            exact ⟨ho6, hb6, by omega, by rw [vhost_of hst, ← hx6, decide_eq_true (show h.length ≤ 255 by omega), Bool.and_true]⟩   -- meet 1
        · rintro ⟨p7, v7, B7, acc7⟩ hp
          try dsimp only at hp
          obtain ⟨ho7, hb7, hl7, hx7⟩ := hp
          show WC _ _ _ _ _ _ ([(3, Pt b 0)]) ([[(b, .cells #[p7, v7] 36 (0, 0))], B7, A])
          refine WC.seq ?_
          refine WC.seq ?_
          refine WC.region ?_
          refine WL.f1 ?_
          refine WL.f1 ?_
          refine WL.callW2 (B0.bstring _ b 36 p7 v7 B7 acc7 ho7 lies36 hb7 (by omega)) call23 rfl rfl rfl fun v29_0 Hs29_0 hR29_0 => ?_
          obtain ⟨rfl, rfl⟩ := hR29_0
          refine WL.to1 ?_
          refine WL.q (oq_len_s Tryd.underlying9 rfl) rfl rfl rfl ?_
          refine WL.q (oq_gtr rfl rfl) rfl rfl rfl ?_
          refine WL.nil ?_
          refine WE.then_normal ?_
          refine WC.sub (fr' := [(81, _)]) ?_ ⟨rfl, trivial⟩
          refine WC.cond rfl (fun q29 => ?_) (fun q29 => ?_)
          ·
            try simp only [Bool.not_eq_eq_eq_not, Bool.not_true, Bool.not_false, decide_eq_true_eq, decide_eq_false_iff_not, Int.not_lt, Int.not_le, ne_eq, Decidable.not_not, ← List.length_eq_zero_iff] at q29
            refine WC.seq ?_
            refine WC.region ?_
            refine WL.callA0 (errNew _) call24 rfl rfl rfl fun v30_0 N30_0 hR30_0 hN30_0 => ?_
            obtain ⟨p, rfl, rfl⟩ := hR30_0
            refine WL.q (oq_assign rfl) rfl rfl rfl ?_
            refine WL.nil ?_
            refine WE.then_normal ?_
            refine WC.sub (fr' := [(2, _)]) ?_ ⟨rfl, trivial⟩
            refine WC.ret ?_
            refine WE.then_ret ?_
            refine WE.forget hN30_0 ?_
            refine WE.lose hb ?_
            refine WE.add0 ?_
            refine WE.endA (.inl rfl) (res1 Tryd.results15 rfl) ?_ fresh0
            -- end 0
            exact .inr ⟨by rw [← hx7]; exact decide_eq_false (fun e => by rw [e] at q29; simp at q29), _, _, rfl⟩
          ·
            try simp only [Bool.not_eq_eq_eq_not, Bool.not_true, Bool.not_false, decide_eq_true_eq, decide_eq_false_iff_not, Int.not_lt, Int.not_le, ne_eq, Decidable.not_not, ← List.length_eq_zero_iff] at q29
            refine WC.skip ?_
            refine WE.then_normal ?_
            refine WC.sub (fr' := []) ?_ trivial
            refine WC.seq ?_
            refine WC.region ?_
            refine WL.q (oq_assign rfl) rfl rfl rfl ?_
            refine WL.nil ?_
            refine WE.then_normal ?_
            refine WC.sub (fr' := [(2, _)]) ?_ ⟨rfl, trivial⟩
            refine WC.ret ?_
            refine WE.lose hb ?_
            refine WE.add0 ?_
            refine WE.endA (.inl rfl) (res1 Tryd.results15 rfl) ?_ fresh0
            -- end 1
            exact .inl ⟨by rw [← hx7]; exact decide_eq_true (List.eq_nil_of_length_eq_zero (by omega)), rfl⟩

/-- given.example/pub-tinwright/impl.HHost -/
theorem iHost (A : Hp) (hE : HE A) (s : List UInt8) (hs : s.length ≤ 100000) (hb1 : (91 : UInt8) ∉ s) (hb2 : (93 : UInt8) ∉ s) : FnR Tryd.prog 9 [S s] A (.bool (vhost s)) := by
  refine FnR.enter (n := 6) Tryd.func9 rfl rfl fun w0 => ?_
  refine WC.sub (fr' := [(0, _)]) ?_ ⟨rfl, trivial⟩
  refine WC.seq ?_
  refine WC.region ?_
  refine WL.q (oq_assign rfl) rfl rfl rfl ?_
  refine WL.nil ?_
  refine WE.then_normal ?_
  refine WC.sub (fr' := [(0, _)]) ?_ ⟨rfl, trivial⟩
  refine WC.seq ?_
  refine WC.region ?_
  refine WL.q (oq_move rfl) rfl rfl rfl ?_
  refine WL.callA (vEndpoint A hE s hs hb1 hb2) call15 rfl rfl rfl fun v1_1 N1_1 hR1_1 hN1_1 => ?_
  have hv := hR1_1
  refine WL.q (oq_ieql Tryd.underlying27 rfl ((by rcases hv with ⟨_, h⟩ | ⟨_, h⟩; exact .inl h; exact .inr h))) rfl rfl rfl ?_
  refine WL.q (oq_assign rfl) rfl rfl rfl ?_
  refine WL.nil ?_
  refine WE.then_normal ?_
  refine WC.sub (fr' := [(2, _)]) ?_ ⟨rfl, trivial⟩
  refine WC.ret ?_
  refine WE.forget hN1_1 ?_
  refine WE.endR (.inl rfl) (res1 Tryd.results9 rfl) ?_
  -- end 0
  rcases hv with ⟨h1, rfl⟩ | ⟨h1, k, u, rfl⟩ <;> rw [h1] <;> rfl

end N2
end Go.Proofs.YtbcmbmmnpnbakaaDoor
