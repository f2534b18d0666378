/- Walks of the reading of bytes. -/
import Derived.Test.YtcgpajknehhdgaaDoorVH
import Derived.Test.YtcgpajknehhdgaaDoorProg
namespace Go.Proofs.YtcgpajknehhdgaaDoor
open Go Go.RowKit V
set_option linter.unusedSimpArgs false
set_option linter.unusedVariables false
set_option maxRecDepth 10000
namespace K0
theorem call76 : Callable Tryd.prog 76 := ⟨_, Tryd.func76, rfl, by kernel_rfl⟩
theorem flat2 : Flat Tryd.prog 2 := ⟨_, Tryd.underlying2, by simp⟩
theorem flat22 : Flat Tryd.prog 22 := ⟨_, Tryd.underlying22, by simp⟩
theorem flat53 : Flat Tryd.prog 53 := ⟨_, Tryd.underlying53, by simp⟩
theorem ty2 : Ty Tryd.prog 2 (.int .i64 0) 1 8 := ty_of (by kernel_rfl)
theorem ty3 : Ty Tryd.prog 3 (.int .i64 0) 1 8 := ty_of (by kernel_rfl)
theorem ty5 : Ty Tryd.prog 5 (.int .u8 0) 1 1 := ty_of (by kernel_rfl)
theorem ty22 : Ty Tryd.prog 22 (.slice none 0 0) 1 24 := ty_of (by kernel_rfl)
theorem fld83_0 : Fld Tryd.prog 83 0 0 22 := fld_of Tryd.underlying83 rfl rfl rfl ty22 (by decide)
theorem fld83_1 : Fld Tryd.prog 83 1 1 2 := fld_of Tryd.underlying83 rfl rfl rfl ty2 (by decide)
theorem fld83_2 : Fld Tryd.prog 83 2 2 3 := fld_of Tryd.underlying83 rfl rfl rfl ty3 (by decide)

/-- a reader of bytes -/
abbrev RB (b : Nat) (v : Value) (i pr : Int) : Hp := [(b, .cells #[v, I i, I pr] 83 (0, 0))]
/-- the end of a file, or nothing -/
def eofv (k : TypeId) (p : Addr) : Bool → Value
  | true => .iface k (.pointer (some p))
  | false => .nilIface
theorem eofv_or (k : TypeId) (p : Addr) (b : Bool) : eofv k p b = .nilIface ∨ ∃ k' u, eofv k p b = .iface k' u := by cases b; exact .inl rfl; exact .inr ⟨_, _, rfl⟩
theorem eofv_nil (k : TypeId) (p : Addr) (b : Bool) : nilI (eofv k p b) = !b := by cases b <;> rfl
/-- what the package's variables hold that a reader names -/
structure Errs (A : Hp) (kE : TypeId) (pE : Addr) : Prop where
  comp : ∃ e, Comp Tryd.prog kE e
  eof : ∃ t f, (0, .cells #[.iface kE (.pointer (some pE))] t f) ∈ A
  uneof : ∃ k p t f, (2, .cells #[.iface k (.pointer (some p))] t f) ∈ A
  short : ∃ k p t f, (1, .cells #[.iface k (.pointer (some p))] t f) ∈ A
theorem inv57_Read : Inv1 Tryd.prog 57 "Read" 150 := fun x a w => by kernel_rfl
theorem nok57_Read (p : Addr) : NilOk Tryd.prog 57 (.pointer (some p)) "Read" := fun w => by kernel_rfl
theorem rd_at {v : Value} {A : Hp} {xs : List UInt8} (i : Nat) (h : i ≤ xs.length) (hr : RdS 1 v A ((xs.length : Int) - (i : Int)).toNat (cut (bytesV xs) ((i : Int) * ((1 : Nat) : Int)) ((xs.length : Int) * ((1 : Nat) : Int)))) : RdS 1 v A (xs.length - i) (bytesV (xs.drop i)) := by
  rw [cut_bytes] at hr
  have e : cut xs ((i : Int) * ((1 : Nat) : Int)) ((xs.length : Int) * ((1 : Nat) : Int)) = xs.drop i := by
    unfold cut
    rw [show ((xs.length : Int) * ((1 : Nat) : Int)).toNat = xs.length by omega, show ((i : Int) * ((1 : Nat) : Int)).toNat = i by omega, List.take_length]
  rw [e, show ((xs.length : Int) - (i : Int)).toNat = xs.length - i by omega] at hr
  exact hr
/-- what a reading of m bytes gives -/
def RdRes (m i : Nat) (xs : List UInt8) (br bb : Nat) (e : TypeId) (vx : Value) (A : Hp) (v : Value) (Hs : List Hp) : Prop :=
  ∃ vn ve i2 pr2 l2, v = .tuple #[vn, ve] ∧ Hs = [RB br vx ((i2 : Nat) : Int) pr2, Bf bb e l2, A] ∧ i2 ≤ xs.length ∧ l2.length = m ∧
    ((m ≤ xs.length - i ∧ vn = I (m : Int) ∧ ve = .nilIface ∧ i2 = i + m ∧ l2 = (xs.drop i).take m) ∨ (xs.length - i < m ∧ ∃ k x, ve = .iface k x))
theorem rd_step {xs l2 l3 : List UInt8} {i j n k m : Nat} {eo2 : Bool} (hj : j = i + n) (hn : n < m) (hjx : j ≤ xs.length) (hl : l2.length = m) (ht : l2.take n = (xs.drop i).take n) (h1 : eo2 = true → xs.length ≤ j ∧ k = 0 ∧ l3 = l2)
    (h2 : eo2 = false → j < xs.length ∧ k = min (xs.length - j) (m - n) ∧ l3 = l2.take (0 + n) ++ (xs.drop j).take k ++ l2.drop (0 + n + k)) :
    (j + k = i + (n + k) ∧ n + k ≤ m ∧ j + k ≤ xs.length ∧ l3.length = m ∧ l3.take (n + k) = (xs.drop i).take (n + k) ∧ (eo2 = true → xs.length ≤ j + k ∧ n + k < m)) ∧ (m - (n + k)) + (bif eo2 then 0 else 1) < (m - n) + 1 := by
  cases eo2 with
  | true =>
    obtain ⟨h1, rfl, rfl⟩ := h1 rfl
    exact ⟨⟨by omega, by omega, by omega, hl, by simpa using ht, fun _ => ⟨by omega, by omega⟩⟩, by simp⟩
  | false =>
    obtain ⟨h1, hk, h3⟩ := h2 rfl
    have e1 : (l2.take n).length = n := by rw [List.length_take]; omega
    have e2 : ((xs.drop j).take k).length = k := by rw [List.length_take, List.length_drop]; omega
    rw [Nat.zero_add] at h3
    have e3 : (l2.take n ++ (xs.drop j).take k).length = n + k := by rw [List.length_append, e1, e2]
    refine ⟨⟨by omega, by omega, by omega, ?_, ?_, fun h => by cases h⟩, by simp; omega⟩
    · rw [h3, List.length_append, e3, List.length_drop]; omega
    · rw [h3, List.take_left' e3, ht, List.take_add, hj, List.drop_drop]
/-- (*bytes.Reader).Read -/
theorem read (base br bb off m c : Nat) (e : TypeId) (l : List UInt8) (A : Hp) (xs : List UInt8) (vx : Value) (hr : RdS 1 vx A xs.length (bytesV xs)) (hx : xs.length ≤ 1000000000) (kE : TypeId) (pE : Addr) (hE : Errs A kE pE) (i : Nat) (pr : Int) (hi : i ≤ xs.length) (hm : off + m ≤ l.length) (hmc : m ≤ c) (hl : l.length ≤ 1000000000) : FnW Tryd.prog 150 [Pt br 0, Sl bb off m c] base [[(br, .cells #[vx, I (i : Int), I pr] 83 (0, 0))], Bf bb e l, A] (fun v Hs => ∃ (k : Nat) (eo : Bool) (pr2 : Int) (l2 : List UInt8), v = .tuple #[I (k : Int), eofv kE pE eo] ∧ Hs = [RB br vx ((i : Int) + (k : Int)) pr2, Bf bb e l2, A] ∧ (eo = true → xs.length ≤ i ∧ k = 0 ∧ l2 = l) ∧ (eo = false → i < xs.length ∧ k = min (xs.length - i) m ∧ l2 = l.take off ++ (xs.drop i).take k ++ l.drop (off + k))) := by
  obtain ⟨tE, fE, hEm⟩ := hE.eof
  refine FnW.enter (n := 39) Tryd.func150 rfl rfl fun w0 R0 hbase => ?_
  subst hbase
  show WC _ _ _ _ _ _ _ ([[(br, .cells #[vx, I (i : Int), I pr] 83 (0, 0))], Bf bb e l, A, R0])
  refine WC.sub (fr' := [(0, _), (1, _)]) ?_ ⟨rfl, rfl, trivial⟩
  refine WC.seq ?_
  refine WC.region ?_
  refine WL.q (oq_assign rfl) rfl rfl rfl ?_
  refine WL.q (oq_assign rfl) rfl rfl rfl ?_
  refine WL.nil ?_
  refine WE.then_normal ?_
  refine WC.sub (fr' := [(0, _), (1, _), (5, _)]) ?_ ⟨rfl, rfl, rfl, trivial⟩
  refine WC.seq ?_
  refine WC.seq ?_
  refine WC.quiet (by kernel_rfl) (by kernel_rfl) ?_
  refine WQ.q (oq_move rfl) rfl rfl rfl ?_
  refine WQ.q (oq_nilCheck rfl) rfl rfl rfl ?_
  refine WQ.q (oq_fieldAddr fld83_1 rfl) rfl rfl rfl ?_
  refine WQ.q (oq_load flat2 rfl (.head _) (List.mem_singleton.2 rfl) rfl) rfl rfl rfl ?_
  refine WQ.q (oq_move rfl) rfl rfl rfl ?_
  refine WQ.q (oq_nilCheck rfl) rfl rfl rfl ?_
  refine WQ.q (oq_fieldAddr fld83_0 rfl) rfl rfl rfl ?_
  refine WQ.q (oq_load flat22 rfl (.head _) (List.mem_singleton.2 rfl) rfl) rfl rfl rfl ?_
  refine WQ.q (oq_len_rd hr Tryd.underlying22 rfl) rfl rfl rfl ?_
  refine WQ.q (oq_geq rfl rfl) rfl rfl rfl ?_
  refine WQ.nil ?_
  refine WE.then_normal ?_
  refine WC.sub (fr' := [(0, _), (1, _), (5, _), (15, _)]) ?_ ⟨rfl, rfl, rfl, rfl, trivial⟩
  refine WC.cond rfl (fun q1 => ?_) (fun q1 => ?_)
  ·
    try simp only [Bool.not_eq_eq_eq_not, Bool.not_true, Bool.not_false, decide_eq_true_eq, decide_eq_false_iff_not, Int.not_lt, Int.not_le, ne_eq, Decidable.not_not, ← List.length_eq_zero_iff] at q1
    refine WC.seq ?_
    refine WC.quiet (by kernel_rfl) (by kernel_rfl) ?_
    refine WQ.q (oq_load flat53 rfl (.tail _ (.tail _ (.head _))) hEm rfl) rfl rfl rfl ?_
    refine WQ.q (oq_assign rfl) rfl rfl rfl ?_
    refine WQ.q (oq_assign rfl) rfl rfl rfl ?_
    refine WQ.nil ?_
    refine WE.then_normal ?_
    refine WC.sub (fr' := [(4, _), (5, _)]) ?_ ⟨rfl, rfl, trivial⟩
    refine WC.ret ?_
    refine WE.then_ret ?_
    refine WE.endW3 (.inl rfl) (res2 Tryd.results150 rfl rfl) ?_
    -- end 0
    exact ⟨0, true, pr, l, rfl, by rw [Int.natCast_zero, Int.add_zero], fun _ => ⟨by omega, rfl, rfl⟩, fun h => by cases h⟩
  ·
    try simp only [Bool.not_eq_eq_eq_not, Bool.not_true, Bool.not_false, decide_eq_true_eq, decide_eq_false_iff_not, Int.not_lt, Int.not_le, ne_eq, Decidable.not_not, ← List.length_eq_zero_iff] at q1
    refine WC.skip ?_
    refine WE.then_normal ?_
    refine WC.sub (fr' := [(0, _), (1, _), (5, _)]) ?_ ⟨rfl, rfl, rfl, trivial⟩
    refine WC.seq ?_
    refine WC.region ?_
    refine WL.q (oq_move rfl) rfl rfl rfl ?_
    refine WL.q (oq_nilCheck rfl) rfl rfl rfl ?_
    refine WL.q (oq_fieldAddr fld83_2 rfl) rfl rfl rfl ?_
    refine WL.store1 #[_, _, _] ty3 rfl rfl (by first | rfl | exact OwS.one one_) (Nat.lt_of_lt_of_le (Nat.lt_succ_self _) (Nat.le_of_ble_eq_true rfl)) rfl rfl ?_
    refine WL.nil ?_
    refine WE.then_normal ?_
    refine WC.sub (fr' := [(0, _), (1, _), (5, _)]) ?_ ⟨rfl, rfl, rfl, trivial⟩
    refine WC.seq ?_
    obtain ⟨v2, hv2, hov⟩ := slice_val (i := (i : Int)) (j := (xs.length : Int)) hr ty5 (by omega)
    have hrx := rd_at i (by omega) hv2
    refine WC.tailM (pl := []) (ql := [_, _, _, _, _, _, _, _, _, _]) (tl := [_, _]) [] [0, 1, 2, 3, 4, 5, 6, 7, 8, 9] 10 [11] (by kernel_rfl) (by kernel_rfl) (by kernel_rfl) (by kernel_rfl) (by kernel_rfl) (by kernel_rfl) (by decide) rfl rfl rfl (by decide) (by repeat (first | with_reducible exact QOk.body | with_reducible apply QOk.then | with_reducible apply QOk.block | exact QOk.body | apply QOk.then | apply QOk.block)) ?_
    refine WM.nil ?_
    refine WY.q (oq_move rfl) rfl rfl rfl ?_
    refine WY.q (oq_move rfl) rfl rfl rfl ?_
    refine WY.q (oq_nilCheck rfl) rfl rfl rfl ?_
    refine WY.q (oq_fieldAddr fld83_0 rfl) rfl rfl rfl ?_
    refine WY.q (oq_load flat22 rfl (.head _) (List.mem_singleton.2 rfl) rfl) rfl rfl rfl ?_
    refine WY.q (oq_move rfl) rfl rfl rfl ?_
    refine WY.q (oq_nilCheck rfl) rfl rfl rfl ?_
    refine WY.q (oq_fieldAddr fld83_1 rfl) rfl rfl rfl ?_
    refine WY.q (oq_load flat2 rfl (.head _) (List.mem_singleton.2 rfl) rfl) rfl rfl rfl ?_
    refine WY.q (hov Tryd.underlying22 rfl ⟨_, rfl⟩ rfl) rfl rfl rfl ?_
    refine WY.nil ?_
    refine WL.f1 ?_
    refine WL.copyB Tryd.underlying22 ty5 rfl rfl hrx (.tail _ (.head _)) (by omega) rfl rfl ?_
    refine WL.q (oq_assign rfl) rfl rfl rfl ?_
    refine WL.nil ?_
    refine WE.then_normal ?_
    refine WC.sub (fr' := [(0, _), (4, _), (5, _)]) ?_ ⟨rfl, rfl, rfl, trivial⟩
    refine WC.seq ?_
    refine WC.region ?_
    refine WL.q (oq_move rfl) rfl rfl rfl ?_
    refine WL.q (oq_nilCheck rfl) rfl rfl rfl ?_
    refine WL.q (oq_fieldAddr fld83_1 rfl) rfl rfl rfl ?_
    refine WL.q (oq_load flat2 rfl (.tail _ (.head _)) (List.mem_singleton.2 rfl) rfl) rfl rfl rfl ?_
    refine WL.q (oq_move rfl) rfl rfl rfl ?_
    refine WL.q (oq_add rfl rfl (by rw [i64_lo, i64_hi]; (first | omega | (simp only [List.length_cons, List.length_nil, List.length_append, List.length_drop, List.length_take]; omega)))) rfl rfl rfl ?_
    refine WL.q (oq_nilCheck rfl) rfl rfl rfl ?_
    refine WL.q (oq_fieldAddr fld83_1 rfl) rfl rfl rfl ?_
    refine WL.f1 ?_
    refine WL.store1 #[_, _, _] ty2 rfl rfl (by first | rfl | exact OwS.one one_) (Nat.lt_of_lt_of_le (Nat.lt_succ_self _) (Nat.le_of_ble_eq_true rfl)) rfl rfl ?_
    refine WL.nil ?_
    refine WE.then_normal ?_
    refine WC.sub (fr' := [(4, _), (5, _)]) ?_ ⟨rfl, rfl, trivial⟩
    refine WC.ret ?_
    refine WE.endW3 (.inl rfl) (res2 Tryd.results150 rfl rfl) ?_
    -- end 1
    exact ⟨min (xs.length - i) m, false, _, _, rfl, rfl, (fun h => nomatch h), fun _ => ⟨by omega, rfl, rfl⟩⟩

/-- io.ReadAtLeast -/
theorem readLeast (base br bb m : Nat) (e : TypeId) (l : List UInt8) (A : Hp) (xs : List UInt8) (vx : Value) (hr : RdS 1 vx A xs.length (bytesV xs)) (hx : xs.length ≤ 1000000000) (kE : TypeId) (pE : Addr) (hE : Errs A kE pE) (i : Nat) (pr : Int) (hi : i ≤ xs.length) (hl : l.length = m) (hm1 : 1 ≤ m) (hm : m ≤ 1000000000) : FnW Tryd.prog 76 [.iface 57 (Pt br 0), Sl bb 0 m m, I (m : Int)] base [[(br, .cells #[vx, I (i : Int), I pr] 83 (0, 0))], Bf bb e l, A] (RdRes m i xs br bb e vx A) := by
  obtain ⟨tE, fE, hEm⟩ := hE.eof
  obtain ⟨eE, hcomp⟩ := hE.comp
  obtain ⟨kU, pU, tU, fU, hUm⟩ := hE.uneof
  obtain ⟨kS, pS, tS, fS, hSm⟩ := hE.short
  refine FnW.enter (n := 46) Tryd.func76 rfl rfl fun w0 R0 hbase => ?_
  subst hbase
  show WC _ _ _ _ _ _ _ ([[(br, .cells #[vx, I (i : Int), I pr] 83 (0, 0))], Bf bb e l, A, R0])
  refine WC.sub (fr' := [(0, _), (1, _), (2, _)]) ?_ ⟨rfl, rfl, rfl, trivial⟩
  refine WC.seq ?_
  refine WC.region ?_
  refine WL.q (oq_assign rfl) rfl rfl rfl ?_
  refine WL.q (oq_assign rfl) rfl rfl rfl ?_
  refine WL.nil ?_
  refine WE.then_normal ?_
  refine WC.sub (fr' := [(0, _), (1, _), (2, _), (6, _), (7, _)]) ?_ ⟨rfl, rfl, rfl, rfl, rfl, trivial⟩
  refine WC.seq ?_
  refine WC.seq ?_
  refine WC.region ?_
  refine WL.q (oq_move rfl) rfl rfl rfl ?_
  refine WL.q (oq_len_sl Tryd.underlying22 rfl) rfl rfl rfl ?_
  refine WL.q (oq_move rfl) rfl rfl rfl ?_
  refine WL.q (oq_lss rfl rfl) rfl rfl rfl ?_
  refine WL.nil ?_
  refine WE.then_normal ?_
  refine WC.sub (fr' := [(0, _), (1, _), (2, _), (6, _), (7, _), (12, _)]) ?_ ⟨rfl, rfl, rfl, rfl, rfl, rfl, trivial⟩
  refine WC.cond rfl (fun q1 => ?_) (fun q1 => ?_)
  ·
    try simp only [Bool.not_eq_eq_eq_not, Bool.not_true, Bool.not_false, decide_eq_true_eq, decide_eq_false_iff_not, Int.not_lt, Int.not_le, ne_eq, Decidable.not_not, ← List.length_eq_zero_iff] at q1
    refine WC.seq ?_
    refine WC.quiet (by kernel_rfl) (by kernel_rfl) ?_
    refine WQ.q (oq_load flat53 rfl (.tail _ (.tail _ (.head _))) hSm rfl) rfl rfl rfl ?_
    refine WQ.q (oq_assign rfl) rfl rfl rfl ?_
    refine WQ.q (oq_assign rfl) rfl rfl rfl ?_
    refine WQ.nil ?_
    refine WE.then_normal ?_
    refine WC.sub (fr' := [(6, _), (7, _)]) ?_ ⟨rfl, rfl, trivial⟩
    refine WC.ret ?_
    refine WE.then_ret ?_
    refine WE.endW3 (.inl rfl) (res2 Tryd.results76 rfl rfl) ?_
    -- end 0
    first | (exfalso; omega) | exact ⟨_, _, j, pr2, l2, rfl, rfl, hjx, hl2, .inr ⟨by have := heo rfl; omega, _, _, rfl⟩⟩ | exact ⟨_, _, j, pr2, l2, rfl, rfl, hjx, hl2, .inl ⟨by omega, by rw [show n = m by omega], rfl, by omega, by rw [show n = m by omega] at ht; rw [← ht, List.take_of_length_le (by omega)]⟩⟩
  ·
    try simp only [Bool.not_eq_eq_eq_not, Bool.not_true, Bool.not_false, decide_eq_true_eq, decide_eq_false_iff_not, Int.not_lt, Int.not_le, ne_eq, Decidable.not_not, ← List.length_eq_zero_iff] at q1
    refine WC.skip ?_
    refine WE.then_normal ?_
    refine WC.sub (fr' := [(0, _), (1, _), (2, _), (6, _), (7, _)]) ?_ ⟨rfl, rfl, rfl, rfl, rfl, trivial⟩
    refine WC.seq ?_
    refine WC.block ?_
    refine WC.loop (ι := Nat × Nat × Bool × Int × (List UInt8)) (fun i_ => (fun (j : Nat) (n : Nat) (eo : Bool) (pr2 : Int) (l2 : List UInt8) => [(0, .iface 57 (Pt br 0)), (1, Sl bb 0 m m), (2, I (m : Int)), (6, I (n : Int)), (7, eofv kE pE eo)]) i_.1 i_.2.1 i_.2.2.1 i_.2.2.2.1 i_.2.2.2.2) (fun i_ => (fun (j : Nat) (n : Nat) (eo : Bool) (pr2 : Int) (l2 : List UInt8) => [[(br, .cells #[vx, I (j : Int), I pr2] 83 (0, 0))], Bf bb e l2, A, R0]) i_.1 i_.2.1 i_.2.2.1 i_.2.2.2.1 i_.2.2.2.2) (fun i_ => (fun (j : Nat) (n : Nat) (eo : Bool) (pr2 : Int) (l2 : List UInt8) => j = i + n ∧ n ≤ m ∧ j ≤ xs.length ∧ l2.length = m ∧ l2.take n = (xs.drop i).take n ∧ (eo = true → xs.length ≤ j ∧ n < m)) i_.1 i_.2.1 i_.2.2.1 i_.2.2.2.1 i_.2.2.2.2) (fun i_ => (fun (j : Nat) (n : Nat) (eo : Bool) (pr2 : Int) (l2 : List UInt8) => (m - n) + (bif eo then 0 else 1)) i_.1 i_.2.1 i_.2.2.1 i_.2.2.2.1 i_.2.2.2.2) ((i, 0, false, _, _)) ?_ ⟨rfl, rfl, rfl, rfl, rfl, trivial⟩ (List.Perm.refl _) ?_
    · try dsimp only
      exact ⟨by omega, by omega, hi, hl, by simp, fun h => by cases h⟩
    · rintro ⟨j, n, eo, pr2, l2⟩ hp
      try dsimp only at hp
      obtain ⟨hj, hn, hjx, hl2, ht, heo⟩ := hp
      show WC _ _ _ _ _ _ ([(0, .iface 57 (Pt br 0)), (1, Sl bb 0 m m), (2, I (m : Int)), (6, I (n : Int)), (7, eofv kE pE eo)]) ([[(br, .cells #[vx, I (j : Int), I pr2] 83 (0, 0))], Bf bb e l2, A, R0])
      refine WC.seq ?_
      refine WC.seq ?_
      refine WC.region ?_
      refine WL.q (oq_move rfl) rfl rfl rfl ?_
      refine WL.q (oq_move rfl) rfl rfl rfl ?_
      refine WL.q (oq_lss rfl rfl) rfl rfl rfl ?_
      refine WL.q (oq_move rfl) rfl rfl rfl ?_
      refine WL.split 17 rfl (fun s3_3 => ?_) (fun s3_3 => ?_)
      ·
        try simp only [Bool.not_eq_eq_eq_not, Bool.not_true, Bool.not_false, decide_eq_true_eq, decide_eq_false_iff_not, Int.not_lt, Int.not_le, ne_eq, Decidable.not_not, ← List.length_eq_zero_iff] at s3_3
        refine WL.q (oq_move rfl) rfl rfl rfl ?_
        refine WL.q (oq_ieql Tryd.underlying53 rfl (eofv_or kE pE eo)) rfl rfl rfl ?_
        refine WL.q (oq_pick_t rfl rfl) rfl rfl rfl ?_
        refine WL.nil ?_
        refine WE.then_normal ?_
        refine WC.sub (fr' := [(0, _), (1, _), (2, _), (6, _), (7, _), (20, _)]) ?_ ⟨rfl, rfl, rfl, rfl, rfl, rfl, trivial⟩
        refine WC.cond rfl (fun q3 => ?_) (fun q3 => ?_)
        ·
          try simp only [Bool.not_eq_eq_eq_not, Bool.not_true, Bool.not_false, decide_eq_true_eq, decide_eq_false_iff_not, Int.not_lt, Int.not_le, ne_eq, Decidable.not_not, ← List.length_eq_zero_iff] at q3
          refine WC.skip ?_
          refine WE.then_normal ?_
          refine WC.sub (fr' := [(0, _), (1, _), (2, _), (6, _)]) ?_ ⟨rfl, rfl, rfl, rfl, trivial⟩
          refine WC.block ?_
          refine WC.seq ?_
          have hef : eo = false := by simpa [eofv_nil] using q3
          refine WC.region ?_
          refine WL.q (oq_assign rfl) rfl rfl rfl ?_
          refine WL.nil ?_
          refine WE.then_normal ?_
          refine WC.sub (fr' := [(0, _), (1, _), (2, _), (6, _)]) ?_ ⟨rfl, rfl, rfl, rfl, trivial⟩
          refine WC.seq ?_
          refine WC.tailM (pl := []) (ql := [_, _, _, _, _, _, _]) (tl := [_, _, _, _, _, _]) [] [0, 1, 2, 3, 4, 5, 6] 7 [8, 9, 10, 11, 12] (by kernel_rfl) (by kernel_rfl) (by kernel_rfl) (by kernel_rfl) (by kernel_rfl) (by kernel_rfl) (by decide) rfl rfl rfl (by decide) (by repeat (first | with_reducible exact QOk.body | with_reducible apply QOk.then | with_reducible apply QOk.block | exact QOk.body | apply QOk.then | apply QOk.block)) ?_
          refine WM.nil ?_
          refine WY.q (oq_move rfl) rfl rfl rfl ?_
          refine WY.q (oq_move rfl) rfl rfl rfl ?_
          refine WY.q (oq_move rfl) rfl rfl rfl ?_
          refine WY.q (oq_sliceSl (i := n) Tryd.underlying22 ty5 rfl (by omega) ⟨_, rfl⟩ rfl (by omega) (by omega)) rfl rfl rfl ?_
          refine WY.q (oq_makeMeth rfl) rfl rfl rfl ?_
          refine WY.q (oq_nilMeth rfl (nok57_Read _)) rfl rfl rfl ?_
          refine WY.q (oq_move rfl) rfl rfl rfl ?_
          refine WY.nil ?_
          refine WL.f2 ?_
          refine WL.f2 ?_
          refine WL.f2 ?_
          refine WL.callWE (fun a w hf => ent_inv1 inv57_Read rfl rfl hf w) (read _ br bb (0 + n) (m - n) (m - n) e l2 A xs vx hr hx kE pE hE j pr2 (by omega) (by omega) (by omega) (by omega)) rfl rfl rfl rfl fun v5_7 Hs5_7 hR5_7 => ?_
          obtain ⟨k, eo2, pr3, l3, rfl, rfl, hk1, hk2⟩ := hR5_7
          have hkb : k ≤ m := by
            cases eo2 with
            | false => have := (hk2 rfl).2.1; omega
            | true => have := (hk1 rfl).2.1; omega
          refine WL.app3 ?_
          refine WL.q (oq_move rfl) rfl rfl rfl ?_
          refine WL.q (oq_extract rfl rfl) rfl rfl rfl ?_
          refine WL.q (oq_extract rfl rfl) rfl rfl rfl ?_
          refine WL.q (oq_assign rfl) rfl rfl rfl ?_
          refine WL.q (oq_assign rfl) rfl rfl rfl ?_
          refine WL.nil ?_
          refine WE.then_normal ?_
          refine WC.sub (fr' := [(0, _), (1, _), (2, _), (6, _), (7, _), (8, _)]) ?_ ⟨rfl, rfl, rfl, rfl, rfl, rfl, trivial⟩
          refine WC.region ?_
          refine WL.q (oq_move rfl) rfl rfl rfl ?_
          refine WL.q (oq_move rfl) rfl rfl rfl ?_
          refine WL.q (oq_add rfl rfl (by rw [i64_lo, i64_hi]; (first | omega | (simp only [List.length_cons, List.length_nil, List.length_append, List.length_drop, List.length_take]; omega)))) rfl rfl rfl ?_
          refine WL.q (oq_assign rfl) rfl rfl rfl ?_
          refine WL.nil ?_
          refine WE.block_normal ?_
          have hst := rd_step hj (by omega) hjx hl2 ht hk1 hk2
          refine WE.again (j + k, n + k, eo2, _, _) ?_ ?_ ⟨rfl, rfl, rfl, rfl, rfl, trivial⟩ (List.Perm.refl _)
          · try dsimp only   -- again 0
            exact hst.1
          · (try dsimp only); rw [hef]; exact hst.2
        ·
          try simp only [Bool.not_eq_eq_eq_not, Bool.not_true, Bool.not_false, decide_eq_true_eq, decide_eq_false_iff_not, Int.not_lt, Int.not_le, ne_eq, Decidable.not_not, ← List.length_eq_zero_iff] at q3
          refine WC.exit ?_
          refine WE.then_exit ?_
          refine WE.then_exit ?_
          refine WE.block_same ?_
          refine WE.then_normal ?_
          refine WC.sub (fr' := [(2, _), (6, _), (7, _)]) ?_ ⟨rfl, rfl, rfl, trivial⟩
          refine WC.seq ?_
          refine WC.seq ?_
          refine WC.region ?_
          refine WL.q (oq_move rfl) rfl rfl rfl ?_
          refine WL.q (oq_move rfl) rfl rfl rfl ?_
          refine WL.q (oq_geq rfl rfl) rfl rfl rfl ?_
          refine WL.nil ?_
          refine WE.then_normal ?_
          refine WC.sub (fr' := [(6, _), (7, _), (37, _)]) ?_ ⟨rfl, rfl, rfl, trivial⟩
          refine WC.cond rfl (fun q7 => ?_) (fun q7 => ?_)
          ·
            try simp only [Bool.not_eq_eq_eq_not, Bool.not_true, Bool.not_false, decide_eq_true_eq, decide_eq_false_iff_not, Int.not_lt, Int.not_le, ne_eq, Decidable.not_not, ← List.length_eq_zero_iff] at q7
            refine WC.region ?_
            refine WL.q (oq_assign rfl) rfl rfl rfl ?_
            refine WL.nil ?_
            refine WE.then_normal ?_
            refine WC.sub (fr' := [(6, _), (7, _)]) ?_ ⟨rfl, rfl, trivial⟩
            refine WC.ret ?_
            refine WE.endW3 (.inl rfl) (res2 Tryd.results76 rfl rfl) ?_
            -- end 1
            first | (exfalso; omega) | exact ⟨_, _, j, pr2, l2, rfl, rfl, hjx, hl2, .inr ⟨by have := heo rfl; omega, _, _, rfl⟩⟩ | exact ⟨_, _, j, pr2, l2, rfl, rfl, hjx, hl2, .inl ⟨by omega, by rw [show n = m by omega], rfl, by omega, by rw [show n = m by omega] at ht; rw [← ht, List.take_of_length_le (by omega)]⟩⟩
          ·
            try simp only [Bool.not_eq_eq_eq_not, Bool.not_true, Bool.not_false, decide_eq_true_eq, decide_eq_false_iff_not, Int.not_lt, Int.not_le, ne_eq, Decidable.not_not, ← List.length_eq_zero_iff] at q7
            refine WC.seq ?_
            have het : eo = true := by first | (exfalso; omega) | (simpa [eofv_nil] using q3)
            subst het
            refine WC.region ?_
            refine WL.q (oq_move rfl) rfl rfl rfl ?_
            refine WL.q (oq_gtr rfl rfl) rfl rfl rfl ?_
            refine WL.q (oq_move rfl) rfl rfl rfl ?_
            refine WL.split 40 rfl (fun s9_2 => ?_) (fun s9_2 => ?_)
            ·
              try simp only [Bool.not_eq_eq_eq_not, Bool.not_true, Bool.not_false, decide_eq_true_eq, decide_eq_false_iff_not, Int.not_lt, Int.not_le, ne_eq, Decidable.not_not, ← List.length_eq_zero_iff] at s9_2
              refine WL.q (oq_move rfl) rfl rfl rfl ?_
              refine WL.q (oq_load flat53 rfl (.tail _ (.tail _ (.head _))) hEm rfl) rfl rfl rfl ?_
              refine WL.q (oq_isame hcomp Tryd.underlying53 rfl rfl) rfl rfl rfl ?_
              refine WL.q (oq_pick_t rfl rfl) rfl rfl rfl ?_
              refine WL.nil ?_
              refine WE.then_normal ?_
              refine WC.sub (fr' := [(6, _), (7, _), (44, _)]) ?_ ⟨rfl, rfl, rfl, trivial⟩
              refine WC.cond rfl (fun q9 => ?_) (fun q9 => ?_)
              ·
                try simp only [Bool.not_eq_eq_eq_not, Bool.not_true, Bool.not_false, decide_eq_true_eq, decide_eq_false_iff_not, Int.not_lt, Int.not_le, ne_eq, Decidable.not_not, ← List.length_eq_zero_iff] at q9
                refine WC.region ?_
                refine WL.q (oq_load flat53 rfl (.tail _ (.tail _ (.head _))) hUm rfl) rfl rfl rfl ?_
                refine WL.q (oq_assign rfl) rfl rfl rfl ?_
                refine WL.nil ?_
                refine WE.then_normal ?_
                refine WC.sub (fr' := [(6, _), (7, _)]) ?_ ⟨rfl, rfl, trivial⟩
                refine WC.ret ?_
                refine WE.endW3 (.inl rfl) (res2 Tryd.results76 rfl rfl) ?_
                -- end 2
                first | (exfalso; omega) | exact ⟨_, _, j, pr2, l2, rfl, rfl, hjx, hl2, .inr ⟨by have := heo rfl; omega, _, _, rfl⟩⟩ | exact ⟨_, _, j, pr2, l2, rfl, rfl, hjx, hl2, .inl ⟨by omega, by rw [show n = m by omega], rfl, by omega, by rw [show n = m by omega] at ht; rw [← ht, List.take_of_length_le (by omega)]⟩⟩
              ·
                try simp only [Bool.not_eq_eq_eq_not, Bool.not_true, Bool.not_false, decide_eq_true_eq, decide_eq_false_iff_not, Int.not_lt, Int.not_le, ne_eq, Decidable.not_not, ← List.length_eq_zero_iff] at q9
                refine WC.skip ?_
                refine WE.then_normal ?_
                refine WC.sub (fr' := [(6, _), (7, _)]) ?_ ⟨rfl, rfl, trivial⟩
                refine WC.ret ?_
                refine WE.endW3 (.inl rfl) (res2 Tryd.results76 rfl rfl) ?_
                -- end 3
                first | (exfalso; omega) | exact ⟨_, _, j, pr2, l2, rfl, rfl, hjx, hl2, .inr ⟨by have := heo rfl; omega, _, _, rfl⟩⟩ | exact ⟨_, _, j, pr2, l2, rfl, rfl, hjx, hl2, .inl ⟨by omega, by rw [show n = m by omega], rfl, by omega, by rw [show n = m by omega] at ht; rw [← ht, List.take_of_length_le (by omega)]⟩⟩
            ·
              try simp only [Bool.not_eq_eq_eq_not, Bool.not_true, Bool.not_false, decide_eq_true_eq, decide_eq_false_iff_not, Int.not_lt, Int.not_le, ne_eq, Decidable.not_not, ← List.length_eq_zero_iff] at s9_2
              refine WL.skip rfl rfl rfl ?_
              refine WL.skip rfl rfl rfl ?_
              refine WL.skip rfl rfl rfl ?_
              refine WL.q (oq_pick_f rfl rfl) rfl rfl rfl ?_
              refine WL.nil ?_
              refine WE.then_normal ?_
              refine WC.sub (fr' := [(6, _), (7, _), (44, _)]) ?_ ⟨rfl, rfl, rfl, trivial⟩
              refine WC.cond_f rfl ?_
              refine WC.skip ?_
              refine WE.then_normal ?_
              refine WC.sub (fr' := [(6, _), (7, _)]) ?_ ⟨rfl, rfl, trivial⟩
              refine WC.ret ?_
              refine WE.endW3 (.inl rfl) (res2 Tryd.results76 rfl rfl) ?_
              -- end 4
              first | (exfalso; omega) | exact ⟨_, _, j, pr2, l2, rfl, rfl, hjx, hl2, .inr ⟨by have := heo rfl; omega, _, _, rfl⟩⟩ | exact ⟨_, _, j, pr2, l2, rfl, rfl, hjx, hl2, .inl ⟨by omega, by rw [show n = m by omega], rfl, by omega, by rw [show n = m by omega] at ht; rw [← ht, List.take_of_length_le (by omega)]⟩⟩
      ·
        try simp only [Bool.not_eq_eq_eq_not, Bool.not_true, Bool.not_false, decide_eq_true_eq, decide_eq_false_iff_not, Int.not_lt, Int.not_le, ne_eq, Decidable.not_not, ← List.length_eq_zero_iff] at s3_3
        refine WL.skip rfl rfl rfl ?_
        refine WL.skip rfl rfl rfl ?_
        refine WL.q (oq_pick_f rfl rfl) rfl rfl rfl ?_
        refine WL.nil ?_
        refine WE.then_normal ?_
        refine WC.sub (fr' := [(0, _), (1, _), (2, _), (6, _), (7, _), (20, _)]) ?_ ⟨rfl, rfl, rfl, rfl, rfl, rfl, trivial⟩
        refine WC.cond_f rfl ?_
        refine WC.exit ?_
        refine WE.then_exit ?_
        refine WE.then_exit ?_
        refine WE.block_same ?_
        refine WE.then_normal ?_
        refine WC.sub (fr' := [(2, _), (6, _), (7, _)]) ?_ ⟨rfl, rfl, rfl, trivial⟩
        refine WC.seq ?_
        refine WC.seq ?_
        refine WC.region ?_
        refine WL.q (oq_move rfl) rfl rfl rfl ?_
        refine WL.q (oq_move rfl) rfl rfl rfl ?_
        refine WL.q (oq_geq rfl rfl) rfl rfl rfl ?_
        refine WL.nil ?_
        refine WE.then_normal ?_
        refine WC.sub (fr' := [(6, _), (7, _), (37, _)]) ?_ ⟨rfl, rfl, rfl, trivial⟩
        refine WC.cond rfl (fun q7 => ?_) (fun q7 => ?_)
        ·
          try simp only [Bool.not_eq_eq_eq_not, Bool.not_true, Bool.not_false, decide_eq_true_eq, decide_eq_false_iff_not, Int.not_lt, Int.not_le, ne_eq, Decidable.not_not, ← List.length_eq_zero_iff] at q7
          refine WC.region ?_
          refine WL.q (oq_assign rfl) rfl rfl rfl ?_
          refine WL.nil ?_
          refine WE.then_normal ?_
          refine WC.sub (fr' := [(6, _), (7, _)]) ?_ ⟨rfl, rfl, trivial⟩
          refine WC.ret ?_
          refine WE.endW3 (.inl rfl) (res2 Tryd.results76 rfl rfl) ?_
          -- end 5
          first | (exfalso; omega) | exact ⟨_, _, j, pr2, l2, rfl, rfl, hjx, hl2, .inr ⟨by have := heo rfl; omega, _, _, rfl⟩⟩ | exact ⟨_, _, j, pr2, l2, rfl, rfl, hjx, hl2, .inl ⟨by omega, by rw [show n = m by omega], rfl, by omega, by rw [show n = m by omega] at ht; rw [← ht, List.take_of_length_le (by omega)]⟩⟩
        ·
          try simp only [Bool.not_eq_eq_eq_not, Bool.not_true, Bool.not_false, decide_eq_true_eq, decide_eq_false_iff_not, Int.not_lt, Int.not_le, ne_eq, Decidable.not_not, ← List.length_eq_zero_iff] at q7
          refine WC.seq ?_
          have het : eo = true := by first | (exfalso; omega) | (simpa [eofv_nil] using q3)
          subst het
          refine WC.region ?_
          refine WL.q (oq_move rfl) rfl rfl rfl ?_
          refine WL.q (oq_gtr rfl rfl) rfl rfl rfl ?_
          refine WL.q (oq_move rfl) rfl rfl rfl ?_
          refine WL.split 40 rfl (fun s9_2 => ?_) (fun s9_2 => ?_)
          ·
            try simp only [Bool.not_eq_eq_eq_not, Bool.not_true, Bool.not_false, decide_eq_true_eq, decide_eq_false_iff_not, Int.not_lt, Int.not_le, ne_eq, Decidable.not_not, ← List.length_eq_zero_iff] at s9_2
            refine WL.q (oq_move rfl) rfl rfl rfl ?_
            refine WL.q (oq_load flat53 rfl (.tail _ (.tail _ (.head _))) hEm rfl) rfl rfl rfl ?_
            refine WL.q (oq_isame hcomp Tryd.underlying53 rfl rfl) rfl rfl rfl ?_
            refine WL.q (oq_pick_t rfl rfl) rfl rfl rfl ?_
            refine WL.nil ?_
            refine WE.then_normal ?_
            refine WC.sub (fr' := [(6, _), (7, _), (44, _)]) ?_ ⟨rfl, rfl, rfl, trivial⟩
            refine WC.cond rfl (fun q9 => ?_) (fun q9 => ?_)
            ·
              try simp only [Bool.not_eq_eq_eq_not, Bool.not_true, Bool.not_false, decide_eq_true_eq, decide_eq_false_iff_not, Int.not_lt, Int.not_le, ne_eq, Decidable.not_not, ← List.length_eq_zero_iff] at q9
              refine WC.region ?_
              refine WL.q (oq_load flat53 rfl (.tail _ (.tail _ (.head _))) hUm rfl) rfl rfl rfl ?_
              refine WL.q (oq_assign rfl) rfl rfl rfl ?_
              refine WL.nil ?_
              refine WE.then_normal ?_
              refine WC.sub (fr' := [(6, _), (7, _)]) ?_ ⟨rfl, rfl, trivial⟩
              refine WC.ret ?_
              refine WE.endW3 (.inl rfl) (res2 Tryd.results76 rfl rfl) ?_
              -- end 6
              first | (exfalso; omega) | exact ⟨_, _, j, pr2, l2, rfl, rfl, hjx, hl2, .inr ⟨by have := heo rfl; omega, _, _, rfl⟩⟩ | exact ⟨_, _, j, pr2, l2, rfl, rfl, hjx, hl2, .inl ⟨by omega, by rw [show n = m by omega], rfl, by omega, by rw [show n = m by omega] at ht; rw [← ht, List.take_of_length_le (by omega)]⟩⟩
            ·
              try simp only [Bool.not_eq_eq_eq_not, Bool.not_true, Bool.not_false, decide_eq_true_eq, decide_eq_false_iff_not, Int.not_lt, Int.not_le, ne_eq, Decidable.not_not, ← List.length_eq_zero_iff] at q9
              refine WC.skip ?_
              refine WE.then_normal ?_
              refine WC.sub (fr' := [(6, _), (7, _)]) ?_ ⟨rfl, rfl, trivial⟩
              refine WC.ret ?_
              refine WE.endW3 (.inl rfl) (res2 Tryd.results76 rfl rfl) ?_
              -- end 7
              first | (exfalso; omega) | exact ⟨_, _, j, pr2, l2, rfl, rfl, hjx, hl2, .inr ⟨by have := heo rfl; omega, _, _, rfl⟩⟩ | exact ⟨_, _, j, pr2, l2, rfl, rfl, hjx, hl2, .inl ⟨by omega, by rw [show n = m by omega], rfl, by omega, by rw [show n = m by omega] at ht; rw [← ht, List.take_of_length_le (by omega)]⟩⟩
          ·
            try simp only [Bool.not_eq_eq_eq_not, Bool.not_true, Bool.not_false, decide_eq_true_eq, decide_eq_false_iff_not, Int.not_lt, Int.not_le, ne_eq, Decidable.not_not, ← List.length_eq_zero_iff] at s9_2
            refine WL.skip rfl rfl rfl ?_
            refine WL.skip rfl rfl rfl ?_
            refine WL.skip rfl rfl rfl ?_
            refine WL.q (oq_pick_f rfl rfl) rfl rfl rfl ?_
            refine WL.nil ?_
            refine WE.then_normal ?_
            refine WC.sub (fr' := [(6, _), (7, _), (44, _)]) ?_ ⟨rfl, rfl, rfl, trivial⟩
            refine WC.cond_f rfl ?_
            refine WC.skip ?_
            refine WE.then_normal ?_
            refine WC.sub (fr' := [(6, _), (7, _)]) ?_ ⟨rfl, rfl, trivial⟩
            refine WC.ret ?_
            refine WE.endW3 (.inl rfl) (res2 Tryd.results76 rfl rfl) ?_
            -- end 8
            first | (exfalso; omega) | exact ⟨_, _, j, pr2, l2, rfl, rfl, hjx, hl2, .inr ⟨by have := heo rfl; omega, _, _, rfl⟩⟩ | exact ⟨_, _, j, pr2, l2, rfl, rfl, hjx, hl2, .inl ⟨by omega, by rw [show n = m by omega], rfl, by omega, by rw [show n = m by omega] at ht; rw [← ht, List.take_of_length_le (by omega)]⟩⟩

/-- io.ReadFull -/
theorem readFull (base br bb m : Nat) (e : TypeId) (l : List UInt8) (A : Hp) (xs : List UInt8) (vx : Value) (hr : RdS 1 vx A xs.length (bytesV xs)) (hx : xs.length ≤ 1000000000) (kE : TypeId) (pE : Addr) (hE : Errs A kE pE) (i : Nat) (pr : Int) (hi : i ≤ xs.length) (hl : l.length = m) (hm1 : 1 ≤ m) (hm : m ≤ 1000000000) : FnW Tryd.prog 57 [.iface 57 (Pt br 0), Sl bb 0 m m] base [[(br, .cells #[vx, I (i : Int), I pr] 83 (0, 0))], Bf bb e l, A] (RdRes m i xs br bb e vx A) := by
  refine FnW.enter (n := 13) Tryd.func57 rfl rfl fun w0 R0 hbase => ?_
  subst hbase
  show WC _ _ _ _ _ _ _ ([[(br, .cells #[vx, I (i : Int), I pr] 83 (0, 0))], Bf bb e l, A, R0])
  refine WC.sub (fr' := [(0, _), (1, _)]) ?_ ⟨rfl, rfl, trivial⟩
  refine WC.seq ?_
  refine WC.region ?_
  refine WL.q (oq_assign rfl) rfl rfl rfl ?_
  refine WL.q (oq_assign rfl) rfl rfl rfl ?_
  refine WL.nil ?_
  refine WE.then_normal ?_
  refine WC.sub (fr' := [(0, _), (1, _)]) ?_ ⟨rfl, rfl, trivial⟩
  refine WC.seq ?_
  refine WC.region ?_
  refine WL.q (oq_move rfl) rfl rfl rfl ?_
  refine WL.q (oq_move rfl) rfl rfl rfl ?_
  refine WL.q (oq_move rfl) rfl rfl rfl ?_
  refine WL.q (oq_len_sl Tryd.underlying22 rfl) rfl rfl rfl ?_
  refine WL.f2 ?_
  refine WL.f2 ?_
  refine WL.f2 ?_
  refine WL.callWE (fun a w hf => ent_fn call76 rfl hf w) (readLeast _ br bb m e l A xs vx hr hx kE pE hE i pr hi hl hm1 hm) rfl rfl rfl rfl fun v1_4 Hs1_4 hR1_4 => ?_
  obtain ⟨vn, ve, i2, pr2, l2, rfl, rfl, hi2, hl2, hor⟩ := hR1_4
  refine WL.app3 ?_
  refine WL.q (oq_extract rfl rfl) rfl rfl rfl ?_
  refine WL.q (oq_extract rfl rfl) rfl rfl rfl ?_
  refine WL.q (oq_assign rfl) rfl rfl rfl ?_
  refine WL.q (oq_assign rfl) rfl rfl rfl ?_
  refine WL.nil ?_
  refine WE.then_normal ?_
  refine WC.sub (fr' := [(4, _), (5, _)]) ?_ ⟨rfl, rfl, trivial⟩
  refine WC.ret ?_
  refine WE.endW3 (.inl rfl) (res2 Tryd.results57 rfl rfl) ?_
  -- end 0
  exact ⟨vn, ve, i2, pr2, l2, rfl, rfl, hi2, hl2, hor⟩

end K0
end Go.Proofs.YtcgpajknehhdgaaDoor
