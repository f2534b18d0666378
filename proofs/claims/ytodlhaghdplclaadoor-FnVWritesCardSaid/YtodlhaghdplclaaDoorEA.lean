/- Walks of a buffer of bytes. -/
import Derived.Test.YtodlhaghdplclaaDoorVS
import Derived.Test.YtodlhaghdplclaaDoorProg
namespace Go.Proofs.YtodlhaghdplclaaDoor
open Go Go.RowKit V
set_option linter.unusedSimpArgs false
set_option linter.unusedVariables false
set_option maxRecDepth 10000
namespace EA
theorem call24 : Callable Tryd.prog 24 := ⟨_, Tryd.func24, rfl, by kernel_rfl⟩
theorem call58 : Callable Tryd.prog 58 := ⟨_, Tryd.func58, rfl, by kernel_rfl⟩
theorem call59 : Callable Tryd.prog 59 := ⟨_, Tryd.func59, rfl, by kernel_rfl⟩
theorem call60 : Callable Tryd.prog 60 := ⟨_, Tryd.func60, rfl, by kernel_rfl⟩
theorem flat3 : Flat Tryd.prog 3 := ⟨_, Tryd.underlying3, by simp⟩
theorem flat23 : Flat Tryd.prog 23 := ⟨_, Tryd.underlying23, by simp⟩
theorem ty3 : Ty Tryd.prog 3 (.int .i64 0) 1 8 := ty_of (by kernel_rfl)
theorem ty5 : Ty Tryd.prog 5 (.int .u8 0) 1 1 := ty_of (by kernel_rfl)
theorem ty23 : Ty Tryd.prog 23 (.slice none 0 0) 1 24 := ty_of (by kernel_rfl)
theorem ty37 : Ty Tryd.prog 37 (.int .i8 0) 1 1 := ty_of (by kernel_rfl)
theorem fld39_0 : Fld Tryd.prog 39 0 0 23 := fld_of Tryd.underlying39 rfl rfl rfl ty23 (by decide)
theorem fld39_1 : Fld Tryd.prog 39 1 1 3 := fld_of Tryd.underlying39 rfl rfl rfl ty3 (by decide)
theorem fld39_2 : Fld Tryd.prog 39 2 2 37 := fld_of Tryd.underlying39 rfl rfl rfl ty37 (by decide)

/-- a buffer of bytes -/
abbrev BB (bb : Nat) (v : Value) (lr : Int) : Hp := [(bb, .cells #[v, I 0, .int .i8 lr] 39 (0, 0))]
/-- what a buffer holds: nothing yet, or bytes at the head of a block -/
def Buf (base : Nat) (v : Value) (A : Hp) (acc : List UInt8) : Prop :=
  (v = .slice none 0 0 ∧ A = [] ∧ acc = []) ∨ ∃ B cap L, v = Sl B 0 acc.length cap ∧ A = Bf B 5 L ∧ base ≤ B ∧ L.length = cap ∧ acc.length ≤ cap ∧ 0 < cap ∧ cap ≤ maxLen ∧ L.take acc.length = acc
/-- what growing by n gives -/
def Grown (n base bb : Nat) (lr : Int) (acc : List UInt8) (r : Value) (Hs : List Hp) : Prop :=
  ∃ B cap L, r = I (acc.length : Int) ∧ Hs = [BB bb (Sl B 0 (acc.length + n) cap) lr, Bf B 5 L] ∧ base ≤ B ∧ L.length = cap ∧ acc.length + n ≤ cap ∧ cap ≤ maxLen ∧ L.take acc.length = acc
def NewRow (n : Nat) (l : List UInt8) (v : Value) (N : Hp) : Prop := ∃ B cap L, v = Sl B 0 l.length cap ∧ N = Bf B 5 L ∧ L.length = cap ∧ l.length + n ≤ cap ∧ cap ≤ maxLen ∧ L.take l.length = l
theorem Buf.fresh {base : Nat} {v : Value} {A : Hp} {acc : List UInt8} (h : Buf base v A acc) : ∀ b o, (b, o) ∈ A → base ≤ b := by
  rcases h with ⟨_, rfl, _⟩ | ⟨B, cap, L, _, rfl, hB, _⟩
  · exact fun _ _ h => nomatch h
  · exact fresh1 hB
theorem rec_ret {w0 w : World} {H : List Hp} (hw : St w0 H.flatten w) :
  CallsD Tryd.prog 60 #[] .returning w fun e u' w' => e = .returned (.tuple #[]) ∧ u' = .returning ∧ St w0 H.flatten w' := by
  refine callsD_of_wpS Tryd.func60 rfl fun c₀ cs hm => ?_
  refine wpS_seq (wpS_region ?_)
  refine (?_ : WS Tryd.prog 3 w0 _ _ [0, 1] [] (c₀ :: cs) H) _ _ (args_fit (args := []) rfl) hw
  refine WS.recover0 rfl rfl (recoverD_none hm) ?_
  refine WS.q (oq_ineq Tryd.underlying20 rfl (.inl rfl)) rfl rfl rfl rfl ?_
  refine WS.cond (b := false) rfl ?_
  refine WC.skip ?_
  exact WE.endS (.inr rfl) (by rw [← hm]) (res0 Tryd.results60) fun w hw => ⟨rfl, rfl, hw⟩
/-- bytes.growSlice -/
theorem growSlice (p : Option Addr) (c n : Nat) (A : Hp) (l : List UInt8) (hr : RdS 1 (.slice p l.length c) A l.length (bytesV l)) (hl : l.length + n ≤ 1000000) (hn : 0 < n) (hc : c ≤ 3000000) : FnA Tryd.prog 59 [.slice p l.length c, I (n : Int)] A (NewRow n l) := by
  refine FnA.enterD (n := 28) Tryd.func59 rfl rfl fun w0 => ?_
  refine WC.sub (fr' := [(0, _), (1, _)]) ?_ ⟨rfl, rfl, trivial⟩
  refine WC.seq (WC.region ?_)
  refine WL.q (oq_assign rfl) rfl rfl rfl ?_
  refine WL.nil (WE.then_normal (WC.sub (fr' := [(0, _), (1, _)]) ?_ ⟨rfl, rfl, trivial⟩))
  refine WC.seq (WC.region ?_)
  refine WL.defer (first := []) rfl rfl rfl ?_
  refine WL.nil (WE.then_normal (WC.sub (fr' := [(0, _), (1, _)]) ?_ ⟨rfl, rfl, trivial⟩))
  refine WC.seq (WC.region ?_)
  refine WL.q (oq_move rfl) rfl rfl rfl ?_
  refine WL.q (oq_len_sl Tryd.underlying23 rfl) rfl rfl rfl ?_
  refine WL.q (oq_move rfl) rfl rfl rfl ?_
  refine WL.q (oq_add rfl rfl (by rw [i64_lo, i64_hi]; (first | omega | (simp only [List.length_cons, List.length_nil, List.length_append, List.length_drop, List.length_take]; omega)))) rfl rfl rfl ?_
  refine WL.q (oq_assign rfl) rfl rfl rfl ?_
  refine WL.nil (WE.then_normal (WC.sub (fr' := [(0, _), (5, _)]) ?_ ⟨rfl, rfl, trivial⟩))
  refine WC.cut (ι := Nat) (fun (k : Nat) => [(0, .slice p l.length c), (5, I (k : Int))]) (fun (k : Nat) => [A]) (fun (k : Nat) => l.length + n ≤ k ∧ k ≤ 7000000) ?_ ?_
  ·
    refine WC.seq (WC.region ?_)
    refine WL.q (oq_move rfl) rfl rfl rfl ?_
    refine WL.q (oq_move rfl) rfl rfl rfl ?_
    refine WL.q (oq_cap_sl Tryd.underlying23 rfl) rfl rfl rfl ?_
    refine WL.q (oq_mul rfl rfl (by rw [i64_lo, i64_hi]; (first | omega | (simp only [List.length_cons, List.length_nil, List.length_append, List.length_drop, List.length_take]; omega)))) rfl rfl rfl ?_
    refine WL.q (oq_lss rfl rfl) rfl rfl rfl ?_
    refine WL.nil (WE.then_normal (WC.sub (fr' := [(0, _), (5, _), (16, _)]) ?_ ⟨rfl, rfl, rfl, trivial⟩))
    refine WC.cond rfl (fun q3 => ?_) (fun q3 => ?_)
    ·
      try simp only [Z1, Z2, Z3, Z4, Z5, Z6, Z7, Z8, Z9, Z0] at q3
      refine WC.region ?_
      refine WL.q (oq_move rfl) rfl rfl rfl ?_
      refine WL.q (oq_cap_sl Tryd.underlying23 rfl) rfl rfl rfl ?_
      refine WL.q (oq_mul rfl rfl (by rw [i64_lo, i64_hi]; (first | omega | (simp only [List.length_cons, List.length_nil, List.length_append, List.length_drop, List.length_take]; omega)))) rfl rfl rfl ?_
      refine WL.q (oq_assign rfl) rfl rfl rfl ?_
      refine WL.nil ?_
      refine WE.meet (2 * c) ?_ ⟨rfl, rfl, trivial⟩ (List.Perm.refl _)
      try dsimp only
      exact ⟨by omega, by omega⟩   -- meet 0
    ·
      try simp only [Z1, Z2, Z3, Z4, Z5, Z6, Z7, Z8, Z9, Z0] at q3
      refine WC.skip ?_
      refine WE.meet (l.length + n) ?_ ⟨rfl, rfl, trivial⟩ (List.Perm.refl _)
      try dsimp only
      exact ⟨by omega, by omega⟩   -- meet 1
  · rintro k hp
    try dsimp only at hp
    obtain ⟨hk1, hk2⟩ := hp
    show WC _ _ _ _ _ _ ([(0, .slice p l.length c), (5, I (k : Int))]) ([A])
    refine WC.seq (WC.region ?_)
    refine WL.q (oq_move rfl) rfl rfl rfl ?_
    refine WL.appendMade Tryd.underlying23 Tryd.underlying3 ty5 rfl (by omega) (by decide) (by omega) (by unfold maxLen; omega) rfl rfl fun nb nbc hnb hnbc hnbm => ?_
    refine WL.q (oq_assign rfl) rfl rfl rfl ?_
    refine WL.nil (WE.then_normal (WC.sub (fr' := [(0, _), (6, _)]) ?_ ⟨rfl, rfl, trivial⟩))
    refine WC.seq (WC.region ?_)
    refine WL.q (oq_move rfl) rfl rfl rfl ?_
    refine WL.q (oq_move rfl) rfl rfl rfl ?_
    refine WL.copyB Tryd.underlying23 ty5 rfl rfl hr (.head _) (by (first | omega | (simp only [List.length_replicate]; omega))) rfl rfl ?_
    refine WL.q (oq_assign rfl) rfl rfl rfl ?_
    refine WL.nil (WE.then_normal (WC.sub (fr' := [(6, _), (7, _)]) ?_ ⟨rfl, rfl, trivial⟩))
    refine WC.seq (WC.region ?_)
    refine WL.q (oq_move rfl) rfl rfl rfl ?_
    refine WL.q (oq_move rfl) rfl rfl rfl ?_
    refine WL.q (oq_sliceSl Tryd.underlying23 ty5 rfl (by (first | omega | (simp only [List.length_replicate]; omega))) rfl ⟨_, rfl⟩ (by (first | omega | (simp only [List.length_replicate]; omega))) (by (first | omega | (simp only [List.length_replicate]; omega)))) rfl rfl rfl ?_
    refine WL.q (oq_assign rfl) rfl rfl rfl ?_
    refine WL.nil (WE.then_normal (WC.sub (fr' := [(4, _)]) ?_ ⟨rfl, trivial⟩))
    refine WC.ret ?_
    -- end 0
    refine WE.deferred (args := []) (cap := []) (.inl rfl) call60 fun a w hf hw => ?_
    refine (rec_ret hw).mono fun e u w2 h => ?_
    obtain ⟨rfl, rfl, hw2⟩ := h
    refine ⟨_, rfl, rfl, _, (res1 Tryd.results59 rfl) a w2 hf hw2, _, Bf nb 5 _, rfl, ⟨nb, nbc, _, ?_, rfl, ?_, by omega, hnbm, ?_⟩, fresh1 hnb, by simpa using hw2⟩
    · rw [show min l.length k - 0 = l.length by omega]; rfl
    · simp; omega
    · rw [show min l.length k = l.length by omega, List.take_length]; simp

/-- (*bytes.Buffer).Len -/
theorem bufLen (bb len cap : Nat) (p : Option Addr) (lr : Int) (hl : len ≤ 9223372036854775807) : FnR Tryd.prog 24 [Pt bb 0] [(bb, .cells #[.slice p len cap, I 0, .int .i8 lr] 39 (0, 0))] (I (len : Int)) := by
  refine FnR.enter (n := 13) Tryd.func24 rfl rfl fun w0 => ?_
  refine WC.sub (fr' := [(0, _)]) ?_ ⟨rfl, trivial⟩
  refine WC.seq (WC.region ?_)
  refine WL.q (oq_assign rfl) rfl rfl rfl ?_
  refine WL.nil (WE.then_normal (WC.sub (fr' := [(0, _)]) ?_ ⟨rfl, trivial⟩))
  refine WC.seq (WC.quiet (by kernel_rfl) (by kernel_rfl) ?_)
  refine WQ.q (oq_move rfl) rfl rfl rfl ?_
  refine WQ.q (oq_nilCheck rfl) rfl rfl rfl ?_
  refine WQ.q (oq_fieldAddr fld39_0 rfl) rfl rfl rfl ?_
  refine WQ.q (oq_load flat23 rfl (.head _) (List.mem_singleton.2 rfl) rfl) rfl rfl rfl ?_
  refine WQ.q (oq_len_sl Tryd.underlying23 rfl) rfl rfl rfl ?_
  refine WQ.q (oq_move rfl) rfl rfl rfl ?_
  refine WQ.q (oq_nilCheck rfl) rfl rfl rfl ?_
  refine WQ.q (oq_fieldAddr fld39_1 rfl) rfl rfl rfl ?_
  refine WQ.q (oq_load flat3 rfl (.head _) (List.mem_singleton.2 rfl) rfl) rfl rfl rfl ?_
  refine WQ.q (oq_sub rfl rfl (by rw [i64_lo, i64_hi]; (first | omega | (simp only [List.length_cons, List.length_nil, List.length_append, List.length_drop, List.length_take]; omega)))) rfl rfl rfl ?_
  refine WQ.q (oq_assign rfl) rfl rfl rfl ?_
  refine WQ.nil (WE.then_normal (WC.sub (fr' := [(2, _)]) ?_ ⟨rfl, trivial⟩))
  refine WC.ret ?_
  refine WE.endR (.inl rfl) (res1 Tryd.results24 rfl) ?_
  -- end 0
  rw [Int.sub_zero]

/-- (*bytes.Buffer).Reset -/
theorem reset1 (base bb : Nat) (lr off : Int) (B m cap : Nat) (hmc : m ≤ cap) (h0 : 0 < cap) : FnW Tryd.prog 22 [Pt bb 0] base [[(bb, .cells #[Sl B 0 m cap, I off, .int .i8 lr] 39 (0, 0))]] (fun w Hs => w = .tuple #[] ∧ Hs = [BB bb (Sl B 0 0 cap) 0]) := by
  refine FnW.enter (n := 16) Tryd.func22 rfl rfl fun w0 R0 hbase => ?_
  subst hbase
  show WC _ _ _ _ _ _ _ ([[(bb, .cells #[Sl B 0 m cap, I off, .int .i8 lr] 39 (0, 0))], R0])
  refine WC.sub (fr' := [(0, _)]) ?_ ⟨rfl, trivial⟩
  refine WC.seq (WC.region ?_)
  refine WL.q (oq_move rfl) rfl rfl rfl ?_
  refine WL.q (oq_move rfl) rfl rfl rfl ?_
  refine WL.q (oq_nilCheck rfl) rfl rfl rfl ?_
  refine WL.q (oq_fieldAddr fld39_0 rfl) rfl rfl rfl ?_
  refine WL.q (oq_load flat23 rfl (.head _) (List.mem_singleton.2 rfl) rfl) rfl rfl rfl ?_
  refine WL.q (oq_sliceSl (j := 0) Tryd.underlying23 ty5 rfl (by omega) rfl ⟨_, rfl⟩ (by omega) (by omega)) rfl rfl rfl ?_
  refine WL.q (oq_nilCheck rfl) rfl rfl rfl ?_
  refine WL.q (oq_fieldAddr fld39_0 rfl) rfl rfl rfl ?_
  refine WL.store1 #[_, _, _] ty23 rfl rfl (by first | rfl | exact OwS.one one_) (Nat.lt_of_lt_of_le (Nat.lt_succ_self _) (Nat.le_of_ble_eq_true rfl)) rfl rfl ?_
  refine WL.nil (WE.then_normal (WC.sub (fr' := [(0, _)]) ?_ ⟨rfl, trivial⟩))
  refine WC.seq (WC.region ?_)
  refine WL.q (oq_move rfl) rfl rfl rfl ?_
  refine WL.q (oq_nilCheck rfl) rfl rfl rfl ?_
  refine WL.q (oq_fieldAddr fld39_1 rfl) rfl rfl rfl ?_
  refine WL.store1 #[_, _, _] ty3 rfl rfl (by first | rfl | exact OwS.one one_) (Nat.lt_of_lt_of_le (Nat.lt_succ_self _) (Nat.le_of_ble_eq_true rfl)) rfl rfl ?_
  refine WL.nil (WE.then_normal (WC.sub (fr' := [(0, _)]) ?_ ⟨rfl, trivial⟩))
  refine WC.region ?_
  refine WL.q (oq_move rfl) rfl rfl rfl ?_
  refine WL.q (oq_nilCheck rfl) rfl rfl rfl ?_
  refine WL.q (oq_fieldAddr fld39_2 rfl) rfl rfl rfl ?_
  refine WL.store1 #[_, _, _] ty37 rfl rfl (by first | rfl | exact OwS.one one_) (Nat.lt_of_lt_of_le (Nat.lt_succ_self _) (Nat.le_of_ble_eq_true rfl)) rfl rfl ?_
  refine WL.nil ?_
  refine WE.endW1 (.inr rfl) (res0 Tryd.results22) ?_
  -- end 0
  exact ⟨rfl, rfl⟩

/-- (*bytes.Buffer).Reset -/
theorem reset0 (base bb : Nat) (lr off : Int) : FnW Tryd.prog 22 [Pt bb 0] base [[(bb, .cells #[.slice none 0 0, I off, .int .i8 lr] 39 (0, 0))]] (fun w Hs => w = .tuple #[] ∧ Hs = [BB bb (.slice none 0 0) 0]) := by
  refine FnW.enter (n := 16) Tryd.func22 rfl rfl fun w0 R0 hbase => ?_
  subst hbase
  show WC _ _ _ _ _ _ _ ([[(bb, .cells #[.slice none 0 0, I off, .int .i8 lr] 39 (0, 0))], R0])
  refine WC.sub (fr' := [(0, _)]) ?_ ⟨rfl, trivial⟩
  refine WC.seq (WC.region ?_)
  refine WL.q (oq_move rfl) rfl rfl rfl ?_
  refine WL.q (oq_move rfl) rfl rfl rfl ?_
  refine WL.q (oq_nilCheck rfl) rfl rfl rfl ?_
  refine WL.q (oq_fieldAddr fld39_0 rfl) rfl rfl rfl ?_
  refine WL.q (oq_load flat23 rfl (.head _) (List.mem_singleton.2 rfl) rfl) rfl rfl rfl ?_
  refine WL.q (oq_sliceNil0 Tryd.underlying23 ty5 rfl rfl) rfl rfl rfl ?_
  refine WL.q (oq_nilCheck rfl) rfl rfl rfl ?_
  refine WL.q (oq_fieldAddr fld39_0 rfl) rfl rfl rfl ?_
  refine WL.store1 #[_, _, _] ty23 rfl rfl (by first | rfl | exact OwS.one one_) (Nat.lt_of_lt_of_le (Nat.lt_succ_self _) (Nat.le_of_ble_eq_true rfl)) rfl rfl ?_
  refine WL.nil (WE.then_normal (WC.sub (fr' := [(0, _)]) ?_ ⟨rfl, trivial⟩))
  refine WC.seq (WC.region ?_)
  refine WL.q (oq_move rfl) rfl rfl rfl ?_
  refine WL.q (oq_nilCheck rfl) rfl rfl rfl ?_
  refine WL.q (oq_fieldAddr fld39_1 rfl) rfl rfl rfl ?_
  refine WL.store1 #[_, _, _] ty3 rfl rfl (by first | rfl | exact OwS.one one_) (Nat.lt_of_lt_of_le (Nat.lt_succ_self _) (Nat.le_of_ble_eq_true rfl)) rfl rfl ?_
  refine WL.nil (WE.then_normal (WC.sub (fr' := [(0, _)]) ?_ ⟨rfl, trivial⟩))
  refine WC.region ?_
  refine WL.q (oq_move rfl) rfl rfl rfl ?_
  refine WL.q (oq_nilCheck rfl) rfl rfl rfl ?_
  refine WL.q (oq_fieldAddr fld39_2 rfl) rfl rfl rfl ?_
  refine WL.store1 #[_, _, _] ty37 rfl rfl (by first | rfl | exact OwS.one one_) (Nat.lt_of_lt_of_le (Nat.lt_succ_self _) (Nat.le_of_ble_eq_true rfl)) rfl rfl ?_
  refine WL.nil ?_
  refine WE.endW1 (.inr rfl) (res0 Tryd.results22) ?_
  -- end 0
  exact ⟨rfl, rfl⟩

/-- (*bytes.Buffer).tryGrowByReslice -/
theorem tryGrow1 (base bb B len cap n : Nat) (lr : Int) (hlc : len ≤ cap) (hl : len + n ≤ 1000000) (hmx : cap ≤ maxLen) (h0 : 0 < cap) : FnW Tryd.prog 58 [Pt bb 0, I (n : Int)] base [[(bb, .cells #[Sl B 0 len cap, I 0, .int .i8 lr] 39 (0, 0))]] (fun w Hs => w = .tuple #[I ((if len + n ≤ cap then len else 0 : Nat) : Int), .bool (decide (len + n ≤ cap))] ∧ Hs = [BB bb (Sl B 0 (if len + n ≤ cap then len + n else len) cap) lr]) := by
  have hmx : maxLen ≤ 9223372036854775807 := by unfold maxLen; omega
  refine FnW.enter (n := 33) Tryd.func58 rfl rfl fun w0 R0 hbase => ?_
  subst hbase
  show WC _ _ _ _ _ _ _ ([[(bb, .cells #[Sl B 0 len cap, I 0, .int .i8 lr] 39 (0, 0))], R0])
  refine WC.sub (fr' := [(0, _), (1, _)]) ?_ ⟨rfl, rfl, trivial⟩
  refine WC.seq (WC.region ?_)
  refine WL.q (oq_assign rfl) rfl rfl rfl ?_
  refine WL.q (oq_assign rfl) rfl rfl rfl ?_
  refine WL.nil (WE.then_normal (WC.sub (fr' := [(0, _), (1, _)]) ?_ ⟨rfl, rfl, trivial⟩))
  refine WC.seq (WC.seq (WC.region ?_))
  refine WL.q (oq_move rfl) rfl rfl rfl ?_
  refine WL.q (oq_nilCheck rfl) rfl rfl rfl ?_
  refine WL.q (oq_fieldAddr fld39_0 rfl) rfl rfl rfl ?_
  refine WL.q (oq_load flat23 rfl (.head _) (List.mem_singleton.2 rfl) rfl) rfl rfl rfl ?_
  refine WL.q (oq_len_sl Tryd.underlying23 rfl) rfl rfl rfl ?_
  refine WL.q (oq_assign rfl) rfl rfl rfl ?_
  refine WL.nil (WE.then_normal (WC.sub (fr' := [(0, _), (1, _), (6, _)]) ?_ ⟨rfl, rfl, rfl, trivial⟩))
  refine WC.seq (WC.region ?_)
  refine WL.q (oq_move rfl) rfl rfl rfl ?_
  refine WL.q (oq_move rfl) rfl rfl rfl ?_
  refine WL.q (oq_nilCheck rfl) rfl rfl rfl ?_
  refine WL.q (oq_fieldAddr fld39_0 rfl) rfl rfl rfl ?_
  refine WL.q (oq_load flat23 rfl (.head _) (List.mem_singleton.2 rfl) rfl) rfl rfl rfl ?_
  refine WL.q (oq_cap_sl Tryd.underlying23 rfl) rfl rfl rfl ?_
  refine WL.q (oq_move rfl) rfl rfl rfl ?_
  refine WL.q (oq_sub rfl rfl (by rw [i64_lo, i64_hi]; (first | omega | (simp only [List.length_cons, List.length_nil, List.length_append, List.length_drop, List.length_take]; omega)))) rfl rfl rfl ?_
  refine WL.q (oq_leq rfl rfl) rfl rfl rfl ?_
  refine WL.nil (WE.then_normal (WC.sub (fr' := [(0, _), (1, _), (6, _), (20, _)]) ?_ ⟨rfl, rfl, rfl, rfl, trivial⟩))
  refine WC.cond rfl (fun q2 => ?_) (fun q2 => ?_)
  ·
    try simp only [Z1, Z2, Z3, Z4, Z5, Z6, Z7, Z8, Z9, Z0] at q2
    refine WC.seq (WC.region ?_)
    refine WL.q (oq_move rfl) rfl rfl rfl ?_
    refine WL.q (oq_move rfl) rfl rfl rfl ?_
    refine WL.q (oq_nilCheck rfl) rfl rfl rfl ?_
    refine WL.q (oq_fieldAddr fld39_0 rfl) rfl rfl rfl ?_
    refine WL.q (oq_load flat23 rfl (.head _) (List.mem_singleton.2 rfl) rfl) rfl rfl rfl ?_
    refine WL.q (oq_move rfl) rfl rfl rfl ?_
    refine WL.q (oq_move rfl) rfl rfl rfl ?_
    refine WL.q (oq_add rfl rfl (by rw [i64_lo, i64_hi]; (first | omega | (simp only [List.length_cons, List.length_nil, List.length_append, List.length_drop, List.length_take]; omega)))) rfl rfl rfl ?_
    refine WL.q (oq_sliceSl (j := (len + n)) Tryd.underlying23 ty5 rfl (by omega) rfl ⟨_, rfl⟩ (by omega) (by omega)) rfl rfl rfl ?_
    refine WL.q (oq_nilCheck rfl) rfl rfl rfl ?_
    refine WL.q (oq_fieldAddr fld39_0 rfl) rfl rfl rfl ?_
    refine WL.store1 #[_, _, _] ty23 rfl rfl (by first | rfl | exact OwS.one one_) (Nat.lt_of_lt_of_le (Nat.lt_succ_self _) (Nat.le_of_ble_eq_true rfl)) rfl rfl ?_
    refine WL.nil (WE.then_normal (WC.sub (fr' := [(6, _)]) ?_ ⟨rfl, trivial⟩))
    refine WC.seq (WC.region ?_)
    refine WL.q (oq_move rfl) rfl rfl rfl ?_
    refine WL.q (oq_assign rfl) rfl rfl rfl ?_
    refine WL.q (oq_assign rfl) rfl rfl rfl ?_
    refine WL.nil (WE.then_normal (WC.sub (fr' := [(4, _), (5, _)]) ?_ ⟨rfl, rfl, trivial⟩))
    refine WC.ret (WE.then_ret ?_)
    refine WE.endW1 (.inl rfl) (res2 Tryd.results58 rfl rfl) ?_
    -- end 0
    exact ⟨by rw [if_pos (by omega), decide_eq_true (by omega)], by rw [if_pos (by omega)]; rfl⟩
  ·
    try simp only [Z1, Z2, Z3, Z4, Z5, Z6, Z7, Z8, Z9, Z0] at q2
    refine WC.skip (WE.then_normal (WC.sub (fr' := []) ?_ trivial))
    refine WC.seq (WC.region ?_)
    refine WL.q (oq_assign rfl) rfl rfl rfl ?_
    refine WL.q (oq_assign rfl) rfl rfl rfl ?_
    refine WL.nil (WE.then_normal (WC.sub (fr' := [(4, _), (5, _)]) ?_ ⟨rfl, rfl, trivial⟩))
    refine WC.ret ?_
    refine WE.endW1 (.inl rfl) (res2 Tryd.results58 rfl rfl) ?_
    -- end 1
    exact ⟨by rw [if_neg (by omega), decide_eq_false (by omega)]; rfl, by rw [if_neg (by omega)]⟩

/-- (*bytes.Buffer).tryGrowByReslice -/
theorem tryGrow0 (base bb n : Nat) (lr : Int) (hn : 0 < n) : FnW Tryd.prog 58 [Pt bb 0, I (n : Int)] base [[(bb, .cells #[.slice none 0 0, I 0, .int .i8 lr] 39 (0, 0))]] (fun w Hs => w = .tuple #[I 0, .bool false] ∧ Hs = [BB bb (.slice none 0 0) lr]) := by
  refine FnW.enter (n := 33) Tryd.func58 rfl rfl fun w0 R0 hbase => ?_
  subst hbase
  show WC _ _ _ _ _ _ _ ([[(bb, .cells #[.slice none 0 0, I 0, .int .i8 lr] 39 (0, 0))], R0])
  refine WC.sub (fr' := [(0, _), (1, _)]) ?_ ⟨rfl, rfl, trivial⟩
  refine WC.seq (WC.region ?_)
  refine WL.q (oq_assign rfl) rfl rfl rfl ?_
  refine WL.q (oq_assign rfl) rfl rfl rfl ?_
  refine WL.nil (WE.then_normal (WC.sub (fr' := [(0, _), (1, _)]) ?_ ⟨rfl, rfl, trivial⟩))
  refine WC.seq (WC.seq (WC.region ?_))
  refine WL.q (oq_move rfl) rfl rfl rfl ?_
  refine WL.q (oq_nilCheck rfl) rfl rfl rfl ?_
  refine WL.q (oq_fieldAddr fld39_0 rfl) rfl rfl rfl ?_
  refine WL.q (oq_load flat23 rfl (.head _) (List.mem_singleton.2 rfl) rfl) rfl rfl rfl ?_
  refine WL.q (oq_len_sl Tryd.underlying23 rfl) rfl rfl rfl ?_
  refine WL.q (oq_assign rfl) rfl rfl rfl ?_
  refine WL.nil (WE.then_normal (WC.sub (fr' := [(0, _), (1, _), (6, _)]) ?_ ⟨rfl, rfl, rfl, trivial⟩))
  refine WC.seq (WC.region ?_)
  refine WL.q (oq_move rfl) rfl rfl rfl ?_
  refine WL.q (oq_move rfl) rfl rfl rfl ?_
  refine WL.q (oq_nilCheck rfl) rfl rfl rfl ?_
  refine WL.q (oq_fieldAddr fld39_0 rfl) rfl rfl rfl ?_
  refine WL.q (oq_load flat23 rfl (.head _) (List.mem_singleton.2 rfl) rfl) rfl rfl rfl ?_
  refine WL.q (oq_cap_sl Tryd.underlying23 rfl) rfl rfl rfl ?_
  refine WL.q (oq_move rfl) rfl rfl rfl ?_
  refine WL.q (oq_sub rfl rfl (by rw [i64_lo, i64_hi]; (first | omega | (simp only [List.length_cons, List.length_nil, List.length_append, List.length_drop, List.length_take]; omega)))) rfl rfl rfl ?_
  refine WL.q (oq_leq rfl rfl) rfl rfl rfl ?_
  refine WL.nil (WE.then_normal (WC.sub (fr' := [(0, _), (1, _), (6, _), (20, _)]) ?_ ⟨rfl, rfl, rfl, rfl, trivial⟩))
  refine WC.cond rfl (fun q2 => ?_) (fun q2 => ?_)
  ·
    try simp only [Z1, Z2, Z3, Z4, Z5, Z6, Z7, Z8, Z9, Z0] at q2
    refine WC.seq ?_
    exfalso; omega
  ·
    try simp only [Z1, Z2, Z3, Z4, Z5, Z6, Z7, Z8, Z9, Z0] at q2
    refine WC.skip (WE.then_normal (WC.sub (fr' := []) ?_ trivial))
    refine WC.seq (WC.region ?_)
    refine WL.q (oq_assign rfl) rfl rfl rfl ?_
    refine WL.q (oq_assign rfl) rfl rfl rfl ?_
    refine WL.nil (WE.then_normal (WC.sub (fr' := [(4, _), (5, _)]) ?_ ⟨rfl, rfl, trivial⟩))
    refine WC.ret ?_
    refine WE.endW1 (.inl rfl) (res2 Tryd.results58 rfl rfl) ?_
    -- end 0
    exact ⟨rfl, rfl⟩

/-- (*bytes.Buffer).grow -/
theorem grow0 (base bb n : Nat) (lr : Int) (hn : 0 < n) (hl : n ≤ 1000000) : FnW Tryd.prog 57 [Pt bb 0, I (n : Int)] base [[(bb, .cells #[.slice none 0 0, I 0, .int .i8 lr] 39 (0, 0))]] (Grown n base bb lr []) := by
  have hmx : maxLen ≤ 9223372036854775807 := by unfold maxLen; omega
  refine FnW.enter (n := 110) Tryd.func57 rfl rfl fun w0 R0 hbase => ?_
  subst hbase
  show WC _ _ _ _ _ _ _ ([[(bb, .cells #[.slice none 0 0, I 0, .int .i8 lr] 39 (0, 0))], R0])
  refine WC.sub (fr' := [(0, _), (1, _)]) ?_ ⟨rfl, rfl, trivial⟩
  refine WC.seq (WC.region ?_)
  refine WL.q (oq_assign rfl) rfl rfl rfl ?_
  refine WL.nil (WE.then_normal (WC.sub (fr' := [(0, _), (1, _)]) ?_ ⟨rfl, rfl, trivial⟩))
  refine WC.seq (WC.region ?_)
  refine WL.q (oq_move rfl) rfl rfl rfl ?_
  refine WL.qc (oq_callRm (bufLen bb 0 0 none lr (by omega)) (.head _) call24 rfl) rfl rfl rfl ?_
  refine WL.q (oq_assign rfl) rfl rfl rfl ?_
  refine WL.nil (WE.then_normal (WC.sub (fr' := [(0, _), (1, _), (5, _)]) ?_ ⟨rfl, rfl, rfl, trivial⟩))
  refine WC.cut (ι := Unit) (fun _ => [(0, Pt bb 0), (1, I (n : Int)), (5, I 0)]) (fun _ => [[(bb, .cells #[.slice none 0 0, I 0, .int .i8 lr] 39 (0, 0))], R0]) (fun _ => True) ?_ ?_
  ·
    refine WC.seq (WC.region ?_)
    refine WL.q (oq_move rfl) rfl rfl rfl ?_
    refine WL.q (oq_eql rfl rfl) rfl rfl rfl ?_
    refine WL.q (oq_move rfl) rfl rfl rfl ?_
    refine WL.split 13 rfl (fun s2_2 => ?_) (fun s2_2 => ?_)
    ·
      try simp only [Z1, Z2, Z3, Z4, Z5, Z6, Z7, Z8, Z9, Z0] at s2_2
      refine WL.q (oq_move rfl) rfl rfl rfl ?_
      refine WL.q (oq_nilCheck rfl) rfl rfl rfl ?_
      refine WL.q (oq_fieldAddr fld39_1 rfl) rfl rfl rfl ?_
      refine WL.q (oq_load flat3 rfl (.head _) (List.mem_singleton.2 rfl) rfl) rfl rfl rfl ?_
      refine WL.q (oq_neq rfl rfl) rfl rfl rfl ?_
      refine WL.q (oq_pick_t rfl rfl) rfl rfl rfl ?_
      refine WL.nil (WE.then_normal (WC.sub (fr' := [(0, _), (1, _), (5, _), (19, _)]) ?_ ⟨rfl, rfl, rfl, rfl, trivial⟩))
      refine WC.cond rfl (fun q2 => ?_) (fun q2 => ?_)
      ·
        try simp only [Z1, Z2, Z3, Z4, Z5, Z6, Z7, Z8, Z9, Z0] at q2
        first | contradiction | (exfalso; omega) | (exfalso; simp_all; done)
      ·
        try simp only [Z1, Z2, Z3, Z4, Z5, Z6, Z7, Z8, Z9, Z0] at q2
        refine WC.skip ?_
        refine WE.meet () ?_ ⟨rfl, rfl, rfl, trivial⟩ (List.Perm.refl _)
        try dsimp only
        all_goals trivial   -- meet 0
    ·
      try simp only [Z1, Z2, Z3, Z4, Z5, Z6, Z7, Z8, Z9, Z0] at s2_2
      refine WL.skip rfl rfl rfl ?_
      refine WL.skip rfl rfl rfl ?_
      refine WL.skip rfl rfl rfl ?_
      refine WL.skip rfl rfl rfl ?_
      refine WL.skip rfl rfl rfl ?_
      refine WL.q (oq_pick_f rfl rfl) rfl rfl rfl ?_
      refine WL.nil (WE.then_normal (WC.sub (fr' := [(0, _), (1, _), (5, _), (19, _)]) ?_ ⟨rfl, rfl, rfl, rfl, trivial⟩))
      refine WC.cond_f rfl ?_
      refine WC.skip ?_
      refine WE.meet () ?_ ⟨rfl, rfl, rfl, trivial⟩ (List.Perm.refl _)
      try dsimp only
      all_goals trivial   -- meet 1
  · rintro _ hp
    try dsimp only at hp
    show WC _ _ _ _ _ _ ([(0, Pt bb 0), (1, I (n : Int)), (5, I 0)]) ([[(bb, .cells #[.slice none 0 0, I 0, .int .i8 lr] 39 (0, 0))], R0])
    refine WC.seq (WC.seq (WC.region ?_))
    refine WL.q (oq_move rfl) rfl rfl rfl ?_
    refine WL.q (oq_move rfl) rfl rfl rfl ?_
    refine WL.callW1 (tryGrow0 _ bb n lr hn) call58 rfl rfl rfl fun v4_2 Hs4_2 hR4_2 => ?_
    obtain ⟨rfl, rfl⟩ := hR4_2
    refine WL.to1 ?_
    refine WL.q (oq_move rfl) rfl rfl rfl ?_
    refine WL.q (oq_extract rfl rfl) rfl rfl rfl ?_
    refine WL.q (oq_extract rfl rfl) rfl rfl rfl ?_
    refine WL.q (oq_assign rfl) rfl rfl rfl ?_
    refine WL.q (oq_assign rfl) rfl rfl rfl ?_
    refine WL.nil (WE.then_normal (WC.sub (fr' := [(0, _), (1, _), (5, _), (6, _), (7, _)]) ?_ ⟨rfl, rfl, rfl, rfl, rfl, trivial⟩))
    refine WC.seq (WC.region ?_)
    refine WL.q (oq_move rfl) rfl rfl rfl ?_
    refine WL.nil (WE.then_normal (WC.sub (fr' := [(0, _), (1, _), (5, _), (6, _), (28, _)]) ?_ ⟨rfl, rfl, rfl, rfl, rfl, trivial⟩))
    refine WC.cond rfl (fun q5 => ?_) (fun q5 => ?_)
    ·
      try simp only [Z1, Z2, Z3, Z4, Z5, Z6, Z7, Z8, Z9, Z0] at q5
      refine WC.seq ?_
      first | contradiction | (exfalso; omega) | (exfalso; simp_all; done)
    ·
      try simp only [Z1, Z2, Z3, Z4, Z5, Z6, Z7, Z8, Z9, Z0] at q5
      refine WC.skip (WE.then_normal (WC.sub (fr' := [(0, _), (1, _), (5, _)]) ?_ ⟨rfl, rfl, rfl, trivial⟩))
      refine WC.seq (WC.seq (WC.region ?_))
      refine WL.q (oq_move rfl) rfl rfl rfl ?_
      refine WL.q (oq_nilCheck rfl) rfl rfl rfl ?_
      refine WL.q (oq_fieldAddr fld39_0 rfl) rfl rfl rfl ?_
      refine WL.q (oq_load flat23 rfl (.head _) (List.mem_singleton.2 rfl) rfl) rfl rfl rfl ?_
      refine WL.q (oq_sleql Tryd.underlying23 rfl rfl) rfl rfl rfl ?_
      refine WL.q (oq_move rfl) rfl rfl rfl ?_
      refine WL.split 35 rfl (fun s7_5 => ?_) (fun s7_5 => ?_)
      ·
        try simp only [Z1, Z2, Z3, Z4, Z5, Z6, Z7, Z8, Z9, Z0] at s7_5
        refine WL.q (oq_move rfl) rfl rfl rfl ?_
        refine WL.q (oq_leq rfl rfl) rfl rfl rfl ?_
        refine WL.q (oq_pick_t rfl rfl) rfl rfl rfl ?_
        refine WL.nil (WE.then_normal (WC.sub (fr' := [(0, _), (1, _), (5, _), (38, _)]) ?_ ⟨rfl, rfl, rfl, rfl, trivial⟩))
        refine WC.cond rfl (fun q7 => ?_) (fun q7 => ?_)
        ·
          try simp only [Z1, Z2, Z3, Z4, Z5, Z6, Z7, Z8, Z9, Z0] at q7
          refine WC.seq (WC.region ?_)
          refine WL.q (oq_move rfl) rfl rfl rfl ?_
          refine WL.q (oq_move rfl) rfl rfl rfl ?_
          refine WL.makeBc (k := n) (c := 64) Tryd.underlying23 ty5 rfl rfl (by omega) (by omega) (by unfold maxLen; omega) rfl rfl fun sb hsb => ?_
          refine WL.q (oq_nilCheck rfl) rfl rfl rfl ?_
          refine WL.q (oq_fieldAddr fld39_0 rfl) rfl rfl rfl ?_
          refine WL.f1 ?_
          refine WL.store1 #[_, _, _] ty23 rfl rfl (by first | rfl | exact OwS.one one_) (Nat.lt_of_lt_of_le (Nat.lt_succ_self _) (Nat.le_of_ble_eq_true rfl)) rfl rfl ?_
          refine WL.nil (WE.then_normal (WC.sub (fr' := []) ?_ trivial))
          refine WC.seq (WC.region ?_)
          refine WL.q (oq_assign rfl) rfl rfl rfl ?_
          refine WL.nil (WE.then_normal (WC.sub (fr' := [(4, _)]) ?_ ⟨rfl, trivial⟩))
          refine WC.ret (WE.then_ret ?_)
          refine WE.endW2 (.inl rfl) (res1 Tryd.results57 rfl) ?_
          -- end 0
          exact ⟨sb, 64, _, rfl, by rw [List.length_nil, Nat.zero_add], hsb, by simp, by simp only [List.length_nil]; omega, by unfold maxLen; omega, by simp⟩
        ·
          try simp only [Z1, Z2, Z3, Z4, Z5, Z6, Z7, Z8, Z9, Z0] at q7
          refine WC.skip (WE.then_normal (WC.sub (fr' := [(0, _), (1, _), (5, _)]) ?_ ⟨rfl, rfl, rfl, trivial⟩))
          refine WC.seq (WC.region ?_)
          refine WL.q (oq_move rfl) rfl rfl rfl ?_
          refine WL.q (oq_nilCheck rfl) rfl rfl rfl ?_
          refine WL.q (oq_fieldAddr fld39_0 rfl) rfl rfl rfl ?_
          refine WL.q (oq_load flat23 rfl (.head _) (List.mem_singleton.2 rfl) rfl) rfl rfl rfl ?_
          refine WL.q (oq_cap_sl Tryd.underlying23 rfl) rfl rfl rfl ?_
          refine WL.q (oq_assign rfl) rfl rfl rfl ?_
          refine WL.nil (WE.then_normal (WC.sub (fr' := [(0, _), (1, _), (5, _), (8, _)]) ?_ ⟨rfl, rfl, rfl, rfl, trivial⟩))
          refine WC.seq (WC.seq (WC.region ?_))
          refine WL.q (oq_move rfl) rfl rfl rfl ?_
          refine WL.q (oq_move rfl) rfl rfl rfl ?_
          refine WL.q (oq_quo rfl rfl (by rw [i64_hi]; omega)) rfl rfl rfl ?_
          refine WL.q (oq_move rfl) rfl rfl rfl ?_
          refine WL.q (oq_sub rfl rfl (by rw [i64_lo, i64_hi]; (first | omega | (simp only [List.length_cons, List.length_nil, List.length_append, List.length_drop, List.length_take]; omega)))) rfl rfl rfl ?_
          refine WL.q (oq_leq rfl rfl) rfl rfl rfl ?_
          refine WL.nil (WE.then_normal (WC.sub (fr' := [(0, _), (1, _), (5, _), (8, _), (54, _)]) ?_ ⟨rfl, rfl, rfl, rfl, rfl, trivial⟩))
          refine WC.cond rfl (fun q11 => ?_) (fun q11 => ?_)
          ·
            try simp only [Z1, Z2, Z3, Z4, Z5, Z6, Z7, Z8, Z9, Z0] at q11
            first | contradiction | (exfalso; omega) | (exfalso; simp_all; done)
          ·
            try simp only [Z1, Z2, Z3, Z4, Z5, Z6, Z7, Z8, Z9, Z0] at q11
            refine WC.seq (WC.region ?_)
            refine WL.q (oq_move rfl) rfl rfl rfl ?_
            refine WL.q (oq_move rfl) rfl rfl rfl ?_
            refine WL.q (oq_sub rfl rfl (by rw [i64_lo, i64_hi]; (first | omega | (simp only [List.length_cons, List.length_nil, List.length_append, List.length_drop, List.length_take]; omega)))) rfl rfl rfl ?_
            refine WL.q (oq_move rfl) rfl rfl rfl ?_
            refine WL.q (oq_sub rfl rfl (by rw [i64_lo, i64_hi]; (first | omega | (simp only [List.length_cons, List.length_nil, List.length_append, List.length_drop, List.length_take]; omega)))) rfl rfl rfl ?_
            refine WL.q (oq_gtr rfl rfl) rfl rfl rfl ?_
            refine WL.nil (WE.then_normal (WC.sub (fr' := [(0, _), (1, _), (5, _), (74, _)]) ?_ ⟨rfl, rfl, rfl, rfl, trivial⟩))
            refine WC.cond rfl (fun q13 => ?_) (fun q13 => ?_)
            ·
              try simp only [Z1, Z2, Z3, Z4, Z5, Z6, Z7, Z8, Z9, Z0] at q13
              first | contradiction | (exfalso; omega) | (exfalso; simp_all; done)
            ·
              try simp only [Z1, Z2, Z3, Z4, Z5, Z6, Z7, Z8, Z9, Z0] at q13
              refine WC.tailM (pl := [_]) (ql := [_, _, _, _, _, _, _, _, _, _, _, _, _, _, _]) (tl := [_, _, _, _]) [0] [1, 2, 3, 4, 5, 6, 7, 8, 9, 10, 11, 12, 13, 14, 15] 16 [17, 18, 19] (by kernel_rfl) (by kernel_rfl) (by kernel_rfl) (by kernel_rfl) (by kernel_rfl) (by kernel_rfl) (by decide) rfl rfl rfl (by decide) (by repeat (first | with_reducible exact QOk.body | with_reducible apply QOk.then | with_reducible apply QOk.block | exact QOk.body | apply QOk.then | apply QOk.block)) ?_
              refine WM.q (fun w0 => oq_move rfl) rfl rfl rfl ?_
              refine WM.nil ?_
              refine WY.q (oq_move rfl) rfl rfl rfl ?_
              refine WY.q (oq_nilCheck rfl) rfl rfl rfl ?_
              refine WY.q (oq_fieldAddr fld39_0 rfl) rfl rfl rfl ?_
              refine WY.q (oq_load flat23 rfl (.head _) (List.mem_singleton.2 rfl) rfl) rfl rfl rfl ?_
              refine WY.q (oq_move rfl) rfl rfl rfl ?_
              refine WY.q (oq_nilCheck rfl) rfl rfl rfl ?_
              refine WY.q (oq_fieldAddr fld39_1 rfl) rfl rfl rfl ?_
              refine WY.q (oq_load flat3 rfl (.head _) (List.mem_singleton.2 rfl) rfl) rfl rfl rfl ?_
              refine WY.q (oq_sliceNil Tryd.underlying23 ty5 rfl rfl) rfl rfl rfl ?_
              refine WY.q (oq_move rfl) rfl rfl rfl ?_
              refine WY.q (oq_nilCheck rfl) rfl rfl rfl ?_
              refine WY.q (oq_fieldAddr fld39_1 rfl) rfl rfl rfl ?_
              refine WY.q (oq_load flat3 rfl (.head _) (List.mem_singleton.2 rfl) rfl) rfl rfl rfl ?_
              refine WY.q (oq_move rfl) rfl rfl rfl ?_
              refine WY.q (oq_add rfl rfl (by rw [i64_lo, i64_hi]; (first | omega | (simp only [List.length_cons, List.length_nil, List.length_append, List.length_drop, List.length_take]; omega)))) rfl rfl rfl ?_
              refine WY.nil ?_
              refine WL.callA0 (growSlice none 0 n [] [] ⟨rfl, .inl ⟨rfl, _, _, rfl⟩⟩ (by simp only [List.length_nil]; omega) hn (by omega)) call59 (by rw [Int.zero_add]; rfl) rfl rfl fun v15_16 N15_16 hR15_16 hN15_16 => ?_
              obtain ⟨B2, cap2, L2, rfl, rfl, hL2, hc2, hm2, ht2⟩ := hR15_16
              have hB2 := hN15_16 _ _ (List.mem_singleton.2 rfl)
              refine WL.q (oq_nilCheck rfl) rfl rfl rfl ?_
              refine WL.q (oq_fieldAddr fld39_0 rfl) rfl rfl rfl ?_
              refine WL.f1 ?_
              refine WL.store1 #[_, _, _] ty23 rfl rfl (by first | rfl | exact OwS.one one_) (Nat.lt_of_lt_of_le (Nat.lt_succ_self _) (Nat.le_of_ble_eq_true rfl)) rfl rfl ?_
              refine WL.nil (WE.then_normal (WC.sub (fr' := [(0, _), (1, _), (5, _)]) ?_ ⟨rfl, rfl, rfl, trivial⟩))
              refine WC.seq (WC.region ?_)
              refine WL.q (oq_move rfl) rfl rfl rfl ?_
              refine WL.q (oq_nilCheck rfl) rfl rfl rfl ?_
              refine WL.q (oq_fieldAddr fld39_1 rfl) rfl rfl rfl ?_
              refine WL.store1 #[_, _, _] ty3 rfl rfl (by first | rfl | exact OwS.one one_) (Nat.lt_of_lt_of_le (Nat.lt_succ_self _) (Nat.le_of_ble_eq_true rfl)) rfl rfl ?_
              refine WL.nil (WE.then_normal (WC.sub (fr' := [(0, _), (1, _), (5, _)]) ?_ ⟨rfl, rfl, rfl, trivial⟩))
              refine WC.seq (WC.region ?_)
              refine WL.q (oq_move rfl) rfl rfl rfl ?_
              refine WL.q (oq_move rfl) rfl rfl rfl ?_
              refine WL.q (oq_nilCheck rfl) rfl rfl rfl ?_
              refine WL.q (oq_fieldAddr fld39_0 rfl) rfl rfl rfl ?_
              refine WL.q (oq_load flat23 rfl (.head _) (List.mem_singleton.2 rfl) rfl) rfl rfl rfl ?_
              refine WL.q (oq_move rfl) rfl rfl rfl ?_
              refine WL.q (oq_move rfl) rfl rfl rfl ?_
              refine WL.q (oq_add rfl rfl (by rw [i64_lo, i64_hi]; (first | omega | (simp only [List.length_cons, List.length_nil, List.length_append, List.length_drop, List.length_take]; omega)))) rfl rfl rfl ?_
              refine WL.q (oq_sliceSl (j := (0 + n)) Tryd.underlying23 ty5 rfl (by (first | omega | (simp only [List.length_nil]; omega))) rfl ⟨_, rfl⟩ (by (first | omega | (simp only [List.length_nil]; omega))) (by (first | omega | (simp only [List.length_nil]; omega)))) rfl rfl rfl ?_
              refine WL.q (oq_nilCheck rfl) rfl rfl rfl ?_
              refine WL.q (oq_fieldAddr fld39_0 rfl) rfl rfl rfl ?_
              refine WL.store1 #[_, _, _] ty23 rfl rfl (by first | rfl | exact OwS.one one_) (Nat.lt_of_lt_of_le (Nat.lt_succ_self _) (Nat.le_of_ble_eq_true rfl)) rfl rfl ?_
              refine WL.nil (WE.then_normal (WC.sub (fr' := [(5, _)]) ?_ ⟨rfl, trivial⟩))
              refine WC.seq (WC.region ?_)
              refine WL.q (oq_move rfl) rfl rfl rfl ?_
              refine WL.q (oq_assign rfl) rfl rfl rfl ?_
              refine WL.nil (WE.then_normal (WC.sub (fr' := [(4, _)]) ?_ ⟨rfl, trivial⟩))
              refine WC.ret ?_
              refine WE.endW2 (.inl rfl) (res1 Tryd.results57 rfl) ?_
              -- end 1
              refine ⟨B2, cap2, L2, rfl, ?_, hB2, hL2, hc2, hm2, ht2⟩
              rw [List.length_nil, Nat.zero_add, Nat.zero_add]; rfl
      ·
        try simp only [Z1, Z2, Z3, Z4, Z5, Z6, Z7, Z8, Z9, Z0] at s7_5
        refine WL.skip rfl rfl rfl ?_
        refine WL.skip rfl rfl rfl ?_
        refine WL.q (oq_pick_f rfl rfl) rfl rfl rfl ?_
        refine WL.nil (WE.then_normal (WC.sub (fr' := [(0, _), (1, _), (5, _), (38, _)]) ?_ ⟨rfl, rfl, rfl, rfl, trivial⟩))
        refine WC.cond_f rfl ?_
        refine WC.skip (WE.then_normal (WC.sub (fr' := [(0, _), (1, _), (5, _)]) ?_ ⟨rfl, rfl, rfl, trivial⟩))
        refine WC.seq (WC.region ?_)
        refine WL.q (oq_move rfl) rfl rfl rfl ?_
        refine WL.q (oq_nilCheck rfl) rfl rfl rfl ?_
        refine WL.q (oq_fieldAddr fld39_0 rfl) rfl rfl rfl ?_
        refine WL.q (oq_load flat23 rfl (.head _) (List.mem_singleton.2 rfl) rfl) rfl rfl rfl ?_
        refine WL.q (oq_cap_sl Tryd.underlying23 rfl) rfl rfl rfl ?_
        refine WL.q (oq_assign rfl) rfl rfl rfl ?_
        refine WL.nil (WE.then_normal (WC.sub (fr' := [(0, _), (1, _), (5, _), (8, _)]) ?_ ⟨rfl, rfl, rfl, rfl, trivial⟩))
        refine WC.seq (WC.seq (WC.region ?_))
        refine WL.q (oq_move rfl) rfl rfl rfl ?_
        refine WL.q (oq_move rfl) rfl rfl rfl ?_
        refine WL.q (oq_quo rfl rfl (by rw [i64_hi]; omega)) rfl rfl rfl ?_
        refine WL.q (oq_move rfl) rfl rfl rfl ?_
        refine WL.q (oq_sub rfl rfl (by rw [i64_lo, i64_hi]; (first | omega | (simp only [List.length_cons, List.length_nil, List.length_append, List.length_drop, List.length_take]; omega)))) rfl rfl rfl ?_
        refine WL.q (oq_leq rfl rfl) rfl rfl rfl ?_
        refine WL.nil (WE.then_normal (WC.sub (fr' := [(0, _), (1, _), (5, _), (8, _), (54, _)]) ?_ ⟨rfl, rfl, rfl, rfl, rfl, trivial⟩))
        refine WC.cond rfl (fun q11 => ?_) (fun q11 => ?_)
        ·
          try simp only [Z1, Z2, Z3, Z4, Z5, Z6, Z7, Z8, Z9, Z0] at q11
          first | contradiction | (exfalso; omega) | (exfalso; simp_all; done)
        ·
          try simp only [Z1, Z2, Z3, Z4, Z5, Z6, Z7, Z8, Z9, Z0] at q11
          refine WC.seq (WC.region ?_)
          refine WL.q (oq_move rfl) rfl rfl rfl ?_
          refine WL.q (oq_move rfl) rfl rfl rfl ?_
          refine WL.q (oq_sub rfl rfl (by rw [i64_lo, i64_hi]; (first | omega | (simp only [List.length_cons, List.length_nil, List.length_append, List.length_drop, List.length_take]; omega)))) rfl rfl rfl ?_
          refine WL.q (oq_move rfl) rfl rfl rfl ?_
          refine WL.q (oq_sub rfl rfl (by rw [i64_lo, i64_hi]; (first | omega | (simp only [List.length_cons, List.length_nil, List.length_append, List.length_drop, List.length_take]; omega)))) rfl rfl rfl ?_
          refine WL.q (oq_gtr rfl rfl) rfl rfl rfl ?_
          refine WL.nil (WE.then_normal (WC.sub (fr' := [(0, _), (1, _), (5, _), (74, _)]) ?_ ⟨rfl, rfl, rfl, rfl, trivial⟩))
          refine WC.cond rfl (fun q13 => ?_) (fun q13 => ?_)
          ·
            try simp only [Z1, Z2, Z3, Z4, Z5, Z6, Z7, Z8, Z9, Z0] at q13
            first | contradiction | (exfalso; omega) | (exfalso; simp_all; done)
          ·
            try simp only [Z1, Z2, Z3, Z4, Z5, Z6, Z7, Z8, Z9, Z0] at q13
            refine WC.tailM (pl := [_]) (ql := [_, _, _, _, _, _, _, _, _, _, _, _, _, _, _]) (tl := [_, _, _, _]) [0] [1, 2, 3, 4, 5, 6, 7, 8, 9, 10, 11, 12, 13, 14, 15] 16 [17, 18, 19] (by kernel_rfl) (by kernel_rfl) (by kernel_rfl) (by kernel_rfl) (by kernel_rfl) (by kernel_rfl) (by decide) rfl rfl rfl (by decide) (by repeat (first | with_reducible exact QOk.body | with_reducible apply QOk.then | with_reducible apply QOk.block | exact QOk.body | apply QOk.then | apply QOk.block)) ?_
            refine WM.q (fun w0 => oq_move rfl) rfl rfl rfl ?_
            refine WM.nil ?_
            refine WY.q (oq_move rfl) rfl rfl rfl ?_
            refine WY.q (oq_nilCheck rfl) rfl rfl rfl ?_
            refine WY.q (oq_fieldAddr fld39_0 rfl) rfl rfl rfl ?_
            refine WY.q (oq_load flat23 rfl (.head _) (List.mem_singleton.2 rfl) rfl) rfl rfl rfl ?_
            refine WY.q (oq_move rfl) rfl rfl rfl ?_
            refine WY.q (oq_nilCheck rfl) rfl rfl rfl ?_
            refine WY.q (oq_fieldAddr fld39_1 rfl) rfl rfl rfl ?_
            refine WY.q (oq_load flat3 rfl (.head _) (List.mem_singleton.2 rfl) rfl) rfl rfl rfl ?_
            refine WY.q (oq_sliceNil Tryd.underlying23 ty5 rfl rfl) rfl rfl rfl ?_
            refine WY.q (oq_move rfl) rfl rfl rfl ?_
            refine WY.q (oq_nilCheck rfl) rfl rfl rfl ?_
            refine WY.q (oq_fieldAddr fld39_1 rfl) rfl rfl rfl ?_
            refine WY.q (oq_load flat3 rfl (.head _) (List.mem_singleton.2 rfl) rfl) rfl rfl rfl ?_
            refine WY.q (oq_move rfl) rfl rfl rfl ?_
            refine WY.q (oq_add rfl rfl (by rw [i64_lo, i64_hi]; (first | omega | (simp only [List.length_cons, List.length_nil, List.length_append, List.length_drop, List.length_take]; omega)))) rfl rfl rfl ?_
            refine WY.nil ?_
            refine WL.callA0 (growSlice none 0 n [] [] ⟨rfl, .inl ⟨rfl, _, _, rfl⟩⟩ (by simp only [List.length_nil]; omega) hn (by omega)) call59 (by rw [Int.zero_add]; rfl) rfl rfl fun v15_16 N15_16 hR15_16 hN15_16 => ?_
            obtain ⟨B2, cap2, L2, rfl, rfl, hL2, hc2, hm2, ht2⟩ := hR15_16
            have hB2 := hN15_16 _ _ (List.mem_singleton.2 rfl)
            refine WL.q (oq_nilCheck rfl) rfl rfl rfl ?_
            refine WL.q (oq_fieldAddr fld39_0 rfl) rfl rfl rfl ?_
            refine WL.f1 ?_
            refine WL.store1 #[_, _, _] ty23 rfl rfl (by first | rfl | exact OwS.one one_) (Nat.lt_of_lt_of_le (Nat.lt_succ_self _) (Nat.le_of_ble_eq_true rfl)) rfl rfl ?_
            refine WL.nil (WE.then_normal (WC.sub (fr' := [(0, _), (1, _), (5, _)]) ?_ ⟨rfl, rfl, rfl, trivial⟩))
            refine WC.seq (WC.region ?_)
            refine WL.q (oq_move rfl) rfl rfl rfl ?_
            refine WL.q (oq_nilCheck rfl) rfl rfl rfl ?_
            refine WL.q (oq_fieldAddr fld39_1 rfl) rfl rfl rfl ?_
            refine WL.store1 #[_, _, _] ty3 rfl rfl (by first | rfl | exact OwS.one one_) (Nat.lt_of_lt_of_le (Nat.lt_succ_self _) (Nat.le_of_ble_eq_true rfl)) rfl rfl ?_
            refine WL.nil (WE.then_normal (WC.sub (fr' := [(0, _), (1, _), (5, _)]) ?_ ⟨rfl, rfl, rfl, trivial⟩))
            refine WC.seq (WC.region ?_)
            refine WL.q (oq_move rfl) rfl rfl rfl ?_
            refine WL.q (oq_move rfl) rfl rfl rfl ?_
            refine WL.q (oq_nilCheck rfl) rfl rfl rfl ?_
            refine WL.q (oq_fieldAddr fld39_0 rfl) rfl rfl rfl ?_
            refine WL.q (oq_load flat23 rfl (.head _) (List.mem_singleton.2 rfl) rfl) rfl rfl rfl ?_
            refine WL.q (oq_move rfl) rfl rfl rfl ?_
            refine WL.q (oq_move rfl) rfl rfl rfl ?_
            refine WL.q (oq_add rfl rfl (by rw [i64_lo, i64_hi]; (first | omega | (simp only [List.length_cons, List.length_nil, List.length_append, List.length_drop, List.length_take]; omega)))) rfl rfl rfl ?_
            refine WL.q (oq_sliceSl (j := (0 + n)) Tryd.underlying23 ty5 rfl (by (first | omega | (simp only [List.length_nil]; omega))) rfl ⟨_, rfl⟩ (by (first | omega | (simp only [List.length_nil]; omega))) (by (first | omega | (simp only [List.length_nil]; omega)))) rfl rfl rfl ?_
            refine WL.q (oq_nilCheck rfl) rfl rfl rfl ?_
            refine WL.q (oq_fieldAddr fld39_0 rfl) rfl rfl rfl ?_
            refine WL.store1 #[_, _, _] ty23 rfl rfl (by first | rfl | exact OwS.one one_) (Nat.lt_of_lt_of_le (Nat.lt_succ_self _) (Nat.le_of_ble_eq_true rfl)) rfl rfl ?_
            refine WL.nil (WE.then_normal (WC.sub (fr' := [(5, _)]) ?_ ⟨rfl, trivial⟩))
            refine WC.seq (WC.region ?_)
            refine WL.q (oq_move rfl) rfl rfl rfl ?_
            refine WL.q (oq_assign rfl) rfl rfl rfl ?_
            refine WL.nil (WE.then_normal (WC.sub (fr' := [(4, _)]) ?_ ⟨rfl, trivial⟩))
            refine WC.ret ?_
            refine WE.endW2 (.inl rfl) (res1 Tryd.results57 rfl) ?_
            -- end 2
            refine ⟨B2, cap2, L2, rfl, ?_, hB2, hL2, hc2, hm2, ht2⟩
            rw [List.length_nil, Nat.zero_add, Nat.zero_add]; rfl

/-- (*bytes.Buffer).grow -/
theorem grow1 (base bb B cap n : Nat) (lr : Int) (L acc : List UInt8) (hB : base ≤ B) (hLc : L.length = cap) (hac : acc.length ≤ cap) (hc0 : 0 < cap) (hmx : cap ≤ maxLen) (hLt : L.take acc.length = acc) (hn : 0 < n) (hal : acc.length + n ≤ 1000000) : FnW Tryd.prog 57 [Pt bb 0, I (n : Int)] base [[(bb, .cells #[Sl B 0 acc.length cap, I 0, .int .i8 lr] 39 (0, 0))], Bf B 5 L] (Grown n base bb lr acc) := by
  have hmy : maxLen ≤ 9223372036854775807 := by unfold maxLen; omega
  have hrd : RdS 1 (Sl B 0 acc.length cap) (Bf B 5 L) acc.length (bytesV acc) := by have := Sl.rd (b := B) (off := 0) (n := acc.length) (c := cap) (e := 5) (l := L) (by omega) hac; rw [List.drop_zero, hLt] at this; exact this
  refine FnW.enter (n := 110) Tryd.func57 rfl rfl fun w0 R0 hbase => ?_
  subst hbase
  show WC _ _ _ _ _ _ _ ([[(bb, .cells #[Sl B 0 acc.length cap, I 0, .int .i8 lr] 39 (0, 0))], Bf B 5 L, R0])
  refine WC.sub (fr' := [(0, _), (1, _)]) ?_ ⟨rfl, rfl, trivial⟩
  refine WC.seq (WC.region ?_)
  refine WL.q (oq_assign rfl) rfl rfl rfl ?_
  refine WL.nil (WE.then_normal (WC.sub (fr' := [(0, _), (1, _)]) ?_ ⟨rfl, rfl, trivial⟩))
  refine WC.seq (WC.region ?_)
  refine WL.q (oq_move rfl) rfl rfl rfl ?_
  refine WL.qc (oq_callRm (bufLen bb acc.length cap (some ⟨B, 0, none⟩) lr (by omega)) (.head _) call24 rfl) rfl rfl rfl ?_
  refine WL.q (oq_assign rfl) rfl rfl rfl ?_
  refine WL.nil (WE.then_normal (WC.sub (fr' := [(0, _), (1, _), (5, _)]) ?_ ⟨rfl, rfl, rfl, trivial⟩))
  refine WC.cut (ι := Unit) (fun _ => [(0, Pt bb 0), (1, I (n : Int)), (5, I (acc.length : Int))]) (fun _ => [[(bb, .cells #[Sl B 0 acc.length cap, I 0, .int .i8 lr] 39 (0, 0))], Bf B 5 L, R0]) (fun _ => True) ?_ ?_
  ·
    refine WC.seq (WC.region ?_)
    refine WL.q (oq_move rfl) rfl rfl rfl ?_
    refine WL.q (oq_eql rfl rfl) rfl rfl rfl ?_
    refine WL.q (oq_move rfl) rfl rfl rfl ?_
    refine WL.split 13 rfl (fun s2_2 => ?_) (fun s2_2 => ?_)
    ·
      try simp only [Z1, Z2, Z3, Z4, Z5, Z6, Z7, Z8, Z9, Z0] at s2_2
      refine WL.q (oq_move rfl) rfl rfl rfl ?_
      refine WL.q (oq_nilCheck rfl) rfl rfl rfl ?_
      refine WL.q (oq_fieldAddr fld39_1 rfl) rfl rfl rfl ?_
      refine WL.q (oq_load flat3 rfl (.head _) (List.mem_singleton.2 rfl) rfl) rfl rfl rfl ?_
      refine WL.q (oq_neq rfl rfl) rfl rfl rfl ?_
      refine WL.q (oq_pick_t rfl rfl) rfl rfl rfl ?_
      refine WL.nil (WE.then_normal (WC.sub (fr' := [(0, _), (1, _), (5, _), (19, _)]) ?_ ⟨rfl, rfl, rfl, rfl, trivial⟩))
      refine WC.cond rfl (fun q2 => ?_) (fun q2 => ?_)
      ·
        try simp only [Z1, Z2, Z3, Z4, Z5, Z6, Z7, Z8, Z9, Z0] at q2
        first | contradiction | (exfalso; omega) | (exfalso; simp_all; done)
      ·
        try simp only [Z1, Z2, Z3, Z4, Z5, Z6, Z7, Z8, Z9, Z0] at q2
        refine WC.skip ?_
        refine WE.meet () ?_ ⟨rfl, rfl, rfl, trivial⟩ (List.Perm.refl _)
        try dsimp only
        all_goals trivial   -- meet 0
    ·
      try simp only [Z1, Z2, Z3, Z4, Z5, Z6, Z7, Z8, Z9, Z0] at s2_2
      refine WL.skip rfl rfl rfl ?_
      refine WL.skip rfl rfl rfl ?_
      refine WL.skip rfl rfl rfl ?_
      refine WL.skip rfl rfl rfl ?_
      refine WL.skip rfl rfl rfl ?_
      refine WL.q (oq_pick_f rfl rfl) rfl rfl rfl ?_
      refine WL.nil (WE.then_normal (WC.sub (fr' := [(0, _), (1, _), (5, _), (19, _)]) ?_ ⟨rfl, rfl, rfl, rfl, trivial⟩))
      refine WC.cond_f rfl ?_
      refine WC.skip ?_
      refine WE.meet () ?_ ⟨rfl, rfl, rfl, trivial⟩ (List.Perm.refl _)
      try dsimp only
      all_goals trivial   -- meet 1
  · rintro _ hp
    try dsimp only at hp
    show WC _ _ _ _ _ _ ([(0, Pt bb 0), (1, I (n : Int)), (5, I (acc.length : Int))]) ([[(bb, .cells #[Sl B 0 acc.length cap, I 0, .int .i8 lr] 39 (0, 0))], Bf B 5 L, R0])
    refine WC.seq (WC.seq (WC.region ?_))
    refine WL.q (oq_move rfl) rfl rfl rfl ?_
    refine WL.q (oq_move rfl) rfl rfl rfl ?_
    refine WL.callW1 (tryGrow1 _ bb B acc.length cap n lr hac (by omega) hmx hc0) call58 rfl rfl rfl fun v4_2 Hs4_2 hR4_2 => ?_
    obtain ⟨rfl, rfl⟩ := hR4_2
    refine WL.to1 ?_
    refine WL.q (oq_move rfl) rfl rfl rfl ?_
    refine WL.q (oq_extract rfl rfl) rfl rfl rfl ?_
    refine WL.q (oq_extract rfl rfl) rfl rfl rfl ?_
    refine WL.q (oq_assign rfl) rfl rfl rfl ?_
    refine WL.q (oq_assign rfl) rfl rfl rfl ?_
    refine WL.nil (WE.then_normal (WC.sub (fr' := [(0, _), (1, _), (5, _), (6, _), (7, _)]) ?_ ⟨rfl, rfl, rfl, rfl, rfl, trivial⟩))
    refine WC.seq (WC.region ?_)
    refine WL.q (oq_move rfl) rfl rfl rfl ?_
    refine WL.nil (WE.then_normal (WC.sub (fr' := [(0, _), (1, _), (5, _), (6, _), (28, _)]) ?_ ⟨rfl, rfl, rfl, rfl, rfl, trivial⟩))
    refine WC.cond rfl (fun q5 => ?_) (fun q5 => ?_)
    ·
      try simp only [Z1, Z2, Z3, Z4, Z5, Z6, Z7, Z8, Z9, Z0] at q5
      refine WC.seq (WC.region ?_)
      refine WL.q (oq_move rfl) rfl rfl rfl ?_
      refine WL.q (oq_assign rfl) rfl rfl rfl ?_
      refine WL.nil (WE.then_normal (WC.sub (fr' := [(4, _)]) ?_ ⟨rfl, trivial⟩))
      refine WC.ret (WE.then_ret ?_)
      refine WE.endW2 (.inl rfl) (res1 Tryd.results57 rfl) ?_
      -- end 0
      rw [if_pos (by omega), if_pos (by omega)]
      exact ⟨B, cap, L, rfl, rfl, hB, hLc, by omega, hmx, hLt⟩
    ·
      try simp only [Z1, Z2, Z3, Z4, Z5, Z6, Z7, Z8, Z9, Z0] at q5
      refine WC.skip (WE.then_normal (WC.sub (fr' := [(0, _), (1, _), (5, _)]) ?_ ⟨rfl, rfl, rfl, trivial⟩))
      refine WC.seq (WC.seq ?_)
      rw [if_neg (show ¬ (acc.length + n ≤ cap) by omega)]
      refine WC.region ?_
      refine WL.q (oq_move rfl) rfl rfl rfl ?_
      refine WL.q (oq_nilCheck rfl) rfl rfl rfl ?_
      refine WL.q (oq_fieldAddr fld39_0 rfl) rfl rfl rfl ?_
      refine WL.q (oq_load flat23 rfl (.head _) (List.mem_singleton.2 rfl) rfl) rfl rfl rfl ?_
      refine WL.q (oq_sleql Tryd.underlying23 rfl rfl) rfl rfl rfl ?_
      refine WL.q (oq_move rfl) rfl rfl rfl ?_
      refine WL.split 35 rfl (fun s7_5 => ?_) (fun s7_5 => ?_)
      ·
        try simp only [Z1, Z2, Z3, Z4, Z5, Z6, Z7, Z8, Z9, Z0] at s7_5
        refine WL.q (oq_move rfl) rfl rfl rfl ?_
        refine WL.q (oq_leq rfl rfl) rfl rfl rfl ?_
        refine WL.q (oq_pick_t rfl rfl) rfl rfl rfl ?_
        refine WL.nil (WE.then_normal (WC.sub (fr' := [(0, _), (1, _), (5, _), (38, _)]) ?_ ⟨rfl, rfl, rfl, rfl, trivial⟩))
        refine WC.cond rfl (fun q7 => ?_) (fun q7 => ?_)
        ·
          try simp only [Z1, Z2, Z3, Z4, Z5, Z6, Z7, Z8, Z9, Z0] at q7
          refine WC.seq ?_
          first | contradiction | (exfalso; omega) | (exfalso; simp_all; done)
        ·
          try simp only [Z1, Z2, Z3, Z4, Z5, Z6, Z7, Z8, Z9, Z0] at q7
          refine WC.skip (WE.then_normal (WC.sub (fr' := [(0, _), (1, _), (5, _)]) ?_ ⟨rfl, rfl, rfl, trivial⟩))
          refine WC.seq (WC.region ?_)
          refine WL.q (oq_move rfl) rfl rfl rfl ?_
          refine WL.q (oq_nilCheck rfl) rfl rfl rfl ?_
          refine WL.q (oq_fieldAddr fld39_0 rfl) rfl rfl rfl ?_
          refine WL.q (oq_load flat23 rfl (.head _) (List.mem_singleton.2 rfl) rfl) rfl rfl rfl ?_
          refine WL.q (oq_cap_sl Tryd.underlying23 rfl) rfl rfl rfl ?_
          refine WL.q (oq_assign rfl) rfl rfl rfl ?_
          refine WL.nil (WE.then_normal (WC.sub (fr' := [(0, _), (1, _), (5, _), (8, _)]) ?_ ⟨rfl, rfl, rfl, rfl, trivial⟩))
          refine WC.seq (WC.seq (WC.region ?_))
          refine WL.q (oq_move rfl) rfl rfl rfl ?_
          refine WL.q (oq_move rfl) rfl rfl rfl ?_
          refine WL.q (oq_quo rfl rfl (by rw [i64_hi]; omega)) rfl rfl rfl ?_
          refine WL.q (oq_move rfl) rfl rfl rfl ?_
          refine WL.q (oq_sub rfl rfl (by rw [i64_lo, i64_hi]; (first | omega | (simp only [List.length_cons, List.length_nil, List.length_append, List.length_drop, List.length_take]; omega)))) rfl rfl rfl ?_
          refine WL.q (oq_leq rfl rfl) rfl rfl rfl ?_
          refine WL.nil (WE.then_normal (WC.sub (fr' := [(0, _), (1, _), (5, _), (8, _), (54, _)]) ?_ ⟨rfl, rfl, rfl, rfl, rfl, trivial⟩))
          refine WC.cond rfl (fun q11 => ?_) (fun q11 => ?_)
          ·
            try simp only [Z1, Z2, Z3, Z4, Z5, Z6, Z7, Z8, Z9, Z0] at q11
            first | contradiction | (exfalso; omega) | (exfalso; simp_all; done)
          ·
            try simp only [Z1, Z2, Z3, Z4, Z5, Z6, Z7, Z8, Z9, Z0] at q11
            refine WC.seq (WC.region ?_)
            refine WL.q (oq_move rfl) rfl rfl rfl ?_
            refine WL.q (oq_move rfl) rfl rfl rfl ?_
            refine WL.q (oq_sub rfl rfl (by rw [i64_lo, i64_hi]; (first | omega | (simp only [List.length_cons, List.length_nil, List.length_append, List.length_drop, List.length_take]; omega)))) rfl rfl rfl ?_
            refine WL.q (oq_move rfl) rfl rfl rfl ?_
            refine WL.q (oq_sub rfl rfl (by rw [i64_lo, i64_hi]; (first | omega | (simp only [List.length_cons, List.length_nil, List.length_append, List.length_drop, List.length_take]; omega)))) rfl rfl rfl ?_
            refine WL.q (oq_gtr rfl rfl) rfl rfl rfl ?_
            refine WL.nil (WE.then_normal (WC.sub (fr' := [(0, _), (1, _), (5, _), (74, _)]) ?_ ⟨rfl, rfl, rfl, rfl, trivial⟩))
            refine WC.cond rfl (fun q13 => ?_) (fun q13 => ?_)
            ·
              try simp only [Z1, Z2, Z3, Z4, Z5, Z6, Z7, Z8, Z9, Z0] at q13
              first | contradiction | (exfalso; omega) | (exfalso; simp_all; done)
            ·
              try simp only [Z1, Z2, Z3, Z4, Z5, Z6, Z7, Z8, Z9, Z0] at q13
              refine WC.tailM (pl := [_]) (ql := [_, _, _, _, _, _, _, _, _, _, _, _, _, _, _]) (tl := [_, _, _, _]) [0] [1, 2, 3, 4, 5, 6, 7, 8, 9, 10, 11, 12, 13, 14, 15] 16 [17, 18, 19] (by kernel_rfl) (by kernel_rfl) (by kernel_rfl) (by kernel_rfl) (by kernel_rfl) (by kernel_rfl) (by decide) rfl rfl rfl (by decide) (by repeat (first | with_reducible exact QOk.body | with_reducible apply QOk.then | with_reducible apply QOk.block | exact QOk.body | apply QOk.then | apply QOk.block)) ?_
              refine WM.q (fun w0 => oq_move rfl) rfl rfl rfl ?_
              refine WM.nil ?_
              refine WY.q (oq_move rfl) rfl rfl rfl ?_
              refine WY.q (oq_nilCheck rfl) rfl rfl rfl ?_
              refine WY.q (oq_fieldAddr fld39_0 rfl) rfl rfl rfl ?_
              refine WY.q (oq_load flat23 rfl (.head _) (List.mem_singleton.2 rfl) rfl) rfl rfl rfl ?_
              refine WY.q (oq_move rfl) rfl rfl rfl ?_
              refine WY.q (oq_nilCheck rfl) rfl rfl rfl ?_
              refine WY.q (oq_fieldAddr fld39_1 rfl) rfl rfl rfl ?_
              refine WY.q (oq_load flat3 rfl (.head _) (List.mem_singleton.2 rfl) rfl) rfl rfl rfl ?_
              refine WY.q (oq_sliceSl (i := 0) Tryd.underlying23 ty5 rfl (by omega) ⟨_, rfl⟩ rfl (by omega) (by omega)) rfl rfl rfl ?_
              refine WY.q (oq_move rfl) rfl rfl rfl ?_
              refine WY.q (oq_nilCheck rfl) rfl rfl rfl ?_
              refine WY.q (oq_fieldAddr fld39_1 rfl) rfl rfl rfl ?_
              refine WY.q (oq_load flat3 rfl (.head _) (List.mem_singleton.2 rfl) rfl) rfl rfl rfl ?_
              refine WY.q (oq_move rfl) rfl rfl rfl ?_
              refine WY.q (oq_add rfl rfl (by rw [i64_lo, i64_hi]; (first | omega | (simp only [List.length_cons, List.length_nil, List.length_append, List.length_drop, List.length_take]; omega)))) rfl rfl rfl ?_
              refine WY.nil ?_
              refine WL.f1 ?_
              refine WL.callA (growSlice (some ⟨B, 0, none⟩) cap n (Bf B 5 L) acc hrd (by omega) hn (by omega)) call59 (by rw [Int.zero_add]; rfl) rfl rfl fun v15_16 N15_16 hR15_16 hN15_16 => ?_
              obtain ⟨B2, cap2, L2, rfl, rfl, hL2, hc2, hm2, ht2⟩ := hR15_16
              have hB2 := hN15_16 _ _ (List.mem_singleton.2 rfl)
              refine WL.q (oq_nilCheck rfl) rfl rfl rfl ?_
              refine WL.q (oq_fieldAddr fld39_0 rfl) rfl rfl rfl ?_
              refine WL.f2 ?_
              refine WL.store1 #[_, _, _] ty23 rfl rfl (by first | rfl | exact OwS.one one_) (Nat.lt_of_lt_of_le (Nat.lt_succ_self _) (Nat.le_of_ble_eq_true rfl)) rfl rfl ?_
              refine WL.nil (WE.then_normal (WC.sub (fr' := [(0, _), (1, _), (5, _)]) ?_ ⟨rfl, rfl, rfl, trivial⟩))
              refine WC.seq (WC.region ?_)
              refine WL.q (oq_move rfl) rfl rfl rfl ?_
              refine WL.q (oq_nilCheck rfl) rfl rfl rfl ?_
              refine WL.q (oq_fieldAddr fld39_1 rfl) rfl rfl rfl ?_
              refine WL.store1 #[_, _, _] ty3 rfl rfl (by first | rfl | exact OwS.one one_) (Nat.lt_of_lt_of_le (Nat.lt_succ_self _) (Nat.le_of_ble_eq_true rfl)) rfl rfl ?_
              refine WL.nil (WE.then_normal (WC.sub (fr' := [(0, _), (1, _), (5, _)]) ?_ ⟨rfl, rfl, rfl, trivial⟩))
              refine WC.seq (WC.region ?_)
              refine WL.q (oq_move rfl) rfl rfl rfl ?_
              refine WL.q (oq_move rfl) rfl rfl rfl ?_
              refine WL.q (oq_nilCheck rfl) rfl rfl rfl ?_
              refine WL.q (oq_fieldAddr fld39_0 rfl) rfl rfl rfl ?_
              refine WL.q (oq_load flat23 rfl (.head _) (List.mem_singleton.2 rfl) rfl) rfl rfl rfl ?_
              refine WL.q (oq_move rfl) rfl rfl rfl ?_
              refine WL.q (oq_move rfl) rfl rfl rfl ?_
              refine WL.q (oq_add rfl rfl (by rw [i64_lo, i64_hi]; (first | omega | (simp only [List.length_cons, List.length_nil, List.length_append, List.length_drop, List.length_take]; omega)))) rfl rfl rfl ?_
              refine WL.q (oq_sliceSl (j := (acc.length + n)) Tryd.underlying23 ty5 rfl (by omega) rfl ⟨_, rfl⟩ (by omega) (by omega)) rfl rfl rfl ?_
              refine WL.q (oq_nilCheck rfl) rfl rfl rfl ?_
              refine WL.q (oq_fieldAddr fld39_0 rfl) rfl rfl rfl ?_
              refine WL.store1 #[_, _, _] ty23 rfl rfl (by first | rfl | exact OwS.one one_) (Nat.lt_of_lt_of_le (Nat.lt_succ_self _) (Nat.le_of_ble_eq_true rfl)) rfl rfl ?_
              refine WL.nil (WE.then_normal (WC.sub (fr' := [(5, _)]) ?_ ⟨rfl, trivial⟩))
              refine WC.seq (WC.region ?_)
              refine WL.q (oq_move rfl) rfl rfl rfl ?_
              refine WL.q (oq_assign rfl) rfl rfl rfl ?_
              refine WL.nil (WE.then_normal (WC.sub (fr' := [(4, _)]) ?_ ⟨rfl, trivial⟩))
              refine WC.ret ?_
              refine WE.f2 ?_
              refine WE.lose hB ?_
              refine WE.endW2 (.inl rfl) (res1 Tryd.results57 rfl) ?_
              -- end 1
              exact ⟨B2, cap2, L2, rfl, rfl, hB2, hL2, hc2, hm2, ht2⟩
      ·
        try simp only [Z1, Z2, Z3, Z4, Z5, Z6, Z7, Z8, Z9, Z0] at s7_5
        refine WL.skip rfl rfl rfl ?_
        refine WL.skip rfl rfl rfl ?_
        refine WL.q (oq_pick_f rfl rfl) rfl rfl rfl ?_
        refine WL.nil (WE.then_normal (WC.sub (fr' := [(0, _), (1, _), (5, _), (38, _)]) ?_ ⟨rfl, rfl, rfl, rfl, trivial⟩))
        refine WC.cond_f rfl ?_
        refine WC.skip (WE.then_normal (WC.sub (fr' := [(0, _), (1, _), (5, _)]) ?_ ⟨rfl, rfl, rfl, trivial⟩))
        refine WC.seq (WC.region ?_)
        refine WL.q (oq_move rfl) rfl rfl rfl ?_
        refine WL.q (oq_nilCheck rfl) rfl rfl rfl ?_
        refine WL.q (oq_fieldAddr fld39_0 rfl) rfl rfl rfl ?_
        refine WL.q (oq_load flat23 rfl (.head _) (List.mem_singleton.2 rfl) rfl) rfl rfl rfl ?_
        refine WL.q (oq_cap_sl Tryd.underlying23 rfl) rfl rfl rfl ?_
        refine WL.q (oq_assign rfl) rfl rfl rfl ?_
        refine WL.nil (WE.then_normal (WC.sub (fr' := [(0, _), (1, _), (5, _), (8, _)]) ?_ ⟨rfl, rfl, rfl, rfl, trivial⟩))
        refine WC.seq (WC.seq (WC.region ?_))
        refine WL.q (oq_move rfl) rfl rfl rfl ?_
        refine WL.q (oq_move rfl) rfl rfl rfl ?_
        refine WL.q (oq_quo rfl rfl (by rw [i64_hi]; omega)) rfl rfl rfl ?_
        refine WL.q (oq_move rfl) rfl rfl rfl ?_
        refine WL.q (oq_sub rfl rfl (by rw [i64_lo, i64_hi]; (first | omega | (simp only [List.length_cons, List.length_nil, List.length_append, List.length_drop, List.length_take]; omega)))) rfl rfl rfl ?_
        refine WL.q (oq_leq rfl rfl) rfl rfl rfl ?_
        refine WL.nil (WE.then_normal (WC.sub (fr' := [(0, _), (1, _), (5, _), (8, _), (54, _)]) ?_ ⟨rfl, rfl, rfl, rfl, rfl, trivial⟩))
        refine WC.cond rfl (fun q11 => ?_) (fun q11 => ?_)
        ·
          try simp only [Z1, Z2, Z3, Z4, Z5, Z6, Z7, Z8, Z9, Z0] at q11
          first | contradiction | (exfalso; omega) | (exfalso; simp_all; done)
        ·
          try simp only [Z1, Z2, Z3, Z4, Z5, Z6, Z7, Z8, Z9, Z0] at q11
          refine WC.seq (WC.region ?_)
          refine WL.q (oq_move rfl) rfl rfl rfl ?_
          refine WL.q (oq_move rfl) rfl rfl rfl ?_
          refine WL.q (oq_sub rfl rfl (by rw [i64_lo, i64_hi]; (first | omega | (simp only [List.length_cons, List.length_nil, List.length_append, List.length_drop, List.length_take]; omega)))) rfl rfl rfl ?_
          refine WL.q (oq_move rfl) rfl rfl rfl ?_
          refine WL.q (oq_sub rfl rfl (by rw [i64_lo, i64_hi]; (first | omega | (simp only [List.length_cons, List.length_nil, List.length_append, List.length_drop, List.length_take]; omega)))) rfl rfl rfl ?_
          refine WL.q (oq_gtr rfl rfl) rfl rfl rfl ?_
          refine WL.nil (WE.then_normal (WC.sub (fr' := [(0, _), (1, _), (5, _), (74, _)]) ?_ ⟨rfl, rfl, rfl, rfl, trivial⟩))
          refine WC.cond rfl (fun q13 => ?_) (fun q13 => ?_)
          ·
            try simp only [Z1, Z2, Z3, Z4, Z5, Z6, Z7, Z8, Z9, Z0] at q13
            first | contradiction | (exfalso; omega) | (exfalso; simp_all; done)
          ·
            try simp only [Z1, Z2, Z3, Z4, Z5, Z6, Z7, Z8, Z9, Z0] at q13
            refine WC.tailM (pl := [_]) (ql := [_, _, _, _, _, _, _, _, _, _, _, _, _, _, _]) (tl := [_, _, _, _]) [0] [1, 2, 3, 4, 5, 6, 7, 8, 9, 10, 11, 12, 13, 14, 15] 16 [17, 18, 19] (by kernel_rfl) (by kernel_rfl) (by kernel_rfl) (by kernel_rfl) (by kernel_rfl) (by kernel_rfl) (by decide) rfl rfl rfl (by decide) (by repeat (first | with_reducible exact QOk.body | with_reducible apply QOk.then | with_reducible apply QOk.block | exact QOk.body | apply QOk.then | apply QOk.block)) ?_
            refine WM.q (fun w0 => oq_move rfl) rfl rfl rfl ?_
            refine WM.nil ?_
            refine WY.q (oq_move rfl) rfl rfl rfl ?_
            refine WY.q (oq_nilCheck rfl) rfl rfl rfl ?_
            refine WY.q (oq_fieldAddr fld39_0 rfl) rfl rfl rfl ?_
            refine WY.q (oq_load flat23 rfl (.head _) (List.mem_singleton.2 rfl) rfl) rfl rfl rfl ?_
            refine WY.q (oq_move rfl) rfl rfl rfl ?_
            refine WY.q (oq_nilCheck rfl) rfl rfl rfl ?_
            refine WY.q (oq_fieldAddr fld39_1 rfl) rfl rfl rfl ?_
            refine WY.q (oq_load flat3 rfl (.head _) (List.mem_singleton.2 rfl) rfl) rfl rfl rfl ?_
            refine WY.q (oq_sliceSl (i := 0) Tryd.underlying23 ty5 rfl (by omega) ⟨_, rfl⟩ rfl (by omega) (by omega)) rfl rfl rfl ?_
            refine WY.q (oq_move rfl) rfl rfl rfl ?_
            refine WY.q (oq_nilCheck rfl) rfl rfl rfl ?_
            refine WY.q (oq_fieldAddr fld39_1 rfl) rfl rfl rfl ?_
            refine WY.q (oq_load flat3 rfl (.head _) (List.mem_singleton.2 rfl) rfl) rfl rfl rfl ?_
            refine WY.q (oq_move rfl) rfl rfl rfl ?_
            refine WY.q (oq_add rfl rfl (by rw [i64_lo, i64_hi]; (first | omega | (simp only [List.length_cons, List.length_nil, List.length_append, List.length_drop, List.length_take]; omega)))) rfl rfl rfl ?_
            refine WY.nil ?_
            refine WL.f1 ?_
            refine WL.callA (growSlice (some ⟨B, 0, none⟩) cap n (Bf B 5 L) acc hrd (by omega) hn (by omega)) call59 (by rw [Int.zero_add]; rfl) rfl rfl fun v15_16 N15_16 hR15_16 hN15_16 => ?_
            obtain ⟨B2, cap2, L2, rfl, rfl, hL2, hc2, hm2, ht2⟩ := hR15_16
            have hB2 := hN15_16 _ _ (List.mem_singleton.2 rfl)
            refine WL.q (oq_nilCheck rfl) rfl rfl rfl ?_
            refine WL.q (oq_fieldAddr fld39_0 rfl) rfl rfl rfl ?_
            refine WL.f2 ?_
            refine WL.store1 #[_, _, _] ty23 rfl rfl (by first | rfl | exact OwS.one one_) (Nat.lt_of_lt_of_le (Nat.lt_succ_self _) (Nat.le_of_ble_eq_true rfl)) rfl rfl ?_
            refine WL.nil (WE.then_normal (WC.sub (fr' := [(0, _), (1, _), (5, _)]) ?_ ⟨rfl, rfl, rfl, trivial⟩))
            refine WC.seq (WC.region ?_)
            refine WL.q (oq_move rfl) rfl rfl rfl ?_
            refine WL.q (oq_nilCheck rfl) rfl rfl rfl ?_
            refine WL.q (oq_fieldAddr fld39_1 rfl) rfl rfl rfl ?_
            refine WL.store1 #[_, _, _] ty3 rfl rfl (by first | rfl | exact OwS.one one_) (Nat.lt_of_lt_of_le (Nat.lt_succ_self _) (Nat.le_of_ble_eq_true rfl)) rfl rfl ?_
            refine WL.nil (WE.then_normal (WC.sub (fr' := [(0, _), (1, _), (5, _)]) ?_ ⟨rfl, rfl, rfl, trivial⟩))
            refine WC.seq (WC.region ?_)
            refine WL.q (oq_move rfl) rfl rfl rfl ?_
            refine WL.q (oq_move rfl) rfl rfl rfl ?_
            refine WL.q (oq_nilCheck rfl) rfl rfl rfl ?_
            refine WL.q (oq_fieldAddr fld39_0 rfl) rfl rfl rfl ?_
            refine WL.q (oq_load flat23 rfl (.head _) (List.mem_singleton.2 rfl) rfl) rfl rfl rfl ?_
            refine WL.q (oq_move rfl) rfl rfl rfl ?_
            refine WL.q (oq_move rfl) rfl rfl rfl ?_
            refine WL.q (oq_add rfl rfl (by rw [i64_lo, i64_hi]; (first | omega | (simp only [List.length_cons, List.length_nil, List.length_append, List.length_drop, List.length_take]; omega)))) rfl rfl rfl ?_
            refine WL.q (oq_sliceSl (j := (acc.length + n)) Tryd.underlying23 ty5 rfl (by omega) rfl ⟨_, rfl⟩ (by omega) (by omega)) rfl rfl rfl ?_
            refine WL.q (oq_nilCheck rfl) rfl rfl rfl ?_
            refine WL.q (oq_fieldAddr fld39_0 rfl) rfl rfl rfl ?_
            refine WL.store1 #[_, _, _] ty23 rfl rfl (by first | rfl | exact OwS.one one_) (Nat.lt_of_lt_of_le (Nat.lt_succ_self _) (Nat.le_of_ble_eq_true rfl)) rfl rfl ?_
            refine WL.nil (WE.then_normal (WC.sub (fr' := [(5, _)]) ?_ ⟨rfl, trivial⟩))
            refine WC.seq (WC.region ?_)
            refine WL.q (oq_move rfl) rfl rfl rfl ?_
            refine WL.q (oq_assign rfl) rfl rfl rfl ?_
            refine WL.nil (WE.then_normal (WC.sub (fr' := [(4, _)]) ?_ ⟨rfl, trivial⟩))
            refine WC.ret ?_
            refine WE.f2 ?_
            refine WE.lose hB ?_
            refine WE.endW2 (.inl rfl) (res1 Tryd.results57 rfl) ?_
            -- end 2
            exact ⟨B2, cap2, L2, rfl, rfl, hB2, hL2, hc2, hm2, ht2⟩

end EA
end Go.Proofs.YtodlhaghdplclaaDoor
