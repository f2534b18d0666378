/- Walks of a buffer of bytes. -/
import Derived.Test.YtodlhaghdplclaaGreatDoorQ0
import Derived.Test.YtodlhaghdplclaaGreatDoorProg
namespace Go.Proofs.YtodlhaghdplclaaGreatDoor
open Go Go.RowKit V
set_option linter.unusedSimpArgs false
set_option linter.unusedVariables false
set_option maxRecDepth 10000
namespace EA
theorem call66 : Callable Tryz.prog 66 := ⟨_, Tryz.func66, rfl, by kernel_rfl⟩
theorem call138 : Callable Tryz.prog 138 := ⟨_, Tryz.func138, rfl, by kernel_rfl⟩
theorem call139 : Callable Tryz.prog 139 := ⟨_, Tryz.func139, rfl, by kernel_rfl⟩
theorem call140 : Callable Tryz.prog 140 := ⟨_, Tryz.func140, rfl, by kernel_rfl⟩
theorem flat3 : Flat Tryz.prog 3 := ⟨_, Tryz.underlying3, by simp⟩
theorem flat28 : Flat Tryz.prog 28 := ⟨_, Tryz.underlying28, by simp⟩
theorem ty3 : Ty Tryz.prog 3 (.int .i64 0) 1 8 := ty_of (by kernel_rfl)
theorem ty5 : Ty Tryz.prog 5 (.int .u8 0) 1 1 := ty_of (by kernel_rfl)
theorem ty28 : Ty Tryz.prog 28 (.slice none 0 0) 1 24 := ty_of (by kernel_rfl)
theorem ty77 : Ty Tryz.prog 77 (.int .i8 0) 1 1 := ty_of (by kernel_rfl)
theorem fld79_0 : Fld Tryz.prog 79 0 0 28 := fld_of Tryz.underlying79 rfl rfl rfl ty28 (by decide)
theorem fld79_1 : Fld Tryz.prog 79 1 1 3 := fld_of Tryz.underlying79 rfl rfl rfl ty3 (by decide)
theorem fld79_2 : Fld Tryz.prog 79 2 2 77 := fld_of Tryz.underlying79 rfl rfl rfl ty77 (by decide)
abbrev BB (bb : Nat) (v : Value) (lr : Int) : Hp := [(bb, .cells #[v, I 0, .int .i8 lr] 79 (0, 0))]
def Buf (base : Nat) (v : Value) (A : Hp) (acc : List UInt8) : Prop :=
 (v = .slice none 0 0 ∧ A = [] ∧ acc = []) ∨ ∃ B cap L, v = Sl B 0 acc.length cap ∧ A = Bf B 5 L ∧ base ≤ B ∧ L.length = cap ∧ acc.length ≤ cap ∧ 0 < cap ∧ cap ≤ maxLen ∧ L.take acc.length = acc
def Grown (n base bb : Nat) (lr : Int) (acc : List UInt8) (r : Value) (Hs : List Hp) : Prop :=
 ∃ B cap L, r = I (acc.length : Int) ∧ Hs = [BB bb (Sl B 0 (acc.length + n) cap) lr, Bf B 5 L] ∧ base ≤ B ∧ L.length = cap ∧ acc.length + n ≤ cap ∧ cap ≤ maxLen ∧ L.take acc.length = acc
def NewRow (n : Nat) (l : List UInt8) (v : Value) (N : Hp) : Prop := ∃ B cap L, v = Sl B 0 l.length cap ∧ N = Bf B 5 L ∧ L.length = cap ∧ l.length + n ≤ cap ∧ cap ≤ maxLen ∧ L.take l.length = l
theorem Buf.fresh {base : Nat} {v : Value} {A : Hp} {acc : List UInt8} (h : Buf base v A acc) : ∀ b o, (b, o) ∈ A → base ≤ b := by
 rcases h with ⟨_, rfl, _⟩ | ⟨B, cap, L, _, rfl, hB, _⟩
 ·exact fun _ _ h => nomatch h
 ·exact fresh1 hB
theorem rec_ret {w0 w : World} {H : List Hp} (hw : St w0 H.flatten w) :
 CallsD Tryz.prog 140 #[] .returning w fun e u' w' => e = .returned (.tuple #[]) ∧ u' = .returning ∧ St w0 H.flatten w' := by
 refine callsD_of_wpS Tryz.func140 rfl fun c₀ cs hm => ?_
 refine wpS_seq (wpS_region ?_)
 refine (?_ : WS Tryz.prog 3 w0 _ _ [0, 1] [] (c₀ :: cs) H) _ _ (args_fit (args := []) rfl) hw
 refine WS.recover0 rfl rfl (recoverD_none hm) ?_
 refine WS.q (oq_ineq Tryz.underlying20 rfl (.inl rfl)) rfl rfl rfl rfl ?_
 refine WS.cond (b := false) rfl ?_
 refine WC.skip ?_
 exact WE.endS (.inr rfl) (by rw [← hm]) (res0 Tryz.results140) fun w hw => ⟨rfl, rfl, hw⟩
theorem growSlice (p : Option Addr) (c n : Nat) (A : Hp) (l : List UInt8) (hr : RdS 1 (.slice p l.length c) A l.length (bytesV l)) (hl : l.length + n ≤ 1000000) (hn : 0 < n) (hc : c ≤ 3000000) : FnA Tryz.prog 139 [.slice p l.length c, I (n : Int)] A (NewRow n l) := by
 refine FnA.enterD (n := 28) Tryz.func139 rfl rfl fun w0 => ?_
 refine WC.sub (fr' := [(0, _), (1, _)]) ?_ ⟨rfl, rfl, trivial⟩
 refine WC.seq (WC.region ?_)
 refine WL.q (oq_assign rfl) rfl rfl rfl ?_
 refine WL.nil (WE.then_normal (WC.sub (fr' := [(0, _), (1, _)]) ?_ ⟨rfl, rfl, trivial⟩))
 refine WC.seq (WC.region ?_)
 refine WL.defer (first := []) rfl rfl rfl ?_
 refine WL.nil (WE.then_normal (WC.sub (fr' := [(0, _), (1, _)]) ?_ ⟨rfl, rfl, trivial⟩))
 refine WC.seq (WC.region ?_)
 refine WL.q (oq_move rfl) rfl rfl rfl ?_
 refine WL.q (oq_len_sl Tryz.underlying28 rfl) rfl rfl rfl ?_
 refine WL.q (oq_move rfl) rfl rfl rfl ?_
 refine WL.q (oq_add rfl rfl (by rw [i64_lo, i64_hi]; (first | omega | (simp only [List.length_cons, List.length_nil, List.length_append, List.length_drop, List.length_take]; omega)))) rfl rfl rfl ?_
 refine WL.q (oq_assign rfl) rfl rfl rfl ?_
 refine WL.nil (WE.then_normal (WC.sub (fr' := [(0, _), (5, _)]) ?_ ⟨rfl, rfl, trivial⟩))
 refine WC.cut (ι := Nat) (fun (k : Nat) => [(0, .slice p l.length c), (5, I (k : Int))]) (fun (k : Nat) => [A]) (fun (k : Nat) => l.length + n ≤ k ∧ k ≤ 7000000) ?_ ?_
 ·
  refine WC.seq (WC.region ?_)
  refine WL.q (oq_move rfl) rfl rfl rfl ?_
  refine WL.q (oq_move rfl) rfl rfl rfl ?_
  refine WL.q (oq_cap_sl Tryz.underlying28 rfl) rfl rfl rfl ?_
  refine WL.q (oq_mul rfl rfl (by rw [i64_lo, i64_hi]; (first | omega | (simp only [List.length_cons, List.length_nil, List.length_append, List.length_drop, List.length_take]; omega)))) rfl rfl rfl ?_
  refine WL.q (oq_lss rfl rfl) rfl rfl rfl ?_
  refine WL.nil (WE.then_normal (WC.sub (fr' := [(0, _), (5, _), (16, _)]) ?_ ⟨rfl, rfl, rfl, trivial⟩))
  refine WC.cond rfl (fun q3 => ?_) (fun q3 => ?_)
  ·
   try simp only [Z1, Z2, Z3, Z4, Z5, Z6, Z7, Z8, Z9, Z0] at q3
   refine WC.region ?_
   refine WL.q (oq_move rfl) rfl rfl rfl ?_
   refine WL.q (oq_cap_sl Tryz.underlying28 rfl) rfl rfl rfl ?_
   refine WL.q (oq_mul rfl rfl (by rw [i64_lo, i64_hi]; (first | omega | (simp only [List.length_cons, List.length_nil, List.length_append, List.length_drop, List.length_take]; omega)))) rfl rfl rfl ?_
   refine WL.q (oq_assign rfl) rfl rfl rfl ?_
   refine WL.nil ?_
   refine WE.meet (2 * c) ?_ ⟨rfl, rfl, trivial⟩ (List.Perm.refl _)
   try dsimp only
   exact ⟨by omega, by omega⟩
  ·
   try simp only [Z1, Z2, Z3, Z4, Z5, Z6, Z7, Z8, Z9, Z0] at q3
   refine WC.skip ?_
   refine WE.meet (l.length + n) ?_ ⟨rfl, rfl, trivial⟩ (List.Perm.refl _)
   try dsimp only
   exact ⟨by omega, by omega⟩
 ·rintro k hp
  try dsimp only at hp
  obtain ⟨hk1, hk2⟩ := hp
  show WC _ _ _ _ _ _ ([(0, .slice p l.length c), (5, I (k : Int))]) ([A])
  refine WC.seq (WC.region ?_)
  refine WL.q (oq_move rfl) rfl rfl rfl ?_
  refine WL.appendMade Tryz.underlying28 Tryz.underlying3 ty5 rfl (by omega) (by decide) (by omega) (by unfold maxLen; omega) rfl rfl fun nb nbc hnb hnbc hnbm => ?_
  refine WL.q (oq_assign rfl) rfl rfl rfl ?_
  refine WL.nil (WE.then_normal (WC.sub (fr' := [(0, _), (6, _)]) ?_ ⟨rfl, rfl, trivial⟩))
  refine WC.seq (WC.region ?_)
  refine WL.q (oq_move rfl) rfl rfl rfl ?_
  refine WL.q (oq_move rfl) rfl rfl rfl ?_
  refine WL.copyB Tryz.underlying28 ty5 rfl rfl hr (.head _) (by (first | omega | (simp only [List.length_replicate]; omega))) rfl rfl ?_
  refine WL.q (oq_assign rfl) rfl rfl rfl ?_
  refine WL.nil (WE.then_normal (WC.sub (fr' := [(6, _), (7, _)]) ?_ ⟨rfl, rfl, trivial⟩))
  refine WC.seq (WC.region ?_)
  refine WL.q (oq_move rfl) rfl rfl rfl ?_
  refine WL.q (oq_move rfl) rfl rfl rfl ?_
  refine WL.q (oq_sliceSl Tryz.underlying28 ty5 rfl (by (first | omega | (simp only [List.length_replicate]; omega))) rfl ⟨_, rfl⟩ (by (first | omega | (simp only [List.length_replicate]; omega))) (by (first | omega | (simp only [List.length_replicate]; omega)))) rfl rfl rfl ?_
  refine WL.q (oq_assign rfl) rfl rfl rfl ?_
  refine WL.nil (WE.then_normal (WC.sub (fr' := [(4, _)]) ?_ ⟨rfl, trivial⟩))
  refine WC.ret ?_
  refine WE.deferred (args := []) (cap := []) (.inl rfl) call140 fun a w hf hw => ?_
  refine (rec_ret hw).mono fun e u w2 h => ?_
  obtain ⟨rfl, rfl, hw2⟩ := h
  refine ⟨_, rfl, rfl, _, (res1 Tryz.results139 rfl) a w2 hf hw2, _, Bf nb 5 _, rfl, ⟨nb, nbc, _, ?_, rfl, ?_, by omega, hnbm, ?_⟩, fresh1 hnb, by simpa using hw2⟩
  ·rw [show min l.length k - 0 = l.length by omega]; rfl
  ·simp; omega
  ·rw [show min l.length k = l.length by omega, List.take_length]; simp
theorem bufLen (bb len cap : Nat) (p : Option Addr) (lr : Int) (hl : len ≤ 9223372036854775807) : FnR Tryz.prog 66 [Pt bb 0] [(bb, .cells #[.slice p len cap, I 0, .int .i8 lr] 79 (0, 0))] (I (len : Int)) := by
 refine FnR.enter (n := 13) Tryz.func66 rfl rfl fun w0 => ?_
 refine WC.sub (fr' := [(0, _)]) ?_ ⟨rfl, trivial⟩
 refine WC.seq (WC.region ?_)
 refine WL.q (oq_assign rfl) rfl rfl rfl ?_
 refine WL.nil (WE.then_normal (WC.sub (fr' := [(0, _)]) ?_ ⟨rfl, trivial⟩))
 refine WC.seq (WC.quiet (by kernel_rfl) (by kernel_rfl) ?_)
 refine WQ.q (oq_move rfl) rfl rfl rfl ?_
 refine WQ.q (oq_nilCheck rfl) rfl rfl rfl ?_
 refine WQ.q (oq_fieldAddr fld79_0 rfl) rfl rfl rfl ?_
 refine WQ.q (oq_load flat28 rfl (.head _) (List.mem_singleton.2 rfl) rfl) rfl rfl rfl ?_
 refine WQ.q (oq_len_sl Tryz.underlying28 rfl) rfl rfl rfl ?_
 refine WQ.q (oq_move rfl) rfl rfl rfl ?_
 refine WQ.q (oq_nilCheck rfl) rfl rfl rfl ?_
 refine WQ.q (oq_fieldAddr fld79_1 rfl) rfl rfl rfl ?_
 refine WQ.q (oq_load flat3 rfl (.head _) (List.mem_singleton.2 rfl) rfl) rfl rfl rfl ?_
 refine WQ.q (oq_sub rfl rfl (by rw [i64_lo, i64_hi]; (first | omega | (simp only [List.length_cons, List.length_nil, List.length_append, List.length_drop, List.length_take]; omega)))) rfl rfl rfl ?_
 refine WQ.q (oq_assign rfl) rfl rfl rfl ?_
 refine WQ.nil (WE.then_normal (WC.sub (fr' := [(2, _)]) ?_ ⟨rfl, trivial⟩))
 refine WC.ret ?_
 refine WE.endR (.inl rfl) (res1 Tryz.results66 rfl) ?_
 rw [Int.sub_zero]
theorem reset1 (base bb : Nat) (lr off : Int) (B m cap : Nat) (hmc : m ≤ cap) (h0 : 0 < cap) : FnW Tryz.prog 63 [Pt bb 0] base [[(bb, .cells #[Sl B 0 m cap, I off, .int .i8 lr] 79 (0, 0))]] (fun w Hs => w = .tuple #[] ∧ Hs = [BB bb (Sl B 0 0 cap) 0]) := by
 refine FnW.enter (n := 16) Tryz.func63 rfl rfl fun w0 R0 hbase => ?_
 subst hbase
 show WC _ _ _ _ _ _ _ ([[(bb, .cells #[Sl B 0 m cap, I off, .int .i8 lr] 79 (0, 0))], R0])
 refine WC.sub (fr' := [(0, _)]) ?_ ⟨rfl, trivial⟩
 refine WC.seq (WC.region ?_)
 refine WL.q (oq_move rfl) rfl rfl rfl ?_
 refine WL.q (oq_move rfl) rfl rfl rfl ?_
 refine WL.q (oq_nilCheck rfl) rfl rfl rfl ?_
 refine WL.q (oq_fieldAddr fld79_0 rfl) rfl rfl rfl ?_
 refine WL.q (oq_load flat28 rfl (.head _) (List.mem_singleton.2 rfl) rfl) rfl rfl rfl ?_
 refine WL.q (oq_sliceSl (j := 0) Tryz.underlying28 ty5 rfl (by omega) rfl ⟨_, rfl⟩ (by omega) (by omega)) rfl rfl rfl ?_
 refine WL.q (oq_nilCheck rfl) rfl rfl rfl ?_
 refine WL.q (oq_fieldAddr fld79_0 rfl) rfl rfl rfl ?_
 refine WL.store1 #[_, _, _] ty28 rfl rfl (by first | rfl | exact OwS.one one_) (Nat.lt_of_lt_of_le (Nat.lt_succ_self _) (Nat.le_of_ble_eq_true rfl)) rfl rfl ?_
 refine WL.nil (WE.then_normal (WC.sub (fr' := [(0, _)]) ?_ ⟨rfl, trivial⟩))
 refine WC.seq (WC.region ?_)
 refine WL.q (oq_move rfl) rfl rfl rfl ?_
 refine WL.q (oq_nilCheck rfl) rfl rfl rfl ?_
 refine WL.q (oq_fieldAddr fld79_1 rfl) rfl rfl rfl ?_
 refine WL.store1 #[_, _, _] ty3 rfl rfl (by first | rfl | exact OwS.one one_) (Nat.lt_of_lt_of_le (Nat.lt_succ_self _) (Nat.le_of_ble_eq_true rfl)) rfl rfl ?_
 refine WL.nil (WE.then_normal (WC.sub (fr' := [(0, _)]) ?_ ⟨rfl, trivial⟩))
 refine WC.region ?_
 refine WL.q (oq_move rfl) rfl rfl rfl ?_
 refine WL.q (oq_nilCheck rfl) rfl rfl rfl ?_
 refine WL.q (oq_fieldAddr fld79_2 rfl) rfl rfl rfl ?_
 refine WL.store1 #[_, _, _] ty77 rfl rfl (by first | rfl | exact OwS.one one_) (Nat.lt_of_lt_of_le (Nat.lt_succ_self _) (Nat.le_of_ble_eq_true rfl)) rfl rfl ?_
 refine WL.nil ?_
 refine WE.endW1 (.inr rfl) (res0 Tryz.results63) ?_
 exact ⟨rfl, rfl⟩
theorem reset0 (base bb : Nat) (lr off : Int) : FnW Tryz.prog 63 [Pt bb 0] base [[(bb, .cells #[.slice none 0 0, I off, .int .i8 lr] 79 (0, 0))]] (fun w Hs => w = .tuple #[] ∧ Hs = [BB bb (.slice none 0 0) 0]) := by
 refine FnW.enter (n := 16) Tryz.func63 rfl rfl fun w0 R0 hbase => ?_
 subst hbase
 show WC _ _ _ _ _ _ _ ([[(bb, .cells #[.slice none 0 0, I off, .int .i8 lr] 79 (0, 0))], R0])
 refine WC.sub (fr' := [(0, _)]) ?_ ⟨rfl, trivial⟩
 refine WC.seq (WC.region ?_)
 refine WL.q (oq_move rfl) rfl rfl rfl ?_
 refine WL.q (oq_move rfl) rfl rfl rfl ?_
 refine WL.q (oq_nilCheck rfl) rfl rfl rfl ?_
 refine WL.q (oq_fieldAddr fld79_0 rfl) rfl rfl rfl ?_
 refine WL.q (oq_load flat28 rfl (.head _) (List.mem_singleton.2 rfl) rfl) rfl rfl rfl ?_
 refine WL.q (oq_sliceNil0 Tryz.underlying28 ty5 rfl rfl) rfl rfl rfl ?_
 refine WL.q (oq_nilCheck rfl) rfl rfl rfl ?_
 refine WL.q (oq_fieldAddr fld79_0 rfl) rfl rfl rfl ?_
 refine WL.store1 #[_, _, _] ty28 rfl rfl (by first | rfl | exact OwS.one one_) (Nat.lt_of_lt_of_le (Nat.lt_succ_self _) (Nat.le_of_ble_eq_true rfl)) rfl rfl ?_
 refine WL.nil (WE.then_normal (WC.sub (fr' := [(0, _)]) ?_ ⟨rfl, trivial⟩))
 refine WC.seq (WC.region ?_)
 refine WL.q (oq_move rfl) rfl rfl rfl ?_
 refine WL.q (oq_nilCheck rfl) rfl rfl rfl ?_
 refine WL.q (oq_fieldAddr fld79_1 rfl) rfl rfl rfl ?_
 refine WL.store1 #[_, _, _] ty3 rfl rfl (by first | rfl | exact OwS.one one_) (Nat.lt_of_lt_of_le (Nat.lt_succ_self _) (Nat.le_of_ble_eq_true rfl)) rfl rfl ?_
 refine WL.nil (WE.then_normal (WC.sub (fr' := [(0, _)]) ?_ ⟨rfl, trivial⟩))
 refine WC.region ?_
 refine WL.q (oq_move rfl) rfl rfl rfl ?_
 refine WL.q (oq_nilCheck rfl) rfl rfl rfl ?_
 refine WL.q (oq_fieldAddr fld79_2 rfl) rfl rfl rfl ?_
 refine WL.store1 #[_, _, _] ty77 rfl rfl (by first | rfl | exact OwS.one one_) (Nat.lt_of_lt_of_le (Nat.lt_succ_self _) (Nat.le_of_ble_eq_true rfl)) rfl rfl ?_
 refine WL.nil ?_
 refine WE.endW1 (.inr rfl) (res0 Tryz.results63) ?_
 exact ⟨rfl, rfl⟩
theorem tryGrow1 (base bb B len cap n : Nat) (lr : Int) (hlc : len ≤ cap) (hl : len + n ≤ 1000000) (hmx : cap ≤ maxLen) (h0 : 0 < cap) : FnW Tryz.prog 138 [Pt bb 0, I (n : Int)] base [[(bb, .cells #[Sl B 0 len cap, I 0, .int .i8 lr] 79 (0, 0))]] (fun w Hs => w = .tuple #[I ((if len + n ≤ cap then len else 0 : Nat) : Int), .bool (decide (len + n ≤ cap))] ∧ Hs = [BB bb (Sl B 0 (if len + n ≤ cap then len + n else len) cap) lr]) := by
 have hmx : maxLen ≤ 9223372036854775807 := by unfold maxLen; omega
 refine FnW.enter (n := 33) Tryz.func138 rfl rfl fun w0 R0 hbase => ?_
 subst hbase
 show WC _ _ _ _ _ _ _ ([[(bb, .cells #[Sl B 0 len cap, I 0, .int .i8 lr] 79 (0, 0))], R0])
 refine WC.sub (fr' := [(0, _), (1, _)]) ?_ ⟨rfl, rfl, trivial⟩
 refine WC.seq (WC.region ?_)
 refine WL.q (oq_assign rfl) rfl rfl rfl ?_
 refine WL.q (oq_assign rfl) rfl rfl rfl ?_
 refine WL.nil (WE.then_normal (WC.sub (fr' := [(0, _), (1, _)]) ?_ ⟨rfl, rfl, trivial⟩))
 refine WC.seq (WC.seq (WC.region ?_))
 refine WL.q (oq_move rfl) rfl rfl rfl ?_
 refine WL.q (oq_nilCheck rfl) rfl rfl rfl ?_
 refine WL.q (oq_fieldAddr fld79_0 rfl) rfl rfl rfl ?_
 refine WL.q (oq_load flat28 rfl (.head _) (List.mem_singleton.2 rfl) rfl) rfl rfl rfl ?_
 refine WL.q (oq_len_sl Tryz.underlying28 rfl) rfl rfl rfl ?_
 refine WL.q (oq_assign rfl) rfl rfl rfl ?_
 refine WL.nil (WE.then_normal (WC.sub (fr' := [(0, _), (1, _), (6, _)]) ?_ ⟨rfl, rfl, rfl, trivial⟩))
 refine WC.seq (WC.region ?_)
 refine WL.q (oq_move rfl) rfl rfl rfl ?_
 refine WL.q (oq_move rfl) rfl rfl rfl ?_
 refine WL.q (oq_nilCheck rfl) rfl rfl rfl ?_
 refine WL.q (oq_fieldAddr fld79_0 rfl) rfl rfl rfl ?_
 refine WL.q (oq_load flat28 rfl (.head _) (List.mem_singleton.2 rfl) rfl) rfl rfl rfl ?_
 refine WL.q (oq_cap_sl Tryz.underlying28 rfl) rfl rfl rfl ?_
 refine WL.q (oq_move rfl) rfl rfl rfl ?_
 refine WL.q (oq_sub rfl rfl (by rw [i64_lo, i64_hi]; (first | omega | (simp only [List.length_cons, List.length_nil, List.length_append, List.length_drop, List.length_take]; omega)))) rfl rfl rfl ?_
 refine WL.q (oq_leq rfl rfl) rfl rfl rfl ?_
 refine WL.nil (WE.then_normal (WC.sub (fr' := [(0, _), (1, _), (6, _), (20, _)]) ?_ ⟨rfl, rfl, rfl, rfl, trivial⟩))
 refine WC.cond rfl (fun q2 => ?_) (fun q2 => ?_)
 ·
  try simp only [Z1, Z2, Z3, Z4, Z5, Z6, Z7, Z8, Z9, Z0] at q2
  refine WC.seq (WC.region ?_)
  refine WL.q (oq_move rfl) rfl rfl rfl ?_
  refine WL.q (oq_move rfl) rfl rfl rfl ?_
  refine WL.q (oq_nilCheck rfl) rfl rfl rfl ?_
  refine WL.q (oq_fieldAddr fld79_0 rfl) rfl rfl rfl ?_
  refine WL.q (oq_load flat28 rfl (.head _) (List.mem_singleton.2 rfl) rfl) rfl rfl rfl ?_
  refine WL.q (oq_move rfl) rfl rfl rfl ?_
  refine WL.q (oq_move rfl) rfl rfl rfl ?_
  refine WL.q (oq_add rfl rfl (by rw [i64_lo, i64_hi]; (first | omega | (simp only [List.length_cons, List.length_nil, List.length_append, List.length_drop, List.length_take]; omega)))) rfl rfl rfl ?_
  refine WL.q (oq_sliceSl (j := (len + n)) Tryz.underlying28 ty5 rfl (by omega) rfl ⟨_, rfl⟩ (by omega) (by omega)) rfl rfl rfl ?_
  refine WL.q (oq_nilCheck rfl) rfl rfl rfl ?_
  refine WL.q (oq_fieldAddr fld79_0 rfl) rfl rfl rfl ?_
  refine WL.store1 #[_, _, _] ty28 rfl rfl (by first | rfl | exact OwS.one one_) (Nat.lt_of_lt_of_le (Nat.lt_succ_self _) (Nat.le_of_ble_eq_true rfl)) rfl rfl ?_
  refine WL.nil (WE.then_normal (WC.sub (fr' := [(6, _)]) ?_ ⟨rfl, trivial⟩))
  refine WC.seq (WC.region ?_)
  refine WL.q (oq_move rfl) rfl rfl rfl ?_
  refine WL.q (oq_assign rfl) rfl rfl rfl ?_
  refine WL.q (oq_assign rfl) rfl rfl rfl ?_
  refine WL.nil (WE.then_normal (WC.sub (fr' := [(4, _), (5, _)]) ?_ ⟨rfl, rfl, trivial⟩))
  refine WC.ret (WE.then_ret ?_)
  refine WE.endW1 (.inl rfl) (res2 Tryz.results138 rfl rfl) ?_
  exact ⟨by rw [if_pos (by omega), decide_eq_true (by omega)], by rw [if_pos (by omega)]; rfl⟩
 ·
  try simp only [Z1, Z2, Z3, Z4, Z5, Z6, Z7, Z8, Z9, Z0] at q2
  refine WC.skip (WE.then_normal (WC.sub (fr' := []) ?_ trivial))
  refine WC.seq (WC.region ?_)
  refine WL.q (oq_assign rfl) rfl rfl rfl ?_
  refine WL.q (oq_assign rfl) rfl rfl rfl ?_
  refine WL.nil (WE.then_normal (WC.sub (fr' := [(4, _), (5, _)]) ?_ ⟨rfl, rfl, trivial⟩))
  refine WC.ret ?_
  refine WE.endW1 (.inl rfl) (res2 Tryz.results138 rfl rfl) ?_
  exact ⟨by rw [if_neg (by omega), decide_eq_false (by omega)]; rfl, by rw [if_neg (by omega)]⟩
theorem tryGrow0 (base bb n : Nat) (lr : Int) (hn : 0 < n) : FnW Tryz.prog 138 [Pt bb 0, I (n : Int)] base [[(bb, .cells #[.slice none 0 0, I 0, .int .i8 lr] 79 (0, 0))]] (fun w Hs => w = .tuple #[I 0, .bool false] ∧ Hs = [BB bb (.slice none 0 0) lr]) := by
 refine FnW.enter (n := 33) Tryz.func138 rfl rfl fun w0 R0 hbase => ?_
 subst hbase
 show WC _ _ _ _ _ _ _ ([[(bb, .cells #[.slice none 0 0, I 0, .int .i8 lr] 79 (0, 0))], R0])
 refine WC.sub (fr' := [(0, _), (1, _)]) ?_ ⟨rfl, rfl, trivial⟩
 refine WC.seq (WC.region ?_)
 refine WL.q (oq_assign rfl) rfl rfl rfl ?_
 refine WL.q (oq_assign rfl) rfl rfl rfl ?_
 refine WL.nil (WE.then_normal (WC.sub (fr' := [(0, _), (1, _)]) ?_ ⟨rfl, rfl, trivial⟩))
 refine WC.seq (WC.seq (WC.region ?_))
 refine WL.q (oq_move rfl) rfl rfl rfl ?_
 refine WL.q (oq_nilCheck rfl) rfl rfl rfl ?_
 refine WL.q (oq_fieldAddr fld79_0 rfl) rfl rfl rfl ?_
 refine WL.q (oq_load flat28 rfl (.head _) (List.mem_singleton.2 rfl) rfl) rfl rfl rfl ?_
 refine WL.q (oq_len_sl Tryz.underlying28 rfl) rfl rfl rfl ?_
 refine WL.q (oq_assign rfl) rfl rfl rfl ?_
 refine WL.nil (WE.then_normal (WC.sub (fr' := [(0, _), (1, _), (6, _)]) ?_ ⟨rfl, rfl, rfl, trivial⟩))
 refine WC.seq (WC.region ?_)
 refine WL.q (oq_move rfl) rfl rfl rfl ?_
 refine WL.q (oq_move rfl) rfl rfl rfl ?_
 refine WL.q (oq_nilCheck rfl) rfl rfl rfl ?_
 refine WL.q (oq_fieldAddr fld79_0 rfl) rfl rfl rfl ?_
 refine WL.q (oq_load flat28 rfl (.head _) (List.mem_singleton.2 rfl) rfl) rfl rfl rfl ?_
 refine WL.q (oq_cap_sl Tryz.underlying28 rfl) rfl rfl rfl ?_
 refine WL.q (oq_move rfl) rfl rfl rfl ?_
 refine WL.q (oq_sub rfl rfl (by rw [i64_lo, i64_hi]; (first | omega | (simp only [List.length_cons, List.length_nil, List.length_append, List.length_drop, List.length_take]; omega)))) rfl rfl rfl ?_
 refine WL.q (oq_leq rfl rfl) rfl rfl rfl ?_
 refine WL.nil (WE.then_normal (WC.sub (fr' := [(0, _), (1, _), (6, _), (20, _)]) ?_ ⟨rfl, rfl, rfl, rfl, trivial⟩))
 refine WC.cond rfl (fun q2 => ?_) (fun q2 => ?_)
 ·
  try simp only [Z1, Z2, Z3, Z4, Z5, Z6, Z7, Z8, Z9, Z0] at q2
  refine WC.seq ?_
  exfalso; omega
 ·
  try simp only [Z1, Z2, Z3, Z4, Z5, Z6, Z7, Z8, Z9, Z0] at q2
  refine WC.skip (WE.then_normal (WC.sub (fr' := []) ?_ trivial))
  refine WC.seq (WC.region ?_)
  refine WL.q (oq_assign rfl) rfl rfl rfl ?_
  refine WL.q (oq_assign rfl) rfl rfl rfl ?_
  refine WL.nil (WE.then_normal (WC.sub (fr' := [(4, _), (5, _)]) ?_ ⟨rfl, rfl, trivial⟩))
  refine WC.ret ?_
  refine WE.endW1 (.inl rfl) (res2 Tryz.results138 rfl rfl) ?_
  exact ⟨rfl, rfl⟩
theorem grow0 (base bb n : Nat) (lr : Int) (hn : 0 < n) (hl : n ≤ 1000000) : FnW Tryz.prog 137 [Pt bb 0, I (n : Int)] base [[(bb, .cells #[.slice none 0 0, I 0, .int .i8 lr] 79 (0, 0))]] (Grown n base bb lr []) := by
 have hmx : maxLen ≤ 9223372036854775807 := by unfold maxLen; omega
 refine FnW.enter (n := 110) Tryz.func137 rfl rfl fun w0 R0 hbase => ?_
 subst hbase
 show WC _ _ _ _ _ _ _ ([[(bb, .cells #[.slice none 0 0, I 0, .int .i8 lr] 79 (0, 0))], R0])
 refine WC.sub (fr' := [(0, _), (1, _)]) ?_ ⟨rfl, rfl, trivial⟩
 refine WC.seq (WC.region ?_)
 refine WL.q (oq_assign rfl) rfl rfl rfl ?_
 refine WL.nil (WE.then_normal (WC.sub (fr' := [(0, _), (1, _)]) ?_ ⟨rfl, rfl, trivial⟩))
 refine WC.seq (WC.region ?_)
 refine WL.q (oq_move rfl) rfl rfl rfl ?_
 refine WL.qc (oq_callRm (bufLen bb 0 0 none lr (by omega)) (.head _) call66 rfl) rfl rfl rfl ?_
 refine WL.q (oq_assign rfl) rfl rfl rfl ?_
 refine WL.nil (WE.then_normal (WC.sub (fr' := [(0, _), (1, _), (5, _)]) ?_ ⟨rfl, rfl, rfl, trivial⟩))
 refine WC.cut (ι := Unit) (fun _ => [(0, Pt bb 0), (1, I (n : Int)), (5, I 0)]) (fun _ => [[(bb, .cells #[.slice none 0 0, I 0, .int .i8 lr] 79 (0, 0))], R0]) (fun _ => True) ?_ ?_
 ·
  refine WC.seq (WC.region ?_)
  refine WL.q (oq_move rfl) rfl rfl rfl ?_
  refine WL.q (oq_eql rfl rfl) rfl rfl rfl ?_
  refine WL.q (oq_move rfl) rfl rfl rfl ?_
  refine WL.split 13 rfl (fun s2_2 => ?_) (fun s2_2 => ?_)
  ·
   try simp only [Z1, Z2, Z3, Z4, Z5, Z6, Z7, Z8, Z9, Z0] at s2_2
   refine WL.q (oq_move rfl) rfl rfl rfl ?_
   refine WL.q (oq_nilCheck rfl) rfl rfl rfl ?_
   refine WL.q (oq_fieldAddr fld79_1 rfl) rfl rfl rfl ?_
   refine WL.q (oq_load flat3 rfl (.head _) (List.mem_singleton.2 rfl) rfl) rfl rfl rfl ?_
   refine WL.q (oq_neq rfl rfl) rfl rfl rfl ?_
   refine WL.q (oq_pick_t rfl rfl) rfl rfl rfl ?_
   refine WL.nil (WE.then_normal (WC.sub (fr' := [(0, _), (1, _), (5, _), (19, _)]) ?_ ⟨rfl, rfl, rfl, rfl, trivial⟩))
   refine WC.cond rfl (fun q2 => ?_) (fun q2 => ?_)
   ·
    try simp only [Z1, Z2, Z3, Z4, Z5, Z6, Z7, Z8, Z9, Z0] at q2
    first | contradiction | (exfalso; omega) | (exfalso; simp_all; done)
   ·
    try simp only [Z1, Z2, Z3, Z4, Z5, Z6, Z7, Z8, Z9, Z0] at q2
    refine WC.skip ?_
    refine WE.meet () ?_ ⟨rfl, rfl, rfl, trivial⟩ (List.Perm.refl _)
    try dsimp only
    all_goals trivial
  ·
   try simp only [Z1, Z2, Z3, Z4, Z5, Z6, Z7, Z8, Z9, Z0] at s2_2
   refine WL.skip rfl rfl rfl ?_
   refine WL.skip rfl rfl rfl ?_
   refine WL.skip rfl rfl rfl ?_
   refine WL.skip rfl rfl rfl ?_
   refine WL.skip rfl rfl rfl ?_
   refine WL.q (oq_pick_f rfl rfl) rfl rfl rfl ?_
   refine WL.nil (WE.then_normal (WC.sub (fr' := [(0, _), (1, _), (5, _), (19, _)]) ?_ ⟨rfl, rfl, rfl, rfl, trivial⟩))
   refine WC.cond_f rfl ?_
   refine WC.skip ?_
   refine WE.meet () ?_ ⟨rfl, rfl, rfl, trivial⟩ (List.Perm.refl _)
   try dsimp only
   all_goals trivial
 ·rintro _ hp
  try dsimp only at hp
  show WC _ _ _ _ _ _ ([(0, Pt bb 0), (1, I (n : Int)), (5, I 0)]) ([[(bb, .cells #[.slice none 0 0, I 0, .int .i8 lr] 79 (0, 0))], R0])
  refine WC.seq (WC.seq (WC.region ?_))
  refine WL.q (oq_move rfl) rfl rfl rfl ?_
  refine WL.q (oq_move rfl) rfl rfl rfl ?_
  refine WL.callW1 (tryGrow0 _ bb n lr hn) call138 rfl rfl rfl fun v4_2 Hs4_2 hR4_2 => ?_
  obtain ⟨rfl, rfl⟩ := hR4_2
  refine WL.to1 ?_
  refine WL.q (oq_move rfl) rfl rfl rfl ?_
  refine WL.q (oq_extract rfl rfl) rfl rfl rfl ?_
  refine WL.q (oq_extract rfl rfl) rfl rfl rfl ?_
  refine WL.q (oq_assign rfl) rfl rfl rfl ?_
  refine WL.q (oq_assign rfl) rfl rfl rfl ?_
  refine WL.nil (WE.then_normal (WC.sub (fr' := [(0, _), (1, _), (5, _), (6, _), (7, _)]) ?_ ⟨rfl, rfl, rfl, rfl, rfl, trivial⟩))
  refine WC.seq (WC.region ?_)
  refine WL.q (oq_move rfl) rfl rfl rfl ?_
  refine WL.nil (WE.then_normal (WC.sub (fr' := [(0, _), (1, _), (5, _), (6, _), (28, _)]) ?_ ⟨rfl, rfl, rfl, rfl, rfl, trivial⟩))
  refine WC.cond rfl (fun q5 => ?_) (fun q5 => ?_)
  ·
   try simp only [Z1, Z2, Z3, Z4, Z5, Z6, Z7, Z8, Z9, Z0] at q5
   refine WC.seq ?_
   first | contradiction | (exfalso; omega) | (exfalso; simp_all; done)
  ·
   try simp only [Z1, Z2, Z3, Z4, Z5, Z6, Z7, Z8, Z9, Z0] at q5
   refine WC.skip (WE.then_normal (WC.sub (fr' := [(0, _), (1, _), (5, _)]) ?_ ⟨rfl, rfl, rfl, trivial⟩))
   refine WC.seq (WC.seq (WC.region ?_))
   refine WL.q (oq_move rfl) rfl rfl rfl ?_
   refine WL.q (oq_nilCheck rfl) rfl rfl rfl ?_
   refine WL.q (oq_fieldAddr fld79_0 rfl) rfl rfl rfl ?_
   refine WL.q (oq_load flat28 rfl (.head _) (List.mem_singleton.2 rfl) rfl) rfl rfl rfl ?_
   refine WL.q (oq_sleql Tryz.underlying28 rfl rfl) rfl rfl rfl ?_
   refine WL.q (oq_move rfl) rfl rfl rfl ?_
   refine WL.split 35 rfl (fun s7_5 => ?_) (fun s7_5 => ?_)
   ·
    try simp only [Z1, Z2, Z3, Z4, Z5, Z6, Z7, Z8, Z9, Z0] at s7_5
    refine WL.q (oq_move rfl) rfl rfl rfl ?_
    refine WL.q (oq_leq rfl rfl) rfl rfl rfl ?_
    refine WL.q (oq_pick_t rfl rfl) rfl rfl rfl ?_
    refine WL.nil (WE.then_normal (WC.sub (fr' := [(0, _), (1, _), (5, _), (38, _)]) ?_ ⟨rfl, rfl, rfl, rfl, trivial⟩))
    refine WC.cond rfl (fun q7 => ?_) (fun q7 => ?_)
    ·
     try simp only [Z1, Z2, Z3, Z4, Z5, Z6, Z7, Z8, Z9, Z0] at q7
     refine WC.seq (WC.region ?_)
     refine WL.q (oq_move rfl) rfl rfl rfl ?_
     refine WL.q (oq_move rfl) rfl rfl rfl ?_
     refine WL.makeBc (k := n) (c := 64) Tryz.underlying28 ty5 rfl rfl (by omega) (by omega) (by unfold maxLen; omega) rfl rfl fun sb hsb => ?_
     refine WL.q (oq_nilCheck rfl) rfl rfl rfl ?_
     refine WL.q (oq_fieldAddr fld79_0 rfl) rfl rfl rfl ?_
     refine WL.f1 ?_
     refine WL.store1 #[_, _, _] ty28 rfl rfl (by first | rfl | exact OwS.one one_) (Nat.lt_of_lt_of_le (Nat.lt_succ_self _) (Nat.le_of_ble_eq_true rfl)) rfl rfl ?_
     refine WL.nil (WE.then_normal (WC.sub (fr' := []) ?_ trivial))
     refine WC.seq (WC.region ?_)
     refine WL.q (oq_assign rfl) rfl rfl rfl ?_
     refine WL.nil (WE.then_normal (WC.sub (fr' := [(4, _)]) ?_ ⟨rfl, trivial⟩))
     refine WC.ret (WE.then_ret ?_)
     refine WE.endW2 (.inl rfl) (res1 Tryz.results137 rfl) ?_
     exact ⟨sb, 64, _, rfl, by rw [List.length_nil, Nat.zero_add], hsb, by simp, by simp only [List.length_nil]; omega, by unfold maxLen; omega, by simp⟩
    ·
     try simp only [Z1, Z2, Z3, Z4, Z5, Z6, Z7, Z8, Z9, Z0] at q7
     refine WC.skip (WE.then_normal (WC.sub (fr' := [(0, _), (1, _), (5, _)]) ?_ ⟨rfl, rfl, rfl, trivial⟩))
     refine WC.seq (WC.region ?_)
     refine WL.q (oq_move rfl) rfl rfl rfl ?_
     refine WL.q (oq_nilCheck rfl) rfl rfl rfl ?_
     refine WL.q (oq_fieldAddr fld79_0 rfl) rfl rfl rfl ?_
     refine WL.q (oq_load flat28 rfl (.head _) (List.mem_singleton.2 rfl) rfl) rfl rfl rfl ?_
     refine WL.q (oq_cap_sl Tryz.underlying28 rfl) rfl rfl rfl ?_
     refine WL.q (oq_assign rfl) rfl rfl rfl ?_
     refine WL.nil (WE.then_normal (WC.sub (fr' := [(0, _), (1, _), (5, _), (8, _)]) ?_ ⟨rfl, rfl, rfl, rfl, trivial⟩))
     refine WC.seq (WC.seq (WC.region ?_))
     refine WL.q (oq_move rfl) rfl rfl rfl ?_
     refine WL.q (oq_move rfl) rfl rfl rfl ?_
     refine WL.q (oq_quo rfl rfl (by rw [i64_hi]; omega)) rfl rfl rfl ?_
     refine WL.q (oq_move rfl) rfl rfl rfl ?_
     refine WL.q (oq_sub rfl rfl (by rw [i64_lo, i64_hi]; (first | omega | (simp only [List.length_cons, List.length_nil, List.length_append, List.length_drop, List.length_take]; omega)))) rfl rfl rfl ?_
     refine WL.q (oq_leq rfl rfl) rfl rfl rfl ?_
     refine WL.nil (WE.then_normal (WC.sub (fr' := [(0, _), (1, _), (5, _), (8, _), (54, _)]) ?_ ⟨rfl, rfl, rfl, rfl, rfl, trivial⟩))
     refine WC.cond rfl (fun q11 => ?_) (fun q11 => ?_)
     ·
      try simp only [Z1, Z2, Z3, Z4, Z5, Z6, Z7, Z8, Z9, Z0] at q11
      first | contradiction | (exfalso; omega) | (exfalso; simp_all; done)
     ·
      try simp only [Z1, Z2, Z3, Z4, Z5, Z6, Z7, Z8, Z9, Z0] at q11
      refine WC.seq (WC.region ?_)
      refine WL.q (oq_move rfl) rfl rfl rfl ?_
      refine WL.q (oq_move rfl) rfl rfl rfl ?_
      refine WL.q (oq_sub rfl rfl (by rw [i64_lo, i64_hi]; (first | omega | (simp only [List.length_cons, List.length_nil, List.length_append, List.length_drop, List.length_take]; omega)))) rfl rfl rfl ?_
      refine WL.q (oq_move rfl) rfl rfl rfl ?_
      refine WL.q (oq_sub rfl rfl (by rw [i64_lo, i64_hi]; (first | omega | (simp only [List.length_cons, List.length_nil, List.length_append, List.length_drop, List.length_take]; omega)))) rfl rfl rfl ?_
      refine WL.q (oq_gtr rfl rfl) rfl rfl rfl ?_
      refine WL.nil (WE.then_normal (WC.sub (fr' := [(0, _), (1, _), (5, _), (74, _)]) ?_ ⟨rfl, rfl, rfl, rfl, trivial⟩))
      refine WC.cond rfl (fun q13 => ?_) (fun q13 => ?_)
      ·
       try simp only [Z1, Z2, Z3, Z4, Z5, Z6, Z7, Z8, Z9, Z0] at q13
       first | contradiction | (exfalso; omega) | (exfalso; simp_all; done)
      ·
       try simp only [Z1, Z2, Z3, Z4, Z5, Z6, Z7, Z8, Z9, Z0] at q13
       refine WC.tailM (pl := [_]) (ql := [_, _, _, _, _, _, _, _, _, _, _, _, _, _, _]) (tl := [_, _, _, _]) [0] [1, 2, 3, 4, 5, 6, 7, 8, 9, 10, 11, 12, 13, 14, 15] 16 [17, 18, 19] (by kernel_rfl) (by kernel_rfl) (by kernel_rfl) (by kernel_rfl) (by kernel_rfl) (by kernel_rfl) (by decide) rfl rfl rfl (by decide) (by repeat (first | with_reducible exact QOk.body | with_reducible apply QOk.then | with_reducible apply QOk.block | exact QOk.body | apply QOk.then | apply QOk.block)) ?_
       refine WM.q (fun w0 => oq_move rfl) rfl rfl rfl ?_
       refine WM.nil ?_
       refine WY.q (oq_move rfl) rfl rfl rfl ?_
       refine WY.q (oq_nilCheck rfl) rfl rfl rfl ?_
       refine WY.q (oq_fieldAddr fld79_0 rfl) rfl rfl rfl ?_
       refine WY.q (oq_load flat28 rfl (.head _) (List.mem_singleton.2 rfl) rfl) rfl rfl rfl ?_
       refine WY.q (oq_move rfl) rfl rfl rfl ?_
       refine WY.q (oq_nilCheck rfl) rfl rfl rfl ?_
       refine WY.q (oq_fieldAddr fld79_1 rfl) rfl rfl rfl ?_
       refine WY.q (oq_load flat3 rfl (.head _) (List.mem_singleton.2 rfl) rfl) rfl rfl rfl ?_
       refine WY.q (oq_sliceNil Tryz.underlying28 ty5 rfl rfl) rfl rfl rfl ?_
       refine WY.q (oq_move rfl) rfl rfl rfl ?_
       refine WY.q (oq_nilCheck rfl) rfl rfl rfl ?_
       refine WY.q (oq_fieldAddr fld79_1 rfl) rfl rfl rfl ?_
       refine WY.q (oq_load flat3 rfl (.head _) (List.mem_singleton.2 rfl) rfl) rfl rfl rfl ?_
       refine WY.q (oq_move rfl) rfl rfl rfl ?_
       refine WY.q (oq_add rfl rfl (by rw [i64_lo, i64_hi]; (first | omega | (simp only [List.length_cons, List.length_nil, List.length_append, List.length_drop, List.length_take]; omega)))) rfl rfl rfl ?_
       refine WY.nil ?_
       refine WL.callA0 (growSlice none 0 n [] [] ⟨rfl, .inl ⟨rfl, _, _, rfl⟩⟩ (by simp only [List.length_nil]; omega) hn (by omega)) call139 (by rw [Int.zero_add]; rfl) rfl rfl fun v15_16 N15_16 hR15_16 hN15_16 => ?_
       obtain ⟨B2, cap2, L2, rfl, rfl, hL2, hc2, hm2, ht2⟩ := hR15_16
       have hB2 := hN15_16 _ _ (List.mem_singleton.2 rfl)
       refine WL.q (oq_nilCheck rfl) rfl rfl rfl ?_
       refine WL.q (oq_fieldAddr fld79_0 rfl) rfl rfl rfl ?_
       refine WL.f1 ?_
       refine WL.store1 #[_, _, _] ty28 rfl rfl (by first | rfl | exact OwS.one one_) (Nat.lt_of_lt_of_le (Nat.lt_succ_self _) (Nat.le_of_ble_eq_true rfl)) rfl rfl ?_
       refine WL.nil (WE.then_normal (WC.sub (fr' := [(0, _), (1, _), (5, _)]) ?_ ⟨rfl, rfl, rfl, trivial⟩))
       refine WC.seq (WC.region ?_)
       refine WL.q (oq_move rfl) rfl rfl rfl ?_
       refine WL.q (oq_nilCheck rfl) rfl rfl rfl ?_
       refine WL.q (oq_fieldAddr fld79_1 rfl) rfl rfl rfl ?_
       refine WL.store1 #[_, _, _] ty3 rfl rfl (by first | rfl | exact OwS.one one_) (Nat.lt_of_lt_of_le (Nat.lt_succ_self _) (Nat.le_of_ble_eq_true rfl)) rfl rfl ?_
       refine WL.nil (WE.then_normal (WC.sub (fr' := [(0, _), (1, _), (5, _)]) ?_ ⟨rfl, rfl, rfl, trivial⟩))
       refine WC.seq (WC.region ?_)
       refine WL.q (oq_move rfl) rfl rfl rfl ?_
       refine WL.q (oq_move rfl) rfl rfl rfl ?_
       refine WL.q (oq_nilCheck rfl) rfl rfl rfl ?_
       refine WL.q (oq_fieldAddr fld79_0 rfl) rfl rfl rfl ?_
       refine WL.q (oq_load flat28 rfl (.head _) (List.mem_singleton.2 rfl) rfl) rfl rfl rfl ?_
       refine WL.q (oq_move rfl) rfl rfl rfl ?_
       refine WL.q (oq_move rfl) rfl rfl rfl ?_
       refine WL.q (oq_add rfl rfl (by rw [i64_lo, i64_hi]; (first | omega | (simp only [List.length_cons, List.length_nil, List.length_append, List.length_drop, List.length_take]; omega)))) rfl rfl rfl ?_
       refine WL.q (oq_sliceSl (j := (0 + n)) Tryz.underlying28 ty5 rfl (by (first | omega | (simp only [List.length_nil]; omega))) rfl ⟨_, rfl⟩ (by (first | omega | (simp only [List.length_nil]; omega))) (by (first | omega | (simp only [List.length_nil]; omega)))) rfl rfl rfl ?_
       refine WL.q (oq_nilCheck rfl) rfl rfl rfl ?_
       refine WL.q (oq_fieldAddr fld79_0 rfl) rfl rfl rfl ?_
       refine WL.store1 #[_, _, _] ty28 rfl rfl (by first | rfl | exact OwS.one one_) (Nat.lt_of_lt_of_le (Nat.lt_succ_self _) (Nat.le_of_ble_eq_true rfl)) rfl rfl ?_
       refine WL.nil (WE.then_normal (WC.sub (fr' := [(5, _)]) ?_ ⟨rfl, trivial⟩))
       refine WC.seq (WC.region ?_)
       refine WL.q (oq_move rfl) rfl rfl rfl ?_
       refine WL.q (oq_assign rfl) rfl rfl rfl ?_
       refine WL.nil (WE.then_normal (WC.sub (fr' := [(4, _)]) ?_ ⟨rfl, trivial⟩))
       refine WC.ret ?_
       refine WE.endW2 (.inl rfl) (res1 Tryz.results137 rfl) ?_
       refine ⟨B2, cap2, L2, rfl, ?_, hB2, hL2, hc2, hm2, ht2⟩
       rw [List.length_nil, Nat.zero_add, Nat.zero_add]; rfl
   ·
    try simp only [Z1, Z2, Z3, Z4, Z5, Z6, Z7, Z8, Z9, Z0] at s7_5
    refine WL.skip rfl rfl rfl ?_
    refine WL.skip rfl rfl rfl ?_
    refine WL.q (oq_pick_f rfl rfl) rfl rfl rfl ?_
    refine WL.nil (WE.then_normal (WC.sub (fr' := [(0, _), (1, _), (5, _), (38, _)]) ?_ ⟨rfl, rfl, rfl, rfl, trivial⟩))
    refine WC.cond_f rfl ?_
    refine WC.skip (WE.then_normal (WC.sub (fr' := [(0, _), (1, _), (5, _)]) ?_ ⟨rfl, rfl, rfl, trivial⟩))
    refine WC.seq (WC.region ?_)
    refine WL.q (oq_move rfl) rfl rfl rfl ?_
    refine WL.q (oq_nilCheck rfl) rfl rfl rfl ?_
    refine WL.q (oq_fieldAddr fld79_0 rfl) rfl rfl rfl ?_
    refine WL.q (oq_load flat28 rfl (.head _) (List.mem_singleton.2 rfl) rfl) rfl rfl rfl ?_
    refine WL.q (oq_cap_sl Tryz.underlying28 rfl) rfl rfl rfl ?_
    refine WL.q (oq_assign rfl) rfl rfl rfl ?_
    refine WL.nil (WE.then_normal (WC.sub (fr' := [(0, _), (1, _), (5, _), (8, _)]) ?_ ⟨rfl, rfl, rfl, rfl, trivial⟩))
    refine WC.seq (WC.seq (WC.region ?_))
    refine WL.q (oq_move rfl) rfl rfl rfl ?_
    refine WL.q (oq_move rfl) rfl rfl rfl ?_
    refine WL.q (oq_quo rfl rfl (by rw [i64_hi]; omega)) rfl rfl rfl ?_
    refine WL.q (oq_move rfl) rfl rfl rfl ?_
    refine WL.q (oq_sub rfl rfl (by rw [i64_lo, i64_hi]; (first | omega | (simp only [List.length_cons, List.length_nil, List.length_append, List.length_drop, List.length_take]; omega)))) rfl rfl rfl ?_
    refine WL.q (oq_leq rfl rfl) rfl rfl rfl ?_
    refine WL.nil (WE.then_normal (WC.sub (fr' := [(0, _), (1, _), (5, _), (8, _), (54, _)]) ?_ ⟨rfl, rfl, rfl, rfl, rfl, trivial⟩))
    refine WC.cond rfl (fun q11 => ?_) (fun q11 => ?_)
    ·
     try simp only [Z1, Z2, Z3, Z4, Z5, Z6, Z7, Z8, Z9, Z0] at q11
     first | contradiction | (exfalso; omega) | (exfalso; simp_all; done)
    ·
     try simp only [Z1, Z2, Z3, Z4, Z5, Z6, Z7, Z8, Z9, Z0] at q11
     refine WC.seq (WC.region ?_)
     refine WL.q (oq_move rfl) rfl rfl rfl ?_
     refine WL.q (oq_move rfl) rfl rfl rfl ?_
     refine WL.q (oq_sub rfl rfl (by rw [i64_lo, i64_hi]; (first | omega | (simp only [List.length_cons, List.length_nil, List.length_append, List.length_drop, List.length_take]; omega)))) rfl rfl rfl ?_
     refine WL.q (oq_move rfl) rfl rfl rfl ?_
     refine WL.q (oq_sub rfl rfl (by rw [i64_lo, i64_hi]; (first | omega | (simp only [List.length_cons, List.length_nil, List.length_append, List.length_drop, List.length_take]; omega)))) rfl rfl rfl ?_
     refine WL.q (oq_gtr rfl rfl) rfl rfl rfl ?_
     refine WL.nil (WE.then_normal (WC.sub (fr' := [(0, _), (1, _), (5, _), (74, _)]) ?_ ⟨rfl, rfl, rfl, rfl, trivial⟩))
     refine WC.cond rfl (fun q13 => ?_) (fun q13 => ?_)
     ·
      try simp only [Z1, Z2, Z3, Z4, Z5, Z6, Z7, Z8, Z9, Z0] at q13
      first | contradiction | (exfalso; omega) | (exfalso; simp_all; done)
     ·
      try simp only [Z1, Z2, Z3, Z4, Z5, Z6, Z7, Z8, Z9, Z0] at q13
      refine WC.tailM (pl := [_]) (ql := [_, _, _, _, _, _, _, _, _, _, _, _, _, _, _]) (tl := [_, _, _, _]) [0] [1, 2, 3, 4, 5, 6, 7, 8, 9, 10, 11, 12, 13, 14, 15] 16 [17, 18, 19] (by kernel_rfl) (by kernel_rfl) (by kernel_rfl) (by kernel_rfl) (by kernel_rfl) (by kernel_rfl) (by decide) rfl rfl rfl (by decide) (by repeat (first | with_reducible exact QOk.body | with_reducible apply QOk.then | with_reducible apply QOk.block | exact QOk.body | apply QOk.then | apply QOk.block)) ?_
      refine WM.q (fun w0 => oq_move rfl) rfl rfl rfl ?_
      refine WM.nil ?_
      refine WY.q (oq_move rfl) rfl rfl rfl ?_
      refine WY.q (oq_nilCheck rfl) rfl rfl rfl ?_
      refine WY.q (oq_fieldAddr fld79_0 rfl) rfl rfl rfl ?_
      refine WY.q (oq_load flat28 rfl (.head _) (List.mem_singleton.2 rfl) rfl) rfl rfl rfl ?_
      refine WY.q (oq_move rfl) rfl rfl rfl ?_
      refine WY.q (oq_nilCheck rfl) rfl rfl rfl ?_
      refine WY.q (oq_fieldAddr fld79_1 rfl) rfl rfl rfl ?_
      refine WY.q (oq_load flat3 rfl (.head _) (List.mem_singleton.2 rfl) rfl) rfl rfl rfl ?_
      refine WY.q (oq_sliceNil Tryz.underlying28 ty5 rfl rfl) rfl rfl rfl ?_
      refine WY.q (oq_move rfl) rfl rfl rfl ?_
      refine WY.q (oq_nilCheck rfl) rfl rfl rfl ?_
      refine WY.q (oq_fieldAddr fld79_1 rfl) rfl rfl rfl ?_
      refine WY.q (oq_load flat3 rfl (.head _) (List.mem_singleton.2 rfl) rfl) rfl rfl rfl ?_
      refine WY.q (oq_move rfl) rfl rfl rfl ?_
      refine WY.q (oq_add rfl rfl (by rw [i64_lo, i64_hi]; (first | omega | (simp only [List.length_cons, List.length_nil, List.length_append, List.length_drop, List.length_take]; omega)))) rfl rfl rfl ?_
      refine WY.nil ?_
      refine WL.callA0 (growSlice none 0 n [] [] ⟨rfl, .inl ⟨rfl, _, _, rfl⟩⟩ (by simp only [List.length_nil]; omega) hn (by omega)) call139 (by rw [Int.zero_add]; rfl) rfl rfl fun v15_16 N15_16 hR15_16 hN15_16 => ?_
      obtain ⟨B2, cap2, L2, rfl, rfl, hL2, hc2, hm2, ht2⟩ := hR15_16
      have hB2 := hN15_16 _ _ (List.mem_singleton.2 rfl)
      refine WL.q (oq_nilCheck rfl) rfl rfl rfl ?_
      refine WL.q (oq_fieldAddr fld79_0 rfl) rfl rfl rfl ?_
      refine WL.f1 ?_
      refine WL.store1 #[_, _, _] ty28 rfl rfl (by first | rfl | exact OwS.one one_) (Nat.lt_of_lt_of_le (Nat.lt_succ_self _) (Nat.le_of_ble_eq_true rfl)) rfl rfl ?_
      refine WL.nil (WE.then_normal (WC.sub (fr' := [(0, _), (1, _), (5, _)]) ?_ ⟨rfl, rfl, rfl, trivial⟩))
      refine WC.seq (WC.region ?_)
      refine WL.q (oq_move rfl) rfl rfl rfl ?_
      refine WL.q (oq_nilCheck rfl) rfl rfl rfl ?_
      refine WL.q (oq_fieldAddr fld79_1 rfl) rfl rfl rfl ?_
      refine WL.store1 #[_, _, _] ty3 rfl rfl (by first | rfl | exact OwS.one one_) (Nat.lt_of_lt_of_le (Nat.lt_succ_self _) (Nat.le_of_ble_eq_true rfl)) rfl rfl ?_
      refine WL.nil (WE.then_normal (WC.sub (fr' := [(0, _), (1, _), (5, _)]) ?_ ⟨rfl, rfl, rfl, trivial⟩))
      refine WC.seq (WC.region ?_)
      refine WL.q (oq_move rfl) rfl rfl rfl ?_
      refine WL.q (oq_move rfl) rfl rfl rfl ?_
      refine WL.q (oq_nilCheck rfl) rfl rfl rfl ?_
      refine WL.q (oq_fieldAddr fld79_0 rfl) rfl rfl rfl ?_
      refine WL.q (oq_load flat28 rfl (.head _) (List.mem_singleton.2 rfl) rfl) rfl rfl rfl ?_
      refine WL.q (oq_move rfl) rfl rfl rfl ?_
      refine WL.q (oq_move rfl) rfl rfl rfl ?_
      refine WL.q (oq_add rfl rfl (by rw [i64_lo, i64_hi]; (first | omega | (simp only [List.length_cons, List.length_nil, List.length_append, List.length_drop, List.length_take]; omega)))) rfl rfl rfl ?_
      refine WL.q (oq_sliceSl (j := (0 + n)) Tryz.underlying28 ty5 rfl (by (first | omega | (simp only [List.length_nil]; omega))) rfl ⟨_, rfl⟩ (by (first | omega | (simp only [List.length_nil]; omega))) (by (first | omega | (simp only [List.length_nil]; omega)))) rfl rfl rfl ?_
      refine WL.q (oq_nilCheck rfl) rfl rfl rfl ?_
      refine WL.q (oq_fieldAddr fld79_0 rfl) rfl rfl rfl ?_
      refine WL.store1 #[_, _, _] ty28 rfl rfl (by first | rfl | exact OwS.one one_) (Nat.lt_of_lt_of_le (Nat.lt_succ_self _) (Nat.le_of_ble_eq_true rfl)) rfl rfl ?_
      refine WL.nil (WE.then_normal (WC.sub (fr' := [(5, _)]) ?_ ⟨rfl, trivial⟩))
      refine WC.seq (WC.region ?_)
      refine WL.q (oq_move rfl) rfl rfl rfl ?_
      refine WL.q (oq_assign rfl) rfl rfl rfl ?_
      refine WL.nil (WE.then_normal (WC.sub (fr' := [(4, _)]) ?_ ⟨rfl, trivial⟩))
      refine WC.ret ?_
      refine WE.endW2 (.inl rfl) (res1 Tryz.results137 rfl) ?_
      refine ⟨B2, cap2, L2, rfl, ?_, hB2, hL2, hc2, hm2, ht2⟩
      rw [List.length_nil, Nat.zero_add, Nat.zero_add]; rfl
theorem grow1 (base bb B cap n : Nat) (lr : Int) (L acc : List UInt8) (hB : base ≤ B) (hLc : L.length = cap) (hac : acc.length ≤ cap) (hc0 : 0 < cap) (hmx : cap ≤ maxLen) (hLt : L.take acc.length = acc) (hn : 0 < n) (hal : acc.length + n ≤ 1000000) : FnW Tryz.prog 137 [Pt bb 0, I (n : Int)] base [[(bb, .cells #[Sl B 0 acc.length cap, I 0, .int .i8 lr] 79 (0, 0))], Bf B 5 L] (Grown n base bb lr acc) := by
 have hmy : maxLen ≤ 9223372036854775807 := by unfold maxLen; omega
 have hrd : RdS 1 (Sl B 0 acc.length cap) (Bf B 5 L) acc.length (bytesV acc) := by have := Sl.rd (b := B) (off := 0) (n := acc.length) (c := cap) (e := 5) (l := L) (by omega) hac; rw [List.drop_zero, hLt] at this; exact this
 refine FnW.enter (n := 110) Tryz.func137 rfl rfl fun w0 R0 hbase => ?_
 subst hbase
 show WC _ _ _ _ _ _ _ ([[(bb, .cells #[Sl B 0 acc.length cap, I 0, .int .i8 lr] 79 (0, 0))], Bf B 5 L, R0])
 refine WC.sub (fr' := [(0, _), (1, _)]) ?_ ⟨rfl, rfl, trivial⟩
 refine WC.seq (WC.region ?_)
 refine WL.q (oq_assign rfl) rfl rfl rfl ?_
 refine WL.nil (WE.then_normal (WC.sub (fr' := [(0, _), (1, _)]) ?_ ⟨rfl, rfl, trivial⟩))
 refine WC.seq (WC.region ?_)
 refine WL.q (oq_move rfl) rfl rfl rfl ?_
 refine WL.qc (oq_callRm (bufLen bb acc.length cap (some ⟨B, 0, none⟩) lr (by omega)) (.head _) call66 rfl) rfl rfl rfl ?_
 refine WL.q (oq_assign rfl) rfl rfl rfl ?_
 refine WL.nil (WE.then_normal (WC.sub (fr' := [(0, _), (1, _), (5, _)]) ?_ ⟨rfl, rfl, rfl, trivial⟩))
 refine WC.cut (ι := Unit) (fun _ => [(0, Pt bb 0), (1, I (n : Int)), (5, I (acc.length : Int))]) (fun _ => [[(bb, .cells #[Sl B 0 acc.length cap, I 0, .int .i8 lr] 79 (0, 0))], Bf B 5 L, R0]) (fun _ => True) ?_ ?_
 ·
  refine WC.seq (WC.region ?_)
  refine WL.q (oq_move rfl) rfl rfl rfl ?_
  refine WL.q (oq_eql rfl rfl) rfl rfl rfl ?_
  refine WL.q (oq_move rfl) rfl rfl rfl ?_
  refine WL.split 13 rfl (fun s2_2 => ?_) (fun s2_2 => ?_)
  ·
   try simp only [Z1, Z2, Z3, Z4, Z5, Z6, Z7, Z8, Z9, Z0] at s2_2
   refine WL.q (oq_move rfl) rfl rfl rfl ?_
   refine WL.q (oq_nilCheck rfl) rfl rfl rfl ?_
   refine WL.q (oq_fieldAddr fld79_1 rfl) rfl rfl rfl ?_
   refine WL.q (oq_load flat3 rfl (.head _) (List.mem_singleton.2 rfl) rfl) rfl rfl rfl ?_
   refine WL.q (oq_neq rfl rfl) rfl rfl rfl ?_
   refine WL.q (oq_pick_t rfl rfl) rfl rfl rfl ?_
   refine WL.nil (WE.then_normal (WC.sub (fr' := [(0, _), (1, _), (5, _), (19, _)]) ?_ ⟨rfl, rfl, rfl, rfl, trivial⟩))
   refine WC.cond rfl (fun q2 => ?_) (fun q2 => ?_)
   ·
    try simp only [Z1, Z2, Z3, Z4, Z5, Z6, Z7, Z8, Z9, Z0] at q2
    first | contradiction | (exfalso; omega) | (exfalso; simp_all; done)
   ·
    try simp only [Z1, Z2, Z3, Z4, Z5, Z6, Z7, Z8, Z9, Z0] at q2
    refine WC.skip ?_
    refine WE.meet () ?_ ⟨rfl, rfl, rfl, trivial⟩ (List.Perm.refl _)
    try dsimp only
    all_goals trivial
  ·
   try simp only [Z1, Z2, Z3, Z4, Z5, Z6, Z7, Z8, Z9, Z0] at s2_2
   refine WL.skip rfl rfl rfl ?_
   refine WL.skip rfl rfl rfl ?_
   refine WL.skip rfl rfl rfl ?_
   refine WL.skip rfl rfl rfl ?_
   refine WL.skip rfl rfl rfl ?_
   refine WL.q (oq_pick_f rfl rfl) rfl rfl rfl ?_
   refine WL.nil (WE.then_normal (WC.sub (fr' := [(0, _), (1, _), (5, _), (19, _)]) ?_ ⟨rfl, rfl, rfl, rfl, trivial⟩))
   refine WC.cond_f rfl ?_
   refine WC.skip ?_
   refine WE.meet () ?_ ⟨rfl, rfl, rfl, trivial⟩ (List.Perm.refl _)
   try dsimp only
   all_goals trivial
 ·rintro _ hp
  try dsimp only at hp
  show WC _ _ _ _ _ _ ([(0, Pt bb 0), (1, I (n : Int)), (5, I (acc.length : Int))]) ([[(bb, .cells #[Sl B 0 acc.length cap, I 0, .int .i8 lr] 79 (0, 0))], Bf B 5 L, R0])
  refine WC.seq (WC.seq (WC.region ?_))
  refine WL.q (oq_move rfl) rfl rfl rfl ?_
  refine WL.q (oq_move rfl) rfl rfl rfl ?_
  refine WL.callW1 (tryGrow1 _ bb B acc.length cap n lr hac (by omega) hmx hc0) call138 rfl rfl rfl fun v4_2 Hs4_2 hR4_2 => ?_
  obtain ⟨rfl, rfl⟩ := hR4_2
  refine WL.to1 ?_
  refine WL.q (oq_move rfl) rfl rfl rfl ?_
  refine WL.q (oq_extract rfl rfl) rfl rfl rfl ?_
  refine WL.q (oq_extract rfl rfl) rfl rfl rfl ?_
  refine WL.q (oq_assign rfl) rfl rfl rfl ?_
  refine WL.q (oq_assign rfl) rfl rfl rfl ?_
  refine WL.nil (WE.then_normal (WC.sub (fr' := [(0, _), (1, _), (5, _), (6, _), (7, _)]) ?_ ⟨rfl, rfl, rfl, rfl, rfl, trivial⟩))
  refine WC.seq (WC.region ?_)
  refine WL.q (oq_move rfl) rfl rfl rfl ?_
  refine WL.nil (WE.then_normal (WC.sub (fr' := [(0, _), (1, _), (5, _), (6, _), (28, _)]) ?_ ⟨rfl, rfl, rfl, rfl, rfl, trivial⟩))
  refine WC.cond rfl (fun q5 => ?_) (fun q5 => ?_)
  ·
   try simp only [Z1, Z2, Z3, Z4, Z5, Z6, Z7, Z8, Z9, Z0] at q5
   refine WC.seq (WC.region ?_)
   refine WL.q (oq_move rfl) rfl rfl rfl ?_
   refine WL.q (oq_assign rfl) rfl rfl rfl ?_
   refine WL.nil (WE.then_normal (WC.sub (fr' := [(4, _)]) ?_ ⟨rfl, trivial⟩))
   refine WC.ret (WE.then_ret ?_)
   refine WE.endW2 (.inl rfl) (res1 Tryz.results137 rfl) ?_
   rw [if_pos (by omega), if_pos (by omega)]
   exact ⟨B, cap, L, rfl, rfl, hB, hLc, by omega, hmx, hLt⟩
  ·
   try simp only [Z1, Z2, Z3, Z4, Z5, Z6, Z7, Z8, Z9, Z0] at q5
   refine WC.skip (WE.then_normal (WC.sub (fr' := [(0, _), (1, _), (5, _)]) ?_ ⟨rfl, rfl, rfl, trivial⟩))
   refine WC.seq (WC.seq ?_)
   rw [if_neg (show ¬ (acc.length + n ≤ cap) by omega)]
   refine WC.region ?_
   refine WL.q (oq_move rfl) rfl rfl rfl ?_
   refine WL.q (oq_nilCheck rfl) rfl rfl rfl ?_
   refine WL.q (oq_fieldAddr fld79_0 rfl) rfl rfl rfl ?_
   refine WL.q (oq_load flat28 rfl (.head _) (List.mem_singleton.2 rfl) rfl) rfl rfl rfl ?_
   refine WL.q (oq_sleql Tryz.underlying28 rfl rfl) rfl rfl rfl ?_
   refine WL.q (oq_move rfl) rfl rfl rfl ?_
   refine WL.split 35 rfl (fun s7_5 => ?_) (fun s7_5 => ?_)
   ·
    try simp only [Z1, Z2, Z3, Z4, Z5, Z6, Z7, Z8, Z9, Z0] at s7_5
    refine WL.q (oq_move rfl) rfl rfl rfl ?_
    refine WL.q (oq_leq rfl rfl) rfl rfl rfl ?_
    refine WL.q (oq_pick_t rfl rfl) rfl rfl rfl ?_
    refine WL.nil (WE.then_normal (WC.sub (fr' := [(0, _), (1, _), (5, _), (38, _)]) ?_ ⟨rfl, rfl, rfl, rfl, trivial⟩))
    refine WC.cond rfl (fun q7 => ?_) (fun q7 => ?_)
    ·
     try simp only [Z1, Z2, Z3, Z4, Z5, Z6, Z7, Z8, Z9, Z0] at q7
     refine WC.seq ?_
     first | contradiction | (exfalso; omega) | (exfalso; simp_all; done)
    ·
     try simp only [Z1, Z2, Z3, Z4, Z5, Z6, Z7, Z8, Z9, Z0] at q7
     refine WC.skip (WE.then_normal (WC.sub (fr' := [(0, _), (1, _), (5, _)]) ?_ ⟨rfl, rfl, rfl, trivial⟩))
     refine WC.seq (WC.region ?_)
     refine WL.q (oq_move rfl) rfl rfl rfl ?_
     refine WL.q (oq_nilCheck rfl) rfl rfl rfl ?_
     refine WL.q (oq_fieldAddr fld79_0 rfl) rfl rfl rfl ?_
     refine WL.q (oq_load flat28 rfl (.head _) (List.mem_singleton.2 rfl) rfl) rfl rfl rfl ?_
     refine WL.q (oq_cap_sl Tryz.underlying28 rfl) rfl rfl rfl ?_
     refine WL.q (oq_assign rfl) rfl rfl rfl ?_
     refine WL.nil (WE.then_normal (WC.sub (fr' := [(0, _), (1, _), (5, _), (8, _)]) ?_ ⟨rfl, rfl, rfl, rfl, trivial⟩))
     refine WC.seq (WC.seq (WC.region ?_))
     refine WL.q (oq_move rfl) rfl rfl rfl ?_
     refine WL.q (oq_move rfl) rfl rfl rfl ?_
     refine WL.q (oq_quo rfl rfl (by rw [i64_hi]; omega)) rfl rfl rfl ?_
     refine WL.q (oq_move rfl) rfl rfl rfl ?_
     refine WL.q (oq_sub rfl rfl (by rw [i64_lo, i64_hi]; (first | omega | (simp only [List.length_cons, List.length_nil, List.length_append, List.length_drop, List.length_take]; omega)))) rfl rfl rfl ?_
     refine WL.q (oq_leq rfl rfl) rfl rfl rfl ?_
     refine WL.nil (WE.then_normal (WC.sub (fr' := [(0, _), (1, _), (5, _), (8, _), (54, _)]) ?_ ⟨rfl, rfl, rfl, rfl, rfl, trivial⟩))
     refine WC.cond rfl (fun q11 => ?_) (fun q11 => ?_)
     ·
      try simp only [Z1, Z2, Z3, Z4, Z5, Z6, Z7, Z8, Z9, Z0] at q11
      first | contradiction | (exfalso; omega) | (exfalso; simp_all; done)
     ·
      try simp only [Z1, Z2, Z3, Z4, Z5, Z6, Z7, Z8, Z9, Z0] at q11
      refine WC.seq (WC.region ?_)
      refine WL.q (oq_move rfl) rfl rfl rfl ?_
      refine WL.q (oq_move rfl) rfl rfl rfl ?_
      refine WL.q (oq_sub rfl rfl (by rw [i64_lo, i64_hi]; (first | omega | (simp only [List.length_cons, List.length_nil, List.length_append, List.length_drop, List.length_take]; omega)))) rfl rfl rfl ?_
      refine WL.q (oq_move rfl) rfl rfl rfl ?_
      refine WL.q (oq_sub rfl rfl (by rw [i64_lo, i64_hi]; (first | omega | (simp only [List.length_cons, List.length_nil, List.length_append, List.length_drop, List.length_take]; omega)))) rfl rfl rfl ?_
      refine WL.q (oq_gtr rfl rfl) rfl rfl rfl ?_
      refine WL.nil (WE.then_normal (WC.sub (fr' := [(0, _), (1, _), (5, _), (74, _)]) ?_ ⟨rfl, rfl, rfl, rfl, trivial⟩))
      refine WC.cond rfl (fun q13 => ?_) (fun q13 => ?_)
      ·
       try simp only [Z1, Z2, Z3, Z4, Z5, Z6, Z7, Z8, Z9, Z0] at q13
       first | contradiction | (exfalso; omega) | (exfalso; simp_all; done)
      ·
       try simp only [Z1, Z2, Z3, Z4, Z5, Z6, Z7, Z8, Z9, Z0] at q13
       refine WC.tailM (pl := [_]) (ql := [_, _, _, _, _, _, _, _, _, _, _, _, _, _, _]) (tl := [_, _, _, _]) [0] [1, 2, 3, 4, 5, 6, 7, 8, 9, 10, 11, 12, 13, 14, 15] 16 [17, 18, 19] (by kernel_rfl) (by kernel_rfl) (by kernel_rfl) (by kernel_rfl) (by kernel_rfl) (by kernel_rfl) (by decide) rfl rfl rfl (by decide) (by repeat (first | with_reducible exact QOk.body | with_reducible apply QOk.then | with_reducible apply QOk.block | exact QOk.body | apply QOk.then | apply QOk.block)) ?_
       refine WM.q (fun w0 => oq_move rfl) rfl rfl rfl ?_
       refine WM.nil ?_
       refine WY.q (oq_move rfl) rfl rfl rfl ?_
       refine WY.q (oq_nilCheck rfl) rfl rfl rfl ?_
       refine WY.q (oq_fieldAddr fld79_0 rfl) rfl rfl rfl ?_
       refine WY.q (oq_load flat28 rfl (.head _) (List.mem_singleton.2 rfl) rfl) rfl rfl rfl ?_
       refine WY.q (oq_move rfl) rfl rfl rfl ?_
       refine WY.q (oq_nilCheck rfl) rfl rfl rfl ?_
       refine WY.q (oq_fieldAddr fld79_1 rfl) rfl rfl rfl ?_
       refine WY.q (oq_load flat3 rfl (.head _) (List.mem_singleton.2 rfl) rfl) rfl rfl rfl ?_
       refine WY.q (oq_sliceSl (i := 0) Tryz.underlying28 ty5 rfl (by omega) ⟨_, rfl⟩ rfl (by omega) (by omega)) rfl rfl rfl ?_
       refine WY.q (oq_move rfl) rfl rfl rfl ?_
       refine WY.q (oq_nilCheck rfl) rfl rfl rfl ?_
       refine WY.q (oq_fieldAddr fld79_1 rfl) rfl rfl rfl ?_
       refine WY.q (oq_load flat3 rfl (.head _) (List.mem_singleton.2 rfl) rfl) rfl rfl rfl ?_
       refine WY.q (oq_move rfl) rfl rfl rfl ?_
       refine WY.q (oq_add rfl rfl (by rw [i64_lo, i64_hi]; (first | omega | (simp only [List.length_cons, List.length_nil, List.length_append, List.length_drop, List.length_take]; omega)))) rfl rfl rfl ?_
       refine WY.nil ?_
       refine WL.f1 ?_
       refine WL.callA (growSlice (some ⟨B, 0, none⟩) cap n (Bf B 5 L) acc hrd (by omega) hn (by omega)) call139 (by rw [Int.zero_add]; rfl) rfl rfl fun v15_16 N15_16 hR15_16 hN15_16 => ?_
       obtain ⟨B2, cap2, L2, rfl, rfl, hL2, hc2, hm2, ht2⟩ := hR15_16
       have hB2 := hN15_16 _ _ (List.mem_singleton.2 rfl)
       refine WL.q (oq_nilCheck rfl) rfl rfl rfl ?_
       refine WL.q (oq_fieldAddr fld79_0 rfl) rfl rfl rfl ?_
       refine WL.f2 ?_
       refine WL.store1 #[_, _, _] ty28 rfl rfl (by first | rfl | exact OwS.one one_) (Nat.lt_of_lt_of_le (Nat.lt_succ_self _) (Nat.le_of_ble_eq_true rfl)) rfl rfl ?_
       refine WL.nil (WE.then_normal (WC.sub (fr' := [(0, _), (1, _), (5, _)]) ?_ ⟨rfl, rfl, rfl, trivial⟩))
       refine WC.seq (WC.region ?_)
       refine WL.q (oq_move rfl) rfl rfl rfl ?_
       refine WL.q (oq_nilCheck rfl) rfl rfl rfl ?_
       refine WL.q (oq_fieldAddr fld79_1 rfl) rfl rfl rfl ?_
       refine WL.store1 #[_, _, _] ty3 rfl rfl (by first | rfl | exact OwS.one one_) (Nat.lt_of_lt_of_le (Nat.lt_succ_self _) (Nat.le_of_ble_eq_true rfl)) rfl rfl ?_
       refine WL.nil (WE.then_normal (WC.sub (fr' := [(0, _), (1, _), (5, _)]) ?_ ⟨rfl, rfl, rfl, trivial⟩))
       refine WC.seq (WC.region ?_)
       refine WL.q (oq_move rfl) rfl rfl rfl ?_
       refine WL.q (oq_move rfl) rfl rfl rfl ?_
       refine WL.q (oq_nilCheck rfl) rfl rfl rfl ?_
       refine WL.q (oq_fieldAddr fld79_0 rfl) rfl rfl rfl ?_
       refine WL.q (oq_load flat28 rfl (.head _) (List.mem_singleton.2 rfl) rfl) rfl rfl rfl ?_
       refine WL.q (oq_move rfl) rfl rfl rfl ?_
       refine WL.q (oq_move rfl) rfl rfl rfl ?_
       refine WL.q (oq_add rfl rfl (by rw [i64_lo, i64_hi]; (first | omega | (simp only [List.length_cons, List.length_nil, List.length_append, List.length_drop, List.length_take]; omega)))) rfl rfl rfl ?_
       refine WL.q (oq_sliceSl (j := (acc.length + n)) Tryz.underlying28 ty5 rfl (by omega) rfl ⟨_, rfl⟩ (by omega) (by omega)) rfl rfl rfl ?_
       refine WL.q (oq_nilCheck rfl) rfl rfl rfl ?_
       refine WL.q (oq_fieldAddr fld79_0 rfl) rfl rfl rfl ?_
       refine WL.store1 #[_, _, _] ty28 rfl rfl (by first | rfl | exact OwS.one one_) (Nat.lt_of_lt_of_le (Nat.lt_succ_self _) (Nat.le_of_ble_eq_true rfl)) rfl rfl ?_
       refine WL.nil (WE.then_normal (WC.sub (fr' := [(5, _)]) ?_ ⟨rfl, trivial⟩))
       refine WC.seq (WC.region ?_)
       refine WL.q (oq_move rfl) rfl rfl rfl ?_
       refine WL.q (oq_assign rfl) rfl rfl rfl ?_
       refine WL.nil (WE.then_normal (WC.sub (fr' := [(4, _)]) ?_ ⟨rfl, trivial⟩))
       refine WC.ret ?_
       refine WE.f2 ?_
       refine WE.lose hB ?_
       refine WE.endW2 (.inl rfl) (res1 Tryz.results137 rfl) ?_
       exact ⟨B2, cap2, L2, rfl, rfl, hB2, hL2, hc2, hm2, ht2⟩
   ·
    try simp only [Z1, Z2, Z3, Z4, Z5, Z6, Z7, Z8, Z9, Z0] at s7_5
    refine WL.skip rfl rfl rfl ?_
    refine WL.skip rfl rfl rfl ?_
    refine WL.q (oq_pick_f rfl rfl) rfl rfl rfl ?_
    refine WL.nil (WE.then_normal (WC.sub (fr' := [(0, _), (1, _), (5, _), (38, _)]) ?_ ⟨rfl, rfl, rfl, rfl, trivial⟩))
    refine WC.cond_f rfl ?_
    refine WC.skip (WE.then_normal (WC.sub (fr' := [(0, _), (1, _), (5, _)]) ?_ ⟨rfl, rfl, rfl, trivial⟩))
    refine WC.seq (WC.region ?_)
    refine WL.q (oq_move rfl) rfl rfl rfl ?_
    refine WL.q (oq_nilCheck rfl) rfl rfl rfl ?_
    refine WL.q (oq_fieldAddr fld79_0 rfl) rfl rfl rfl ?_
    refine WL.q (oq_load flat28 rfl (.head _) (List.mem_singleton.2 rfl) rfl) rfl rfl rfl ?_
    refine WL.q (oq_cap_sl Tryz.underlying28 rfl) rfl rfl rfl ?_
    refine WL.q (oq_assign rfl) rfl rfl rfl ?_
    refine WL.nil (WE.then_normal (WC.sub (fr' := [(0, _), (1, _), (5, _), (8, _)]) ?_ ⟨rfl, rfl, rfl, rfl, trivial⟩))
    refine WC.seq (WC.seq (WC.region ?_))
    refine WL.q (oq_move rfl) rfl rfl rfl ?_
    refine WL.q (oq_move rfl) rfl rfl rfl ?_
    refine WL.q (oq_quo rfl rfl (by rw [i64_hi]; omega)) rfl rfl rfl ?_
    refine WL.q (oq_move rfl) rfl rfl rfl ?_
    refine WL.q (oq_sub rfl rfl (by rw [i64_lo, i64_hi]; (first | omega | (simp only [List.length_cons, List.length_nil, List.length_append, List.length_drop, List.length_take]; omega)))) rfl rfl rfl ?_
    refine WL.q (oq_leq rfl rfl) rfl rfl rfl ?_
    refine WL.nil (WE.then_normal (WC.sub (fr' := [(0, _), (1, _), (5, _), (8, _), (54, _)]) ?_ ⟨rfl, rfl, rfl, rfl, rfl, trivial⟩))
    refine WC.cond rfl (fun q11 => ?_) (fun q11 => ?_)
    ·
     try simp only [Z1, Z2, Z3, Z4, Z5, Z6, Z7, Z8, Z9, Z0] at q11
     first | contradiction | (exfalso; omega) | (exfalso; simp_all; done)
    ·
     try simp only [Z1, Z2, Z3, Z4, Z5, Z6, Z7, Z8, Z9, Z0] at q11
     refine WC.seq (WC.region ?_)
     refine WL.q (oq_move rfl) rfl rfl rfl ?_
     refine WL.q (oq_move rfl) rfl rfl rfl ?_
     refine WL.q (oq_sub rfl rfl (by rw [i64_lo, i64_hi]; (first | omega | (simp only [List.length_cons, List.length_nil, List.length_append, List.length_drop, List.length_take]; omega)))) rfl rfl rfl ?_
     refine WL.q (oq_move rfl) rfl rfl rfl ?_
     refine WL.q (oq_sub rfl rfl (by rw [i64_lo, i64_hi]; (first | omega | (simp only [List.length_cons, List.length_nil, List.length_append, List.length_drop, List.length_take]; omega)))) rfl rfl rfl ?_
     refine WL.q (oq_gtr rfl rfl) rfl rfl rfl ?_
     refine WL.nil (WE.then_normal (WC.sub (fr' := [(0, _), (1, _), (5, _), (74, _)]) ?_ ⟨rfl, rfl, rfl, rfl, trivial⟩))
     refine WC.cond rfl (fun q13 => ?_) (fun q13 => ?_)
     ·
      try simp only [Z1, Z2, Z3, Z4, Z5, Z6, Z7, Z8, Z9, Z0] at q13
      first | contradiction | (exfalso; omega) | (exfalso; simp_all; done)
     ·
      try simp only [Z1, Z2, Z3, Z4, Z5, Z6, Z7, Z8, Z9, Z0] at q13
      refine WC.tailM (pl := [_]) (ql := [_, _, _, _, _, _, _, _, _, _, _, _, _, _, _]) (tl := [_, _, _, _]) [0] [1, 2, 3, 4, 5, 6, 7, 8, 9, 10, 11, 12, 13, 14, 15] 16 [17, 18, 19] (by kernel_rfl) (by kernel_rfl) (by kernel_rfl) (by kernel_rfl) (by kernel_rfl) (by kernel_rfl) (by decide) rfl rfl rfl (by decide) (by repeat (first | with_reducible exact QOk.body | with_reducible apply QOk.then | with_reducible apply QOk.block | exact QOk.body | apply QOk.then | apply QOk.block)) ?_
      refine WM.q (fun w0 => oq_move rfl) rfl rfl rfl ?_
      refine WM.nil ?_
      refine WY.q (oq_move rfl) rfl rfl rfl ?_
      refine WY.q (oq_nilCheck rfl) rfl rfl rfl ?_
      refine WY.q (oq_fieldAddr fld79_0 rfl) rfl rfl rfl ?_
      refine WY.q (oq_load flat28 rfl (.head _) (List.mem_singleton.2 rfl) rfl) rfl rfl rfl ?_
      refine WY.q (oq_move rfl) rfl rfl rfl ?_
      refine WY.q (oq_nilCheck rfl) rfl rfl rfl ?_
      refine WY.q (oq_fieldAddr fld79_1 rfl) rfl rfl rfl ?_
      refine WY.q (oq_load flat3 rfl (.head _) (List.mem_singleton.2 rfl) rfl) rfl rfl rfl ?_
      refine WY.q (oq_sliceSl (i := 0) Tryz.underlying28 ty5 rfl (by omega) ⟨_, rfl⟩ rfl (by omega) (by omega)) rfl rfl rfl ?_
      refine WY.q (oq_move rfl) rfl rfl rfl ?_
      refine WY.q (oq_nilCheck rfl) rfl rfl rfl ?_
      refine WY.q (oq_fieldAddr fld79_1 rfl) rfl rfl rfl ?_
      refine WY.q (oq_load flat3 rfl (.head _) (List.mem_singleton.2 rfl) rfl) rfl rfl rfl ?_
      refine WY.q (oq_move rfl) rfl rfl rfl ?_
      refine WY.q (oq_add rfl rfl (by rw [i64_lo, i64_hi]; (first | omega | (simp only [List.length_cons, List.length_nil, List.length_append, List.length_drop, List.length_take]; omega)))) rfl rfl rfl ?_
      refine WY.nil ?_
      refine WL.f1 ?_
      refine WL.callA (growSlice (some ⟨B, 0, none⟩) cap n (Bf B 5 L) acc hrd (by omega) hn (by omega)) call139 (by rw [Int.zero_add]; rfl) rfl rfl fun v15_16 N15_16 hR15_16 hN15_16 => ?_
      obtain ⟨B2, cap2, L2, rfl, rfl, hL2, hc2, hm2, ht2⟩ := hR15_16
      have hB2 := hN15_16 _ _ (List.mem_singleton.2 rfl)
      refine WL.q (oq_nilCheck rfl) rfl rfl rfl ?_
      refine WL.q (oq_fieldAddr fld79_0 rfl) rfl rfl rfl ?_
      refine WL.f2 ?_
      refine WL.store1 #[_, _, _] ty28 rfl rfl (by first | rfl | exact OwS.one one_) (Nat.lt_of_lt_of_le (Nat.lt_succ_self _) (Nat.le_of_ble_eq_true rfl)) rfl rfl ?_
      refine WL.nil (WE.then_normal (WC.sub (fr' := [(0, _), (1, _), (5, _)]) ?_ ⟨rfl, rfl, rfl, trivial⟩))
      refine WC.seq (WC.region ?_)
      refine WL.q (oq_move rfl) rfl rfl rfl ?_
      refine WL.q (oq_nilCheck rfl) rfl rfl rfl ?_
      refine WL.q (oq_fieldAddr fld79_1 rfl) rfl rfl rfl ?_
      refine WL.store1 #[_, _, _] ty3 rfl rfl (by first | rfl | exact OwS.one one_) (Nat.lt_of_lt_of_le (Nat.lt_succ_self _) (Nat.le_of_ble_eq_true rfl)) rfl rfl ?_
      refine WL.nil (WE.then_normal (WC.sub (fr' := [(0, _), (1, _), (5, _)]) ?_ ⟨rfl, rfl, rfl, trivial⟩))
      refine WC.seq (WC.region ?_)
      refine WL.q (oq_move rfl) rfl rfl rfl ?_
      refine WL.q (oq_move rfl) rfl rfl rfl ?_
      refine WL.q (oq_nilCheck rfl) rfl rfl rfl ?_
      refine WL.q (oq_fieldAddr fld79_0 rfl) rfl rfl rfl ?_
      refine WL.q (oq_load flat28 rfl (.head _) (List.mem_singleton.2 rfl) rfl) rfl rfl rfl ?_
      refine WL.q (oq_move rfl) rfl rfl rfl ?_
      refine WL.q (oq_move rfl) rfl rfl rfl ?_
      refine WL.q (oq_add rfl rfl (by rw [i64_lo, i64_hi]; (first | omega | (simp only [List.length_cons, List.length_nil, List.length_append, List.length_drop, List.length_take]; omega)))) rfl rfl rfl ?_
      refine WL.q (oq_sliceSl (j := (acc.length + n)) Tryz.underlying28 ty5 rfl (by omega) rfl ⟨_, rfl⟩ (by omega) (by omega)) rfl rfl rfl ?_
      refine WL.q (oq_nilCheck rfl) rfl rfl rfl ?_
      refine WL.q (oq_fieldAddr fld79_0 rfl) rfl rfl rfl ?_
      refine WL.store1 #[_, _, _] ty28 rfl rfl (by first | rfl | exact OwS.one one_) (Nat.lt_of_lt_of_le (Nat.lt_succ_self _) (Nat.le_of_ble_eq_true rfl)) rfl rfl ?_
      refine WL.nil (WE.then_normal (WC.sub (fr' := [(5, _)]) ?_ ⟨rfl, trivial⟩))
      refine WC.seq (WC.region ?_)
      refine WL.q (oq_move rfl) rfl rfl rfl ?_
      refine WL.q (oq_assign rfl) rfl rfl rfl ?_
      refine WL.nil (WE.then_normal (WC.sub (fr' := [(4, _)]) ?_ ⟨rfl, trivial⟩))
      refine WC.ret ?_
      refine WE.f2 ?_
      refine WE.lose hB ?_
      refine WE.endW2 (.inl rfl) (res1 Tryz.results137 rfl) ?_
      exact ⟨B2, cap2, L2, rfl, rfl, hB2, hL2, hc2, hm2, ht2⟩
end EA
end Go.Proofs.YtodlhaghdplclaaGreatDoor
/- Writing into a buffer of bytes. -/
namespace Go.Proofs.YtodlhaghdplclaaGreatDoor
open Go Go.RowKit V EA
set_option linter.unusedSimpArgs false
set_option linter.unusedVariables false
set_option maxRecDepth 10000
namespace EB
theorem call137 : Callable Tryz.prog 137 := ⟨_, Tryz.func137, rfl, by kernel_rfl⟩
theorem call138 : Callable Tryz.prog 138 := ⟨_, Tryz.func138, rfl, by kernel_rfl⟩
theorem flat28 : Flat Tryz.prog 28 := ⟨_, Tryz.underlying28, by simp⟩
theorem ty5 : Ty Tryz.prog 5 (.int .u8 0) 1 1 := ty_of (by kernel_rfl)
theorem ty28 : Ty Tryz.prog 28 (.slice none 0 0) 1 24 := ty_of (by kernel_rfl)
theorem ty77 : Ty Tryz.prog 77 (.int .i8 0) 1 1 := ty_of (by kernel_rfl)
theorem fld79_0 : Fld Tryz.prog 79 0 0 28 := fld_of Tryz.underlying79 rfl rfl rfl ty28 (by decide)
theorem fld79_2 : Fld Tryz.prog 79 2 2 77 := fld_of Tryz.underlying79 rfl rfl rfl ty77 (by decide)
theorem tryYes (base bb B len cap n : Nat) (lr : Int) (hlc : len ≤ cap) (hl : len + n ≤ 1000000) (hmx : cap ≤ maxLen) (h0 : 0 < cap) (hf : len + n ≤ cap) : FnW Tryz.prog 138 [Pt bb 0, I (n : Int)] base [BB bb (Sl B 0 len cap) lr] (fun w Hs => w = .tuple #[I (len : Int), .bool true] ∧ Hs = [BB bb (Sl B 0 (len + n) cap) lr]) := by
 refine (tryGrow1 base bb B len cap n lr hlc hl hmx h0).mono ?_
 rintro v Hs ⟨rfl, rfl⟩
 rw [if_pos hf, if_pos hf, decide_eq_true hf]
 exact ⟨rfl, rfl⟩
theorem tryNo (base bb B len cap n : Nat) (lr : Int) (hlc : len ≤ cap) (hl : len + n ≤ 1000000) (hmx : cap ≤ maxLen) (h0 : 0 < cap) (hf : ¬ len + n ≤ cap) : FnW Tryz.prog 138 [Pt bb 0, I (n : Int)] base [BB bb (Sl B 0 len cap) lr] (fun w Hs => w = .tuple #[I 0, .bool false] ∧ Hs = [BB bb (Sl B 0 len cap) lr]) := by
 refine (tryGrow1 base bb B len cap n lr hlc hl hmx h0).mono ?_
 rintro v Hs ⟨rfl, rfl⟩
 rw [if_neg hf, if_neg hf, decide_eq_false hf]
 exact ⟨rfl, rfl⟩
def Wrote (base bb : Nat) (acc data : List UInt8) (C : List Hp) (w : Value) (Hs : List Hp) : Prop :=
 ∃ v A, w = .tuple #[I (data.length : Int), .nilIface] ∧ Hs = BB bb v 0 :: A :: C ∧ Buf base v A (acc ++ data)
theorem wrote_of {base bb B cap : Nat} {acc data L : List UInt8} {C : List Hp} {k : Int} {v : Value} {A : Hp} (hB : base ≤ B) (hL : L.length = cap) (hc : acc.length + data.length ≤ cap) (h0 : 0 < cap) (hm : cap ≤ maxLen) (ht : L.take acc.length = acc)
  (hk : k = (data.length : Int)) (hv : v = Sl B 0 (acc.length + data.length) cap) (hA : A = Bf B 5 (L.take acc.length ++ data ++ L.drop (acc.length + data.length))) : Wrote base bb acc data C (.tuple #[I k, .nilIface]) (BB bb v 0 :: A :: C) := by
 subst hk hv hA
 refine ⟨_, _, rfl, rfl, .inr ⟨B, cap, _, by rw [List.length_append], rfl, hB, ?_, by rw [List.length_append]; exact hc, h0, hm, ?_⟩⟩
 ·simp; omega
 ·rw [ht, List.take_left' rfl]
theorem writeY (base bb : Nat) (lr : Int) (data : List UInt8) (B cap : Nat) (L acc : List UInt8) (hB : base ≤ B) (hLc : L.length = cap) (hac : acc.length ≤ cap) (hc0 : 0 < cap) (hmx : cap ≤ maxLen) (hLt : L.take acc.length = acc) (hal : acc.length + data.length ≤ 1000000) (s : Value) (C : Hp) (hr : RdS 1 s C data.length (bytesV data)) (hfit : acc.length + data.length ≤ cap) (hlc : acc.length < cap) : FnW Tryz.prog 134 [Pt bb 0, s] base [[(bb, .cells #[Sl B 0 acc.length cap, I 0, .int .i8 lr] 79 (0, 0))], Bf B 5 L, C] (Wrote base bb acc data [C]) := by
 have hmz : maxLen ≤ 9223372036854775807 := by unfold maxLen; omega
 refine FnW.enter (n := 32) Tryz.func134 rfl rfl fun w0 R0 hbase => ?_
 subst hbase
 show WC _ _ _ _ _ _ _ ([[(bb, .cells #[Sl B 0 acc.length cap, I 0, .int .i8 lr] 79 (0, 0))], Bf B 5 L, C, R0])
 refine WC.sub (fr' := [(0, _), (1, _)]) ?_ ⟨rfl, rfl, trivial⟩
 refine WC.seq (WC.region ?_)
 refine WL.q (oq_assign rfl) rfl rfl rfl ?_
 refine WL.q (oq_assign rfl) rfl rfl rfl ?_
 refine WL.nil (WE.then_normal (WC.sub (fr' := [(0, _), (1, _)]) ?_ ⟨rfl, rfl, trivial⟩))
 refine WC.seq (WC.region ?_)
 refine WL.q (oq_move rfl) rfl rfl rfl ?_
 refine WL.q (oq_nilCheck rfl) rfl rfl rfl ?_
 refine WL.q (oq_fieldAddr fld79_2 rfl) rfl rfl rfl ?_
 refine WL.store1 #[_, _, _] ty77 rfl rfl (by first | rfl | exact OwS.one one_) (Nat.lt_of_lt_of_le (Nat.lt_succ_self _) (Nat.le_of_ble_eq_true rfl)) rfl rfl ?_
 refine WL.nil (WE.then_normal (WC.sub (fr' := [(0, _), (1, _)]) ?_ ⟨rfl, rfl, trivial⟩))
 refine WC.seq (WC.region ?_)
 refine WL.q (oq_move rfl) rfl rfl rfl ?_
 refine WL.q (oq_move rfl) rfl rfl rfl ?_
 refine WL.q (oq_len_rd hr Tryz.underlying28 rfl) rfl rfl rfl ?_
 refine WL.callW1 (tryYes _ bb B acc.length cap data.length 0 hac hal hmx hc0 hfit) call138 rfl rfl rfl fun v2_3 Hs2_3 hR2_3 => ?_
 obtain ⟨rfl, rfl⟩ := hR2_3
 refine WL.to1 ?_
 refine WL.q (oq_move rfl) rfl rfl rfl ?_
 refine WL.q (oq_extract rfl rfl) rfl rfl rfl ?_
 refine WL.q (oq_extract rfl rfl) rfl rfl rfl ?_
 refine WL.q (oq_assign rfl) rfl rfl rfl ?_
 refine WL.q (oq_assign rfl) rfl rfl rfl ?_
 refine WL.nil (WE.then_normal (WC.sub (fr' := [(0, _), (1, _), (6, _), (7, _)]) ?_ ⟨rfl, rfl, rfl, rfl, trivial⟩))
 refine WC.seq (WC.seq (WC.region ?_))
 refine WL.q (oq_move rfl) rfl rfl rfl ?_
 refine WL.q (oq_not rfl) rfl rfl rfl ?_
 refine WL.nil (WE.then_normal (WC.sub (fr' := [(0, _), (1, _), (6, _), (19, _)]) ?_ ⟨rfl, rfl, rfl, rfl, trivial⟩))
 refine WC.cond rfl (fun q3 => ?_) (fun q3 => ?_)
 ·
  try simp only [Z1, Z2, Z3, Z4, Z5, Z6, Z7, Z8, Z9, Z0] at q3
  first | contradiction | (exfalso; omega) | (exfalso; simp_all; done)
 ·
  try simp only [Z1, Z2, Z3, Z4, Z5, Z6, Z7, Z8, Z9, Z0] at q3
  refine WC.skip (WE.then_normal (WC.sub (fr' := [(0, _), (1, _), (6, _)]) ?_ ⟨rfl, rfl, rfl, trivial⟩))
  refine WC.seq (WC.region ?_)
  refine WL.q (oq_move rfl) rfl rfl rfl ?_
  refine WL.q (oq_nilCheck rfl) rfl rfl rfl ?_
  refine WL.q (oq_fieldAddr fld79_0 rfl) rfl rfl rfl ?_
  refine WL.q (oq_load flat28 rfl (.head _) (List.mem_singleton.2 rfl) rfl) rfl rfl rfl ?_
  refine WL.q (oq_move rfl) rfl rfl rfl ?_
  refine WL.q (oq_sliceSl (i := acc.length) Tryz.underlying28 ty5 rfl (by (first | (simp only [List.length_nil]; omega) | omega)) ⟨_, rfl⟩ rfl (by (first | (simp only [List.length_nil]; omega) | omega)) (by (first | (simp only [List.length_nil]; omega) | omega))) rfl rfl rfl ?_
  refine WL.q (oq_move rfl) rfl rfl rfl ?_
  refine WL.f1 ?_
  refine WL.copyB Tryz.underlying28 ty5 rfl rfl hr (.tail _ (.head _)) (by (first | (simp only [List.length_nil]; omega) | omega)) rfl rfl ?_
  refine WL.q (oq_assign rfl) rfl rfl rfl ?_
  refine WL.q (oq_assign rfl) rfl rfl rfl ?_
  refine WL.nil (WE.then_normal (WC.sub (fr' := [(4, _), (5, _)]) ?_ ⟨rfl, rfl, trivial⟩))
  refine WC.ret ?_
  refine WE.f3 ?_
  refine WE.f3 ?_
  refine WE.f2 ?_
  refine WE.f3 ?_
  refine WE.endW3 (.inl rfl) (res2 Tryz.results134 rfl rfl) ?_
  refine wrote_of hB hLc hfit hc0 hmx hLt (by omega) rfl ?_
  rw [show min data.length (acc.length + data.length - acc.length) = data.length by omega, Nat.zero_add, List.take_length]
theorem writeF (base bb : Nat) (lr : Int) (B : Nat) (L acc : List UInt8) (hB : base ≤ B) (hLc : L.length = acc.length) (hc0 : 0 < acc.length) (hmx : acc.length ≤ maxLen) (hLt : L.take acc.length = acc) (hal : acc.length + ([] : List UInt8).length ≤ 1000000) (s : Value) (C : Hp) (hr : RdS 1 s C ([] : List UInt8).length (bytesV ([] : List UInt8))) : FnW Tryz.prog 134 [Pt bb 0, s] base [[(bb, .cells #[Sl B 0 acc.length acc.length, I 0, .int .i8 lr] 79 (0, 0))], Bf B 5 L, C] (Wrote base bb acc ([] : List UInt8) [C]) := by
 have hac : acc.length ≤ acc.length := Nat.le_refl _
 have hfit : acc.length + ([] : List UInt8).length ≤ acc.length := Nat.le_refl _
 have hmz : maxLen ≤ 9223372036854775807 := by unfold maxLen; omega
 refine FnW.enter (n := 32) Tryz.func134 rfl rfl fun w0 R0 hbase => ?_
 subst hbase
 show WC _ _ _ _ _ _ _ ([[(bb, .cells #[Sl B 0 acc.length acc.length, I 0, .int .i8 lr] 79 (0, 0))], Bf B 5 L, C, R0])
 refine WC.sub (fr' := [(0, _), (1, _)]) ?_ ⟨rfl, rfl, trivial⟩
 refine WC.seq (WC.region ?_)
 refine WL.q (oq_assign rfl) rfl rfl rfl ?_
 refine WL.q (oq_assign rfl) rfl rfl rfl ?_
 refine WL.nil (WE.then_normal (WC.sub (fr' := [(0, _), (1, _)]) ?_ ⟨rfl, rfl, trivial⟩))
 refine WC.seq (WC.region ?_)
 refine WL.q (oq_move rfl) rfl rfl rfl ?_
 refine WL.q (oq_nilCheck rfl) rfl rfl rfl ?_
 refine WL.q (oq_fieldAddr fld79_2 rfl) rfl rfl rfl ?_
 refine WL.store1 #[_, _, _] ty77 rfl rfl (by first | rfl | exact OwS.one one_) (Nat.lt_of_lt_of_le (Nat.lt_succ_self _) (Nat.le_of_ble_eq_true rfl)) rfl rfl ?_
 refine WL.nil (WE.then_normal (WC.sub (fr' := [(0, _), (1, _)]) ?_ ⟨rfl, rfl, trivial⟩))
 refine WC.seq (WC.region ?_)
 refine WL.q (oq_move rfl) rfl rfl rfl ?_
 refine WL.q (oq_move rfl) rfl rfl rfl ?_
 refine WL.q (oq_len_rd hr Tryz.underlying28 rfl) rfl rfl rfl ?_
 refine WL.callW1 (tryYes _ bb B acc.length acc.length ([] : List UInt8).length 0 hac hal hmx hc0 hfit) call138 rfl rfl rfl fun v2_3 Hs2_3 hR2_3 => ?_
 obtain ⟨rfl, rfl⟩ := hR2_3
 refine WL.to1 ?_
 refine WL.q (oq_move rfl) rfl rfl rfl ?_
 refine WL.q (oq_extract rfl rfl) rfl rfl rfl ?_
 refine WL.q (oq_extract rfl rfl) rfl rfl rfl ?_
 refine WL.q (oq_assign rfl) rfl rfl rfl ?_
 refine WL.q (oq_assign rfl) rfl rfl rfl ?_
 refine WL.nil (WE.then_normal (WC.sub (fr' := [(0, _), (1, _), (6, _), (7, _)]) ?_ ⟨rfl, rfl, rfl, rfl, trivial⟩))
 refine WC.seq (WC.seq (WC.region ?_))
 refine WL.q (oq_move rfl) rfl rfl rfl ?_
 refine WL.q (oq_not rfl) rfl rfl rfl ?_
 refine WL.nil (WE.then_normal (WC.sub (fr' := [(0, _), (1, _), (6, _), (19, _)]) ?_ ⟨rfl, rfl, rfl, rfl, trivial⟩))
 refine WC.cond rfl (fun q3 => ?_) (fun q3 => ?_)
 ·
  try simp only [Z1, Z2, Z3, Z4, Z5, Z6, Z7, Z8, Z9, Z0] at q3
  first | contradiction | (exfalso; omega) | (exfalso; simp_all; done)
 ·
  try simp only [Z1, Z2, Z3, Z4, Z5, Z6, Z7, Z8, Z9, Z0] at q3
  refine WC.skip (WE.then_normal (WC.sub (fr' := [(0, _), (1, _), (6, _)]) ?_ ⟨rfl, rfl, rfl, trivial⟩))
  refine WC.seq (WC.region ?_)
  refine WL.q (oq_move rfl) rfl rfl rfl ?_
  refine WL.q (oq_nilCheck rfl) rfl rfl rfl ?_
  refine WL.q (oq_fieldAddr fld79_0 rfl) rfl rfl rfl ?_
  refine WL.q (oq_load flat28 rfl (.head _) (List.mem_singleton.2 rfl) rfl) rfl rfl rfl ?_
  refine WL.q (oq_move rfl) rfl rfl rfl ?_
  refine WL.q (oq_sliceEnd (b := B) (off := 0) (c := acc.length) Tryz.underlying28 ty5 rfl rfl) rfl rfl rfl ?_
  refine WL.q (oq_move rfl) rfl rfl rfl ?_
  refine WL.f1 ?_
  refine WL.copyB Tryz.underlying28 ty5 rfl rfl hr (.tail _ (.head _)) (by (first | (simp only [List.length_nil]; omega) | omega)) rfl rfl ?_
  refine WL.q (oq_assign rfl) rfl rfl rfl ?_
  refine WL.q (oq_assign rfl) rfl rfl rfl ?_
  refine WL.nil (WE.then_normal (WC.sub (fr' := [(4, _), (5, _)]) ?_ ⟨rfl, rfl, trivial⟩))
  refine WC.ret ?_
  refine WE.f3 ?_
  refine WE.f3 ?_
  refine WE.f2 ?_
  refine WE.f3 ?_
  refine WE.endW3 (.inl rfl) (res2 Tryz.results134 rfl rfl) ?_
  refine wrote_of (data := []) hB hLc hfit hc0 hmx hLt ?_ rfl ?_
  ·simp
  ·simp
theorem writeSF (base bb : Nat) (lr : Int) (B : Nat) (L acc : List UInt8) (hB : base ≤ B) (hLc : L.length = acc.length) (hc0 : 0 < acc.length) (hmx : acc.length ≤ maxLen) (hLt : L.take acc.length = acc) (hal : acc.length + ([] : List UInt8).length ≤ 1000000) (hsl : ([] : List UInt8).length ≤ maxLen) : FnW Tryz.prog 205 [Pt bb 0, S ([] : List UInt8)] base [[(bb, .cells #[Sl B 0 acc.length acc.length, I 0, .int .i8 lr] 79 (0, 0))], Bf B 5 L] (Wrote base bb acc ([] : List UInt8) []) := by
 have hac : acc.length ≤ acc.length := Nat.le_refl _
 have hfit : acc.length + ([] : List UInt8).length ≤ acc.length := Nat.le_refl _
 have hmz : maxLen ≤ 9223372036854775807 := by unfold maxLen; omega
 refine FnW.enter (n := 32) Tryz.func205 rfl rfl fun w0 R0 hbase => ?_
 subst hbase
 show WC _ _ _ _ _ _ _ ([[(bb, .cells #[Sl B 0 acc.length acc.length, I 0, .int .i8 lr] 79 (0, 0))], Bf B 5 L, R0])
 refine WC.sub (fr' := [(0, _), (1, _)]) ?_ ⟨rfl, rfl, trivial⟩
 refine WC.seq (WC.region ?_)
 refine WL.q (oq_assign rfl) rfl rfl rfl ?_
 refine WL.q (oq_assign rfl) rfl rfl rfl ?_
 refine WL.nil (WE.then_normal (WC.sub (fr' := [(0, _), (1, _)]) ?_ ⟨rfl, rfl, trivial⟩))
 refine WC.seq (WC.region ?_)
 refine WL.q (oq_move rfl) rfl rfl rfl ?_
 refine WL.q (oq_nilCheck rfl) rfl rfl rfl ?_
 refine WL.q (oq_fieldAddr fld79_2 rfl) rfl rfl rfl ?_
 refine WL.store1 #[_, _, _] ty77 rfl rfl (by first | rfl | exact OwS.one one_) (Nat.lt_of_lt_of_le (Nat.lt_succ_self _) (Nat.le_of_ble_eq_true rfl)) rfl rfl ?_
 refine WL.nil (WE.then_normal (WC.sub (fr' := [(0, _), (1, _)]) ?_ ⟨rfl, rfl, trivial⟩))
 refine WC.seq (WC.region ?_)
 refine WL.q (oq_move rfl) rfl rfl rfl ?_
 refine WL.q (oq_move rfl) rfl rfl rfl ?_
 refine WL.q (oq_len_s Tryz.underlying9 rfl) rfl rfl rfl ?_
 refine WL.callW1 (tryYes _ bb B acc.length acc.length ([] : List UInt8).length 0 hac hal hmx hc0 hfit) call138 rfl rfl rfl fun v2_3 Hs2_3 hR2_3 => ?_
 obtain ⟨rfl, rfl⟩ := hR2_3
 refine WL.to1 ?_
 refine WL.q (oq_move rfl) rfl rfl rfl ?_
 refine WL.q (oq_extract rfl rfl) rfl rfl rfl ?_
 refine WL.q (oq_extract rfl rfl) rfl rfl rfl ?_
 refine WL.q (oq_assign rfl) rfl rfl rfl ?_
 refine WL.q (oq_assign rfl) rfl rfl rfl ?_
 refine WL.nil (WE.then_normal (WC.sub (fr' := [(0, _), (1, _), (6, _), (7, _)]) ?_ ⟨rfl, rfl, rfl, rfl, trivial⟩))
 refine WC.seq (WC.seq (WC.region ?_))
 refine WL.q (oq_move rfl) rfl rfl rfl ?_
 refine WL.q (oq_not rfl) rfl rfl rfl ?_
 refine WL.nil (WE.then_normal (WC.sub (fr' := [(0, _), (1, _), (6, _), (19, _)]) ?_ ⟨rfl, rfl, rfl, rfl, trivial⟩))
 refine WC.cond rfl (fun q3 => ?_) (fun q3 => ?_)
 ·
  try simp only [Z1, Z2, Z3, Z4, Z5, Z6, Z7, Z8, Z9, Z0] at q3
  first | contradiction | (exfalso; omega) | (exfalso; simp_all; done)
 ·
  try simp only [Z1, Z2, Z3, Z4, Z5, Z6, Z7, Z8, Z9, Z0] at q3
  refine WC.skip (WE.then_normal (WC.sub (fr' := [(0, _), (1, _), (6, _)]) ?_ ⟨rfl, rfl, rfl, trivial⟩))
  refine WC.seq (WC.region ?_)
  refine WL.q (oq_move rfl) rfl rfl rfl ?_
  refine WL.q (oq_nilCheck rfl) rfl rfl rfl ?_
  refine WL.q (oq_fieldAddr fld79_0 rfl) rfl rfl rfl ?_
  refine WL.q (oq_load flat28 rfl (.head _) (List.mem_singleton.2 rfl) rfl) rfl rfl rfl ?_
  refine WL.q (oq_move rfl) rfl rfl rfl ?_
  refine WL.q (oq_sliceEnd (b := B) (off := 0) (c := acc.length) Tryz.underlying28 ty5 rfl rfl) rfl rfl rfl ?_
  refine WL.q (oq_move rfl) rfl rfl rfl ?_
  refine WL.f1 ?_
  refine WL.copyBS Tryz.underlying28 ty5 rfl rfl (by (first | (simp only [List.length_nil]; omega) | omega)) rfl rfl ?_
  refine WL.q (oq_assign rfl) rfl rfl rfl ?_
  refine WL.q (oq_assign rfl) rfl rfl rfl ?_
  refine WL.nil (WE.then_normal (WC.sub (fr' := [(4, _), (5, _)]) ?_ ⟨rfl, rfl, trivial⟩))
  refine WC.ret ?_
  refine WE.f2 ?_
  refine WE.f1 ?_
  refine WE.f2 ?_
  refine WE.endW2 (.inl rfl) (res2 Tryz.results205 rfl rfl) ?_
  refine wrote_of (data := []) hB hLc hfit hc0 hmx hLt ?_ rfl ?_
  ·simp
  ·simp
theorem writeN (base bb : Nat) (lr : Int) (data : List UInt8) (B cap : Nat) (L acc : List UInt8) (hB : base ≤ B) (hLc : L.length = cap) (hac : acc.length ≤ cap) (hc0 : 0 < cap) (hmx : cap ≤ maxLen) (hLt : L.take acc.length = acc) (hal : acc.length + data.length ≤ 1000000) (s : Value) (C : Hp) (hr : RdS 1 s C data.length (bytesV data)) (hfit : ¬ acc.length + data.length ≤ cap) : FnW Tryz.prog 134 [Pt bb 0, s] base [[(bb, .cells #[Sl B 0 acc.length cap, I 0, .int .i8 lr] 79 (0, 0))], Bf B 5 L, C] (Wrote base bb acc data [C]) := by
 have hmz : maxLen ≤ 9223372036854775807 := by unfold maxLen; omega
 refine FnW.enter (n := 32) Tryz.func134 rfl rfl fun w0 R0 hbase => ?_
 subst hbase
 show WC _ _ _ _ _ _ _ ([[(bb, .cells #[Sl B 0 acc.length cap, I 0, .int .i8 lr] 79 (0, 0))], Bf B 5 L, C, R0])
 refine WC.sub (fr' := [(0, _), (1, _)]) ?_ ⟨rfl, rfl, trivial⟩
 refine WC.seq (WC.region ?_)
 refine WL.q (oq_assign rfl) rfl rfl rfl ?_
 refine WL.q (oq_assign rfl) rfl rfl rfl ?_
 refine WL.nil (WE.then_normal (WC.sub (fr' := [(0, _), (1, _)]) ?_ ⟨rfl, rfl, trivial⟩))
 refine WC.seq (WC.region ?_)
 refine WL.q (oq_move rfl) rfl rfl rfl ?_
 refine WL.q (oq_nilCheck rfl) rfl rfl rfl ?_
 refine WL.q (oq_fieldAddr fld79_2 rfl) rfl rfl rfl ?_
 refine WL.store1 #[_, _, _] ty77 rfl rfl (by first | rfl | exact OwS.one one_) (Nat.lt_of_lt_of_le (Nat.lt_succ_self _) (Nat.le_of_ble_eq_true rfl)) rfl rfl ?_
 refine WL.nil (WE.then_normal (WC.sub (fr' := [(0, _), (1, _)]) ?_ ⟨rfl, rfl, trivial⟩))
 refine WC.seq (WC.region ?_)
 refine WL.q (oq_move rfl) rfl rfl rfl ?_
 refine WL.q (oq_move rfl) rfl rfl rfl ?_
 refine WL.q (oq_len_rd hr Tryz.underlying28 rfl) rfl rfl rfl ?_
 refine WL.callW1 (tryNo _ bb B acc.length cap data.length 0 hac hal hmx hc0 hfit) call138 rfl rfl rfl fun v2_3 Hs2_3 hR2_3 => ?_
 obtain ⟨rfl, rfl⟩ := hR2_3
 refine WL.to1 ?_
 refine WL.q (oq_move rfl) rfl rfl rfl ?_
 refine WL.q (oq_extract rfl rfl) rfl rfl rfl ?_
 refine WL.q (oq_extract rfl rfl) rfl rfl rfl ?_
 refine WL.q (oq_assign rfl) rfl rfl rfl ?_
 refine WL.q (oq_assign rfl) rfl rfl rfl ?_
 refine WL.nil (WE.then_normal (WC.sub (fr' := [(0, _), (1, _), (6, _), (7, _)]) ?_ ⟨rfl, rfl, rfl, rfl, trivial⟩))
 refine WC.seq (WC.seq (WC.region ?_))
 refine WL.q (oq_move rfl) rfl rfl rfl ?_
 refine WL.q (oq_not rfl) rfl rfl rfl ?_
 refine WL.nil (WE.then_normal (WC.sub (fr' := [(0, _), (1, _), (6, _), (19, _)]) ?_ ⟨rfl, rfl, rfl, rfl, trivial⟩))
 refine WC.cond rfl (fun q3 => ?_) (fun q3 => ?_)
 ·
  try simp only [Z1, Z2, Z3, Z4, Z5, Z6, Z7, Z8, Z9, Z0] at q3
  refine WC.region ?_
  refine WL.q (oq_move rfl) rfl rfl rfl ?_
  refine WL.q (oq_move rfl) rfl rfl rfl ?_
  refine WL.q (oq_len_rd hr Tryz.underlying28 rfl) rfl rfl rfl ?_
  refine WL.f1 ?_
  refine WL.f1 ?_
  refine WL.callW2 (grow1 _ bb B cap data.length 0 L acc hB hLc hac hc0 hmx hLt (by omega) hal) call137 rfl rfl rfl fun v4_3 Hs4_3 hR4_3 => ?_
  obtain ⟨B2, cap2, L2, rfl, rfl, hB2, hL2, hc2, hm2, ht2⟩ := hR4_3
  refine WL.to2 ?_
  refine WL.q (oq_assign rfl) rfl rfl rfl ?_
  refine WL.nil (WE.then_normal (WC.sub (fr' := [(0, _), (1, _), (6, _)]) ?_ ⟨rfl, rfl, rfl, trivial⟩))
  refine WC.seq (WC.region ?_)
  refine WL.q (oq_move rfl) rfl rfl rfl ?_
  refine WL.q (oq_nilCheck rfl) rfl rfl rfl ?_
  refine WL.q (oq_fieldAddr fld79_0 rfl) rfl rfl rfl ?_
  refine WL.q (oq_load flat28 rfl (.head _) (List.mem_singleton.2 rfl) rfl) rfl rfl rfl ?_
  refine WL.q (oq_move rfl) rfl rfl rfl ?_
  refine WL.q (oq_sliceSl (i := acc.length) Tryz.underlying28 ty5 rfl (by (first | (simp only [List.length_nil]; omega) | omega)) ⟨_, rfl⟩ rfl (by (first | (simp only [List.length_nil]; omega) | omega)) (by (first | (simp only [List.length_nil]; omega) | omega))) rfl rfl rfl ?_
  refine WL.q (oq_move rfl) rfl rfl rfl ?_
  refine WL.f1 ?_
  refine WL.copyB Tryz.underlying28 ty5 rfl rfl hr (.tail _ (.head _)) (by (first | (simp only [List.length_nil]; omega) | omega)) rfl rfl ?_
  refine WL.q (oq_assign rfl) rfl rfl rfl ?_
  refine WL.q (oq_assign rfl) rfl rfl rfl ?_
  refine WL.nil (WE.then_normal (WC.sub (fr' := [(4, _), (5, _)]) ?_ ⟨rfl, rfl, trivial⟩))
  refine WC.ret ?_
  refine WE.f3 ?_
  refine WE.f3 ?_
  refine WE.f2 ?_
  refine WE.f3 ?_
  refine WE.endW3 (.inl rfl) (res2 Tryz.results134 rfl rfl) ?_
  refine wrote_of hB2 hL2 hc2 (by omega) hm2 ht2 (by omega) rfl ?_
  rw [show min data.length (acc.length + data.length - acc.length) = data.length by omega, Nat.zero_add, List.take_length]
 ·
  try simp only [Z1, Z2, Z3, Z4, Z5, Z6, Z7, Z8, Z9, Z0] at q3
  first | contradiction | (exfalso; omega) | (exfalso; simp_all; done)
theorem write0 (base bb : Nat) (lr : Int) (data : List UInt8) (hal : data.length ≤ 1000000) (hne : 0 < data.length) (s : Value) (C : Hp) (hr : RdS 1 s C data.length (bytesV data)) : FnW Tryz.prog 134 [Pt bb 0, s] base [[(bb, .cells #[.slice none 0 0, I 0, .int .i8 lr] 79 (0, 0))], C] (Wrote base bb [] data [C]) := by
 have hmz : maxLen ≤ 9223372036854775807 := by unfold maxLen; omega
 refine FnW.enter (n := 32) Tryz.func134 rfl rfl fun w0 R0 hbase => ?_
 subst hbase
 show WC _ _ _ _ _ _ _ ([[(bb, .cells #[.slice none 0 0, I 0, .int .i8 lr] 79 (0, 0))], C, R0])
 refine WC.sub (fr' := [(0, _), (1, _)]) ?_ ⟨rfl, rfl, trivial⟩
 refine WC.seq (WC.region ?_)
 refine WL.q (oq_assign rfl) rfl rfl rfl ?_
 refine WL.q (oq_assign rfl) rfl rfl rfl ?_
 refine WL.nil (WE.then_normal (WC.sub (fr' := [(0, _), (1, _)]) ?_ ⟨rfl, rfl, trivial⟩))
 refine WC.seq (WC.region ?_)
 refine WL.q (oq_move rfl) rfl rfl rfl ?_
 refine WL.q (oq_nilCheck rfl) rfl rfl rfl ?_
 refine WL.q (oq_fieldAddr fld79_2 rfl) rfl rfl rfl ?_
 refine WL.store1 #[_, _, _] ty77 rfl rfl (by first | rfl | exact OwS.one one_) (Nat.lt_of_lt_of_le (Nat.lt_succ_self _) (Nat.le_of_ble_eq_true rfl)) rfl rfl ?_
 refine WL.nil (WE.then_normal (WC.sub (fr' := [(0, _), (1, _)]) ?_ ⟨rfl, rfl, trivial⟩))
 refine WC.seq (WC.region ?_)
 refine WL.q (oq_move rfl) rfl rfl rfl ?_
 refine WL.q (oq_move rfl) rfl rfl rfl ?_
 refine WL.q (oq_len_rd hr Tryz.underlying28 rfl) rfl rfl rfl ?_
 refine WL.callW1 (tryGrow0 _ bb data.length 0 hne) call138 rfl rfl rfl fun v2_3 Hs2_3 hR2_3 => ?_
 obtain ⟨rfl, rfl⟩ := hR2_3
 refine WL.to1 ?_
 refine WL.q (oq_move rfl) rfl rfl rfl ?_
 refine WL.q (oq_extract rfl rfl) rfl rfl rfl ?_
 refine WL.q (oq_extract rfl rfl) rfl rfl rfl ?_
 refine WL.q (oq_assign rfl) rfl rfl rfl ?_
 refine WL.q (oq_assign rfl) rfl rfl rfl ?_
 refine WL.nil (WE.then_normal (WC.sub (fr' := [(0, _), (1, _), (6, _), (7, _)]) ?_ ⟨rfl, rfl, rfl, rfl, trivial⟩))
 refine WC.seq (WC.seq (WC.region ?_))
 refine WL.q (oq_move rfl) rfl rfl rfl ?_
 refine WL.q (oq_not rfl) rfl rfl rfl ?_
 refine WL.nil (WE.then_normal (WC.sub (fr' := [(0, _), (1, _), (6, _), (19, _)]) ?_ ⟨rfl, rfl, rfl, rfl, trivial⟩))
 refine WC.cond rfl (fun q3 => ?_) (fun q3 => ?_)
 ·
  try simp only [Z1, Z2, Z3, Z4, Z5, Z6, Z7, Z8, Z9, Z0] at q3
  refine WC.region ?_
  refine WL.q (oq_move rfl) rfl rfl rfl ?_
  refine WL.q (oq_move rfl) rfl rfl rfl ?_
  refine WL.q (oq_len_rd hr Tryz.underlying28 rfl) rfl rfl rfl ?_
  refine WL.callW1 (grow0 _ bb data.length 0 hne hal) call137 rfl rfl rfl fun v4_3 Hs4_3 hR4_3 => ?_
  obtain ⟨B2, cap2, L2, rfl, rfl, hB2, hL2, hc2, hm2, ht2⟩ := hR4_3
  refine WL.to2 ?_
  refine WL.q (oq_assign rfl) rfl rfl rfl ?_
  refine WL.nil (WE.then_normal (WC.sub (fr' := [(0, _), (1, _), (6, _)]) ?_ ⟨rfl, rfl, rfl, trivial⟩))
  refine WC.seq (WC.region ?_)
  refine WL.q (oq_move rfl) rfl rfl rfl ?_
  refine WL.q (oq_nilCheck rfl) rfl rfl rfl ?_
  refine WL.q (oq_fieldAddr fld79_0 rfl) rfl rfl rfl ?_
  refine WL.q (oq_load flat28 rfl (.head _) (List.mem_singleton.2 rfl) rfl) rfl rfl rfl ?_
  refine WL.q (oq_move rfl) rfl rfl rfl ?_
  refine WL.q (oq_sliceSl (i := 0) Tryz.underlying28 ty5 rfl (by (first | (simp only [List.length_nil]; omega) | omega)) ⟨_, rfl⟩ rfl (by (first | (simp only [List.length_nil]; omega) | omega)) (by (first | (simp only [List.length_nil]; omega) | omega))) rfl rfl rfl ?_
  refine WL.q (oq_move rfl) rfl rfl rfl ?_
  refine WL.f1 ?_
  refine WL.copyB Tryz.underlying28 ty5 rfl rfl hr (.tail _ (.head _)) (by (first | (simp only [List.length_nil]; omega) | omega)) rfl rfl ?_
  refine WL.q (oq_assign rfl) rfl rfl rfl ?_
  refine WL.q (oq_assign rfl) rfl rfl rfl ?_
  refine WL.nil (WE.then_normal (WC.sub (fr' := [(4, _), (5, _)]) ?_ ⟨rfl, rfl, trivial⟩))
  refine WC.ret ?_
  refine WE.f3 ?_
  refine WE.f3 ?_
  refine WE.f2 ?_
  refine WE.f3 ?_
  refine WE.endW3 (.inl rfl) (res2 Tryz.results134 rfl rfl) ?_
  refine wrote_of hB2 hL2 hc2 (by simp only [List.length_nil] at hc2; omega) hm2 ht2 (by simp only [List.length_nil]; omega) rfl ?_
  rw [show min data.length ([].length + data.length - 0) = data.length by simp, List.take_length]; rfl
 ·
  try simp only [Z1, Z2, Z3, Z4, Z5, Z6, Z7, Z8, Z9, Z0] at q3
  first | contradiction | (exfalso; omega) | (exfalso; simp_all; done)
theorem writeSY (base bb : Nat) (lr : Int) (data : List UInt8) (B cap : Nat) (L acc : List UInt8) (hB : base ≤ B) (hLc : L.length = cap) (hac : acc.length ≤ cap) (hc0 : 0 < cap) (hmx : cap ≤ maxLen) (hLt : L.take acc.length = acc) (hal : acc.length + data.length ≤ 1000000) (hsl : data.length ≤ maxLen) (hfit : acc.length + data.length ≤ cap) (hlc : acc.length < cap) : FnW Tryz.prog 205 [Pt bb 0, S data] base [[(bb, .cells #[Sl B 0 acc.length cap, I 0, .int .i8 lr] 79 (0, 0))], Bf B 5 L] (Wrote base bb acc data []) := by
 have hmz : maxLen ≤ 9223372036854775807 := by unfold maxLen; omega
 refine FnW.enter (n := 32) Tryz.func205 rfl rfl fun w0 R0 hbase => ?_
 subst hbase
 show WC _ _ _ _ _ _ _ ([[(bb, .cells #[Sl B 0 acc.length cap, I 0, .int .i8 lr] 79 (0, 0))], Bf B 5 L, R0])
 refine WC.sub (fr' := [(0, _), (1, _)]) ?_ ⟨rfl, rfl, trivial⟩
 refine WC.seq (WC.region ?_)
 refine WL.q (oq_assign rfl) rfl rfl rfl ?_
 refine WL.q (oq_assign rfl) rfl rfl rfl ?_
 refine WL.nil (WE.then_normal (WC.sub (fr' := [(0, _), (1, _)]) ?_ ⟨rfl, rfl, trivial⟩))
 refine WC.seq (WC.region ?_)
 refine WL.q (oq_move rfl) rfl rfl rfl ?_
 refine WL.q (oq_nilCheck rfl) rfl rfl rfl ?_
 refine WL.q (oq_fieldAddr fld79_2 rfl) rfl rfl rfl ?_
 refine WL.store1 #[_, _, _] ty77 rfl rfl (by first | rfl | exact OwS.one one_) (Nat.lt_of_lt_of_le (Nat.lt_succ_self _) (Nat.le_of_ble_eq_true rfl)) rfl rfl ?_
 refine WL.nil (WE.then_normal (WC.sub (fr' := [(0, _), (1, _)]) ?_ ⟨rfl, rfl, trivial⟩))
 refine WC.seq (WC.region ?_)
 refine WL.q (oq_move rfl) rfl rfl rfl ?_
 refine WL.q (oq_move rfl) rfl rfl rfl ?_
 refine WL.q (oq_len_s Tryz.underlying9 rfl) rfl rfl rfl ?_
 refine WL.callW1 (tryYes _ bb B acc.length cap data.length 0 hac hal hmx hc0 hfit) call138 rfl rfl rfl fun v2_3 Hs2_3 hR2_3 => ?_
 obtain ⟨rfl, rfl⟩ := hR2_3
 refine WL.to1 ?_
 refine WL.q (oq_move rfl) rfl rfl rfl ?_
 refine WL.q (oq_extract rfl rfl) rfl rfl rfl ?_
 refine WL.q (oq_extract rfl rfl) rfl rfl rfl ?_
 refine WL.q (oq_assign rfl) rfl rfl rfl ?_
 refine WL.q (oq_assign rfl) rfl rfl rfl ?_
 refine WL.nil (WE.then_normal (WC.sub (fr' := [(0, _), (1, _), (6, _), (7, _)]) ?_ ⟨rfl, rfl, rfl, rfl, trivial⟩))
 refine WC.seq (WC.seq (WC.region ?_))
 refine WL.q (oq_move rfl) rfl rfl rfl ?_
 refine WL.q (oq_not rfl) rfl rfl rfl ?_
 refine WL.nil (WE.then_normal (WC.sub (fr' := [(0, _), (1, _), (6, _), (19, _)]) ?_ ⟨rfl, rfl, rfl, rfl, trivial⟩))
 refine WC.cond rfl (fun q3 => ?_) (fun q3 => ?_)
 ·
  try simp only [Z1, Z2, Z3, Z4, Z5, Z6, Z7, Z8, Z9, Z0] at q3
  first | contradiction | (exfalso; omega) | (exfalso; simp_all; done)
 ·
  try simp only [Z1, Z2, Z3, Z4, Z5, Z6, Z7, Z8, Z9, Z0] at q3
  refine WC.skip (WE.then_normal (WC.sub (fr' := [(0, _), (1, _), (6, _)]) ?_ ⟨rfl, rfl, rfl, trivial⟩))
  refine WC.seq (WC.region ?_)
  refine WL.q (oq_move rfl) rfl rfl rfl ?_
  refine WL.q (oq_nilCheck rfl) rfl rfl rfl ?_
  refine WL.q (oq_fieldAddr fld79_0 rfl) rfl rfl rfl ?_
  refine WL.q (oq_load flat28 rfl (.head _) (List.mem_singleton.2 rfl) rfl) rfl rfl rfl ?_
  refine WL.q (oq_move rfl) rfl rfl rfl ?_
  refine WL.q (oq_sliceSl (i := acc.length) Tryz.underlying28 ty5 rfl (by (first | (simp only [List.length_nil]; omega) | omega)) ⟨_, rfl⟩ rfl (by (first | (simp only [List.length_nil]; omega) | omega)) (by (first | (simp only [List.length_nil]; omega) | omega))) rfl rfl rfl ?_
  refine WL.q (oq_move rfl) rfl rfl rfl ?_
  refine WL.f1 ?_
  refine WL.copyBS Tryz.underlying28 ty5 rfl rfl (by (first | (simp only [List.length_nil]; omega) | omega)) rfl rfl ?_
  refine WL.q (oq_assign rfl) rfl rfl rfl ?_
  refine WL.q (oq_assign rfl) rfl rfl rfl ?_
  refine WL.nil (WE.then_normal (WC.sub (fr' := [(4, _), (5, _)]) ?_ ⟨rfl, rfl, trivial⟩))
  refine WC.ret ?_
  refine WE.f2 ?_
  refine WE.f1 ?_
  refine WE.f2 ?_
  refine WE.endW2 (.inl rfl) (res2 Tryz.results205 rfl rfl) ?_
  refine wrote_of hB hLc hfit hc0 hmx hLt (by omega) rfl ?_
  rw [show min data.length (acc.length + data.length - acc.length) = data.length by omega, Nat.zero_add, List.take_length]
theorem writeSN (base bb : Nat) (lr : Int) (data : List UInt8) (B cap : Nat) (L acc : List UInt8) (hB : base ≤ B) (hLc : L.length = cap) (hac : acc.length ≤ cap) (hc0 : 0 < cap) (hmx : cap ≤ maxLen) (hLt : L.take acc.length = acc) (hal : acc.length + data.length ≤ 1000000) (hsl : data.length ≤ maxLen) (hfit : ¬ acc.length + data.length ≤ cap) : FnW Tryz.prog 205 [Pt bb 0, S data] base [[(bb, .cells #[Sl B 0 acc.length cap, I 0, .int .i8 lr] 79 (0, 0))], Bf B 5 L] (Wrote base bb acc data []) := by
 have hmz : maxLen ≤ 9223372036854775807 := by unfold maxLen; omega
 refine FnW.enter (n := 32) Tryz.func205 rfl rfl fun w0 R0 hbase => ?_
 subst hbase
 show WC _ _ _ _ _ _ _ ([[(bb, .cells #[Sl B 0 acc.length cap, I 0, .int .i8 lr] 79 (0, 0))], Bf B 5 L, R0])
 refine WC.sub (fr' := [(0, _), (1, _)]) ?_ ⟨rfl, rfl, trivial⟩
 refine WC.seq (WC.region ?_)
 refine WL.q (oq_assign rfl) rfl rfl rfl ?_
 refine WL.q (oq_assign rfl) rfl rfl rfl ?_
 refine WL.nil (WE.then_normal (WC.sub (fr' := [(0, _), (1, _)]) ?_ ⟨rfl, rfl, trivial⟩))
 refine WC.seq (WC.region ?_)
 refine WL.q (oq_move rfl) rfl rfl rfl ?_
 refine WL.q (oq_nilCheck rfl) rfl rfl rfl ?_
 refine WL.q (oq_fieldAddr fld79_2 rfl) rfl rfl rfl ?_
 refine WL.store1 #[_, _, _] ty77 rfl rfl (by first | rfl | exact OwS.one one_) (Nat.lt_of_lt_of_le (Nat.lt_succ_self _) (Nat.le_of_ble_eq_true rfl)) rfl rfl ?_
 refine WL.nil (WE.then_normal (WC.sub (fr' := [(0, _), (1, _)]) ?_ ⟨rfl, rfl, trivial⟩))
 refine WC.seq (WC.region ?_)
 refine WL.q (oq_move rfl) rfl rfl rfl ?_
 refine WL.q (oq_move rfl) rfl rfl rfl ?_
 refine WL.q (oq_len_s Tryz.underlying9 rfl) rfl rfl rfl ?_
 refine WL.callW1 (tryNo _ bb B acc.length cap data.length 0 hac hal hmx hc0 hfit) call138 rfl rfl rfl fun v2_3 Hs2_3 hR2_3 => ?_
 obtain ⟨rfl, rfl⟩ := hR2_3
 refine WL.to1 ?_
 refine WL.q (oq_move rfl) rfl rfl rfl ?_
 refine WL.q (oq_extract rfl rfl) rfl rfl rfl ?_
 refine WL.q (oq_extract rfl rfl) rfl rfl rfl ?_
 refine WL.q (oq_assign rfl) rfl rfl rfl ?_
 refine WL.q (oq_assign rfl) rfl rfl rfl ?_
 refine WL.nil (WE.then_normal (WC.sub (fr' := [(0, _), (1, _), (6, _), (7, _)]) ?_ ⟨rfl, rfl, rfl, rfl, trivial⟩))
 refine WC.seq (WC.seq (WC.region ?_))
 refine WL.q (oq_move rfl) rfl rfl rfl ?_
 refine WL.q (oq_not rfl) rfl rfl rfl ?_
 refine WL.nil (WE.then_normal (WC.sub (fr' := [(0, _), (1, _), (6, _), (19, _)]) ?_ ⟨rfl, rfl, rfl, rfl, trivial⟩))
 refine WC.cond rfl (fun q3 => ?_) (fun q3 => ?_)
 ·
  try simp only [Z1, Z2, Z3, Z4, Z5, Z6, Z7, Z8, Z9, Z0] at q3
  refine WC.region ?_
  refine WL.q (oq_move rfl) rfl rfl rfl ?_
  refine WL.q (oq_move rfl) rfl rfl rfl ?_
  refine WL.q (oq_len_s Tryz.underlying9 rfl) rfl rfl rfl ?_
  refine WL.f1 ?_
  refine WL.f1 ?_
  refine WL.callW2 (grow1 _ bb B cap data.length 0 L acc hB hLc hac hc0 hmx hLt (by omega) hal) call137 rfl rfl rfl fun v4_3 Hs4_3 hR4_3 => ?_
  obtain ⟨B2, cap2, L2, rfl, rfl, hB2, hL2, hc2, hm2, ht2⟩ := hR4_3
  refine WL.to2 ?_
  refine WL.q (oq_assign rfl) rfl rfl rfl ?_
  refine WL.nil (WE.then_normal (WC.sub (fr' := [(0, _), (1, _), (6, _)]) ?_ ⟨rfl, rfl, rfl, trivial⟩))
  refine WC.seq (WC.region ?_)
  refine WL.q (oq_move rfl) rfl rfl rfl ?_
  refine WL.q (oq_nilCheck rfl) rfl rfl rfl ?_
  refine WL.q (oq_fieldAddr fld79_0 rfl) rfl rfl rfl ?_
  refine WL.q (oq_load flat28 rfl (.head _) (List.mem_singleton.2 rfl) rfl) rfl rfl rfl ?_
  refine WL.q (oq_move rfl) rfl rfl rfl ?_
  refine WL.q (oq_sliceSl (i := acc.length) Tryz.underlying28 ty5 rfl (by (first | (simp only [List.length_nil]; omega) | omega)) ⟨_, rfl⟩ rfl (by (first | (simp only [List.length_nil]; omega) | omega)) (by (first | (simp only [List.length_nil]; omega) | omega))) rfl rfl rfl ?_
  refine WL.q (oq_move rfl) rfl rfl rfl ?_
  refine WL.f1 ?_
  refine WL.copyBS Tryz.underlying28 ty5 rfl rfl (by (first | (simp only [List.length_nil]; omega) | omega)) rfl rfl ?_
  refine WL.q (oq_assign rfl) rfl rfl rfl ?_
  refine WL.q (oq_assign rfl) rfl rfl rfl ?_
  refine WL.nil (WE.then_normal (WC.sub (fr' := [(4, _), (5, _)]) ?_ ⟨rfl, rfl, trivial⟩))
  refine WC.ret ?_
  refine WE.f2 ?_
  refine WE.f1 ?_
  refine WE.f2 ?_
  refine WE.endW2 (.inl rfl) (res2 Tryz.results205 rfl rfl) ?_
  refine wrote_of hB2 hL2 hc2 (by omega) hm2 ht2 (by omega) rfl ?_
  rw [show min data.length (acc.length + data.length - acc.length) = data.length by omega, Nat.zero_add, List.take_length]
 ·
  try simp only [Z1, Z2, Z3, Z4, Z5, Z6, Z7, Z8, Z9, Z0] at q3
  first | contradiction | (exfalso; omega) | (exfalso; simp_all; done)
theorem writeS0 (base bb : Nat) (lr : Int) (data : List UInt8) (hal : data.length ≤ 1000000) (hne : 0 < data.length) (hsl : data.length ≤ maxLen) : FnW Tryz.prog 205 [Pt bb 0, S data] base [[(bb, .cells #[.slice none 0 0, I 0, .int .i8 lr] 79 (0, 0))]] (Wrote base bb [] data []) := by
 have hmz : maxLen ≤ 9223372036854775807 := by unfold maxLen; omega
 refine FnW.enter (n := 32) Tryz.func205 rfl rfl fun w0 R0 hbase => ?_
 subst hbase
 show WC _ _ _ _ _ _ _ ([[(bb, .cells #[.slice none 0 0, I 0, .int .i8 lr] 79 (0, 0))], R0])
 refine WC.sub (fr' := [(0, _), (1, _)]) ?_ ⟨rfl, rfl, trivial⟩
 refine WC.seq (WC.region ?_)
 refine WL.q (oq_assign rfl) rfl rfl rfl ?_
 refine WL.q (oq_assign rfl) rfl rfl rfl ?_
 refine WL.nil (WE.then_normal (WC.sub (fr' := [(0, _), (1, _)]) ?_ ⟨rfl, rfl, trivial⟩))
 refine WC.seq (WC.region ?_)
 refine WL.q (oq_move rfl) rfl rfl rfl ?_
 refine WL.q (oq_nilCheck rfl) rfl rfl rfl ?_
 refine WL.q (oq_fieldAddr fld79_2 rfl) rfl rfl rfl ?_
 refine WL.store1 #[_, _, _] ty77 rfl rfl (by first | rfl | exact OwS.one one_) (Nat.lt_of_lt_of_le (Nat.lt_succ_self _) (Nat.le_of_ble_eq_true rfl)) rfl rfl ?_
 refine WL.nil (WE.then_normal (WC.sub (fr' := [(0, _), (1, _)]) ?_ ⟨rfl, rfl, trivial⟩))
 refine WC.seq (WC.region ?_)
 refine WL.q (oq_move rfl) rfl rfl rfl ?_
 refine WL.q (oq_move rfl) rfl rfl rfl ?_
 refine WL.q (oq_len_s Tryz.underlying9 rfl) rfl rfl rfl ?_
 refine WL.callW1 (tryGrow0 _ bb data.length 0 hne) call138 rfl rfl rfl fun v2_3 Hs2_3 hR2_3 => ?_
 obtain ⟨rfl, rfl⟩ := hR2_3
 refine WL.to1 ?_
 refine WL.q (oq_move rfl) rfl rfl rfl ?_
 refine WL.q (oq_extract rfl rfl) rfl rfl rfl ?_
 refine WL.q (oq_extract rfl rfl) rfl rfl rfl ?_
 refine WL.q (oq_assign rfl) rfl rfl rfl ?_
 refine WL.q (oq_assign rfl) rfl rfl rfl ?_
 refine WL.nil (WE.then_normal (WC.sub (fr' := [(0, _), (1, _), (6, _), (7, _)]) ?_ ⟨rfl, rfl, rfl, rfl, trivial⟩))
 refine WC.seq (WC.seq (WC.region ?_))
 refine WL.q (oq_move rfl) rfl rfl rfl ?_
 refine WL.q (oq_not rfl) rfl rfl rfl ?_
 refine WL.nil (WE.then_normal (WC.sub (fr' := [(0, _), (1, _), (6, _), (19, _)]) ?_ ⟨rfl, rfl, rfl, rfl, trivial⟩))
 refine WC.cond rfl (fun q3 => ?_) (fun q3 => ?_)
 ·
  try simp only [Z1, Z2, Z3, Z4, Z5, Z6, Z7, Z8, Z9, Z0] at q3
  refine WC.region ?_
  refine WL.q (oq_move rfl) rfl rfl rfl ?_
  refine WL.q (oq_move rfl) rfl rfl rfl ?_
  refine WL.q (oq_len_s Tryz.underlying9 rfl) rfl rfl rfl ?_
  refine WL.callW1 (grow0 _ bb data.length 0 hne hal) call137 rfl rfl rfl fun v4_3 Hs4_3 hR4_3 => ?_
  obtain ⟨B2, cap2, L2, rfl, rfl, hB2, hL2, hc2, hm2, ht2⟩ := hR4_3
  refine WL.to2 ?_
  refine WL.q (oq_assign rfl) rfl rfl rfl ?_
  refine WL.nil (WE.then_normal (WC.sub (fr' := [(0, _), (1, _), (6, _)]) ?_ ⟨rfl, rfl, rfl, trivial⟩))
  refine WC.seq (WC.region ?_)
  refine WL.q (oq_move rfl) rfl rfl rfl ?_
  refine WL.q (oq_nilCheck rfl) rfl rfl rfl ?_
  refine WL.q (oq_fieldAddr fld79_0 rfl) rfl rfl rfl ?_
  refine WL.q (oq_load flat28 rfl (.head _) (List.mem_singleton.2 rfl) rfl) rfl rfl rfl ?_
  refine WL.q (oq_move rfl) rfl rfl rfl ?_
  refine WL.q (oq_sliceSl (i := 0) Tryz.underlying28 ty5 rfl (by (first | (simp only [List.length_nil]; omega) | omega)) ⟨_, rfl⟩ rfl (by (first | (simp only [List.length_nil]; omega) | omega)) (by (first | (simp only [List.length_nil]; omega) | omega))) rfl rfl rfl ?_
  refine WL.q (oq_move rfl) rfl rfl rfl ?_
  refine WL.f1 ?_
  refine WL.copyBS Tryz.underlying28 ty5 rfl rfl (by (first | (simp only [List.length_nil]; omega) | omega)) rfl rfl ?_
  refine WL.q (oq_assign rfl) rfl rfl rfl ?_
  refine WL.q (oq_assign rfl) rfl rfl rfl ?_
  refine WL.nil (WE.then_normal (WC.sub (fr' := [(4, _), (5, _)]) ?_ ⟨rfl, rfl, trivial⟩))
  refine WC.ret ?_
  refine WE.f2 ?_
  refine WE.f1 ?_
  refine WE.f2 ?_
  refine WE.endW2 (.inl rfl) (res2 Tryz.results205 rfl rfl) ?_
  refine wrote_of hB2 hL2 hc2 (by simp only [List.length_nil] at hc2; omega) hm2 ht2 (by simp only [List.length_nil]; omega) rfl ?_
  rw [show min data.length ([].length + data.length - 0) = data.length by simp, List.take_length]; rfl
 ·
  try simp only [Z1, Z2, Z3, Z4, Z5, Z6, Z7, Z8, Z9, Z0] at q3
  first | contradiction | (exfalso; omega) | (exfalso; simp_all; done)
theorem bufWrite (base bb : Nat) (lr : Int) (v : Value) (A : Hp) (acc data : List UInt8) (hb : Buf base v A acc) (s : Value) (C : Hp) (hr : RdS 1 s C data.length (bytesV data)) (hal : acc.length + data.length ≤ 1000000) (hne : 0 < acc.length + data.length) :
  FnW Tryz.prog 134 [Pt bb 0, s] base [BB bb v lr, A, C] (Wrote base bb acc data [C]) := by
 rcases hb with ⟨rfl, rfl, rfl⟩ | ⟨B, cap, L, rfl, rfl, hB, hL, hc, hc0, hm, ht⟩
 ·have h := write0 base bb lr data (by simpa using hal) (by simpa using hne) s C hr
  intro w0 R0 w hbase hw
  exact h w0 R0 w hbase (by simpa using hw)
 ·by_cases hf : acc.length + data.length ≤ cap
  ·rcases Nat.lt_or_ge acc.length cap with hl | hl
   ·exact writeY base bb lr data B cap L acc hB hL hc hc0 hm ht hal s C hr hf hl
   ·obtain rfl : cap = acc.length := by omega
    obtain rfl : data = [] := List.eq_nil_of_length_eq_zero (by omega)
    exact writeF base bb lr B L acc hB hL hc0 hm ht hal s C hr
  ·exact writeN base bb lr data B cap L acc hB hL hc hc0 hm ht hal s C hr hf
theorem bufWriteS (base bb : Nat) (lr : Int) (v : Value) (A : Hp) (acc data : List UInt8) (hb : Buf base v A acc) (hal : acc.length + data.length ≤ 1000000) (hne : 0 < acc.length + data.length) :
  FnW Tryz.prog 205 [Pt bb 0, S data] base [BB bb v lr, A] (Wrote base bb acc data []) := by
 have hsl : data.length ≤ maxLen := by unfold maxLen; omega
 rcases hb with ⟨rfl, rfl, rfl⟩ | ⟨B, cap, L, rfl, rfl, hB, hL, hc, hc0, hm, ht⟩
 ·have h := writeS0 base bb lr data (by simpa using hal) (by simpa using hne) hsl
  intro w0 R0 w hbase hw
  exact h w0 R0 w hbase (by simpa using hw)
 ·by_cases hf : acc.length + data.length ≤ cap
  ·rcases Nat.lt_or_ge acc.length cap with hl | hl
   ·exact writeSY base bb lr data B cap L acc hB hL hc hc0 hm ht hal hsl hf hl
   ·obtain rfl : cap = acc.length := by omega
    obtain rfl : data = [] := List.eq_nil_of_length_eq_zero (by omega)
    exact writeSF base bb lr B L acc hB hL hc0 hm ht hal hsl
  ·exact writeSN base bb lr data B cap L acc hB hL hc hc0 hm ht hal hsl hf
end EB
end Go.Proofs.YtodlhaghdplclaaGreatDoor
/- The engine, part 28: numbers of 32 bits as bit vectors, the sum of a stream. Over any program. -/
namespace Go.Proofs.YtodlhaghdplclaaGreatDoor.V
open Go Go.RowKit
set_option linter.unusedSimpArgs false
set_option linter.unusedVariables false
abbrev U32 (c : BitVec 32) : Value := .int .u32 (c.toNat : Int)
theorem ofInt_u32 (c : BitVec 32) : BitVec.ofInt IntKind.u32.bits (c.toNat : Int) = c := by
 show BitVec.ofInt 32 (c.toNat : Int) = c
 rw [BitVec.ofInt_natCast, BitVec.ofNat_toNat, BitVec.setWidth_eq]
theorem wrap_u32 (c : BitVec 32) : IntKind.u32.wrap (c.toNat : Int) = (c.toNat : Int) := wrap_in (by rw [u32_lo, u32_hi]; have := c.isLt; omega)
theorem bit_xor (a b : BitVec 32) : bitOp .xor .u32 (a.toNat : Int) (b.toNat : Int) = ((a ^^^ b).toNat : Int) := by
 unfold bitOp; simp only [ofInt_u32]; exact wrap_u32 _
theorem bit_and (a b : BitVec 32) : bitOp .and .u32 (a.toNat : Int) (b.toNat : Int) = ((a &&& b).toNat : Int) := by
 unfold bitOp; simp only [ofInt_u32]; exact wrap_u32 _
section
variable {P : Program} {n : Nat} {w0 : World} {ds : List Deferred} {fr : Fr} {H H' : List Hp} {dst : Option Tmp} {ty : TypeId} {pos : String} {aft : Array Edge} {g : Option (Nat × Bool)}
theorem oq_x32 {t t' : TypeId} {x y : Operand} {i j : Int} (a b : BitVec 32) (hx : ev fr x = some (.int .u32 i)) (hy : ev fr y = some (.int .u32 j)) (hi : i = (a.toNat : Int)) (hj : j = (b.toNat : Int)) : OV P n w0 ⟨dst, .binOp .xor t x y t', ty, pos, aft, g⟩ (U32 (a ^^^ b)) ds fr H := by
 subst hi hj
 have := oq_bits (op := .xor) (P := P) (n := n) (w0 := w0) (ds := ds) (H := H) (dst := dst) (ty := ty) (pos := pos) (aft := aft) (g := g) (t := t) (t' := t') hx hy (by simp)
 rwa [bit_xor] at this
theorem oq_a32 {t t' : TypeId} {x y : Operand} {i j : Int} (a b : BitVec 32) (hx : ev fr x = some (.int .u32 i)) (hy : ev fr y = some (.int .u32 j)) (hi : i = (a.toNat : Int)) (hj : j = (b.toNat : Int)) : OV P n w0 ⟨dst, .binOp .and t x y t', ty, pos, aft, g⟩ (U32 (a &&& b)) ds fr H := by
 subst hi hj
 have := oq_bits (op := .and) (P := P) (n := n) (w0 := w0) (ds := ds) (H := H) (dst := dst) (ty := ty) (pos := pos) (aft := aft) (g := g) (t := t) (t' := t') hx hy (by simp)
 rwa [bit_and] at this
theorem oq_s32 {t t' : TypeId} {x y : Operand} {k : IntKind} (a : BitVec 32) (hx : ev fr x = some (U32 a)) (hy : ev fr y = some (.int k 1)) : OV P n w0 ⟨dst, .binOp .shr t x y t', ty, pos, aft, g⟩ (U32 (a >>> 1)) ds fr H := by
 have := oq_shrl (P := P) (n := n) (w0 := w0) (ds := ds) (H := H) (dst := dst) (ty := ty) (pos := pos) (aft := aft) (g := g) (t := t) (t' := t') 2 hx hy (by decide) (by decide)
 have e : ((a.toNat : Int)) / (2 : Int) = ((a >>> 1).toNat : Int) := by
  rw [BitVec.toNat_ushiftRight, Nat.shiftRight_eq_div_pow]; omega
 rwa [e] at this
theorem oq_c32 {t : TypeId} {x : Operand} (a : BitVec 32) (hx : ev fr x = some (U32 a)) : OV P n w0 ⟨dst, .unOp .xor t x, ty, pos, aft, g⟩ (U32 (~~~ a)) ds fr H :=
 oq_of_run fun ac w hf _ => by
  have h1 : (Op.intBits .xor .u32 (IntKind.u32.max) (a.toNat : Int)).run P w = .ok (U32 (~~~ a)) w := by
   have h2 := bit_xor (BitVec.allOnes 32) a
   have h3 : ((BitVec.allOnes 32).toNat : Int) = IntKind.u32.max := by decide
   rw [h3, BitVec.allOnes_xor] at h2
   unfold bitOp at h2
   simp [Op.intBits, U32]
   simpa using h2
  have h4 : IntKind.u32.signed = false := rfl
  simp only [execOp, hf.eval hx, Op.unary, h4, Bool.false_eq_true, if_false, Sem.run_bind, h1, Result.andThen_ok, Sem.run_pure]
end
theorem OV.to {P : Program} {n : Nat} {w0 : World} {ds : List Deferred} {fr : Fr} {H : List Hp} {o : Oper} {v v' : Value} (h : OV P n w0 o v ds fr H) (e : v = v') : OV P n w0 o v' ds fr H := e ▸ h
theorem oq_askG {P : Program} {n : Nat} {w0 : World} {ds : List Deferred} {fr : Fr} {H : List Hp} {dst : Option Tmp} {ty : TypeId} {pos : String} {aft : Array Edge} {g : Option (Nat × Bool)} {k t u : TypeId} {x : Operand} {v z : Value} {size bytes : Nat} (hc : Conc P t) (hty : Ty P t z size bytes) (hx : ev fr x = some (.iface k v)) : OV P n w0 ⟨dst, .typeAssert x u t true, ty, pos, aft, g⟩ (.tuple #[if k = t then v else z, .bool (decide (k = t))]) ds fr H := by
 by_cases h : k = t
 ·subst h
  rw [if_pos rfl, decide_eq_true rfl]
  exact oq_askC hc hx
 ·rw [if_neg h, decide_eq_false h]
  refine oq_of_run fun a w hf _ => ?_
  obtain ⟨d', hd, hx'⟩ := hc
  obtain ⟨i, hi, hz, _⟩ := hty
  cases d' <;> simp_all [execOp, Instr.typeAssert, hf.eval hx, run_underlying hd, zeroValue, typeInfo]
section
variable {P : Program} {n : Nat} {w0 : World} {ds : List Deferred} {fr : Fr} {H H' : List Hp} {dst : Option Tmp} {ty : TypeId} {pos : String} {aft : Array Edge} {g : Option (Nat × Bool)}
variable {ops : Array Oper} {Q : Post} {rest : List Oper} {d : Nat}
theorem WE.endW7 {fn : Func} {e : Exit} {v : Value} {R : Value → List Hp → Prop} {R0 A B C D E F G : Hp} (he : e = .ret ∨ e = .normal) (hres : ∀ a w, Fits n [] fr a → St w0 ([A, B, C, D, E, F, G, R0] : List Hp).flatten w → (results fn a.tmps).run P w = .ok v w) (hR : R v [A, B, C, D, E, F, G]) :
  WE n w0 e (bodyPost P fn (postW w0 R0 R)) [] fr [A, B, C, D, E, F, G, R0] :=
 WE.body he hres fun w hw => ⟨_, [A, B, C, D, E, F, G], rfl, hR, by simpa using hw⟩
end
section
variable {P : Program} {n : Nat} {w0 : World} {ds : List Deferred} {fr : Fr} {H H' : List Hp} {dst : Option Tmp} {ty : TypeId} {pos : String} {aft : Array Edge} {g : Option (Nat × Bool)}
theorem oq_fldElF {s k o1 off sz m : Nat} {t : TypeId} {x : Operand} {v : Value} {A : Hp} {xs : List Value} {i : Int} (hf : Fld P s k off t) (hr : RdS sz v A m xs) (hx : ev fr x = some (adOff (elAddr sz v i) o1)) (h : 0 ≤ i ∧ i < m) :
  OV P n w0 ⟨dst, .fieldAddr s x k, ty, pos, aft, g⟩ (adOff (elAddr sz v i) (o1 + off)) ds fr H := by
 obtain ⟨b, o, c, e, fz, he, _, _⟩ := elAddr_pt hr h
 rw [he, show adOff (Pt b o) o1 = Pt b (o + o1) from by simp [adOff, add_none]] at hx
 have := oq_fieldAddr (P := P) (n := n) (w0 := w0) (ds := ds) (H := H) (dst := dst) (ty := ty) (pos := pos) (aft := aft) (g := g) hf hx
 rw [he, show adOff (Pt b o) (o1 + off) = Pt b (o + o1 + off) from by simp [adOff, add_none, Nat.add_assoc]]
 exact this
theorem oq_loadFS {α : Type} {f : α → List Value} {l : List α} {sz off size : Nat} {t : TypeId} {x : Operand} {v : Value} {A : Hp} {i : Int} {z : Value} {bytes : Nat} (dflt : α) (vs : List Value) (hf : ∀ x, (f x).length = sz) (hag : Agg P t) (hty : Ty P t z size bytes) (hr : RdS sz v A l.length (recsV f l)) (hA : A ∈ H) (hx : ev fr x = some (adOff (elAddr sz v i) off)) (h : 0 ≤ i ∧ i < l.length) {j : Nat} (hj : i.toNat = j) (hoff : off + size ≤ sz) (hl : vs.length = size) (hu : ((f (l.getD j dflt)).drop off).take size = vs) :
  OV P n w0 ⟨dst, .load t x, ty, pos, aft, g⟩ (.agg vs.toArray) ds fr H := by
 obtain ⟨b, o, c, e, fz, he, hb, hc⟩ := elAddr_pt hr h
 rw [he, show adOff (Pt b o) off = Pt b (o + off) from by simp [adOff, add_none]] at hx
 refine oq_loadAgg hag (by rw [hl]; exact hty) hx hA hb fun q u hq => ?_
 have hq2 : q < size := by rw [← hl]; exact (List.getElem?_eq_some_iff.1 hq).1
 rw [Nat.add_assoc, hc (off + q) (by omega), recs_get hf dflt l i.toNat (off + q) (by omega) (by omega), hj]
 rw [← hu, List.getElem?_take, if_pos hq2, List.getElem?_drop] at hq
 exact hq
end
/-! ### The sum -/
def crcBit (c : BitVec 32) : BitVec 32 := if (c &&& 1#32).toNat = 0 then c >>> 1 else (c >>> 1) ^^^ 3988292384#32
def crcBits : Nat → BitVec 32 → BitVec 32
 | 0, c => c
 | k + 1, c => crcBit (crcBits k c)
def crcByte (c : BitVec 32) (b : UInt8) : BitVec 32 := crcBits 8 (c ^^^ BitVec.ofNat 32 b.toNat)
def crcRaw (c : BitVec 32) (l : List UInt8) : BitVec 32 := l.foldl crcByte c
def crc (l : List UInt8) : BitVec 32 := ~~~ crcRaw (~~~ 0#32) l
theorem crcBits_odd {k : Nat} {c : BitVec 32} (h : ¬ ((crcBits k c &&& 1#32).toNat : Int) = 0) : U32 (crcBits k c >>> 1 ^^^ 3988292384#32) = U32 (crcBits (k + 1) c) := by
 show _ = U32 (crcBit (crcBits k c))
 unfold crcBit; rw [if_neg (by omega)]
theorem crcBits_even {k : Nat} {c : BitVec 32} (h : ((crcBits k c &&& 1#32).toNat : Int) = 0) : U32 (crcBits k c >>> 1) = U32 (crcBits (k + 1) c) := by
 show _ = U32 (crcBit (crcBits k c))
 unfold crcBit; rw [if_pos (by omega)]
theorem crcRaw_append (c : BitVec 32) (l m : List UInt8) : crcRaw c (l ++ m) = crcRaw (crcRaw c l) m := List.foldl_append
theorem crc_append (l m : List UInt8) : crc (l ++ m) = ~~~ crcRaw (~~~ crc l) m := by unfold crc; rw [BitVec.not_not, crcRaw_append]
theorem byte32 (b : UInt8) : ((BitVec.ofNat 32 b.toNat).toNat : Int) = (b.toNat : Int) := by
 rw [BitVec.toNat_ofNat]; have := b.toNat_lt; omega
theorem byteAt_get {l : List UInt8} {i : Nat} (h : i < l.length) : byteAt l (i : Int) = (l[i].toNat : Int) := by
 unfold byteAt; rw [Int.toNat_natCast, List.getD_eq_getElem?_getD, List.getElem?_eq_getElem h]; rfl
theorem crcRaw_step (c : BitVec 32) (l : List UInt8) (i : Nat) (h : i < l.length) : crcRaw c (l.take (i + 1)) = crcByte (crcRaw c (l.take i)) l[i] := by
 rw [List.take_add_one, crcRaw_append, List.getElem?_eq_getElem h]; rfl
/-! ### Numbers as bytes, the great end first -/
def beB (j : Nat) (x : Int) : UInt8 := UInt8.ofNat ((x / 2 ^ (8 * j)) % 256).toNat
def be : Nat → Int → List UInt8
 | 0, _ => []
 | w + 1, x => beB w x :: be w x
theorem be_len : ∀ (w : Nat) (x : Int), (be w x).length = w
 | 0, _ => rfl
 | w + 1, x => by rw [be, List.length_cons, be_len]
theorem be_get : ∀ (w m : Nat) (x : Int), m < w → (be w x)[m]? = some (beB (w - 1 - m) x)
 | w + 1, 0, x, _ => rfl
 | w + 1, m + 1, x, h => by
  rw [be, List.getElem?_cons_succ, be_get w m x (by omega), show w + 1 - 1 - (m + 1) = w - 1 - m by omega]
theorem beB_nat (j : Nat) (x : Int) : ((beB j x).toNat : Int) = (x / 2 ^ (8 * j)) % 256 := by
 unfold beB
 have h1 := Int.emod_nonneg (x / 2 ^ (8 * j)) (b := 256) (by decide)
 have h2 := Int.emod_lt_of_pos (x / 2 ^ (8 * j)) (b := 256) (by decide)
 rw [UInt8.toNat_ofNat']; omega
theorem wrap_u8 (i : Int) : IntKind.u8.wrap i = i % 256 := by simp [IntKind.wrap, IntKind.signed, IntKind.bits]
theorem be_shr {w m : Nat} {x : Int} (h : m < w) (hw : w ≤ 8) : Value.int .u8 (IntKind.u8.wrap (x.fdiv (2 ^ (min (8 * ((w : Int) - 1 - (m : Int))).toNat 64)))) = .int .u8 ((beB (w - 1 - m) x).toNat : Int) := by
 have e : min (8 * ((w : Int) - 1 - (m : Int))).toNat 64 = 8 * (w - 1 - m) := by omega
 rw [beB_nat, wrap_u8, e, Int.fdiv_eq_ediv_of_nonneg _ (Int.le_of_lt (Int.pow_pos (by decide)))]
theorem be_snoc {w m : Nat} {x : Int} (h : m < w) (hw : w ≤ 8) : bytesV ((be w x).take m) ++ [Value.int .u8 (IntKind.u8.wrap (x.fdiv (2 ^ (min (8 * ((w : Int) - 1 - (m : Int))).toNat 64))))] = bytesV ((be w x).take (m + 1)) := by
 rw [be_shr h hw, List.take_add_one, be_get w m x h]; simp [bytesV]
theorem Int.emul_emod_emod_helper (x : Int) (j d : Nat) : ((x % 2 ^ (8 * (j + 1 + d))) / 2 ^ (8 * j)) % 256 = (x / 2 ^ (8 * j)) % 256 := by
 have h1 : (2 : Int) ^ (8 * (j + 1 + d)) = 2 ^ (8 * j) * (256 * 2 ^ (8 * d)) := by
  rw [show 8 * (j + 1 + d) = 8 * j + (8 + 8 * d) by omega, Int.pow_add, Int.pow_add]; rfl
 have hp : (0 : Int) < 2 ^ (8 * j) := Int.pow_pos (by decide)
 rw [h1, Int.emod_def x, Int.mul_assoc, Int.sub_eq_add_neg, ← Int.mul_neg, Int.add_mul_ediv_left _ _ (Int.ne_of_gt hp), ← Int.mul_neg, Int.mul_assoc, Int.add_mul_emod_self_left]
theorem be_snocj {w j : Nat} {x : Int} (h : 0 < j) (hj : j ≤ w) (hw : w ≤ 8) : bytesV ((be w x).take (w - j)) ++ [Value.int .u8 (IntKind.u8.wrap (x.fdiv (2 ^ (min (8 * ((j : Int) - 1)).toNat IntKind.u64.bits))))] = bytesV ((be w x).take (w - (j - 1))) := by
 have h1 := be_snoc (w := w) (m := w - j) (x := x) (by omega) hw
 rw [show ((w : Int) - 1 - ((w - j : Nat) : Int)) = (j : Int) - 1 by omega, show w - j + 1 = w - (j - 1) by omega] at h1
 exact h1
theorem beB_mod (j w : Nat) (x : Int) (h : j < w) : beB j (x % 2 ^ (8 * w)) = beB j x := by
 have e : ((x % 2 ^ (8 * w)) / 2 ^ (8 * j)) % 256 = (x / 2 ^ (8 * j)) % 256 := by
  obtain ⟨d, rfl⟩ : ∃ d, w = j + 1 + d := ⟨w - (j + 1), by omega⟩
  have hx := Int.emul_emod_emod_helper x j d
  exact hx
 unfold beB; rw [e]
theorem be_mod : ∀ (w v : Nat) (x : Int), w ≤ v → be w (x % 2 ^ (8 * v)) = be w x
 | 0, _, _, _ => rfl
 | w + 1, v, x, h => by rw [be, be, beB_mod w v x (by omega), be_mod w v x (by omega)]
end Go.Proofs.YtodlhaghdplclaaGreatDoor.V
/- The sum of a stream. -/
namespace Go.Proofs.YtodlhaghdplclaaGreatDoor
open Go Go.RowKit V EA EB
set_option linter.unusedSimpArgs false
set_option linter.unusedVariables false
set_option maxRecDepth 10000
namespace EC
theorem flat5 : Flat Tryz.prog 5 := ⟨_, Tryz.underlying5, by simp⟩
theorem flat74 : Flat Tryz.prog 74 := ⟨_, Tryz.underlying74, by simp⟩
theorem ty5 : Ty Tryz.prog 5 (.int .u8 0) 1 1 := ty_of (by kernel_rfl)
theorem ty74 : Ty Tryz.prog 74 (.int .u32 0) 1 4 := ty_of (by kernel_rfl)
theorem fld155_0 : Fld Tryz.prog 155 0 0 74 := fld_of Tryz.underlying155 rfl rfl rfl ty74 (by decide)
theorem crcWrite (base hb : Nat) (acc : List UInt8) (v : Value) (A : Hp) (l : List UInt8) (hr : RdS 1 v A l.length (bytesV l)) (hl : l.length ≤ 1000000) : FnW Tryz.prog 196 [Pt hb 0, v] base [[(hb, .cells #[U32 (crc acc)] 155 (0, 0))], A] (fun w Hs => w = .tuple #[I (l.length : Int), .nilIface] ∧ Hs = [[(hb, .cells #[U32 (crc (acc ++ l))] 155 (0, 0))], A]) := by
 refine FnW.enter (n := 43) Tryz.func196 rfl rfl fun w0 R0 hbase => ?_
 subst hbase
 show WC _ _ _ _ _ _ _ ([[(hb, .cells #[U32 (crc acc)] 155 (0, 0))], A, R0])
 refine WC.sub (fr' := [(0, _), (1, _)]) ?_ ⟨rfl, rfl, trivial⟩
 refine WC.seq (WC.region ?_)
 refine WL.q (oq_assign rfl) rfl rfl rfl ?_
 refine WL.q (oq_assign rfl) rfl rfl rfl ?_
 refine WL.nil (WE.then_normal (WC.sub (fr' := [(0, _), (1, _)]) ?_ ⟨rfl, rfl, trivial⟩))
 refine WC.seq (WC.region ?_)
 refine WL.q (oq_move rfl) rfl rfl rfl ?_
 refine WL.q (oq_nilCheck rfl) rfl rfl rfl ?_
 refine WL.q (oq_fieldAddr fld155_0 rfl) rfl rfl rfl ?_
 refine WL.q (oq_load flat74 rfl (.head _) (List.mem_singleton.2 rfl) rfl) rfl rfl rfl ?_
 refine WL.q (oq_c32 _ rfl) rfl rfl rfl ?_
 refine WL.q (oq_assign rfl) rfl rfl rfl ?_
 refine WL.nil (WE.then_normal (WC.sub (fr' := [(0, _), (1, _), (6, _)]) ?_ ⟨rfl, rfl, rfl, trivial⟩))
 refine WC.seq (WC.seq (WC.region ?_))
 refine WL.q (oq_move rfl) rfl rfl rfl ?_
 refine WL.q (oq_len_rd hr Tryz.underlying28 rfl) rfl rfl rfl ?_
 refine WL.q (oq_move rfl) rfl rfl rfl ?_
 refine WL.nil (WE.then_normal (WC.sub (fr' := [(0, _), (1, _), (6, _), (14, _), (15, _), (16, _)]) ?_ ⟨rfl, rfl, rfl, rfl, rfl, rfl, trivial⟩))
 refine WC.block ?_
 refine WC.loop (ι := Nat) (fun (i : Nat) => [(0, Pt hb 0), (1, v), (6, U32 (crcRaw (~~~ crc acc) (l.take i))), (14, v), (15, I (l.length : Int)), (16, I (i : Int))]) (fun (i : Nat) => [[(hb, .cells #[U32 (crc acc)] 155 (0, 0))], A, R0]) (fun (i : Nat) => i ≤ l.length) (fun (i : Nat) => l.length - i) (0) ?_ ⟨rfl, rfl, rfl, rfl, rfl, rfl, trivial⟩ (List.Perm.refl _) ?_
 ·try dsimp only
  omega
 ·rintro i hp
  try dsimp only at hp
  obtain hi := hp
  show WC _ _ _ _ _ _ ([(0, Pt hb 0), (1, v), (6, U32 (crcRaw (~~~ crc acc) (l.take i))), (14, v), (15, I (l.length : Int)), (16, I (i : Int))]) ([[(hb, .cells #[U32 (crc acc)] 155 (0, 0))], A, R0])
  refine WC.seq (WC.region ?_)
  refine WL.q (oq_lss rfl rfl) rfl rfl rfl ?_
  refine WL.nil (WE.then_normal (WC.sub (fr' := [(0, _), (1, _), (6, _), (14, _), (15, _), (16, _), (17, _)]) ?_ ⟨rfl, rfl, rfl, rfl, rfl, rfl, rfl, trivial⟩))
  refine WC.seq ?_
  refine WC.cond rfl (fun q3 => ?_) (fun q3 => ?_)
  ·
   try simp only [Z1, Z2, Z3, Z4, Z5, Z6, Z7, Z8, Z9, Z0] at q3
   refine WC.skip (WE.then_normal (WC.sub (fr' := [(0, _), (1, _), (6, _), (14, _), (15, _), (16, _)]) ?_ ⟨rfl, rfl, rfl, rfl, rfl, rfl, trivial⟩))
   refine WC.seq (WC.block (WC.seq ?_))
   have hlt : i < l.length := by omega
   refine WC.region ?_
   refine WL.q (oq_ixaddr hr Tryz.underlying28 ty5 rfl rfl (by (first | omega | (simp only [List.length_cons, List.length_nil, List.length_append, List.length_drop, List.length_take]; omega)))) rfl rfl rfl ?_
   refine WL.load_byte hr (.tail _ (.head _)) flat5 rfl (by (first | omega | (simp only [List.length_cons, List.length_nil, List.length_append, List.length_drop, List.length_take]; omega))) rfl rfl fun c4_1 hc4_1 hc4_1l hc4_1u => ?_
   refine WL.q (oq_assign rfl) rfl rfl rfl ?_
   refine WL.nil (WE.then_normal (WC.sub (fr' := [(0, _), (1, _), (6, _), (8, _), (14, _), (15, _), (16, _)]) ?_ ⟨rfl, rfl, rfl, rfl, rfl, rfl, rfl, trivial⟩))
   refine WC.seq (WC.region ?_)
   refine WL.q (oq_move rfl) rfl rfl rfl ?_
   refine WL.q (oq_move rfl) rfl rfl rfl ?_
   refine WL.q (oq_conv Tryz.underlying5 Tryz.underlying74 rfl (by rw [u32_lo, u32_hi]; (first | omega | (simp only [List.length_cons, List.length_nil, List.length_append, List.length_drop, List.length_take]; omega)))) rfl rfl rfl ?_
   refine WL.q (oq_x32 _ (BitVec.ofNat 32 l[i].toNat) rfl rfl rfl (by rw [byte32, hc4_1, byteAt_get hlt])) rfl rfl rfl ?_
   refine WL.q (oq_assign rfl) rfl rfl rfl ?_
   refine WL.nil (WE.then_normal (WC.sub (fr' := [(0, _), (1, _), (6, _), (14, _), (15, _), (16, _)]) ?_ ⟨rfl, rfl, rfl, rfl, rfl, rfl, trivial⟩))
   refine WC.seq (WC.region ?_)
   refine WL.q (oq_move rfl) rfl rfl rfl ?_
   refine WL.nil (WE.then_normal (WC.sub (fr' := [(0, _), (1, _), (6, _), (14, _), (15, _), (16, _), (24, _)]) ?_ ⟨rfl, rfl, rfl, rfl, rfl, rfl, rfl, trivial⟩))
   refine WC.block ?_
   refine WC.loop (ι := Nat) (fun (k : Nat) => [(0, Pt hb 0), (1, v), (6, U32 (crcBits k (crcRaw (~~~ crc acc) (l.take i) ^^^ BitVec.ofNat 32 l[i].toNat))), (14, v), (15, I (l.length : Int)), (16, I (i : Int)), (24, I (k : Int))]) (fun (k : Nat) => [[(hb, .cells #[U32 (crc acc)] 155 (0, 0))], A, R0]) (fun (k : Nat) => k ≤ 8) (fun (k : Nat) => 8 - k) (0) ?_ ⟨rfl, rfl, rfl, rfl, rfl, rfl, rfl, trivial⟩ (List.Perm.refl _) ?_
   ·try dsimp only
    omega
   ·rintro k hp
    try dsimp only at hp
    obtain hk := hp
    show WC _ _ _ _ _ _ ([(0, Pt hb 0), (1, v), (6, U32 (crcBits k (crcRaw (~~~ crc acc) (l.take i) ^^^ BitVec.ofNat 32 l[i].toNat))), (14, v), (15, I (l.length : Int)), (16, I (i : Int)), (24, I (k : Int))]) ([[(hb, .cells #[U32 (crc acc)] 155 (0, 0))], A, R0])
    refine WC.seq (WC.region ?_)
    refine WL.q (oq_lss rfl rfl) rfl rfl rfl ?_
    refine WL.nil (WE.then_normal (WC.sub (fr' := [(0, _), (1, _), (6, _), (14, _), (15, _), (16, _), (24, _), (25, _)]) ?_ ⟨rfl, rfl, rfl, rfl, rfl, rfl, rfl, rfl, trivial⟩))
    refine WC.seq ?_
    refine WC.cond rfl (fun q7 => ?_) (fun q7 => ?_)
    ·
     try simp only [Z1, Z2, Z3, Z4, Z5, Z6, Z7, Z8, Z9, Z0] at q7
     refine WC.skip (WE.then_normal (WC.sub (fr' := [(0, _), (1, _), (6, _), (14, _), (15, _), (16, _), (24, _)]) ?_ ⟨rfl, rfl, rfl, rfl, rfl, rfl, rfl, trivial⟩))
     refine WC.seq (WC.block (WC.seq (WC.region ?_)))
     refine WL.q (oq_move rfl) rfl rfl rfl ?_
     refine WL.q (oq_a32 _ 1#32 rfl rfl rfl rfl) rfl rfl rfl ?_
     refine WL.q (oq_neq rfl rfl) rfl rfl rfl ?_
     refine WL.nil (WE.then_normal (WC.sub (fr' := [(0, _), (1, _), (6, _), (14, _), (15, _), (16, _), (24, _), (28, _)]) ?_ ⟨rfl, rfl, rfl, rfl, rfl, rfl, rfl, rfl, trivial⟩))
     refine WC.cond rfl (fun q8 => ?_) (fun q8 => ?_)
     ·
      try simp only [Z1, Z2, Z3, Z4, Z5, Z6, Z7, Z8, Z9, Z0] at q8
      refine WC.region ?_
      refine WL.q (oq_move rfl) rfl rfl rfl ?_
      refine WL.q (oq_s32 _ rfl rfl) rfl rfl rfl ?_
      refine WL.q ((oq_x32 _ 3988292384#32 rfl rfl rfl rfl).to (crcBits_odd q8)) rfl rfl rfl ?_
      refine WL.q (oq_assign rfl) rfl rfl rfl ?_
      refine WL.nil (WE.block_normal (WE.then_normal (WC.sub (fr' := [(0, _), (1, _), (6, _), (14, _), (15, _), (16, _), (24, _)]) ?_ ⟨rfl, rfl, rfl, rfl, rfl, rfl, rfl, trivial⟩)))
      refine WC.region ?_
      refine WL.q (oq_add rfl rfl (by rw [i64_lo, i64_hi]; (first | omega | (simp only [List.length_cons, List.length_nil, List.length_append, List.length_drop, List.length_take]; omega)))) rfl rfl rfl ?_
      refine WL.q (oq_move rfl) rfl rfl rfl ?_
      refine WL.nil ?_
      refine WE.again (k + 1) ?_ ?_ ⟨rfl, rfl, rfl, rfl, rfl, rfl, rfl, trivial⟩ (List.Perm.refl _)
      ·try dsimp only
       omega
      ·(try dsimp only); omega
     ·
      try simp only [Z1, Z2, Z3, Z4, Z5, Z6, Z7, Z8, Z9, Z0] at q8
      refine WC.region ?_
      refine WL.q (oq_move rfl) rfl rfl rfl ?_
      refine WL.q ((oq_s32 _ rfl rfl).to (crcBits_even q8)) rfl rfl rfl ?_
      refine WL.q (oq_assign rfl) rfl rfl rfl ?_
      refine WL.nil (WE.block_normal (WE.then_normal (WC.sub (fr' := [(0, _), (1, _), (6, _), (14, _), (15, _), (16, _), (24, _)]) ?_ ⟨rfl, rfl, rfl, rfl, rfl, rfl, rfl, trivial⟩)))
      refine WC.region ?_
      refine WL.q (oq_add rfl rfl (by rw [i64_lo, i64_hi]; (first | omega | (simp only [List.length_cons, List.length_nil, List.length_append, List.length_drop, List.length_take]; omega)))) rfl rfl rfl ?_
      refine WL.q (oq_move rfl) rfl rfl rfl ?_
      refine WL.nil ?_
      refine WE.again (k + 1) ?_ ?_ ⟨rfl, rfl, rfl, rfl, rfl, rfl, rfl, trivial⟩ (List.Perm.refl _)
      ·try dsimp only
       omega
      ·(try dsimp only); omega
    ·
     try simp only [Z1, Z2, Z3, Z4, Z5, Z6, Z7, Z8, Z9, Z0] at q7
     refine WC.exit (WE.then_exit (WE.then_exit (WE.block_same (WE.block_normal (WE.then_normal (WC.sub (fr' := [(0, _), (1, _), (6, _), (14, _), (15, _), (16, _)]) ?_ ⟨rfl, rfl, rfl, rfl, rfl, rfl, trivial⟩))))))
     obtain rfl : k = 8 := by omega
     rw [show crcBits 8 (crcRaw (~~~ crc acc) (l.take i) ^^^ BitVec.ofNat 32 l[i].toNat) = crcRaw (~~~ crc acc) (l.take (i + 1)) from (crcRaw_step _ l i _).symm]
     refine WC.region ?_
     refine WL.q (oq_add rfl rfl (by rw [i64_lo, i64_hi]; (first | omega | (simp only [List.length_cons, List.length_nil, List.length_append, List.length_drop, List.length_take]; omega)))) rfl rfl rfl ?_
     refine WL.q (oq_move rfl) rfl rfl rfl ?_
     refine WL.nil ?_
     refine WE.again (i + 1) ?_ ?_ ⟨rfl, rfl, rfl, rfl, rfl, rfl, trivial⟩ (List.Perm.refl _)
     ·try dsimp only
      omega
     ·(try dsimp only); omega
  ·
   try simp only [Z1, Z2, Z3, Z4, Z5, Z6, Z7, Z8, Z9, Z0] at q3
   refine WC.exit (WE.then_exit (WE.then_exit (WE.block_same (WE.then_normal (WC.sub (fr' := [(0, _), (1, _), (6, _)]) ?_ ⟨rfl, rfl, rfl, trivial⟩)))))
   refine WC.seq ?_
   obtain rfl : i = l.length := by omega
   rw [List.take_length]
   refine WC.region ?_
   refine WL.q (oq_move rfl) rfl rfl rfl ?_
   refine WL.q (oq_move rfl) rfl rfl rfl ?_
   refine WL.q (oq_c32 _ rfl) rfl rfl rfl ?_
   refine WL.q (oq_nilCheck rfl) rfl rfl rfl ?_
   refine WL.q (oq_fieldAddr fld155_0 rfl) rfl rfl rfl ?_
   refine WL.store ty74 rfl rfl rfl (by exact Nat.zero_lt_one) (by simp) rfl ?_
   refine WL.nil (WE.then_normal (WC.sub (fr' := [(1, _)]) ?_ ⟨rfl, trivial⟩))
   refine WC.seq (WC.region ?_)
   refine WL.q (oq_move rfl) rfl rfl rfl ?_
   refine WL.q (oq_len_rd hr Tryz.underlying28 rfl) rfl rfl rfl ?_
   refine WL.q (oq_assign rfl) rfl rfl rfl ?_
   refine WL.q (oq_assign rfl) rfl rfl rfl ?_
   refine WL.nil (WE.then_normal (WC.sub (fr' := [(4, _), (5, _)]) ?_ ⟨rfl, rfl, trivial⟩))
   refine WC.ret ?_
   refine WE.endW2 (.inl rfl) (res2 Tryz.results196 rfl rfl) ?_
   exact ⟨rfl, by rw [crc_append]; rfl⟩
theorem sum32 (hb : Nat) (c : BitVec 32) : FnR Tryz.prog 69 [Pt hb 0] [(hb, .cells #[U32 c] 155 (0, 0))] (U32 c) := by
 refine FnR.enter (n := 7) Tryz.func69 rfl rfl fun w0 => ?_
 refine WC.sub (fr' := [(0, _)]) ?_ ⟨rfl, trivial⟩
 refine WC.seq (WC.region ?_)
 refine WL.q (oq_assign rfl) rfl rfl rfl ?_
 refine WL.nil (WE.then_normal (WC.sub (fr' := [(0, _)]) ?_ ⟨rfl, trivial⟩))
 refine WC.seq (WC.region ?_)
 refine WL.q (oq_move rfl) rfl rfl rfl ?_
 refine WL.q (oq_nilCheck rfl) rfl rfl rfl ?_
 refine WL.q (oq_fieldAddr fld155_0 rfl) rfl rfl rfl ?_
 refine WL.q (oq_load flat74 rfl (.head _) (List.mem_singleton.2 rfl) rfl) rfl rfl rfl ?_
 refine WL.q (oq_assign rfl) rfl rfl rfl ?_
 refine WL.nil (WE.then_normal (WC.sub (fr' := [(2, _)]) ?_ ⟨rfl, trivial⟩))
 refine WC.ret ?_
 refine WE.endR (.inl rfl) (res1 Tryz.results69 rfl) ?_
 rfl
end EC
end Go.Proofs.YtodlhaghdplclaaGreatDoor
/- Writers. -/
namespace Go.Proofs.YtodlhaghdplclaaGreatDoor
open Go Go.RowKit V EA EB EC
set_option linter.unusedSimpArgs false
set_option linter.unusedVariables false
set_option maxRecDepth 10000
namespace ED
theorem call63 : Callable Tryz.prog 63 := ⟨_, Tryz.func63, rfl, by kernel_rfl⟩
theorem call66 : Callable Tryz.prog 66 := ⟨_, Tryz.func66, rfl, by kernel_rfl⟩
theorem call78 : Callable Tryz.prog 78 := ⟨_, Tryz.func78, rfl, by kernel_rfl⟩
theorem flat3 : Flat Tryz.prog 3 := ⟨_, Tryz.underlying3, by simp⟩
theorem flat28 : Flat Tryz.prog 28 := ⟨_, Tryz.underlying28, by simp⟩
theorem flat151 : Flat Tryz.prog 151 := ⟨_, Tryz.underlying151, by simp⟩
theorem flat176 : Flat Tryz.prog 176 := ⟨_, Tryz.underlying176, by simp⟩
theorem ty3 : Ty Tryz.prog 3 (.int .i64 0) 1 8 := ty_of (by kernel_rfl)
theorem ty5 : Ty Tryz.prog 5 (.int .u8 0) 1 1 := ty_of (by kernel_rfl)
theorem ty28 : Ty Tryz.prog 28 (.slice none 0 0) 1 24 := ty_of (by kernel_rfl)
theorem ty77 : Ty Tryz.prog 77 (.int .i8 0) 1 1 := ty_of (by kernel_rfl)
theorem ty79 : Ty Tryz.prog 79 (.agg #[(.slice none 0 0), (.int .i64 0), (.int .i8 0)]) 3 40 := ty_of (by kernel_rfl)
theorem ty151 : Ty Tryz.prog 151 .nilIface 1 16 := ty_of (by kernel_rfl)
theorem ty176 : Ty Tryz.prog 176 (.slice none 0 0) 1 24 := ty_of (by kernel_rfl)
theorem str79 : Str Tryz.prog 79 #[(0, 1), (1, 1), (2, 1)] := ⟨_, Tryz.underlying79, fun w => by kernel_rfl⟩
theorem fld79_0 : Fld Tryz.prog 79 0 0 28 := fld_of Tryz.underlying79 rfl rfl rfl ty28 (by decide)
theorem fld79_1 : Fld Tryz.prog 79 1 1 3 := fld_of Tryz.underlying79 rfl rfl rfl ty3 (by decide)
theorem fld79_2 : Fld Tryz.prog 79 2 2 77 := fld_of Tryz.underlying79 rfl rfl rfl ty77 (by decide)
theorem fld180_0 : Fld Tryz.prog 180 0 0 176 := fld_of Tryz.underlying180 rfl rfl rfl ty176 (by decide)
structure Wr (base : Nat) (k : TypeId) (r : Value) (f : FuncId) (Wt : List UInt8 → Hp → Prop) : Prop where
 inv : Inv1 Tryz.prog k "Write" f
 nok : NilOk Tryz.prog k r "Write"
 run : ∀ (acc : List UInt8) (G : Hp) (s : Value) (C : Hp) (data : List UInt8), Wt acc G → RdS 1 s C data.length (bytesV data) → acc.length + data.length ≤ 400000 → 0 < acc.length + data.length →
  FnW Tryz.prog f [r, s] base [G, C] (fun w Hs => ∃ G', w = .tuple #[I (data.length : Int), .nilIface] ∧ Hs = [G', C] ∧ Wt (acc ++ data) G')
def BufG (base bb : Nat) (acc : List UInt8) (G : Hp) : Prop := ∃ v lr A, G = BB bb v lr ++ A ∧ Buf base v A acc
theorem invBW : Inv1 Tryz.prog 107 "Write" 134 := fun x a w => by kernel_rfl
theorem invBT : Inv1 Tryz.prog 107 "WriteTo" 135 := fun x a w => by kernel_rfl
theorem invCW : Inv1 Tryz.prog 153 "Write" 196 := fun x a w => by kernel_rfl
theorem invMW : Inv1 Tryz.prog 177 "Write" 197 := fun x a w => by kernel_rfl
theorem nokBW (p : Addr) : NilOk Tryz.prog 107 (.pointer (some p)) "Write" := fun w => by kernel_rfl
theorem nokMW (p : Addr) : NilOk Tryz.prog 177 (.pointer (some p)) "Write" := fun w => by kernel_rfl
theorem askBT : AskYes Tryz.prog 107 198 := fun x u w => by kernel_rfl
theorem bufWr (base bb : Nat) : Wr base 107 (Pt bb 0) 134 (BufG base bb) := by
 refine ⟨invBW, nokBW _, ?_⟩
 rintro acc G s C data ⟨v, lr, A, rfl, hb⟩ hr hl h0 w0 R0 w hbase hw
 refine (bufWrite base bb lr v A acc data hb s C hr (by omega) h0 w0 R0 w hbase (by simpa using hw)).mono ?_
 rintro e w' ⟨u, Hs, he, ⟨v2, A2, rfl, rfl, hb2⟩, hst⟩
 exact ⟨_, [BB bb v2 0 ++ A2, C], he, ⟨_, rfl, rfl, v2, 0, A2, rfl, hb2⟩, by simpa using hst⟩
def MwStep (base : Nat) (ws : List Value) (s : Value) (C : Hp) (n : Nat) (St2 : Nat → Hp → Prop) : Prop :=
 ∀ i, i < ws.length → ∃ k r f, ws[((i : Nat) : Int).toNat]? = some (.iface k r) ∧ Inv1 Tryz.prog k "Write" f ∧ ∀ G, St2 i G → FnW Tryz.prog f [r, s] base [G, C] (fun w Hs => ∃ G', w = .tuple #[I (n : Int), .nilIface] ∧ Hs = [G', C] ∧ St2 (i + 1) G')
theorem mwWrite (base mb : Nat) (v : Value) (Ws : Hp) (ws : List Value) (hrw : RdS 1 v Ws ws.length ws) (hn : ws.length ≤ 1000) (s : Value) (C : Hp) (l : List UInt8) (hr : RdS 1 s C l.length (bytesV l)) (hl : l.length ≤ 1000000) (St2 : Nat → Hp → Prop) (hstep : MwStep base ws s C l.length St2) (G : Hp) (hG : St2 0 G) : FnW Tryz.prog 197 [Pt mb 0, s] base [[(mb, .cells #[v] 180 (0, 0))], Ws, G, C] (fun w Hs => ∃ G2, w = .tuple #[I (l.length : Int), .nilIface] ∧ Hs = [[(mb, .cells #[v] 180 (0, 0))], Ws, G2, C] ∧ St2 ws.length G2) := by
 refine FnW.enter (n := 33) Tryz.func197 rfl rfl fun w0 R0 hbase => ?_
 subst hbase
 show WC _ _ _ _ _ _ _ ([[(mb, .cells #[v] 180 (0, 0))], Ws, G, C, R0])
 refine WC.sub (fr' := [(0, _), (1, _)]) ?_ ⟨rfl, rfl, trivial⟩
 refine WC.seq (WC.region ?_)
 refine WL.q (oq_assign rfl) rfl rfl rfl ?_
 refine WL.q (oq_assign rfl) rfl rfl rfl ?_
 refine WL.nil (WE.then_normal (WC.sub (fr' := [(0, _), (1, _)]) ?_ ⟨rfl, rfl, trivial⟩))
 refine WC.seq (WC.seq (WC.region ?_))
 refine WL.q (oq_move rfl) rfl rfl rfl ?_
 refine WL.q (oq_nilCheck rfl) rfl rfl rfl ?_
 refine WL.q (oq_fieldAddr fld180_0 rfl) rfl rfl rfl ?_
 refine WL.q (oq_load flat176 rfl (.head _) (List.mem_singleton.2 rfl) rfl) rfl rfl rfl ?_
 refine WL.q (oq_len_rd hrw Tryz.underlying176 rfl) rfl rfl rfl ?_
 refine WL.q (oq_move rfl) rfl rfl rfl ?_
 refine WL.nil (WE.then_normal (WC.sub (fr' := [(1, _), (11, _), (12, _), (13, _)]) ?_ ⟨rfl, rfl, rfl, rfl, trivial⟩))
 refine WC.block ?_
 refine WC.loop (ι := Nat × Hp) (fun i_ => (fun (i : Nat) (X : Hp) => [(1, s), (11, v), (12, I (ws.length : Int)), (13, I (i : Int))]) i_.1 i_.2) (fun i_ => (fun (i : Nat) (X : Hp) => [[(mb, .cells #[v] 180 (0, 0))], Ws, X, C, R0]) i_.1 i_.2) (fun i_ => (fun (i : Nat) (X : Hp) => i ≤ ws.length ∧ St2 i X) i_.1 i_.2) (fun i_ => (fun (i : Nat) (X : Hp) => ws.length - i) i_.1 i_.2) ((0, G)) ?_ ⟨rfl, rfl, rfl, rfl, trivial⟩ (List.Perm.refl _) ?_
 ·try dsimp only
  exact ⟨by omega, hG⟩
 ·rintro ⟨i, X⟩ hp
  try dsimp only at hp
  obtain ⟨hi, hX⟩ := hp
  show WC _ _ _ _ _ _ ([(1, s), (11, v), (12, I (ws.length : Int)), (13, I (i : Int))]) ([[(mb, .cells #[v] 180 (0, 0))], Ws, X, C, R0])
  refine WC.seq (WC.region ?_)
  refine WL.q (oq_lss rfl rfl) rfl rfl rfl ?_
  refine WL.nil (WE.then_normal (WC.sub (fr' := [(1, _), (11, _), (12, _), (13, _), (14, _)]) ?_ ⟨rfl, rfl, rfl, rfl, rfl, trivial⟩))
  refine WC.seq ?_
  refine WC.cond rfl (fun q2 => ?_) (fun q2 => ?_)
  ·
   try simp only [Z1, Z2, Z3, Z4, Z5, Z6, Z7, Z8, Z9, Z0] at q2
   refine WC.skip (WE.then_normal (WC.sub (fr' := [(1, _), (11, _), (12, _), (13, _)]) ?_ ⟨rfl, rfl, rfl, rfl, trivial⟩))
   refine WC.seq (WC.block (WC.seq ?_))
   obtain ⟨k, r, f, hwi, hinv, hrun⟩ := hstep i (by omega)
   refine WC.region ?_
   refine WL.q (oq_ixaddr hrw Tryz.underlying176 ty151 rfl rfl (by (first | omega | (simp only [List.length_cons, List.length_nil, List.length_append, List.length_drop, List.length_take]; omega)))) rfl rfl rfl ?_
   refine WL.q (oq_load_el hrw (by repeat (first | exact .head _ | apply List.Mem.tail)) flat151 rfl (by omega) hwi) rfl rfl rfl ?_
   refine WL.q (oq_assign rfl) rfl rfl rfl ?_
   refine WL.nil (WE.then_normal (WC.sub (fr' := [(1, _), (7, _), (11, _), (12, _), (13, _)]) ?_ ⟨rfl, rfl, rfl, rfl, rfl, trivial⟩))
   refine WC.seq (WC.region ?_)
   refine WL.q (oq_move rfl) rfl rfl rfl ?_
   refine WL.q (oq_move rfl) rfl rfl rfl ?_
   refine WL.f3 ?_
   refine WL.f3 ?_
   refine WL.callWE (fun a w hf => ent_inv1 hinv rfl rfl hf w) (hrun X hX) rfl rfl rfl rfl fun v4_2 Hs4_2 hR4_2 => ?_
   obtain ⟨X2, rfl, rfl, hX2⟩ := hR4_2
   refine WL.app2 ?_
   refine WL.q (oq_move rfl) rfl rfl rfl ?_
   refine WL.q (oq_extract rfl rfl) rfl rfl rfl ?_
   refine WL.q (oq_extract rfl rfl) rfl rfl rfl ?_
   refine WL.q (oq_assign rfl) rfl rfl rfl ?_
   refine WL.q (oq_assign rfl) rfl rfl rfl ?_
   refine WL.nil (WE.then_normal (WC.sub (fr' := [(1, _), (4, _), (5, _), (11, _), (12, _), (13, _)]) ?_ ⟨rfl, rfl, rfl, rfl, rfl, rfl, trivial⟩))
   refine WC.seq (WC.seq (WC.region ?_))
   refine WL.q (oq_move rfl) rfl rfl rfl ?_
   refine WL.q (oq_ineq Tryz.underlying99 rfl (.inl rfl)) rfl rfl rfl ?_
   refine WL.nil (WE.then_normal (WC.sub (fr' := [(1, _), (4, _), (5, _), (11, _), (12, _), (13, _), (24, _)]) ?_ ⟨rfl, rfl, rfl, rfl, rfl, rfl, rfl, trivial⟩))
   refine WC.cond rfl (fun q5 => ?_) (fun q5 => ?_)
   ·
    try simp only [Z1, Z2, Z3, Z4, Z5, Z6, Z7, Z8, Z9, Z0] at q5
    first | contradiction | (exfalso; omega) | (exfalso; simp_all; done)
   ·
    try simp only [Z1, Z2, Z3, Z4, Z5, Z6, Z7, Z8, Z9, Z0] at q5
    refine WC.skip (WE.then_normal (WC.sub (fr' := [(1, _), (4, _), (11, _), (12, _), (13, _)]) ?_ ⟨rfl, rfl, rfl, rfl, rfl, trivial⟩))
    refine WC.seq (WC.region ?_)
    refine WL.q (oq_move rfl) rfl rfl rfl ?_
    refine WL.q (oq_move rfl) rfl rfl rfl ?_
    refine WL.q (oq_len_rd hr Tryz.underlying28 rfl) rfl rfl rfl ?_
    refine WL.q (oq_neq rfl rfl) rfl rfl rfl ?_
    refine WL.nil (WE.then_normal (WC.sub (fr' := [(1, _), (4, _), (11, _), (12, _), (13, _), (28, _)]) ?_ ⟨rfl, rfl, rfl, rfl, rfl, rfl, trivial⟩))
    refine WC.cond rfl (fun q6 => ?_) (fun q6 => ?_)
    ·
     try simp only [Z1, Z2, Z3, Z4, Z5, Z6, Z7, Z8, Z9, Z0] at q6
     first | contradiction | (exfalso; omega) | (exfalso; simp_all; done)
    ·
     try simp only [Z1, Z2, Z3, Z4, Z5, Z6, Z7, Z8, Z9, Z0] at q6
     refine WC.skip (WE.block_normal (WE.then_normal (WC.sub (fr' := [(1, _), (11, _), (12, _), (13, _)]) ?_ ⟨rfl, rfl, rfl, rfl, trivial⟩)))
     refine WC.region ?_
     refine WL.q (oq_add rfl rfl (by rw [i64_lo, i64_hi]; (first | omega | (simp only [List.length_cons, List.length_nil, List.length_append, List.length_drop, List.length_take]; omega)))) rfl rfl rfl ?_
     refine WL.q (oq_move rfl) rfl rfl rfl ?_
     refine WL.nil ?_
     refine WE.f4 ?_
     refine WE.f2 ?_
     refine WE.f2 ?_
     refine WE.f4 ?_
     refine WE.f4 ?_
     refine WE.again (i + 1, X2) ?_ ?_ ⟨rfl, rfl, rfl, rfl, trivial⟩ (List.Perm.refl _)
     ·try dsimp only
      exact ⟨by omega, hX2⟩
     ·(try dsimp only); omega
  ·
   try simp only [Z1, Z2, Z3, Z4, Z5, Z6, Z7, Z8, Z9, Z0] at q2
   refine WC.exit (WE.then_exit (WE.then_exit (WE.block_same (WE.then_normal (WC.sub (fr' := [(1, _)]) ?_ ⟨rfl, trivial⟩)))))
   refine WC.seq ?_
   obtain rfl : i = ws.length := by omega
   refine WC.region ?_
   refine WL.q (oq_move rfl) rfl rfl rfl ?_
   refine WL.q (oq_len_rd hr Tryz.underlying28 rfl) rfl rfl rfl ?_
   refine WL.q (oq_assign rfl) rfl rfl rfl ?_
   refine WL.q (oq_assign rfl) rfl rfl rfl ?_
   refine WL.nil (WE.then_normal (WC.sub (fr' := [(4, _), (5, _)]) ?_ ⟨rfl, rfl, trivial⟩))
   refine WC.ret ?_
   refine WE.endW4 (.inl rfl) (res2 Tryz.results197 rfl rfl) ?_
   exact ⟨_, rfl, rfl, hX⟩
theorem writeTo (base : Nat) (k : TypeId) (r : Value) (f : FuncId) (Wt : List UInt8 → Hp → Prop) (hW : Wr base k r f Wt) (acc0 : List UInt8) (G : Hp) (hG : Wt acc0 G) (bb B cap : Nat) (lr : Int) (L acc : List UInt8) (hB : base ≤ B) (hLc : L.length = cap) (hac : acc.length ≤ cap) (hc0 : 0 < cap) (hmx : cap ≤ maxLen) (hLt : L.take acc.length = acc) (ha0 : 0 < acc.length) (hal : acc0.length + acc.length ≤ 400000) : FnW Tryz.prog 135 [Pt bb 0, .iface k r] base [[(bb, .cells #[Sl B 0 acc.length cap, I 0, .int .i8 lr] 79 (0, 0))], Bf B 5 L, G] (fun w Hs => ∃ G2, w = .tuple #[I (acc.length : Int), .nilIface] ∧ Hs = [[(bb, .cells #[Sl B 0 0 cap, I 0, .int .i8 0] 79 (0, 0))], Bf B 5 L, G2] ∧ Wt (acc0 ++ acc) G2) := by
 have hmz : maxLen ≤ 9223372036854775807 := by unfold maxLen; omega
 have hrd : RdS 1 (Sl B 0 acc.length cap) (Bf B 5 L) acc.length (bytesV acc) := by have := Sl.rd (b := B) (off := 0) (n := acc.length) (c := cap) (e := 5) (l := L) (by omega) hac; rw [List.drop_zero, hLt] at this; exact this
 refine FnW.enter (n := 58) Tryz.func135 rfl rfl fun w0 R0 hbase => ?_
 subst hbase
 show WC _ _ _ _ _ _ _ ([[(bb, .cells #[Sl B 0 acc.length cap, I 0, .int .i8 lr] 79 (0, 0))], Bf B 5 L, G, R0])
 refine WC.sub (fr' := [(0, _), (1, _)]) ?_ ⟨rfl, rfl, trivial⟩
 refine WC.seq (WC.region ?_)
 refine WL.q (oq_assign rfl) rfl rfl rfl ?_
 refine WL.q (oq_assign rfl) rfl rfl rfl ?_
 refine WL.nil (WE.then_normal (WC.sub (fr' := [(0, _), (1, _), (4, _)]) ?_ ⟨rfl, rfl, rfl, trivial⟩))
 refine WC.seq (WC.region ?_)
 refine WL.q (oq_move rfl) rfl rfl rfl ?_
 refine WL.q (oq_nilCheck rfl) rfl rfl rfl ?_
 refine WL.q (oq_fieldAddr fld79_2 rfl) rfl rfl rfl ?_
 refine WL.store1 #[_, _, _] ty77 rfl rfl (by first | rfl | exact OwS.one one_) (Nat.lt_of_lt_of_le (Nat.lt_succ_self _) (Nat.le_of_ble_eq_true rfl)) rfl rfl ?_
 refine WL.nil (WE.then_normal (WC.sub (fr' := [(0, _), (1, _), (4, _)]) ?_ ⟨rfl, rfl, rfl, trivial⟩))
 refine WC.seq (WC.seq (WC.region ?_))
 refine WL.q (oq_move rfl) rfl rfl rfl ?_
 refine WL.qc (oq_callRm (bufLen bb acc.length cap (some ⟨B, 0, none⟩) 0 (by omega)) (.head _) call66 rfl) rfl rfl rfl ?_
 refine WL.q (oq_assign rfl) rfl rfl rfl ?_
 refine WL.nil (WE.then_normal (WC.sub (fr' := [(0, _), (1, _), (4, _), (6, _)]) ?_ ⟨rfl, rfl, rfl, rfl, trivial⟩))
 refine WC.seq (WC.region ?_)
 refine WL.q (oq_move rfl) rfl rfl rfl ?_
 refine WL.q (oq_gtr rfl rfl) rfl rfl rfl ?_
 refine WL.nil (WE.then_normal (WC.sub (fr' := [(0, _), (1, _), (4, _), (6, _), (15, _)]) ?_ ⟨rfl, rfl, rfl, rfl, rfl, trivial⟩))
 refine WC.cond rfl (fun q3 => ?_) (fun q3 => ?_)
 ·
  try simp only [Z1, Z2, Z3, Z4, Z5, Z6, Z7, Z8, Z9, Z0] at q3
  refine WC.seq ?_
  refine WC.tailM (pl := []) (ql := [_, _, _, _, _, _, _, _, _, _, _, _, _]) (tl := [_, _, _, _, _, _]) [] [0, 1, 2, 3, 4, 5, 6, 7, 8, 9, 10, 11, 12] 13 [14, 15, 16, 17, 18] (by kernel_rfl) (by kernel_rfl) (by kernel_rfl) (by kernel_rfl) (by kernel_rfl) (by kernel_rfl) (by decide) rfl rfl rfl (by decide) (by repeat (first | with_reducible exact QOk.body | with_reducible apply QOk.then | with_reducible apply QOk.block | exact QOk.body | apply QOk.then | apply QOk.block)) ?_
  refine WM.nil ?_
  refine WY.q (oq_move rfl) rfl rfl rfl ?_
  refine WY.q (oq_move rfl) rfl rfl rfl ?_
  refine WY.q (oq_nilCheck rfl) rfl rfl rfl ?_
  refine WY.q (oq_fieldAddr fld79_0 rfl) rfl rfl rfl ?_
  refine WY.q (oq_load flat28 rfl (.head _) (List.mem_singleton.2 rfl) rfl) rfl rfl rfl ?_
  refine WY.q (oq_move rfl) rfl rfl rfl ?_
  refine WY.q (oq_nilCheck rfl) rfl rfl rfl ?_
  refine WY.q (oq_fieldAddr fld79_1 rfl) rfl rfl rfl ?_
  refine WY.q (oq_load flat3 rfl (.head _) (List.mem_singleton.2 rfl) rfl) rfl rfl rfl ?_
  refine WY.q (oq_sliceSl (i := 0) Tryz.underlying28 ty5 rfl (by omega) ⟨_, rfl⟩ rfl (by omega) (by omega)) rfl rfl rfl ?_
  refine WY.q (oq_makeMeth rfl) rfl rfl rfl ?_
  refine WY.q (oq_nilMeth rfl (hW.nok)) rfl rfl rfl ?_
  refine WY.q (oq_move rfl) rfl rfl rfl ?_
  refine WY.nil ?_
  refine WL.f1 ?_
  refine WL.f2 ?_
  refine WL.callWE (fun a w hf => ent_inv1 hW.inv rfl rfl hf w) (hW.run acc0 G _ (Bf B 5 L) acc hG hrd hal (by omega)) rfl rfl rfl rfl fun v4_13 Hs4_13 hR4_13 => ?_
  obtain ⟨G2, rfl, rfl, hG2⟩ := hR4_13
  refine WL.app2 ?_
  refine WL.q (oq_move rfl) rfl rfl rfl ?_
  refine WL.q (oq_extract rfl rfl) rfl rfl rfl ?_
  refine WL.q (oq_extract rfl rfl) rfl rfl rfl ?_
  refine WL.q (oq_assign rfl) rfl rfl rfl ?_
  refine WL.q (oq_assign rfl) rfl rfl rfl ?_
  refine WL.nil (WE.then_normal (WC.sub (fr' := [(0, _), (6, _), (7, _), (8, _)]) ?_ ⟨rfl, rfl, rfl, rfl, trivial⟩))
  refine WC.seq (WC.seq (WC.region ?_))
  refine WL.q (oq_move rfl) rfl rfl rfl ?_
  refine WL.q (oq_move rfl) rfl rfl rfl ?_
  refine WL.q (oq_gtr rfl rfl) rfl rfl rfl ?_
  refine WL.nil (WE.then_normal (WC.sub (fr' := [(0, _), (6, _), (7, _), (8, _), (35, _)]) ?_ ⟨rfl, rfl, rfl, rfl, rfl, trivial⟩))
  refine WC.cond rfl (fun q5 => ?_) (fun q5 => ?_)
  ·
   try simp only [Z1, Z2, Z3, Z4, Z5, Z6, Z7, Z8, Z9, Z0] at q5
   first | contradiction | (exfalso; omega) | (exfalso; simp_all; done)
  ·
   try simp only [Z1, Z2, Z3, Z4, Z5, Z6, Z7, Z8, Z9, Z0] at q5
   refine WC.skip (WE.then_normal (WC.sub (fr' := [(0, _), (6, _), (7, _), (8, _)]) ?_ ⟨rfl, rfl, rfl, rfl, trivial⟩))
   refine WC.seq (WC.region ?_)
   refine WL.q (oq_move rfl) rfl rfl rfl ?_
   refine WL.q (oq_nilCheck rfl) rfl rfl rfl ?_
   refine WL.q (oq_fieldAddr fld79_1 rfl) rfl rfl rfl ?_
   refine WL.q (oq_load flat3 rfl (.tail _ (.tail _ (.head _))) (List.mem_singleton.2 rfl) rfl) rfl rfl rfl ?_
   refine WL.q (oq_move rfl) rfl rfl rfl ?_
   refine WL.q (oq_add rfl rfl (by rw [i64_lo, i64_hi]; (first | omega | (simp only [List.length_cons, List.length_nil, List.length_append, List.length_drop, List.length_take]; omega)))) rfl rfl rfl ?_
   refine WL.q (oq_nilCheck rfl) rfl rfl rfl ?_
   refine WL.q (oq_fieldAddr fld79_1 rfl) rfl rfl rfl ?_
   refine WL.f2 ?_
   refine WL.store1 #[_, _, _] ty3 rfl rfl (by first | rfl | exact OwS.one one_) (Nat.lt_of_lt_of_le (Nat.lt_succ_self _) (Nat.le_of_ble_eq_true rfl)) rfl rfl ?_
   refine WL.nil (WE.then_normal (WC.sub (fr' := [(0, _), (6, _), (7, _), (8, _)]) ?_ ⟨rfl, rfl, rfl, rfl, trivial⟩))
   refine WC.seq (WC.region ?_)
   refine WL.q (oq_move rfl) rfl rfl rfl ?_
   refine WL.q (oq_assign rfl) rfl rfl rfl ?_
   refine WL.nil (WE.then_normal (WC.sub (fr' := [(0, _), (4, _), (6, _), (7, _), (8, _)]) ?_ ⟨rfl, rfl, rfl, rfl, rfl, trivial⟩))
   refine WC.seq (WC.seq (WC.region ?_))
   refine WL.q (oq_move rfl) rfl rfl rfl ?_
   refine WL.q (oq_ineq Tryz.underlying99 rfl (.inl rfl)) rfl rfl rfl ?_
   refine WL.nil (WE.then_normal (WC.sub (fr' := [(0, _), (4, _), (6, _), (7, _), (8, _), (47, _)]) ?_ ⟨rfl, rfl, rfl, rfl, rfl, rfl, trivial⟩))
   refine WC.cond rfl (fun q9 => ?_) (fun q9 => ?_)
   ·
    try simp only [Z1, Z2, Z3, Z4, Z5, Z6, Z7, Z8, Z9, Z0] at q9
    first | contradiction | (exfalso; omega) | (exfalso; simp_all; done)
   ·
    try simp only [Z1, Z2, Z3, Z4, Z5, Z6, Z7, Z8, Z9, Z0] at q9
    refine WC.skip (WE.then_normal (WC.sub (fr' := [(0, _), (4, _), (6, _), (7, _)]) ?_ ⟨rfl, rfl, rfl, rfl, trivial⟩))
    refine WC.seq (WC.region ?_)
    refine WL.q (oq_move rfl) rfl rfl rfl ?_
    refine WL.q (oq_move rfl) rfl rfl rfl ?_
    refine WL.q (oq_neq rfl rfl) rfl rfl rfl ?_
    refine WL.nil (WE.then_normal (WC.sub (fr' := [(0, _), (4, _), (52, _)]) ?_ ⟨rfl, rfl, rfl, trivial⟩))
    refine WC.cond rfl (fun q11 => ?_) (fun q11 => ?_)
    ·
     try simp only [Z1, Z2, Z3, Z4, Z5, Z6, Z7, Z8, Z9, Z0] at q11
     first | contradiction | (exfalso; omega) | (exfalso; simp_all; done)
    ·
     try simp only [Z1, Z2, Z3, Z4, Z5, Z6, Z7, Z8, Z9, Z0] at q11
     refine WC.skip (WE.then_normal (WC.sub (fr' := [(0, _), (4, _)]) ?_ ⟨rfl, rfl, trivial⟩))
     refine WC.seq (WC.region ?_)
     refine WL.q (oq_move rfl) rfl rfl rfl ?_
     refine WL.callW1 (reset1 _ bb 0 _ B acc.length cap hac hc0) call63 rfl rfl rfl fun v13_1 Hs13_1 hR13_1 => ?_
     obtain ⟨rfl, rfl⟩ := hR13_1
     refine WL.to1 ?_
     refine WL.nil (WE.then_normal (WC.sub (fr' := [(4, _)]) ?_ ⟨rfl, trivial⟩))
     refine WC.seq (WC.region ?_)
     refine WL.q (oq_move rfl) rfl rfl rfl ?_
     refine WL.q (oq_assign rfl) rfl rfl rfl ?_
     refine WL.q (oq_assign rfl) rfl rfl rfl ?_
     refine WL.nil (WE.then_normal (WC.sub (fr' := [(4, _), (5, _)]) ?_ ⟨rfl, rfl, trivial⟩))
     refine WC.ret ?_
     refine WE.f3 ?_
     refine WE.f2 ?_
     refine WE.f3 ?_
     refine WE.f3 ?_
     refine WE.endW3 (.inl rfl) (res2 Tryz.results135 rfl rfl) ?_
     exact ⟨_, rfl, rfl, hG2⟩
 ·
  try simp only [Z1, Z2, Z3, Z4, Z5, Z6, Z7, Z8, Z9, Z0] at q3
  first | contradiction | (exfalso; omega) | (exfalso; simp_all; done)
theorem copyBuf (base : Nat) (k : TypeId) (r : Value) (f : FuncId) (Wt : List UInt8 → Hp → Prop) (hW : Wr base k r f Wt) (acc0 : List UInt8) (G : Hp) (hG : Wt acc0 G) (bb B cap : Nat) (lr : Int) (L acc : List UInt8) (hB : base ≤ B) (hLc : L.length = cap) (hac : acc.length ≤ cap) (hc0 : 0 < cap) (hmx : cap ≤ maxLen) (hLt : L.take acc.length = acc) (ha0 : 0 < acc.length) (hal : acc0.length + acc.length ≤ 400000) : FnW Tryz.prog 78 [.iface k r, .iface 107 (Pt bb 0), .slice none 0 0] base [[(bb, .cells #[Sl B 0 acc.length cap, I 0, .int .i8 lr] 79 (0, 0))], Bf B 5 L, G] (fun w Hs => ∃ G2, w = .tuple #[I (acc.length : Int), .nilIface] ∧ Hs = [[(bb, .cells #[Sl B 0 0 cap, I 0, .int .i8 0] 79 (0, 0))], Bf B 5 L, G2] ∧ Wt (acc0 ++ acc) G2) := by
 refine FnW.enter (n := 115) Tryz.func78 rfl rfl fun w0 R0 hbase => ?_
 subst hbase
 show WC _ _ _ _ _ _ _ ([[(bb, .cells #[Sl B 0 acc.length cap, I 0, .int .i8 lr] 79 (0, 0))], Bf B 5 L, G, R0])
 refine WC.sub (fr' := [(0, _), (1, _), (2, _)]) ?_ ⟨rfl, rfl, rfl, trivial⟩
 refine WC.seq (WC.region ?_)
 refine WL.q (oq_assign rfl) rfl rfl rfl ?_
 refine WL.q (oq_assign rfl) rfl rfl rfl ?_
 refine WL.nil (WE.then_normal (WC.sub (fr' := [(0, _), (1, _), (2, _), (6, _), (7, _)]) ?_ ⟨rfl, rfl, rfl, rfl, rfl, trivial⟩))
 refine WC.seq (WC.seq (WC.region ?_))
 refine WL.q (oq_move rfl) rfl rfl rfl ?_
 refine WL.q (oq_askYes askBT rfl) rfl rfl rfl ?_
 refine WL.q (oq_move rfl) rfl rfl rfl ?_
 refine WL.q (oq_extract rfl rfl) rfl rfl rfl ?_
 refine WL.q (oq_extract rfl rfl) rfl rfl rfl ?_
 refine WL.q (oq_assign rfl) rfl rfl rfl ?_
 refine WL.q (oq_assign rfl) rfl rfl rfl ?_
 refine WL.nil (WE.then_normal (WC.sub (fr' := [(0, _), (1, _), (2, _), (6, _), (7, _), (8, _), (9, _)]) ?_ ⟨rfl, rfl, rfl, rfl, rfl, rfl, rfl, trivial⟩))
 refine WC.seq (WC.region ?_)
 refine WL.q (oq_move rfl) rfl rfl rfl ?_
 refine WL.nil (WE.then_normal (WC.sub (fr' := [(0, _), (1, _), (2, _), (6, _), (7, _), (8, _), (24, _)]) ?_ ⟨rfl, rfl, rfl, rfl, rfl, rfl, rfl, trivial⟩))
 refine WC.cond rfl (fun q2 => ?_) (fun q2 => ?_)
 ·
  try simp only [Z1, Z2, Z3, Z4, Z5, Z6, Z7, Z8, Z9, Z0] at q2
  refine WC.seq (WC.region ?_)
  refine WL.q (oq_move rfl) rfl rfl rfl ?_
  refine WL.q (oq_move rfl) rfl rfl rfl ?_
  refine WL.f2 ?_
  refine WL.f2 ?_
  refine WL.f2 ?_
  refine WL.callWE (fun a w hf => ent_inv1 invBT rfl rfl hf w) (writeTo _ k r f Wt hW acc0 G hG bb B cap lr L acc hB hLc hac hc0 hmx hLt ha0 hal) rfl rfl rfl rfl fun v3_2 Hs3_2 hR3_2 => ?_
  obtain ⟨G2, rfl, rfl, hG2⟩ := hR3_2
  refine WL.app3 ?_
  refine WL.q (oq_extract rfl rfl) rfl rfl rfl ?_
  refine WL.q (oq_extract rfl rfl) rfl rfl rfl ?_
  refine WL.q (oq_assign rfl) rfl rfl rfl ?_
  refine WL.q (oq_assign rfl) rfl rfl rfl ?_
  refine WL.nil (WE.then_normal (WC.sub (fr' := [(6, _), (7, _)]) ?_ ⟨rfl, rfl, trivial⟩))
  refine WC.ret (WE.then_ret ?_)
  refine WE.endW3 (.inl rfl) (res2 Tryz.results78 rfl rfl) ?_
  exact ⟨_, rfl, rfl, hG2⟩
 ·
  try simp only [Z1, Z2, Z3, Z4, Z5, Z6, Z7, Z8, Z9, Z0] at q2
  first | contradiction | (exfalso; omega) | (exfalso; simp_all; done)
theorem copy_ (base : Nat) (k : TypeId) (r : Value) (f : FuncId) (Wt : List UInt8 → Hp → Prop) (hW : Wr base k r f Wt) (acc0 : List UInt8) (G : Hp) (hG : Wt acc0 G) (bb B cap : Nat) (lr : Int) (L acc : List UInt8) (hB : base ≤ B) (hLc : L.length = cap) (hac : acc.length ≤ cap) (hc0 : 0 < cap) (hmx : cap ≤ maxLen) (hLt : L.take acc.length = acc) (ha0 : 0 < acc.length) (hal : acc0.length + acc.length ≤ 400000) : FnW Tryz.prog 68 [.iface k r, .iface 107 (Pt bb 0)] base [[(bb, .cells #[Sl B 0 acc.length cap, I 0, .int .i8 lr] 79 (0, 0))], Bf B 5 L, G] (fun w Hs => ∃ G2, w = .tuple #[I (acc.length : Int), .nilIface] ∧ Hs = [[(bb, .cells #[Sl B 0 0 cap, I 0, .int .i8 0] 79 (0, 0))], Bf B 5 L, G2] ∧ Wt (acc0 ++ acc) G2) := by
 refine FnW.enter (n := 11) Tryz.func68 rfl rfl fun w0 R0 hbase => ?_
 subst hbase
 show WC _ _ _ _ _ _ _ ([[(bb, .cells #[Sl B 0 acc.length cap, I 0, .int .i8 lr] 79 (0, 0))], Bf B 5 L, G, R0])
 refine WC.sub (fr' := [(0, _), (1, _)]) ?_ ⟨rfl, rfl, trivial⟩
 refine WC.seq (WC.region ?_)
 refine WL.q (oq_assign rfl) rfl rfl rfl ?_
 refine WL.q (oq_assign rfl) rfl rfl rfl ?_
 refine WL.nil (WE.then_normal (WC.sub (fr' := [(0, _), (1, _)]) ?_ ⟨rfl, rfl, trivial⟩))
 refine WC.seq (WC.region ?_)
 refine WL.q (oq_move rfl) rfl rfl rfl ?_
 refine WL.q (oq_move rfl) rfl rfl rfl ?_
 refine WL.f2 ?_
 refine WL.f2 ?_
 refine WL.f2 ?_
 refine WL.callW3 (copyBuf _ k r f Wt hW acc0 G hG bb B cap lr L acc hB hLc hac hc0 hmx hLt ha0 hal) call78 rfl rfl rfl fun v1_2 Hs1_2 hR1_2 => ?_
 obtain ⟨G2, rfl, rfl, hG2⟩ := hR1_2
 refine WL.to3 ?_
 refine WL.q (oq_extract rfl rfl) rfl rfl rfl ?_
 refine WL.q (oq_extract rfl rfl) rfl rfl rfl ?_
 refine WL.q (oq_assign rfl) rfl rfl rfl ?_
 refine WL.q (oq_assign rfl) rfl rfl rfl ?_
 refine WL.nil (WE.then_normal (WC.sub (fr' := [(4, _), (5, _)]) ?_ ⟨rfl, rfl, trivial⟩))
 refine WC.ret ?_
 refine WE.endW3 (.inl rfl) (res2 Tryz.results68 rfl rfl) ?_
 exact ⟨_, rfl, rfl, hG2⟩
theorem bufBytes (bb B len cap : Nat) (lr : Int) (hlc : len ≤ cap) (hc0 : 0 < cap) : FnR Tryz.prog 47 [Pt bb 0] [(bb, .cells #[Sl B 0 len cap, I 0, .int .i8 lr] 79 (0, 0))] (Sl B 0 len cap) := by
 refine FnR.enter (n := 12) Tryz.func47 rfl rfl fun w0 => ?_
 refine WC.sub (fr' := [(0, _)]) ?_ ⟨rfl, trivial⟩
 refine WC.seq (WC.region ?_)
 refine WL.q (oq_assign rfl) rfl rfl rfl ?_
 refine WL.nil (WE.then_normal (WC.sub (fr' := [(0, _)]) ?_ ⟨rfl, trivial⟩))
 refine WC.seq (WC.quiet (by kernel_rfl) (by kernel_rfl) ?_)
 refine WQ.q (oq_move rfl) rfl rfl rfl ?_
 refine WQ.q (oq_nilCheck rfl) rfl rfl rfl ?_
 refine WQ.q (oq_fieldAddr fld79_0 rfl) rfl rfl rfl ?_
 refine WQ.q (oq_load flat28 rfl (.head _) (List.mem_singleton.2 rfl) rfl) rfl rfl rfl ?_
 refine WQ.q (oq_move rfl) rfl rfl rfl ?_
 refine WQ.q (oq_nilCheck rfl) rfl rfl rfl ?_
 refine WQ.q (oq_fieldAddr fld79_1 rfl) rfl rfl rfl ?_
 refine WQ.q (oq_load flat3 rfl (.head _) (List.mem_singleton.2 rfl) rfl) rfl rfl rfl ?_
 refine WQ.q (oq_sliceSl (i := 0) Tryz.underlying28 ty5 rfl (by omega) ⟨_, rfl⟩ rfl (by omega) (by omega)) rfl rfl rfl ?_
 refine WQ.q (oq_assign rfl) rfl rfl rfl ?_
 refine WQ.nil (WE.then_normal (WC.sub (fr' := [(2, _)]) ?_ ⟨rfl, trivial⟩))
 refine WC.ret ?_
 refine WE.endR (.inl rfl) (res1 Tryz.results47 rfl) ?_
 rfl
theorem bufBytes0 (bb : Nat) (lr : Int) : FnR Tryz.prog 47 [Pt bb 0] [(bb, .cells #[.slice none 0 0, I 0, .int .i8 lr] 79 (0, 0))] (.slice none 0 0) := by
 refine FnR.enter (n := 12) Tryz.func47 rfl rfl fun w0 => ?_
 refine WC.sub (fr' := [(0, _)]) ?_ ⟨rfl, trivial⟩
 refine WC.seq (WC.region ?_)
 refine WL.q (oq_assign rfl) rfl rfl rfl ?_
 refine WL.nil (WE.then_normal (WC.sub (fr' := [(0, _)]) ?_ ⟨rfl, trivial⟩))
 refine WC.seq (WC.quiet (by kernel_rfl) (by kernel_rfl) ?_)
 refine WQ.q (oq_move rfl) rfl rfl rfl ?_
 refine WQ.q (oq_nilCheck rfl) rfl rfl rfl ?_
 refine WQ.q (oq_fieldAddr fld79_0 rfl) rfl rfl rfl ?_
 refine WQ.q (oq_load flat28 rfl (.head _) (List.mem_singleton.2 rfl) rfl) rfl rfl rfl ?_
 refine WQ.q (oq_move rfl) rfl rfl rfl ?_
 refine WQ.q (oq_nilCheck rfl) rfl rfl rfl ?_
 refine WQ.q (oq_fieldAddr fld79_1 rfl) rfl rfl rfl ?_
 refine WQ.q (oq_load flat3 rfl (.head _) (List.mem_singleton.2 rfl) rfl) rfl rfl rfl ?_
 refine WQ.q (oq_sliceNil Tryz.underlying28 ty5 rfl rfl) rfl rfl rfl ?_
 refine WQ.q (oq_assign rfl) rfl rfl rfl ?_
 refine WQ.nil (WE.then_normal (WC.sub (fr' := [(2, _)]) ?_ ⟨rfl, trivial⟩))
 refine WC.ret ?_
 refine WE.endR (.inl rfl) (res1 Tryz.results47 rfl) ?_
 rfl
theorem newBuf  : FnA Tryz.prog 62 [.slice none 0 0] [] (fun w N => ∃ bb, w = Pt bb 0 ∧ N = BB bb (.slice none 0 0) 0) := by
 refine FnA.enter0 (n := 6) Tryz.func62 rfl rfl fun w0 => ?_
 refine WC.sub (fr' := [(0, _)]) ?_ ⟨rfl, trivial⟩
 refine WC.seq (WC.region ?_)
 refine WL.q (oq_assign rfl) rfl rfl rfl ?_
 refine WL.nil (WE.then_normal (WC.sub (fr' := [(0, _)]) ?_ ⟨rfl, trivial⟩))
 refine WC.seq (WC.region ?_)
 refine WL.q (oq_move rfl) rfl rfl rfl ?_
 refine WL.q (oq_build #[_, _, _] str79 ty79 rfl rfl) rfl rfl rfl ?_
 refine WL.box rfl rfl rfl fun b1_2 hb1_2 => ?_
 refine WL.q (oq_assign rfl) rfl rfl rfl ?_
 refine WL.nil (WE.then_normal (WC.sub (fr' := [(2, _)]) ?_ ⟨rfl, trivial⟩))
 refine WC.ret ?_
 refine WE.endA0 (.inl rfl) (res1 Tryz.results62 rfl) ?_ (fresh1 hb1_2)
 exact ⟨_, rfl, rfl⟩
end ED
end Go.Proofs.YtodlhaghdplclaaGreatDoor
/- Numbers as bytes. -/
namespace Go.Proofs.YtodlhaghdplclaaGreatDoor
open Go Go.RowKit V EA EB EC ED
set_option linter.unusedSimpArgs false
set_option linter.unusedVariables false
set_option maxRecDepth 10000
namespace EE
theorem flat20 : Flat Tryz.prog 20 := ⟨_, Tryz.underlying20, by simp⟩
theorem ty2 : Ty Tryz.prog 2 (.int .i64 0) 1 8 := ty_of (by kernel_rfl)
theorem ty5 : Ty Tryz.prog 5 (.int .u8 0) 1 1 := ty_of (by kernel_rfl)
theorem ty20 : Ty Tryz.prog 20 .nilIface 1 16 := ty_of (by kernel_rfl)
theorem ty74 : Ty Tryz.prog 74 (.int .u32 0) 1 4 := ty_of (by kernel_rfl)
theorem ty127 : Ty Tryz.prog 127 (.int .i8 0) 1 1 := ty_of (by kernel_rfl)
theorem ty129 : Ty Tryz.prog 129 (.int .i16 0) 1 2 := ty_of (by kernel_rfl)
theorem ty130 : Ty Tryz.prog 130 (.int .i32 0) 1 4 := ty_of (by kernel_rfl)
theorem ty131 : Ty Tryz.prog 131 (.int .i64 0) 1 8 := ty_of (by kernel_rfl)
theorem ty185 : Ty Tryz.prog 185 (.int .u8 0) 1 1 := ty_of (by kernel_rfl)
theorem ty186 : Ty Tryz.prog 186 (.int .u16 0) 1 2 := ty_of (by kernel_rfl)
theorem conc2 : Conc Tryz.prog 2 := ⟨_, Tryz.underlying2, by simp⟩
theorem conc5 : Conc Tryz.prog 5 := ⟨_, Tryz.underlying5, by simp⟩
theorem conc74 : Conc Tryz.prog 74 := ⟨_, Tryz.underlying74, by simp⟩
theorem conc127 : Conc Tryz.prog 127 := ⟨_, Tryz.underlying127, by simp⟩
theorem conc129 : Conc Tryz.prog 129 := ⟨_, Tryz.underlying129, by simp⟩
theorem conc130 : Conc Tryz.prog 130 := ⟨_, Tryz.underlying130, by simp⟩
theorem conc131 : Conc Tryz.prog 131 := ⟨_, Tryz.underlying131, by simp⟩
theorem conc185 : Conc Tryz.prog 185 := ⟨_, Tryz.underlying185, by simp⟩
theorem conc186 : Conc Tryz.prog 186 := ⟨_, Tryz.underlying186, by simp⟩
structure Num where
 k : TypeId
 ik : IntKind
 w : Nat
 x : Int
def Num.val (d : Num) : Value := .iface d.k (.int d.ik d.x)
def Num.kinds : List (TypeId × IntKind × Nat) := [(185, .u8, 1), (5, .u8, 1), (127, .i8, 1), (186, .u16, 2), (129, .i16, 2), (74, .u32, 4), (130, .i32, 4), (2, .i64, 8), (131, .i64, 8)]
def Num.ok (d : Num) : Prop := (d.k, d.ik, d.w) ∈ Num.kinds
theorem Num.ok.w8 {d : Num} (h : d.ok) : d.w ≤ 8 ∧ 1 ≤ d.w := by
 unfold Num.ok Num.kinds at h
 simp only [List.mem_cons, Prod.mk.injEq, List.not_mem_nil, or_false] at h
 omega
theorem Num.of {d : Num} {k : Nat} {ik : IntKind} {w : Nat} (h : d.ok) (hk : d.k = k) (hm : ((Num.kinds.find? (fun r => r.1 == k)).map fun r => (r.2.1, r.2.2)) = some (ik, w)) : d.ik = ik ∧ d.w = w := by
 obtain ⟨k', ik', w', x⟩ := d
 subst hk
 unfold Num.ok Num.kinds at h
 simp only [List.mem_cons, Prod.mk.injEq, List.not_mem_nil, or_false] at h
 rcases h with ⟨rfl, rfl, rfl⟩ | ⟨rfl, rfl, rfl⟩ | ⟨rfl, rfl, rfl⟩ | ⟨rfl, rfl, rfl⟩ | ⟨rfl, rfl, rfl⟩ | ⟨rfl, rfl, rfl⟩ | ⟨rfl, rfl, rfl⟩ | ⟨rfl, rfl, rfl⟩ | ⟨rfl, rfl, rfl⟩ <;> (simp [Num.kinds, List.find?] at hm; simp [hm])
def bytesN (ds : List Num) : List UInt8 := ds.flatMap fun d => be d.w d.x
theorem bytesN_snoc (ds : List Num) (i : Nat) (h : i < ds.length) : bytesN (ds.take (i + 1)) = bytesN (ds.take i) ++ be ds[i].w ds[i].x := by
 unfold bytesN; rw [List.take_add_one, List.flatMap_append, List.getElem?_eq_getElem h]; simp
theorem bytesN_len (ds : List Num) (h : ∀ d ∈ ds, d.ok) : (bytesN ds).length ≤ 8 * ds.length := by
 unfold bytesN
 induction ds with
 | nil => simp
 | cons d r ih =>
  have h1 := ih fun d hd => h d (List.mem_cons_of_mem _ hd)
  have h2 := (h d List.mem_cons_self).w8
  rw [List.flatMap_cons, List.length_append, be_len, List.length_cons]; omega
theorem be_u64 (w : Nat) (x : Int) (h : w ≤ 8) : be w (IntKind.u64.wrap x) = be w x := by
 have e : IntKind.u64.wrap x = x % 2 ^ (8 * 8) := by simp [IntKind.wrap, IntKind.signed, IntKind.bits]
 rw [e, be_mod w 8 x h]
theorem zzWrite (base : Nat) (k : TypeId) (r : Value) (f : FuncId) (Wt : List UInt8 → Hp → Prop) (hW : Wr base k r f Wt) (acc0 : List UInt8) (G : Hp) (hG : Wt acc0 G) (v : Value) (D : Hp) (ds : List Num) (hr : RdS 1 v D ds.length (ds.map Num.val)) (hds : ∀ d ∈ ds, d.ok) (hdn : ds.length ≤ 1000) (hal : acc0.length + 8 * ds.length ≤ 300000) : FnW Tryz.prog 70 [.iface k r, v] base [D, G] (fun w Hs => ∃ G2, w = .nilIface ∧ Hs = [D, G2] ∧ Wt (acc0 ++ bytesN ds) G2) := by
 refine FnW.enter (n := 98) Tryz.func70 rfl rfl fun w0 R0 hbase => ?_
 subst hbase
 show WC _ _ _ _ _ _ _ ([D, G, R0])
 refine WC.sub (fr' := [(0, _), (1, _)]) ?_ ⟨rfl, rfl, trivial⟩
 refine WC.seq (WC.region ?_)
 refine WL.q (oq_assign rfl) rfl rfl rfl ?_
 refine WL.nil (WE.then_normal (WC.sub (fr' := [(0, _), (1, _)]) ?_ ⟨rfl, rfl, trivial⟩))
 refine WC.seq (WC.seq (WC.region ?_))
 refine WL.q (oq_move rfl) rfl rfl rfl ?_
 refine WL.q (oq_len_rd hr Tryz.underlying184 rfl) rfl rfl rfl ?_
 refine WL.q (oq_move rfl) rfl rfl rfl ?_
 refine WL.nil (WE.then_normal (WC.sub (fr' := [(0, _), (22, _), (23, _), (24, _)]) ?_ ⟨rfl, rfl, rfl, rfl, trivial⟩))
 refine WC.block ?_
 refine WC.loop (ι := Nat × Hp) (fun i_ => (fun (i : Nat) (X : Hp) => [(0, .iface k r), (22, v), (23, I (ds.length : Int)), (24, I (i : Int))]) i_.1 i_.2) (fun i_ => (fun (i : Nat) (X : Hp) => [D, X, R0]) i_.1 i_.2) (fun i_ => (fun (i : Nat) (X : Hp) => i ≤ ds.length ∧ Wt (acc0 ++ bytesN (ds.take i)) X) i_.1 i_.2) (fun i_ => (fun (i : Nat) (X : Hp) => ds.length - i) i_.1 i_.2) ((0, G)) ?_ ⟨rfl, rfl, rfl, rfl, trivial⟩ (List.Perm.refl _) ?_
 ·try dsimp only
  exact ⟨by omega, by simpa [bytesN] using hG⟩
 ·rintro ⟨i, X⟩ hp
  try dsimp only at hp
  obtain ⟨hi, hX⟩ := hp
  show WC _ _ _ _ _ _ ([(0, .iface k r), (22, v), (23, I (ds.length : Int)), (24, I (i : Int))]) ([D, X, R0])
  refine WC.seq (WC.region ?_)
  refine WL.q (oq_lss rfl rfl) rfl rfl rfl ?_
  refine WL.nil (WE.then_normal (WC.sub (fr' := [(0, _), (22, _), (23, _), (24, _), (25, _)]) ?_ ⟨rfl, rfl, rfl, rfl, rfl, trivial⟩))
  refine WC.seq ?_
  refine WC.cond rfl (fun q2 => ?_) (fun q2 => ?_)
  ·
   try simp only [Z1, Z2, Z3, Z4, Z5, Z6, Z7, Z8, Z9, Z0] at q2
   refine WC.skip (WE.then_normal (WC.sub (fr' := [(0, _), (22, _), (23, _), (24, _)]) ?_ ⟨rfl, rfl, rfl, rfl, trivial⟩))
   refine WC.seq (WC.block (WC.seq ?_))
   have hlt : i < ds.length := by omega
   have hok := hds ds[i] (List.getElem_mem hlt)
   obtain ⟨hw8, hw1⟩ := hok.w8
   refine WC.region ?_
   refine WL.q (oq_ixaddr hr Tryz.underlying184 ty20 rfl rfl (by (first | omega | (simp only [List.length_cons, List.length_nil, List.length_append, List.length_drop, List.length_take]; omega)))) rfl rfl rfl ?_
   refine WL.q (oq_load_el hr (by repeat (first | exact .head _ | apply List.Mem.tail)) flat20 rfl (by omega) (u := ds[i].val) (by rw [Int.toNat_natCast, List.getElem?_map, List.getElem?_eq_getElem hlt]; rfl)) rfl rfl rfl ?_
   refine WL.q (oq_assign rfl) rfl rfl rfl ?_
   refine WL.nil (WE.then_normal (WC.sub (fr' := [(0, _), (6, _), (22, _), (23, _), (24, _)]) ?_ ⟨rfl, rfl, rfl, rfl, rfl, trivial⟩))
   refine WC.seq (WC.region ?_)
   refine WL.q (oq_assign rfl) rfl rfl rfl ?_
   refine WL.nil (WE.then_normal (WC.sub (fr' := [(0, _), (6, _), (7, _), (22, _), (23, _), (24, _)]) ?_ ⟨rfl, rfl, rfl, rfl, rfl, rfl, trivial⟩))
   refine WC.seq (WC.region ?_)
   refine WL.q (oq_assign rfl) rfl rfl rfl ?_
   refine WL.nil (WE.then_normal (WC.sub (fr' := [(0, _), (6, _), (7, _), (8, _), (22, _), (23, _), (24, _)]) ?_ ⟨rfl, rfl, rfl, rfl, rfl, rfl, rfl, trivial⟩))
   refine WC.cut (ι := Unit) (fun _ => [(0, .iface k r), (7, .int .u64 (IntKind.u64.wrap ds[i].x)), (8, I (ds[i].w : Int)), (22, v), (23, I (ds.length : Int)), (24, I (i : Int))]) (fun _ => [D, X, R0]) (fun _ => True) ?_ ?_
   ·
    refine WC.seq (WC.region ?_)
    refine WL.q (oq_move rfl) rfl rfl rfl ?_
    refine WL.nil (WE.then_normal (WC.sub (fr' := [(0, _), (7, _), (8, _), (22, _), (23, _), (24, _), (28, _)]) ?_ ⟨rfl, rfl, rfl, rfl, rfl, rfl, rfl, trivial⟩))
    refine WC.block (WC.seq (WC.region ?_))
    refine WL.q (oq_askG conc185 ty185 rfl) rfl rfl rfl ?_
    refine WL.q (oq_extract rfl rfl) rfl rfl rfl ?_
    refine WL.q (oq_extract rfl rfl) rfl rfl rfl ?_
    refine WL.nil (WE.then_normal (WC.sub (fr' := [(0, _), (7, _), (8, _), (22, _), (23, _), (24, _), (28, _), (30, _), (31, _)]) ?_ ⟨rfl, rfl, rfl, rfl, rfl, rfl, rfl, rfl, rfl, trivial⟩))
    refine WC.cond rfl (fun q7 => ?_) (fun q7 => ?_)
    ·
     try simp only [Z1, Z2, Z3, Z4, Z5, Z6, Z7, Z8, Z9, Z0] at q7
     refine WC.seq ?_
     rw [if_pos q7]
     obtain ⟨hik, hwd⟩ := Num.of (ik := .u8) (w := 1) hok q7 (by decide)
     rw [hik]
     refine WC.region ?_
     refine WL.q (oq_assign rfl) rfl rfl rfl ?_
     refine WL.nil (WE.then_normal (WC.sub (fr' := [(0, _), (9, _), (22, _), (23, _), (24, _)]) ?_ ⟨rfl, rfl, rfl, rfl, rfl, trivial⟩))
     refine WC.region ?_
     refine WL.q (oq_move rfl) rfl rfl rfl ?_
     refine WL.q (oq_convw Tryz.underlying185 Tryz.underlying73 rfl) rfl rfl rfl ?_
     refine WL.q (oq_assign rfl) rfl rfl rfl ?_
     refine WL.q (oq_assign rfl) rfl rfl rfl ?_
     refine WL.nil (WE.block_normal ?_)
     refine WE.meet () ?_ ⟨rfl, rfl, (gti rfl (by (try dsimp only); omega)), rfl, rfl, rfl, trivial⟩ (List.Perm.refl _)
     try dsimp only
     all_goals trivial
    ·
     try simp only [Z1, Z2, Z3, Z4, Z5, Z6, Z7, Z8, Z9, Z0] at q7
     refine WC.seq (WC.region ?_)
     refine WL.q (oq_askG conc5 ty5 rfl) rfl rfl rfl ?_
     refine WL.q (oq_extract rfl rfl) rfl rfl rfl ?_
     refine WL.q (oq_extract rfl rfl) rfl rfl rfl ?_
     refine WL.nil (WE.then_normal (WC.sub (fr' := [(0, _), (7, _), (8, _), (22, _), (23, _), (24, _), (28, _), (35, _), (36, _)]) ?_ ⟨rfl, rfl, rfl, rfl, rfl, rfl, rfl, rfl, rfl, trivial⟩))
     refine WC.cond rfl (fun q10 => ?_) (fun q10 => ?_)
     ·
      try simp only [Z1, Z2, Z3, Z4, Z5, Z6, Z7, Z8, Z9, Z0] at q10
      refine WC.seq ?_
      rw [if_pos q10]
      obtain ⟨hik, hwd⟩ := Num.of (ik := .u8) (w := 1) hok q10 (by decide)
      rw [hik]
      refine WC.region ?_
      refine WL.q (oq_assign rfl) rfl rfl rfl ?_
      refine WL.nil (WE.then_normal (WC.sub (fr' := [(0, _), (10, _), (22, _), (23, _), (24, _)]) ?_ ⟨rfl, rfl, rfl, rfl, rfl, trivial⟩))
      refine WC.region ?_
      refine WL.q (oq_move rfl) rfl rfl rfl ?_
      refine WL.q (oq_convw Tryz.underlying5 Tryz.underlying73 rfl) rfl rfl rfl ?_
      refine WL.q (oq_assign rfl) rfl rfl rfl ?_
      refine WL.q (oq_assign rfl) rfl rfl rfl ?_
      refine WL.nil (WE.block_normal ?_)
      refine WE.meet () ?_ ⟨rfl, rfl, (gti rfl (by (try dsimp only); omega)), rfl, rfl, rfl, trivial⟩ (List.Perm.refl _)
      try dsimp only
      all_goals trivial
     ·
      try simp only [Z1, Z2, Z3, Z4, Z5, Z6, Z7, Z8, Z9, Z0] at q10
      refine WC.seq (WC.region ?_)
      refine WL.q (oq_askG conc127 ty127 rfl) rfl rfl rfl ?_
      refine WL.q (oq_extract rfl rfl) rfl rfl rfl ?_
      refine WL.q (oq_extract rfl rfl) rfl rfl rfl ?_
      refine WL.nil (WE.then_normal (WC.sub (fr' := [(0, _), (7, _), (8, _), (22, _), (23, _), (24, _), (28, _), (40, _), (41, _)]) ?_ ⟨rfl, rfl, rfl, rfl, rfl, rfl, rfl, rfl, rfl, trivial⟩))
      refine WC.cond rfl (fun q13 => ?_) (fun q13 => ?_)
      ·
       try simp only [Z1, Z2, Z3, Z4, Z5, Z6, Z7, Z8, Z9, Z0] at q13
       refine WC.seq ?_
       rw [if_pos q13]
       obtain ⟨hik, hwd⟩ := Num.of (ik := .i8) (w := 1) hok q13 (by decide)
       rw [hik]
       refine WC.region ?_
       refine WL.q (oq_assign rfl) rfl rfl rfl ?_
       refine WL.nil (WE.then_normal (WC.sub (fr' := [(0, _), (11, _), (22, _), (23, _), (24, _)]) ?_ ⟨rfl, rfl, rfl, rfl, rfl, trivial⟩))
       refine WC.region ?_
       refine WL.q (oq_move rfl) rfl rfl rfl ?_
       refine WL.q (oq_convw Tryz.underlying127 Tryz.underlying73 rfl) rfl rfl rfl ?_
       refine WL.q (oq_assign rfl) rfl rfl rfl ?_
       refine WL.q (oq_assign rfl) rfl rfl rfl ?_
       refine WL.nil (WE.block_normal ?_)
       refine WE.meet () ?_ ⟨rfl, rfl, (gti rfl (by (try dsimp only); omega)), rfl, rfl, rfl, trivial⟩ (List.Perm.refl _)
       try dsimp only
       all_goals trivial
      ·
       try simp only [Z1, Z2, Z3, Z4, Z5, Z6, Z7, Z8, Z9, Z0] at q13
       refine WC.seq (WC.region ?_)
       refine WL.q (oq_askG conc186 ty186 rfl) rfl rfl rfl ?_
       refine WL.q (oq_extract rfl rfl) rfl rfl rfl ?_
       refine WL.q (oq_extract rfl rfl) rfl rfl rfl ?_
       refine WL.nil (WE.then_normal (WC.sub (fr' := [(0, _), (7, _), (8, _), (22, _), (23, _), (24, _), (28, _), (45, _), (46, _)]) ?_ ⟨rfl, rfl, rfl, rfl, rfl, rfl, rfl, rfl, rfl, trivial⟩))
       refine WC.cond rfl (fun q16 => ?_) (fun q16 => ?_)
       ·
        try simp only [Z1, Z2, Z3, Z4, Z5, Z6, Z7, Z8, Z9, Z0] at q16
        refine WC.seq ?_
        rw [if_pos q16]
        obtain ⟨hik, hwd⟩ := Num.of (ik := .u16) (w := 2) hok q16 (by decide)
        rw [hik]
        refine WC.region ?_
        refine WL.q (oq_assign rfl) rfl rfl rfl ?_
        refine WL.nil (WE.then_normal (WC.sub (fr' := [(0, _), (12, _), (22, _), (23, _), (24, _)]) ?_ ⟨rfl, rfl, rfl, rfl, rfl, trivial⟩))
        refine WC.region ?_
        refine WL.q (oq_move rfl) rfl rfl rfl ?_
        refine WL.q (oq_convw Tryz.underlying186 Tryz.underlying73 rfl) rfl rfl rfl ?_
        refine WL.q (oq_assign rfl) rfl rfl rfl ?_
        refine WL.q (oq_assign rfl) rfl rfl rfl ?_
        refine WL.nil (WE.block_normal ?_)
        refine WE.meet () ?_ ⟨rfl, rfl, (gti rfl (by (try dsimp only); omega)), rfl, rfl, rfl, trivial⟩ (List.Perm.refl _)
        try dsimp only
        all_goals trivial
       ·
        try simp only [Z1, Z2, Z3, Z4, Z5, Z6, Z7, Z8, Z9, Z0] at q16
        refine WC.seq (WC.region ?_)
        refine WL.q (oq_askG conc129 ty129 rfl) rfl rfl rfl ?_
        refine WL.q (oq_extract rfl rfl) rfl rfl rfl ?_
        refine WL.q (oq_extract rfl rfl) rfl rfl rfl ?_
        refine WL.nil (WE.then_normal (WC.sub (fr' := [(0, _), (7, _), (8, _), (22, _), (23, _), (24, _), (28, _), (50, _), (51, _)]) ?_ ⟨rfl, rfl, rfl, rfl, rfl, rfl, rfl, rfl, rfl, trivial⟩))
        refine WC.cond rfl (fun q19 => ?_) (fun q19 => ?_)
        ·
         try simp only [Z1, Z2, Z3, Z4, Z5, Z6, Z7, Z8, Z9, Z0] at q19
         refine WC.seq ?_
         rw [if_pos q19]
         obtain ⟨hik, hwd⟩ := Num.of (ik := .i16) (w := 2) hok q19 (by decide)
         rw [hik]
         refine WC.region ?_
         refine WL.q (oq_assign rfl) rfl rfl rfl ?_
         refine WL.nil (WE.then_normal (WC.sub (fr' := [(0, _), (13, _), (22, _), (23, _), (24, _)]) ?_ ⟨rfl, rfl, rfl, rfl, rfl, trivial⟩))
         refine WC.region ?_
         refine WL.q (oq_move rfl) rfl rfl rfl ?_
         refine WL.q (oq_convw Tryz.underlying129 Tryz.underlying73 rfl) rfl rfl rfl ?_
         refine WL.q (oq_assign rfl) rfl rfl rfl ?_
         refine WL.q (oq_assign rfl) rfl rfl rfl ?_
         refine WL.nil (WE.block_normal ?_)
         refine WE.meet () ?_ ⟨rfl, rfl, (gti rfl (by (try dsimp only); omega)), rfl, rfl, rfl, trivial⟩ (List.Perm.refl _)
         try dsimp only
         all_goals trivial
        ·
         try simp only [Z1, Z2, Z3, Z4, Z5, Z6, Z7, Z8, Z9, Z0] at q19
         refine WC.seq (WC.region ?_)
         refine WL.q (oq_askG conc74 ty74 rfl) rfl rfl rfl ?_
         refine WL.q (oq_extract rfl rfl) rfl rfl rfl ?_
         refine WL.q (oq_extract rfl rfl) rfl rfl rfl ?_
         refine WL.nil (WE.then_normal (WC.sub (fr' := [(0, _), (7, _), (8, _), (22, _), (23, _), (24, _), (28, _), (55, _), (56, _)]) ?_ ⟨rfl, rfl, rfl, rfl, rfl, rfl, rfl, rfl, rfl, trivial⟩))
         refine WC.cond rfl (fun q22 => ?_) (fun q22 => ?_)
         ·
          try simp only [Z1, Z2, Z3, Z4, Z5, Z6, Z7, Z8, Z9, Z0] at q22
          refine WC.seq ?_
          rw [if_pos q22]
          obtain ⟨hik, hwd⟩ := Num.of (ik := .u32) (w := 4) hok q22 (by decide)
          rw [hik]
          refine WC.region ?_
          refine WL.q (oq_assign rfl) rfl rfl rfl ?_
          refine WL.nil (WE.then_normal (WC.sub (fr' := [(0, _), (14, _), (22, _), (23, _), (24, _)]) ?_ ⟨rfl, rfl, rfl, rfl, rfl, trivial⟩))
          refine WC.region ?_
          refine WL.q (oq_move rfl) rfl rfl rfl ?_
          refine WL.q (oq_convw Tryz.underlying74 Tryz.underlying73 rfl) rfl rfl rfl ?_
          refine WL.q (oq_assign rfl) rfl rfl rfl ?_
          refine WL.q (oq_assign rfl) rfl rfl rfl ?_
          refine WL.nil (WE.block_normal ?_)
          refine WE.meet () ?_ ⟨rfl, rfl, (gti rfl (by (try dsimp only); omega)), rfl, rfl, rfl, trivial⟩ (List.Perm.refl _)
          try dsimp only
          all_goals trivial
         ·
          try simp only [Z1, Z2, Z3, Z4, Z5, Z6, Z7, Z8, Z9, Z0] at q22
          refine WC.seq (WC.region ?_)
          refine WL.q (oq_askG conc130 ty130 rfl) rfl rfl rfl ?_
          refine WL.q (oq_extract rfl rfl) rfl rfl rfl ?_
          refine WL.q (oq_extract rfl rfl) rfl rfl rfl ?_
          refine WL.nil (WE.then_normal (WC.sub (fr' := [(0, _), (7, _), (8, _), (22, _), (23, _), (24, _), (28, _), (60, _), (61, _)]) ?_ ⟨rfl, rfl, rfl, rfl, rfl, rfl, rfl, rfl, rfl, trivial⟩))
          refine WC.cond rfl (fun q25 => ?_) (fun q25 => ?_)
          ·
           try simp only [Z1, Z2, Z3, Z4, Z5, Z6, Z7, Z8, Z9, Z0] at q25
           refine WC.seq ?_
           rw [if_pos q25]
           obtain ⟨hik, hwd⟩ := Num.of (ik := .i32) (w := 4) hok q25 (by decide)
           rw [hik]
           refine WC.region ?_
           refine WL.q (oq_assign rfl) rfl rfl rfl ?_
           refine WL.nil (WE.then_normal (WC.sub (fr' := [(0, _), (15, _), (22, _), (23, _), (24, _)]) ?_ ⟨rfl, rfl, rfl, rfl, rfl, trivial⟩))
           refine WC.region ?_
           refine WL.q (oq_move rfl) rfl rfl rfl ?_
           refine WL.q (oq_convw Tryz.underlying130 Tryz.underlying73 rfl) rfl rfl rfl ?_
           refine WL.q (oq_assign rfl) rfl rfl rfl ?_
           refine WL.q (oq_assign rfl) rfl rfl rfl ?_
           refine WL.nil (WE.block_normal ?_)
           refine WE.meet () ?_ ⟨rfl, rfl, (gti rfl (by (try dsimp only); omega)), rfl, rfl, rfl, trivial⟩ (List.Perm.refl _)
           try dsimp only
           all_goals trivial
          ·
           try simp only [Z1, Z2, Z3, Z4, Z5, Z6, Z7, Z8, Z9, Z0] at q25
           refine WC.seq (WC.region ?_)
           refine WL.q (oq_askG conc2 ty2 rfl) rfl rfl rfl ?_
           refine WL.q (oq_extract rfl rfl) rfl rfl rfl ?_
           refine WL.q (oq_extract rfl rfl) rfl rfl rfl ?_
           refine WL.nil (WE.then_normal (WC.sub (fr' := [(0, _), (7, _), (8, _), (22, _), (23, _), (24, _), (28, _), (65, _), (66, _)]) ?_ ⟨rfl, rfl, rfl, rfl, rfl, rfl, rfl, rfl, rfl, trivial⟩))
           refine WC.cond rfl (fun q28 => ?_) (fun q28 => ?_)
           ·
            try simp only [Z1, Z2, Z3, Z4, Z5, Z6, Z7, Z8, Z9, Z0] at q28
            refine WC.seq ?_
            rw [if_pos q28]
            obtain ⟨hik, hwd⟩ := Num.of (ik := .i64) (w := 8) hok q28 (by decide)
            rw [hik]
            refine WC.region ?_
            refine WL.q (oq_assign rfl) rfl rfl rfl ?_
            refine WL.nil (WE.then_normal (WC.sub (fr' := [(0, _), (8, _), (16, _), (22, _), (23, _), (24, _)]) ?_ ⟨rfl, rfl, rfl, rfl, rfl, rfl, trivial⟩))
            refine WC.region ?_
            refine WL.q (oq_move rfl) rfl rfl rfl ?_
            refine WL.q (oq_convw Tryz.underlying2 Tryz.underlying73 rfl) rfl rfl rfl ?_
            refine WL.q (oq_assign rfl) rfl rfl rfl ?_
            refine WL.nil (WE.block_normal ?_)
            refine WE.meet () ?_ ⟨rfl, rfl, (gti rfl (by (try dsimp only); omega)), rfl, rfl, rfl, trivial⟩ (List.Perm.refl _)
            try dsimp only
            all_goals trivial
           ·
            try simp only [Z1, Z2, Z3, Z4, Z5, Z6, Z7, Z8, Z9, Z0] at q28
            refine WC.seq (WC.region ?_)
            refine WL.q (oq_askG conc131 ty131 rfl) rfl rfl rfl ?_
            refine WL.q (oq_extract rfl rfl) rfl rfl rfl ?_
            refine WL.q (oq_extract rfl rfl) rfl rfl rfl ?_
            refine WL.nil (WE.then_normal (WC.sub (fr' := [(0, _), (7, _), (8, _), (22, _), (23, _), (24, _), (70, _), (71, _)]) ?_ ⟨rfl, rfl, rfl, rfl, rfl, rfl, rfl, rfl, trivial⟩))
            refine WC.cond rfl (fun q31 => ?_) (fun q31 => ?_)
            ·
             try simp only [Z1, Z2, Z3, Z4, Z5, Z6, Z7, Z8, Z9, Z0] at q31
             refine WC.seq ?_
             rw [if_pos q31]
             obtain ⟨hik, hwd⟩ := Num.of (ik := .i64) (w := 8) hok q31 (by decide)
             rw [hik]
             refine WC.region ?_
             refine WL.q (oq_assign rfl) rfl rfl rfl ?_
             refine WL.nil (WE.then_normal (WC.sub (fr' := [(0, _), (8, _), (17, _), (22, _), (23, _), (24, _)]) ?_ ⟨rfl, rfl, rfl, rfl, rfl, rfl, trivial⟩))
             refine WC.region ?_
             refine WL.q (oq_move rfl) rfl rfl rfl ?_
             refine WL.q (oq_convw Tryz.underlying131 Tryz.underlying73 rfl) rfl rfl rfl ?_
             refine WL.q (oq_assign rfl) rfl rfl rfl ?_
             refine WL.nil (WE.block_normal ?_)
             refine WE.meet () ?_ ⟨rfl, rfl, (gti rfl (by (try dsimp only); omega)), rfl, rfl, rfl, trivial⟩ (List.Perm.refl _)
             try dsimp only
             all_goals trivial
            ·
             try simp only [Z1, Z2, Z3, Z4, Z5, Z6, Z7, Z8, Z9, Z0] at q31
             first | contradiction | (exfalso; omega) | (exfalso; simp_all [Num.ok, Num.kinds]; done) | (exfalso; simp_all [Num.ok, Num.kinds]; omega)
   ·rintro _ hp
    try dsimp only at hp
    show WC _ _ _ _ _ _ ([(0, .iface k r), (7, .int .u64 (IntKind.u64.wrap ds[i].x)), (8, I (ds[i].w : Int)), (22, v), (23, I (ds.length : Int)), (24, I (i : Int))]) ([D, X, R0])
    refine WC.seq ?_
    refine WC.add0 ?_
    refine WC.region ?_
    refine WL.q (oq_assign rfl) rfl rfl rfl ?_
    refine WL.nil (WE.then_normal (WC.sub (fr' := [(0, _), (7, _), (8, _), (18, _), (22, _), (23, _), (24, _)]) ?_ ⟨rfl, rfl, rfl, rfl, rfl, rfl, rfl, trivial⟩))
    refine WC.seq (WC.seq (WC.region ?_))
    refine WL.q (oq_move rfl) rfl rfl rfl ?_
    refine WL.q (oq_sub rfl rfl (by rw [i64_lo, i64_hi]; (first | omega | (simp only [List.length_cons, List.length_nil, List.length_append, List.length_drop, List.length_take]; omega)))) rfl rfl rfl ?_
    refine WL.q (oq_assign rfl) rfl rfl rfl ?_
    refine WL.nil (WE.then_normal (WC.sub (fr' := [(0, _), (7, _), (18, _), (19, _), (22, _), (23, _), (24, _)]) ?_ ⟨rfl, rfl, rfl, rfl, rfl, rfl, rfl, trivial⟩))
    refine WC.block ?_
    refine WC.loop (ι := Nat × Value × Hp) (fun i_ => (fun (j : Nat) (u : Value) (B : Hp) => [(0, .iface k r), (7, .int .u64 (IntKind.u64.wrap ds[i].x)), (18, u), (19, I ((j : Int) - 1)), (22, v), (23, I (ds.length : Int)), (24, I (i : Int))]) i_.1 i_.2.1 i_.2.2) (fun i_ => (fun (j : Nat) (u : Value) (B : Hp) => [B, D, X, R0]) i_.1 i_.2.1 i_.2.2) (fun i_ => (fun (j : Nat) (u : Value) (B : Hp) => j ≤ ds[i].w ∧ OwS w0.heap.size 5 1 u B (ds[i].w - j) (bytesV ((be ds[i].w (IntKind.u64.wrap ds[i].x)).take (ds[i].w - j)))) i_.1 i_.2.1 i_.2.2) (fun i_ => (fun (j : Nat) (u : Value) (B : Hp) => j) i_.1 i_.2.1 i_.2.2) ((ds[i].w, _, _)) ?_ ⟨rfl, rfl, rfl, rfl, rfl, rfl, rfl, trivial⟩ (List.Perm.refl _) ?_
    ·try dsimp only
     exact ⟨by omega, by rw [Nat.sub_self]; exact OwS.nil _ _ _⟩
    ·rintro ⟨j, u, B⟩ hp
     try dsimp only at hp
     obtain ⟨hm, ho⟩ := hp
     show WC _ _ _ _ _ _ ([(0, .iface k r), (7, .int .u64 (IntKind.u64.wrap ds[i].x)), (18, u), (19, I ((j : Int) - 1)), (22, v), (23, I (ds.length : Int)), (24, I (i : Int))]) ([B, D, X, R0])
     refine WC.seq (WC.seq (WC.region ?_))
     refine WL.q (oq_move rfl) rfl rfl rfl ?_
     refine WL.q (oq_geq rfl rfl) rfl rfl rfl ?_
     refine WL.nil (WE.then_normal (WC.sub (fr' := [(0, _), (7, _), (18, _), (19, _), (22, _), (23, _), (24, _), (77, _)]) ?_ ⟨rfl, rfl, rfl, rfl, rfl, rfl, rfl, rfl, trivial⟩))
     refine WC.cond rfl (fun q36 => ?_) (fun q36 => ?_)
     ·
      try simp only [Z1, Z2, Z3, Z4, Z5, Z6, Z7, Z8, Z9, Z0] at q36
      refine WC.skip (WE.then_normal (WC.sub (fr' := [(0, _), (7, _), (18, _), (19, _), (22, _), (23, _), (24, _)]) ?_ ⟨rfl, rfl, rfl, rfl, rfl, rfl, rfl, trivial⟩))
      refine WC.seq (WC.block (WC.region ?_))
      refine WL.q (oq_move rfl) rfl rfl rfl ?_
      refine WL.q (oq_move rfl) rfl rfl rfl ?_
      refine WL.q (oq_move rfl) rfl rfl rfl ?_
      refine WL.q (oq_mul rfl rfl (by rw [i64_lo, i64_hi]; (first | omega | (simp only [List.length_cons, List.length_nil, List.length_append, List.length_drop, List.length_take]; omega)))) rfl rfl rfl ?_
      refine WL.q (oq_shr rfl rfl (by omega)) rfl rfl rfl ?_
      refine WL.q (oq_convw Tryz.underlying73 Tryz.underlying5 rfl) rfl rfl rfl ?_
      refine WL.append1 ho Tryz.underlying28 ty5 rfl (by decide) (fun _ => rfl) rfl rfl (by unfold maxLen; omega) (by omega) rfl rfl (fun _ => rfl) rfl fun v38 A38 u38 ho38 hne38 => ?_
      refine WL.q (oq_assign rfl) rfl rfl rfl ?_
      refine WL.nil (WE.block_normal (WE.then_normal (WC.sub (fr' := [(0, _), (7, _), (18, _), (19, _), (22, _), (23, _), (24, _)]) ?_ ⟨rfl, rfl, rfl, rfl, rfl, rfl, rfl, trivial⟩)))
      refine WC.region ?_
      rw [be_snocj (show 0 < j by omega) hm hw8] at ho38
      refine WL.q (oq_move rfl) rfl rfl rfl ?_
      refine WL.q (oq_sub rfl rfl (by rw [i64_lo, i64_hi]; (first | omega | (simp only [List.length_cons, List.length_nil, List.length_append, List.length_drop, List.length_take]; omega)))) rfl rfl rfl ?_
      refine WL.q (oq_assign rfl) rfl rfl rfl ?_
      refine WL.nil ?_
      refine WE.again (j - 1, _, _) ?_ ?_ ⟨rfl, rfl, rfl, (gti rfl (by (try dsimp only); omega)), rfl, rfl, rfl, trivial⟩ (List.Perm.refl _)
      ·try dsimp only
       exact ⟨by omega, by rw [show ds[i].w - (j - 1) = ds[i].w - j + 1 by omega] at ho38 ⊢; exact ho38⟩
      ·(try dsimp only); omega
     ·
      try simp only [Z1, Z2, Z3, Z4, Z5, Z6, Z7, Z8, Z9, Z0] at q36
      refine WC.exit (WE.then_exit (WE.then_exit (WE.block_same (WE.then_normal (WC.sub (fr' := [(0, _), (18, _), (22, _), (23, _), (24, _)]) ?_ ⟨rfl, rfl, rfl, rfl, rfl, trivial⟩)))))
      refine WC.seq ?_
      obtain rfl : j = 0 := by omega
      rw [Nat.sub_zero, be_u64 _ _ hw8, List.take_of_length_le (by rw [be_len]; omega)] at ho
      have hbl := be_len ds[i].w ds[i].x
      have hro : RdS 1 u B (be ds[i].w ds[i].x).length (bytesV (be ds[i].w ds[i].x)) := by rw [hbl]; exact ho.rd
      have hbn := bytesN_len (ds.take i) fun d hd => hds d (List.mem_of_mem_take hd)
      rw [List.length_take] at hbn
      refine WC.region ?_
      refine WL.q (oq_move rfl) rfl rfl rfl ?_
      refine WL.q (oq_move rfl) rfl rfl rfl ?_
      refine WL.f2 ?_
      refine WL.callWE (fun a w hf => ent_inv1 hW.inv rfl rfl hf w) (hW.run _ X u B _ hX hro (by rw [List.length_append]; omega) (by omega)) rfl rfl rfl rfl fun v39_2 Hs39_2 hR39_2 => ?_
      obtain ⟨X2, rfl, rfl, hX2⟩ := hR39_2
      refine WL.app2 ?_
      refine WL.q (oq_move rfl) rfl rfl rfl ?_
      refine WL.q (oq_extract rfl rfl) rfl rfl rfl ?_
      refine WL.q (oq_extract rfl rfl) rfl rfl rfl ?_
      refine WL.q (oq_assign rfl) rfl rfl rfl ?_
      refine WL.q (oq_assign rfl) rfl rfl rfl ?_
      refine WL.nil (WE.then_normal (WC.sub (fr' := [(0, _), (21, _), (22, _), (23, _), (24, _)]) ?_ ⟨rfl, rfl, rfl, rfl, rfl, trivial⟩))
      refine WC.seq (WC.region ?_)
      refine WL.q (oq_move rfl) rfl rfl rfl ?_
      refine WL.q (oq_ineq Tryz.underlying99 rfl (.inl rfl)) rfl rfl rfl ?_
      refine WL.nil (WE.then_normal (WC.sub (fr' := [(0, _), (21, _), (22, _), (23, _), (24, _), (95, _)]) ?_ ⟨rfl, rfl, rfl, rfl, rfl, rfl, trivial⟩))
      refine WC.cond rfl (fun q40 => ?_) (fun q40 => ?_)
      ·
       try simp only [Z1, Z2, Z3, Z4, Z5, Z6, Z7, Z8, Z9, Z0] at q40
       first | contradiction | (exfalso; omega) | (exfalso; simp_all [Num.ok, Num.kinds]; done) | (exfalso; simp_all [Num.ok, Num.kinds]; omega)
      ·
       try simp only [Z1, Z2, Z3, Z4, Z5, Z6, Z7, Z8, Z9, Z0] at q40
       refine WC.skip (WE.block_normal (WE.then_normal (WC.sub (fr' := [(0, _), (22, _), (23, _), (24, _)]) ?_ ⟨rfl, rfl, rfl, rfl, trivial⟩)))
       refine WC.region ?_
       refine WL.q (oq_add rfl rfl (by rw [i64_lo, i64_hi]; (first | omega | (simp only [List.length_cons, List.length_nil, List.length_append, List.length_drop, List.length_take]; omega)))) rfl rfl rfl ?_
       refine WL.q (oq_move rfl) rfl rfl rfl ?_
       refine WL.nil ?_
       refine WE.f1 ?_
       refine WE.forget ho.fresh ?_
       refine WE.f2 ?_
       refine WE.f1 ?_
       refine WE.f2 ?_
       refine WE.again (i + 1, X2) ?_ ?_ ⟨rfl, rfl, rfl, rfl, trivial⟩ (List.Perm.refl _)
       ·try dsimp only
        exact ⟨by omega, by rw [bytesN_snoc ds i hlt, ← List.append_assoc]; exact hX2⟩
       ·(try dsimp only); omega
  ·
   try simp only [Z1, Z2, Z3, Z4, Z5, Z6, Z7, Z8, Z9, Z0] at q2
   refine WC.exit (WE.then_exit (WE.then_exit (WE.block_same (WE.then_normal (WC.sub (fr' := []) ?_ trivial)))))
   refine WC.seq ?_
   obtain rfl : i = ds.length := by omega
   rw [List.take_length] at hX
   refine WC.region ?_
   refine WL.q (oq_assign rfl) rfl rfl rfl ?_
   refine WL.nil (WE.then_normal (WC.sub (fr' := [(4, _)]) ?_ ⟨rfl, trivial⟩))
   refine WC.ret ?_
   refine WE.endW2 (.inl rfl) (res1 Tryz.results70 rfl) ?_
   exact ⟨_, rfl, rfl, hX⟩
end EE
end Go.Proofs.YtodlhaghdplclaaGreatDoor
/- Values written. -/
namespace Go.Proofs.YtodlhaghdplclaaGreatDoor
open Go Go.RowKit V EA EB EC ED EE
set_option linter.unusedSimpArgs false
set_option linter.unusedVariables false
set_option maxRecDepth 10000
namespace EF
theorem call70 : Callable Tryz.prog 70 := ⟨_, Tryz.func70, rfl, by kernel_rfl⟩
theorem flat5 : Flat Tryz.prog 5 := ⟨_, Tryz.underlying5, by simp⟩
theorem flat185 : Flat Tryz.prog 185 := ⟨_, Tryz.underlying185, by simp⟩
theorem flat186 : Flat Tryz.prog 186 := ⟨_, Tryz.underlying186, by simp⟩
theorem ty5 : Ty Tryz.prog 5 (.int .u8 0) 1 1 := ty_of (by kernel_rfl)
theorem ty20 : Ty Tryz.prog 20 .nilIface 1 16 := ty_of (by kernel_rfl)
theorem ty172 : Ty Tryz.prog 172 (.agg #[(.int .u8 0), (.int .u8 0), (.int .u8 0), (.int .u8 0), (.int .u8 0), (.int .u8 0), (.int .u8 0), (.int .u8 0), (.int .u8 0), (.int .u8 0), (.int .u8 0), (.int .u8 0), (.int .u8 0), (.int .u8 0), (.int .u8 0), (.int .u8 0), (.int .u8 0), (.int .u8 0), (.int .u8 0), (.int .u8 0), (.int .u8 0), (.int .u8 0), (.int .u8 0), (.int .u8 0), (.int .u8 0), (.int .u8 0), (.int .u8 0), (.int .u8 0), (.int .u8 0), (.int .u8 0), (.int .u8 0), (.int .u8 0), (.int .u8 0), (.int .u8 0), (.int .u8 0), (.int .u8 0), (.int .u8 0), (.int .u8 0), (.int .u8 0), (.int .u8 0), (.int .u8 0), (.int .u8 0), (.int .u8 0), (.int .u8 0), (.int .u8 0), (.int .u8 0), (.int .u8 0), (.int .u8 0), (.int .u8 0), (.int .u8 0), (.int .u8 0), (.int .u8 0), (.int .u8 0), (.int .u8 0), (.int .u8 0), (.int .u8 0), (.int .u8 0), (.int .u8 0), (.int .u8 0), (.int .u8 0), (.int .u8 0), (.int .u8 0), (.int .u8 0), (.int .u8 0), (.int .u8 0), (.int .u8 0), (.int .u8 0), (.int .u8 0), (.int .u8 0), (.int .u8 0), (.int .u8 0), (.int .u8 0), (.int .u8 0), (.int .u8 0), (.int .u8 0), (.int .u8 0), (.int .u8 0), (.int .u8 0), (.int .u8 0), (.int .u8 0), (.int .u8 0), (.int .u8 0), (.int .u8 0), (.int .u8 0), (.int .u8 0), (.int .u8 0), (.int .u8 0), (.int .u8 0), (.int .u8 0), (.int .u8 0), (.int .u8 0), (.int .u8 0), (.int .u8 0), (.int .u8 0), (.int .u8 0), (.int .u8 0), (.int .u8 0), (.int .u8 0), (.int .u8 0), (.int .u8 0), (.int .u8 0), (.int .u8 0), (.int .u8 0), (.int .u8 0), (.int .u8 0), (.int .u8 0), (.int .u8 0), (.int .u8 0), (.int .u8 0), (.int .u8 0), (.int .u8 0), (.int .u8 0), (.int .u8 0), (.int .u8 0), (.int .u8 0), (.int .u8 0), (.int .u8 0), (.int .u8 0), (.int .u8 0), (.int .u8 0), (.int .u8 0), (.int .u8 0), (.int .u8 0), (.int .u8 0), (.int .u8 0), (.int .u8 0), (.int .u8 0), (.int .u8 0), (.int .u8 0), (.int .u8 0), (.int .u8 0), (.int .u8 0), (.int .u8 0), (.int .u8 0), (.int .u8 0), (.int .u8 0), (.int .u8 0), (.int .u8 0), (.int .u8 0), (.int .u8 0), (.int .u8 0), (.int .u8 0), (.int .u8 0), (.int .u8 0), (.int .u8 0), (.int .u8 0), (.int .u8 0), (.int .u8 0), (.int .u8 0), (.int .u8 0), (.int .u8 0), (.int .u8 0), (.int .u8 0), (.int .u8 0), (.int .u8 0), (.int .u8 0), (.int .u8 0), (.int .u8 0), (.int .u8 0), (.int .u8 0), (.int .u8 0), (.int .u8 0), (.int .u8 0), (.int .u8 0), (.int .u8 0), (.int .u8 0), (.int .u8 0), (.int .u8 0), (.int .u8 0), (.int .u8 0), (.int .u8 0), (.int .u8 0), (.int .u8 0), (.int .u8 0), (.int .u8 0), (.int .u8 0), (.int .u8 0), (.int .u8 0), (.int .u8 0), (.int .u8 0), (.int .u8 0), (.int .u8 0), (.int .u8 0), (.int .u8 0), (.int .u8 0), (.int .u8 0), (.int .u8 0), (.int .u8 0), (.int .u8 0), (.int .u8 0), (.int .u8 0), (.int .u8 0), (.int .u8 0), (.int .u8 0), (.int .u8 0), (.int .u8 0), (.int .u8 0), (.int .u8 0), (.int .u8 0), (.int .u8 0), (.int .u8 0), (.int .u8 0), (.int .u8 0), (.int .u8 0), (.int .u8 0), (.int .u8 0), (.int .u8 0), (.int .u8 0), (.int .u8 0), (.int .u8 0), (.int .u8 0), (.int .u8 0), (.int .u8 0), (.int .u8 0), (.int .u8 0), (.int .u8 0), (.int .u8 0), (.int .u8 0), (.int .u8 0), (.int .u8 0), (.int .u8 0), (.int .u8 0), (.int .u8 0), (.int .u8 0), (.int .u8 0), (.int .u8 0), (.int .u8 0), (.int .u8 0), (.int .u8 0), (.int .u8 0), (.int .u8 0), (.int .u8 0), (.int .u8 0), (.int .u8 0), (.int .u8 0), (.int .u8 0), (.int .u8 0), (.int .u8 0), (.int .u8 0), (.int .u8 0), (.int .u8 0), (.int .u8 0), (.int .u8 0), (.int .u8 0), (.int .u8 0), (.int .u8 0), (.int .u8 0), (.int .u8 0), (.int .u8 0), (.int .u8 0), (.int .u8 0), (.int .u8 0), (.int .u8 0), (.int .u8 0), (.int .u8 0)]) 255 255 := ty_of (by kernel_rfl)
theorem ty185 : Ty Tryz.prog 185 (.int .u8 0) 1 1 := ty_of (by kernel_rfl)
theorem ty186 : Ty Tryz.prog 186 (.int .u16 0) 1 2 := ty_of (by kernel_rfl)
theorem conc5 : Conc Tryz.prog 5 := ⟨_, Tryz.underlying5, by simp⟩
theorem conc185 : Conc Tryz.prog 185 := ⟨_, Tryz.underlying185, by simp⟩
theorem conc186 : Conc Tryz.prog 186 := ⟨_, Tryz.underlying186, by simp⟩
theorem fld174_0 : Fld Tryz.prog 174 0 0 5 := fld_of Tryz.underlying174 rfl rfl rfl ty5 (by decide)
theorem fld174_1 : Fld Tryz.prog 174 1 1 172 := fld_of Tryz.underlying174 rfl rfl rfl ty172 (by decide)
theorem fld224_0 : Fld Tryz.prog 224 0 0 185 := fld_of Tryz.underlying224 rfl rfl rfl ty185 (by decide)
theorem fld224_1 : Fld Tryz.prog 224 1 1 186 := fld_of Tryz.underlying224 rfl rfl rfl ty186 (by decide)
theorem be1 (b : UInt8) : be 1 (b.toNat : Int) = [b] := by
 have e : beB 0 (b.toNat : Int) = b := by
  apply UInt8.toNat_inj.1
  have h := beB_nat 0 (b.toNat : Int)
  have := b.toNat_lt
  simp at h
  omega
 show [beB 0 _] = [b]
 rw [e]
theorem ok1 {a : Num} (h : a.ok) : ∀ d ∈ [a], d.ok := fun d hd => by rw [List.mem_singleton] at hd; subst hd; exact h
theorem ok2 {a b : Num} (h : a.ok) (h2 : b.ok) : ∀ d ∈ [a, b], d.ok := fun d hd => by
 rcases List.mem_cons.1 hd with rfl | hd
 ·exact h
 ·exact ok1 h2 d hd
theorem okT (x : Int) : Num.ok ⟨185, .u8, 1, x⟩ := by simp [Num.ok, Num.kinds]
theorem okB (x : Int) : Num.ok ⟨5, .u8, 1, x⟩ := by simp [Num.ok, Num.kinds]
theorem bytesN1 (k : TypeId) (ik : IntKind) (b : UInt8) : bytesN [⟨k, ik, 1, (b.toNat : Int)⟩] = [b] := by simp [bytesN, be1]
theorem bytesN2 (k : TypeId) (ik : IntKind) (b : UInt8) (d : Num) : bytesN [⟨k, ik, 1, (b.toNat : Int)⟩, d] = b :: be d.w d.x := by simp [bytesN, be1]
abbrev Then (Wt : List UInt8 → Hp → Prop) (acc : List UInt8) (R : List Hp) (w : Value) (Hs : List Hp) : Prop := ∃ G2, w = .nilIface ∧ Hs = G2 :: R ∧ Wt acc G2
theorem nameEnc (base : Nat) (k : TypeId) (r : Value) (f : FuncId) (Wt : List UInt8 → Hp → Prop) (hW : Wr base k r f Wt) (acc0 : List UInt8) (G : Hp) (hG : Wt acc0 G) (b0 : UInt8) (nm : List UInt8) (hnm : nm.length = 255) (hal : acc0.length ≤ 290000) : FnW Tryz.prog 76 [.agg (bytesV (b0 :: nm)).toArray, .iface k r] base [G] (Then Wt (acc0 ++ (b0 :: nm.take b0.toNat)) []) := by
 have hb8 := b0.toNat_lt
 refine FnW.enter (n := 30) Tryz.func76 rfl rfl fun w0 R0 hbase => ?_
 subst hbase
 show WC _ _ _ _ _ _ _ ([G, R0])
 refine WC.sub (fr' := [(0, _), (1, _)]) ?_ ⟨rfl, rfl, trivial⟩
 refine WC.seq (WC.region ?_)
 refine WL.box rfl rfl rfl fun hb hhb => ?_
 refine WL.asB (b0 :: nm) rfl ?_
 refine WL.q (oq_assign rfl) rfl rfl rfl ?_
 refine WL.nil (WE.then_normal (WC.sub (fr' := [(1, _), (2, _)]) ?_ ⟨rfl, rfl, trivial⟩))
 refine WC.seq (WC.seq (WC.region ?_))
 refine WL.q (oq_move rfl) rfl rfl rfl ?_
 refine WL.q (oq_fieldAddr fld174_0 rfl) rfl rfl rfl ?_
 refine WL.q (oq_load flat5 rfl (.head _) (List.mem_singleton.2 rfl) rfl) rfl rfl rfl ?_
 refine WL.q (oq_makeI conc5 rfl) rfl rfl rfl ?_
 refine WL.buildL Tryz.underlying184 ty20 rfl rfl (by decide) (by decide) rfl rfl rfl fun v1 A1 ho1 hne1 => ?_
 refine WL.f2 ?_
 refine WL.f1 ?_
 refine WL.callW2 (zzWrite _ k r f Wt hW acc0 G hG v1 A1 [⟨5, .u8, 1, (b0.toNat : Int)⟩] ho1.rd (ok1 (okB _)) (by simp) (by simp; omega)) call70 rfl rfl rfl fun v1_5 Hs1_5 hR1_5 => ?_
 obtain ⟨G2, rfl, rfl, hG2⟩ := hR1_5
 rw [bytesN1] at hG2
 refine WL.to2 ?_
 refine WL.q (oq_assign rfl) rfl rfl rfl ?_
 refine WL.nil (WE.then_normal (WC.sub (fr' := [(1, _), (2, _), (5, _)]) ?_ ⟨rfl, rfl, rfl, trivial⟩))
 refine WC.seq (WC.region ?_)
 refine WL.q (oq_move rfl) rfl rfl rfl ?_
 refine WL.q (oq_ineq Tryz.underlying99 rfl (.inl rfl)) rfl rfl rfl ?_
 refine WL.nil (WE.then_normal (WC.sub (fr' := [(1, _), (2, _), (5, _), (15, _)]) ?_ ⟨rfl, rfl, rfl, rfl, trivial⟩))
 refine WC.cond rfl (fun q2 => ?_) (fun q2 => ?_)
 ·
  try simp only [Z1, Z2, Z3, Z4, Z5, Z6, Z7, Z8, Z9, Z0] at q2
  first | contradiction | (exfalso; omega) | (exfalso; simp_all; done)
 ·
  try simp only [Z1, Z2, Z3, Z4, Z5, Z6, Z7, Z8, Z9, Z0] at q2
  refine WC.skip (WE.then_normal (WC.sub (fr' := [(1, _), (2, _)]) ?_ ⟨rfl, rfl, trivial⟩))
  refine WC.seq ?_
  have hnl : (nm.take b0.toNat).length = b0.toNat := by rw [List.length_take]; omega
  have hrd : RdS 1 (Sl hb (0 + 1 + 0) (b0.toNat - 0) (255 - 0)) (Bf hb 174 (b0 :: nm)) (nm.take b0.toNat).length (bytesV (nm.take b0.toNat)) := by
   rw [hnl]; exact Sl.rd (b := hb) (off := 1) (n := b0.toNat) (c := 255) (e := 174) (l := b0 :: nm) (by rw [List.length_cons]; omega) (by omega)
  refine WC.tailM (pl := []) (ql := [_, _, _, _, _, _, _, _]) (tl := [_, _, _, _, _, _]) [] [0, 1, 2, 3, 4, 5, 6, 7] 8 [9, 10, 11, 12, 13] (by kernel_rfl) (by kernel_rfl) (by kernel_rfl) (by kernel_rfl) (by kernel_rfl) (by kernel_rfl) (by decide) rfl rfl rfl (by decide) (by repeat (first | with_reducible exact QOk.body | with_reducible apply QOk.then | with_reducible apply QOk.block | exact QOk.body | apply QOk.then | apply QOk.block)) ?_
  refine WM.nil ?_
  refine WY.q (oq_move rfl) rfl rfl rfl ?_
  refine WY.q (oq_fieldAddr fld174_1 rfl) rfl rfl rfl ?_
  refine WY.q (oq_fieldAddr fld174_0 rfl) rfl rfl rfl ?_
  refine WY.q (oq_load flat5 rfl (.tail _ (.tail _ (.head _))) (List.mem_singleton.2 rfl) rfl) rfl rfl rfl ?_
  refine WY.q (oq_sliceArr (j := b0.toNat) Tryz.underlying172 ty5 rfl rfl ⟨_, rfl⟩ (by omega) (by omega)) rfl rfl rfl ?_
  refine WY.q (oq_makeMeth rfl) rfl rfl rfl ?_
  refine WY.q (oq_nilMeth rfl (hW.nok)) rfl rfl rfl ?_
  refine WY.q (oq_move rfl) rfl rfl rfl ?_
  refine WY.nil ?_
  refine WL.f2 ?_
  refine WL.f2 ?_
  refine WL.callWE (fun a w hf => ent_inv1 hW.inv rfl rfl hf w) (hW.run _ G2 _ (Bf hb 174 (b0 :: nm)) (nm.take b0.toNat) hG2 hrd (by rw [List.length_append]; simp only [List.length_singleton]; omega) (by rw [List.length_append]; simp only [List.length_singleton]; omega)) rfl rfl rfl rfl fun v4_8 Hs4_8 hR4_8 => ?_
  obtain ⟨G3, rfl, rfl, hG3⟩ := hR4_8
  refine WL.app2 ?_
  refine WL.q (oq_move rfl) rfl rfl rfl ?_
  refine WL.q (oq_extract rfl rfl) rfl rfl rfl ?_
  refine WL.q (oq_extract rfl rfl) rfl rfl rfl ?_
  refine WL.q (oq_assign rfl) rfl rfl rfl ?_
  refine WL.q (oq_assign rfl) rfl rfl rfl ?_
  refine WL.nil (WE.then_normal (WC.sub (fr' := [(7, _)]) ?_ ⟨rfl, trivial⟩))
  refine WC.seq (WC.region ?_)
  refine WL.q (oq_move rfl) rfl rfl rfl ?_
  refine WL.q (oq_assign rfl) rfl rfl rfl ?_
  refine WL.nil (WE.then_normal (WC.sub (fr' := [(4, _)]) ?_ ⟨rfl, trivial⟩))
  refine WC.ret ?_
  refine WE.f1 ?_
  refine WE.lose hhb ?_
  refine WE.f1 ?_
  refine WE.forget ho1.fresh ?_
  refine WE.endW1 (.inl rfl) (res1 Tryz.results76 rfl) ?_
  exact ⟨_, rfl, rfl, by rw [List.append_assoc] at hG3; exact hG3⟩
theorem encScalar (base : Nat) (k : TypeId) (r : Value) (f : FuncId) (Wt : List UInt8 → Hp → Prop) (hW : Wr base k r f Wt) (acc0 : List UInt8) (G : Hp) (hG : Wt acc0 G) (t : UInt8) (l1 l2 : Value) (d : Num) (hd : d.ok) (hal : acc0.length ≤ 290000) : FnW Tryz.prog 162 [.agg #[.int .u8 (t.toNat : Int), l1, l2], .iface k r, d.val] base [G] (Then Wt (acc0 ++ (t :: be d.w d.x)) []) := by
 refine FnW.enter (n := 14) Tryz.func162 rfl rfl fun w0 R0 hbase => ?_
 subst hbase
 show WC _ _ _ _ _ _ _ ([G, R0])
 refine WC.sub (fr' := [(0, _), (1, _), (2, _)]) ?_ ⟨rfl, rfl, rfl, trivial⟩
 refine WC.seq (WC.region ?_)
 refine WL.box rfl rfl rfl fun b0_0 hb0_0 => ?_
 refine WL.q (oq_assign rfl) rfl rfl rfl ?_
 refine WL.nil (WE.then_normal (WC.sub (fr' := [(1, _), (2, _), (3, _)]) ?_ ⟨rfl, rfl, rfl, trivial⟩))
 refine WC.seq (WC.region ?_)
 refine WL.q (oq_move rfl) rfl rfl rfl ?_
 refine WL.q (oq_fieldAddr fld224_0 rfl) rfl rfl rfl ?_
 refine WL.q (oq_load flat185 rfl (.head _) (List.mem_singleton.2 rfl) rfl) rfl rfl rfl ?_
 refine WL.q (oq_makeI conc185 rfl) rfl rfl rfl ?_
 refine WL.q (oq_move rfl) rfl rfl rfl ?_
 refine WL.buildL Tryz.underlying184 ty20 rfl rfl (by decide) (by decide) rfl rfl rfl fun v1 A1 ho1 hne1 => ?_
 refine WL.f2 ?_
 refine WL.f1 ?_
 refine WL.callW2 (zzWrite _ k r f Wt hW acc0 G hG v1 A1 [⟨185, .u8, 1, (t.toNat : Int)⟩, d] ho1.rd (ok2 (okT _) hd) (by simp) (by simp; omega)) call70 rfl rfl rfl fun v1_6 Hs1_6 hR1_6 => ?_
 obtain ⟨G2, rfl, rfl, hG2⟩ := hR1_6
 rw [bytesN2] at hG2
 refine WL.to2 ?_
 refine WL.q (oq_assign rfl) rfl rfl rfl ?_
 refine WL.nil (WE.then_normal (WC.sub (fr' := [(6, _)]) ?_ ⟨rfl, trivial⟩))
 refine WC.ret ?_
 refine WE.forget ho1.fresh ?_
 refine WE.f1 ?_
 refine WE.lose hb0_0 ?_
 refine WE.endW1 (.inl rfl) (res1 Tryz.results162 rfl) ?_
 exact ⟨_, rfl, rfl, hG2⟩
theorem encBytes (base : Nat) (k : TypeId) (r : Value) (f : FuncId) (Wt : List UInt8 → Hp → Prop) (hW : Wr base k r f Wt) (acc0 : List UInt8) (G : Hp) (hG : Wt acc0 G) (t : UInt8) (l1 l2 : Value) (s : Value) (Z : Hp) (data : List UInt8) (hr : RdS 1 s Z data.length (bytesV data)) (hdl : data.length ≤ 32767) (hal : acc0.length ≤ 250000) : FnW Tryz.prog 179 [.agg #[.int .u8 (t.toNat : Int), l1, l2], .iface k r, s] base [G, Z] (Then Wt (acc0 ++ (t :: be 2 data.length ++ data)) [Z]) := by
 refine FnW.enter (n := 40) Tryz.func179 rfl rfl fun w0 R0 hbase => ?_
 subst hbase
 show WC _ _ _ _ _ _ _ ([G, Z, R0])
 refine WC.sub (fr' := [(0, _), (1, _), (2, _)]) ?_ ⟨rfl, rfl, rfl, trivial⟩
 refine WC.seq (WC.region ?_)
 refine WL.box rfl rfl rfl fun b0_0 hb0_0 => ?_
 refine WL.q (oq_assign rfl) rfl rfl rfl ?_
 refine WL.nil (WE.then_normal (WC.sub (fr' := [(1, _), (2, _), (3, _)]) ?_ ⟨rfl, rfl, rfl, trivial⟩))
 refine WC.seq (WC.seq (WC.region ?_))
 refine WL.q (oq_move rfl) rfl rfl rfl ?_
 refine WL.q (oq_len_rd hr Tryz.underlying28 rfl) rfl rfl rfl ?_
 refine WL.q (oq_gtr rfl rfl) rfl rfl rfl ?_
 refine WL.nil (WE.then_normal (WC.sub (fr' := [(1, _), (2, _), (3, _), (10, _)]) ?_ ⟨rfl, rfl, rfl, rfl, trivial⟩))
 refine WC.cond rfl (fun q1 => ?_) (fun q1 => ?_)
 ·
  try simp only [Z1, Z2, Z3, Z4, Z5, Z6, Z7, Z8, Z9, Z0] at q1
  first | contradiction | (exfalso; omega) | (exfalso; simp_all; done)
 ·
  try simp only [Z1, Z2, Z3, Z4, Z5, Z6, Z7, Z8, Z9, Z0] at q1
  refine WC.skip (WE.then_normal (WC.sub (fr' := [(1, _), (2, _), (3, _)]) ?_ ⟨rfl, rfl, rfl, trivial⟩))
  refine WC.seq (WC.region ?_)
  refine WL.q (oq_move rfl) rfl rfl rfl ?_
  refine WL.q (oq_len_rd hr Tryz.underlying28 rfl) rfl rfl rfl ?_
  refine WL.q (oq_conv Tryz.underlying3 Tryz.underlying186 rfl (by rw [u16_lo, u16_hi]; (first | omega | (simp only [List.length_cons, List.length_nil, List.length_append, List.length_drop, List.length_take]; omega)))) rfl rfl rfl ?_
  refine WL.q (oq_fieldAddr fld224_1 rfl) rfl rfl rfl ?_
  refine WL.store1 #[_, _, _] ty186 rfl rfl (by first | rfl | exact OwS.one one_) (Nat.lt_of_lt_of_le (Nat.lt_succ_self _) (Nat.le_of_ble_eq_true rfl)) rfl rfl ?_
  refine WL.nil (WE.then_normal (WC.sub (fr' := [(1, _), (2, _), (3, _)]) ?_ ⟨rfl, rfl, rfl, trivial⟩))
  refine WC.seq (WC.region ?_)
  refine WL.q (oq_move rfl) rfl rfl rfl ?_
  refine WL.q (oq_fieldAddr fld224_0 rfl) rfl rfl rfl ?_
  refine WL.q (oq_load flat185 rfl (.head _) (List.mem_singleton.2 rfl) rfl) rfl rfl rfl ?_
  refine WL.q (oq_makeI conc185 rfl) rfl rfl rfl ?_
  refine WL.q (oq_fieldAddr fld224_1 rfl) rfl rfl rfl ?_
  refine WL.q (oq_load flat186 rfl (.head _) (List.mem_singleton.2 rfl) rfl) rfl rfl rfl ?_
  refine WL.q (oq_makeI conc186 rfl) rfl rfl rfl ?_
  refine WL.buildL Tryz.underlying184 ty20 rfl rfl (by decide) (by decide) rfl rfl rfl fun v4 A4 ho4 hne4 => ?_
  refine WL.f2 ?_
  refine WL.f1 ?_
  refine WL.callW2 (zzWrite _ k r f Wt hW acc0 G hG v4 A4 [⟨185, .u8, 1, (t.toNat : Int)⟩, ⟨186, .u16, 2, (data.length : Int)⟩] ho4.rd (ok2 (okT _) (by simp [Num.ok, Num.kinds])) (by simp) (by simp; omega)) call70 rfl rfl rfl fun v4_8 Hs4_8 hR4_8 => ?_
  obtain ⟨G2, rfl, rfl, hG2⟩ := hR4_8
  rw [bytesN2] at hG2
  refine WL.to2 ?_
  refine WL.q (oq_assign rfl) rfl rfl rfl ?_
  refine WL.nil (WE.then_normal (WC.sub (fr' := [(1, _), (2, _), (7, _)]) ?_ ⟨rfl, rfl, rfl, trivial⟩))
  refine WC.seq (WC.seq (WC.region ?_))
  refine WL.q (oq_move rfl) rfl rfl rfl ?_
  refine WL.q (oq_ineq Tryz.underlying99 rfl (.inl rfl)) rfl rfl rfl ?_
  refine WL.nil (WE.then_normal (WC.sub (fr' := [(1, _), (2, _), (7, _), (31, _)]) ?_ ⟨rfl, rfl, rfl, rfl, trivial⟩))
  refine WC.cond rfl (fun q5 => ?_) (fun q5 => ?_)
  ·
   try simp only [Z1, Z2, Z3, Z4, Z5, Z6, Z7, Z8, Z9, Z0] at q5
   first | contradiction | (exfalso; omega) | (exfalso; simp_all; done)
  ·
   try simp only [Z1, Z2, Z3, Z4, Z5, Z6, Z7, Z8, Z9, Z0] at q5
   refine WC.skip (WE.then_normal (WC.sub (fr' := [(1, _), (2, _)]) ?_ ⟨rfl, rfl, trivial⟩))
   refine WC.seq (WC.region ?_)
   refine WL.q (oq_move rfl) rfl rfl rfl ?_
   refine WL.q (oq_move rfl) rfl rfl rfl ?_
   refine WL.f3 ?_
   refine WL.f2 ?_
   refine WL.callWE (fun a w hf => ent_inv1 hW.inv rfl rfl hf w) (hW.run _ G2 s Z data hG2 hr (by simp [be_len]; omega) (by simp; omega)) rfl rfl rfl rfl fun v7_2 Hs7_2 hR7_2 => ?_
   obtain ⟨G3, rfl, rfl, hG3⟩ := hR7_2
   refine WL.app2 ?_
   refine WL.q (oq_move rfl) rfl rfl rfl ?_
   refine WL.q (oq_extract rfl rfl) rfl rfl rfl ?_
   refine WL.q (oq_extract rfl rfl) rfl rfl rfl ?_
   refine WL.q (oq_assign rfl) rfl rfl rfl ?_
   refine WL.nil (WE.then_normal (WC.sub (fr' := [(7, _)]) ?_ ⟨rfl, trivial⟩))
   refine WC.seq (WC.region ?_)
   refine WL.q (oq_move rfl) rfl rfl rfl ?_
   refine WL.q (oq_assign rfl) rfl rfl rfl ?_
   refine WL.nil (WE.then_normal (WC.sub (fr' := [(6, _)]) ?_ ⟨rfl, trivial⟩))
   refine WC.ret ?_
   refine WE.f2 ?_
   refine WE.forget ho4.fresh ?_
   refine WE.f2 ?_
   refine WE.lose hb0_0 ?_
   refine WE.endW2 (.inl rfl) (res1 Tryz.results179 rfl) ?_
   exact ⟨_, rfl, rfl, by rw [List.append_assoc] at hG3; exact hG3⟩
theorem encFixed (base : Nat) (k : TypeId) (r : Value) (f : FuncId) (Wt : List UInt8 → Hp → Prop) (hW : Wr base k r f Wt) (acc0 : List UInt8) (G : Hp) (hG : Wt acc0 G) (t : UInt8) (l1 l2 : Value) (s : Value) (Z : Hp) (data : List UInt8) (hr : RdS 1 s Z data.length (bytesV data)) (hdl : data.length ≤ 32767) (hal : acc0.length ≤ 250000) : FnW Tryz.prog 195 [.agg #[.int .u8 (t.toNat : Int), l1, l2], .iface k r, s] base [G, Z] (Then Wt (acc0 ++ (t :: data)) [Z]) := by
 refine FnW.enter (n := 22) Tryz.func195 rfl rfl fun w0 R0 hbase => ?_
 subst hbase
 show WC _ _ _ _ _ _ _ ([G, Z, R0])
 refine WC.sub (fr' := [(0, _), (1, _), (2, _)]) ?_ ⟨rfl, rfl, rfl, trivial⟩
 refine WC.seq (WC.region ?_)
 refine WL.box rfl rfl rfl fun b0_0 hb0_0 => ?_
 refine WL.q (oq_assign rfl) rfl rfl rfl ?_
 refine WL.nil (WE.then_normal (WC.sub (fr' := [(1, _), (2, _), (3, _)]) ?_ ⟨rfl, rfl, rfl, trivial⟩))
 refine WC.seq (WC.region ?_)
 refine WL.q (oq_move rfl) rfl rfl rfl ?_
 refine WL.q (oq_fieldAddr fld224_0 rfl) rfl rfl rfl ?_
 refine WL.q (oq_load flat185 rfl (.head _) (List.mem_singleton.2 rfl) rfl) rfl rfl rfl ?_
 refine WL.q (oq_makeI conc185 rfl) rfl rfl rfl ?_
 refine WL.buildL Tryz.underlying184 ty20 rfl rfl (by decide) (by decide) rfl rfl rfl fun v1 A1 ho1 hne1 => ?_
 refine WL.f2 ?_
 refine WL.f1 ?_
 refine WL.callW2 (zzWrite _ k r f Wt hW acc0 G hG v1 A1 [⟨185, .u8, 1, (t.toNat : Int)⟩] ho1.rd (ok1 (okT _)) (by simp) (by simp; omega)) call70 rfl rfl rfl fun v1_5 Hs1_5 hR1_5 => ?_
 obtain ⟨G2, rfl, rfl, hG2⟩ := hR1_5
 rw [bytesN1] at hG2
 refine WL.to2 ?_
 refine WL.nil (WE.then_normal (WC.sub (fr' := [(1, _), (2, _)]) ?_ ⟨rfl, rfl, trivial⟩))
 refine WC.seq (WC.region ?_)
 refine WL.q (oq_move rfl) rfl rfl rfl ?_
 refine WL.q (oq_move rfl) rfl rfl rfl ?_
 refine WL.f3 ?_
 refine WL.f2 ?_
 refine WL.callWE (fun a w hf => ent_inv1 hW.inv rfl rfl hf w) (hW.run _ G2 s Z data hG2 hr (by simp; omega) (by simp; omega)) rfl rfl rfl rfl fun v2_2 Hs2_2 hR2_2 => ?_
 obtain ⟨G3, rfl, rfl, hG3⟩ := hR2_2
 refine WL.app2 ?_
 refine WL.q (oq_move rfl) rfl rfl rfl ?_
 refine WL.q (oq_extract rfl rfl) rfl rfl rfl ?_
 refine WL.q (oq_extract rfl rfl) rfl rfl rfl ?_
 refine WL.q (oq_assign rfl) rfl rfl rfl ?_
 refine WL.q (oq_assign rfl) rfl rfl rfl ?_
 refine WL.nil (WE.then_normal (WC.sub (fr' := [(8, _)]) ?_ ⟨rfl, trivial⟩))
 refine WC.seq (WC.region ?_)
 refine WL.q (oq_move rfl) rfl rfl rfl ?_
 refine WL.q (oq_assign rfl) rfl rfl rfl ?_
 refine WL.nil (WE.then_normal (WC.sub (fr' := [(6, _)]) ?_ ⟨rfl, trivial⟩))
 refine WC.ret ?_
 refine WE.f2 ?_
 refine WE.forget ho1.fresh ?_
 refine WE.f2 ?_
 refine WE.lose hb0_0 ?_
 refine WE.endW2 (.inl rfl) (res1 Tryz.results195 rfl) ?_
 exact ⟨_, rfl, rfl, by rw [List.append_assoc] at hG3; exact hG3⟩
theorem invBS : Inv1 Tryz.prog 107 "WriteString" 205 := fun x a w => by kernel_rfl
theorem askBS : AskYes Tryz.prog 107 285 := fun x u w => by kernel_rfl
theorem bufWrS (base bb : Nat) (acc : List UInt8) (G : Hp) (data : List UInt8) (hG : BufG base bb acc G) (hl : acc.length + data.length ≤ 400000) (h0 : 0 < acc.length + data.length) :
  FnW Tryz.prog 205 [Pt bb 0, S data] base [G] (fun w Hs => ∃ G', w = .tuple #[I (data.length : Int), .nilIface] ∧ Hs = [G'] ∧ BufG base bb (acc ++ data) G') := by
 obtain ⟨v, lr, A, rfl, hb⟩ := hG
 intro w0 R0 w hbase hw
 refine (bufWriteS base bb lr v A acc data hb (by omega) h0 w0 R0 w hbase (by simpa using hw)).mono ?_
 rintro e w' ⟨u, Hs, he, ⟨v2, A2, rfl, rfl, hb2⟩, hst⟩
 exact ⟨_, [BB bb v2 0 ++ A2], he, ⟨_, rfl, rfl, v2, 0, A2, rfl, hb2⟩, by simpa using hst⟩
theorem encString (base bb : Nat) (acc0 : List UInt8) (G : Hp) (hG : BufG base bb acc0 G) (t : UInt8) (l1 l2 : Value) (data : List UInt8) (hdl : data.length ≤ 32767) (hal : acc0.length ≤ 250000) : FnW Tryz.prog 184 [.agg #[.int .u8 (t.toNat : Int), l1, l2], .iface 107 (Pt bb 0), S data] base [G] (Then (BufG base bb) (acc0 ++ (t :: be 2 data.length ++ data)) []) := by
 refine FnW.enter (n := 55) Tryz.func184 rfl rfl fun w0 R0 hbase => ?_
 subst hbase
 show WC _ _ _ _ _ _ _ ([G, R0])
 refine WC.sub (fr' := [(0, _), (1, _), (2, _)]) ?_ ⟨rfl, rfl, rfl, trivial⟩
 refine WC.seq (WC.region ?_)
 refine WL.box rfl rfl rfl fun b0_0 hb0_0 => ?_
 refine WL.q (oq_assign rfl) rfl rfl rfl ?_
 refine WL.nil (WE.then_normal (WC.sub (fr' := [(1, _), (2, _), (3, _)]) ?_ ⟨rfl, rfl, rfl, trivial⟩))
 refine WC.seq (WC.seq (WC.region ?_))
 refine WL.q (oq_move rfl) rfl rfl rfl ?_
 refine WL.q (oq_len_s Tryz.underlying9 rfl) rfl rfl rfl ?_
 refine WL.q (oq_gtr rfl rfl) rfl rfl rfl ?_
 refine WL.nil (WE.then_normal (WC.sub (fr' := [(1, _), (2, _), (3, _), (12, _)]) ?_ ⟨rfl, rfl, rfl, rfl, trivial⟩))
 refine WC.cond rfl (fun q1 => ?_) (fun q1 => ?_)
 ·
  try simp only [Z1, Z2, Z3, Z4, Z5, Z6, Z7, Z8, Z9, Z0] at q1
  first | contradiction | (exfalso; omega) | (exfalso; simp_all; done)
 ·
  try simp only [Z1, Z2, Z3, Z4, Z5, Z6, Z7, Z8, Z9, Z0] at q1
  refine WC.skip (WE.then_normal (WC.sub (fr' := [(1, _), (2, _), (3, _)]) ?_ ⟨rfl, rfl, rfl, trivial⟩))
  refine WC.seq (WC.region ?_)
  refine WL.q (oq_move rfl) rfl rfl rfl ?_
  refine WL.q (oq_len_s Tryz.underlying9 rfl) rfl rfl rfl ?_
  refine WL.q (oq_conv Tryz.underlying3 Tryz.underlying186 rfl (by rw [u16_lo, u16_hi]; (first | omega | (simp only [List.length_cons, List.length_nil, List.length_append, List.length_drop, List.length_take]; omega)))) rfl rfl rfl ?_
  refine WL.q (oq_fieldAddr fld224_1 rfl) rfl rfl rfl ?_
  refine WL.store1 #[_, _, _] ty186 rfl rfl (by first | rfl | exact OwS.one one_) (Nat.lt_of_lt_of_le (Nat.lt_succ_self _) (Nat.le_of_ble_eq_true rfl)) rfl rfl ?_
  refine WL.nil (WE.then_normal (WC.sub (fr' := [(1, _), (2, _), (3, _)]) ?_ ⟨rfl, rfl, rfl, trivial⟩))
  refine WC.seq (WC.region ?_)
  refine WL.q (oq_move rfl) rfl rfl rfl ?_
  refine WL.q (oq_fieldAddr fld224_0 rfl) rfl rfl rfl ?_
  refine WL.q (oq_load flat185 rfl (.head _) (List.mem_singleton.2 rfl) rfl) rfl rfl rfl ?_
  refine WL.q (oq_makeI conc185 rfl) rfl rfl rfl ?_
  refine WL.q (oq_fieldAddr fld224_1 rfl) rfl rfl rfl ?_
  refine WL.q (oq_load flat186 rfl (.head _) (List.mem_singleton.2 rfl) rfl) rfl rfl rfl ?_
  refine WL.q (oq_makeI conc186 rfl) rfl rfl rfl ?_
  refine WL.buildL Tryz.underlying184 ty20 rfl rfl (by decide) (by decide) rfl rfl rfl fun v4 A4 ho4 hne4 => ?_
  refine WL.f2 ?_
  refine WL.f1 ?_
  refine WL.callW2 (zzWrite _ _ _ _ _ (bufWr _ bb) acc0 G hG v4 A4 [⟨185, .u8, 1, (t.toNat : Int)⟩, ⟨186, .u16, 2, (data.length : Int)⟩] ho4.rd (ok2 (okT _) (by simp [Num.ok, Num.kinds])) (by simp) (by simp; omega)) call70 rfl rfl rfl fun v4_8 Hs4_8 hR4_8 => ?_
  obtain ⟨G2, rfl, rfl, hG2⟩ := hR4_8
  rw [bytesN2] at hG2
  refine WL.to2 ?_
  refine WL.q (oq_assign rfl) rfl rfl rfl ?_
  refine WL.nil (WE.then_normal (WC.sub (fr' := [(1, _), (2, _), (7, _)]) ?_ ⟨rfl, rfl, rfl, trivial⟩))
  refine WC.seq (WC.seq (WC.region ?_))
  refine WL.q (oq_move rfl) rfl rfl rfl ?_
  refine WL.q (oq_ineq Tryz.underlying99 rfl (.inl rfl)) rfl rfl rfl ?_
  refine WL.nil (WE.then_normal (WC.sub (fr' := [(1, _), (2, _), (7, _), (33, _)]) ?_ ⟨rfl, rfl, rfl, rfl, trivial⟩))
  refine WC.cond rfl (fun q5 => ?_) (fun q5 => ?_)
  ·
   try simp only [Z1, Z2, Z3, Z4, Z5, Z6, Z7, Z8, Z9, Z0] at q5
   first | contradiction | (exfalso; omega) | (exfalso; simp_all; done)
  ·
   try simp only [Z1, Z2, Z3, Z4, Z5, Z6, Z7, Z8, Z9, Z0] at q5
   refine WC.skip (WE.then_normal (WC.sub (fr' := [(1, _), (2, _)]) ?_ ⟨rfl, rfl, trivial⟩))
   refine WC.seq (WC.seq (WC.region ?_))
   refine WL.q (oq_move rfl) rfl rfl rfl ?_
   refine WL.q (oq_askYes askBS rfl) rfl rfl rfl ?_
   refine WL.q (oq_move rfl) rfl rfl rfl ?_
   refine WL.q (oq_extract rfl rfl) rfl rfl rfl ?_
   refine WL.q (oq_extract rfl rfl) rfl rfl rfl ?_
   refine WL.q (oq_assign rfl) rfl rfl rfl ?_
   refine WL.q (oq_assign rfl) rfl rfl rfl ?_
   refine WL.nil (WE.then_normal (WC.sub (fr' := [(1, _), (2, _), (8, _), (9, _)]) ?_ ⟨rfl, rfl, rfl, rfl, trivial⟩))
   refine WC.seq (WC.region ?_)
   refine WL.q (oq_move rfl) rfl rfl rfl ?_
   refine WL.nil (WE.then_normal (WC.sub (fr' := [(1, _), (2, _), (8, _), (40, _)]) ?_ ⟨rfl, rfl, rfl, rfl, trivial⟩))
   refine WC.cond rfl (fun q8 => ?_) (fun q8 => ?_)
   ·
    try simp only [Z1, Z2, Z3, Z4, Z5, Z6, Z7, Z8, Z9, Z0] at q8
    refine WC.region ?_
    refine WL.q (oq_move rfl) rfl rfl rfl ?_
    refine WL.q (oq_move rfl) rfl rfl rfl ?_
    refine WL.f1 ?_
    refine WL.callWE (fun a w hf => ent_inv1 invBS rfl rfl hf w) (bufWrS _ bb _ G2 data hG2 (by simp [be_len]; omega) (by simp; omega)) rfl rfl rfl rfl fun v9_2 Hs9_2 hR9_2 => ?_
    obtain ⟨G3, rfl, rfl, hG3⟩ := hR9_2
    refine WL.app1 ?_
    refine WL.q (oq_move rfl) rfl rfl rfl ?_
    refine WL.q (oq_extract rfl rfl) rfl rfl rfl ?_
    refine WL.q (oq_extract rfl rfl) rfl rfl rfl ?_
    refine WL.q (oq_assign rfl) rfl rfl rfl ?_
    refine WL.nil (WE.then_normal (WC.sub (fr' := [(7, _)]) ?_ ⟨rfl, trivial⟩))
    refine WC.seq (WC.region ?_)
    refine WL.q (oq_move rfl) rfl rfl rfl ?_
    refine WL.q (oq_assign rfl) rfl rfl rfl ?_
    refine WL.nil (WE.then_normal (WC.sub (fr' := [(6, _)]) ?_ ⟨rfl, trivial⟩))
    refine WC.ret ?_
    refine WE.f1 ?_
    refine WE.forget ho4.fresh ?_
    refine WE.f1 ?_
    refine WE.lose hb0_0 ?_
    refine WE.endW1 (.inl rfl) (res1 Tryz.results184 rfl) ?_
    exact ⟨_, rfl, rfl, by rw [List.append_assoc] at hG3; exact hG3⟩
   ·
    try simp only [Z1, Z2, Z3, Z4, Z5, Z6, Z7, Z8, Z9, Z0] at q8
    first | contradiction | (exfalso; omega) | (exfalso; simp_all; done)
end EF
end Go.Proofs.YtodlhaghdplclaaGreatDoor
/- The encodings of values. -/
namespace Go.Proofs.YtodlhaghdplclaaGreatDoor
open Go Go.RowKit V EA EB EC ED EE EF
set_option linter.unusedSimpArgs false
set_option linter.unusedVariables false
set_option maxRecDepth 10000
namespace EG
theorem call70 : Callable Tryz.prog 70 := ⟨_, Tryz.func70, rfl, by kernel_rfl⟩
theorem call157 : Callable Tryz.prog 157 := ⟨_, Tryz.func157, rfl, by kernel_rfl⟩
theorem call161 : Callable Tryz.prog 161 := ⟨_, Tryz.func161, rfl, by kernel_rfl⟩
theorem call162 : Callable Tryz.prog 162 := ⟨_, Tryz.func162, rfl, by kernel_rfl⟩
theorem call166 : Callable Tryz.prog 166 := ⟨_, Tryz.func166, rfl, by kernel_rfl⟩
theorem call170 : Callable Tryz.prog 170 := ⟨_, Tryz.func170, rfl, by kernel_rfl⟩
theorem call174 : Callable Tryz.prog 174 := ⟨_, Tryz.func174, rfl, by kernel_rfl⟩
theorem call178 : Callable Tryz.prog 178 := ⟨_, Tryz.func178, rfl, by kernel_rfl⟩
theorem call179 : Callable Tryz.prog 179 := ⟨_, Tryz.func179, rfl, by kernel_rfl⟩
theorem call183 : Callable Tryz.prog 183 := ⟨_, Tryz.func183, rfl, by kernel_rfl⟩
theorem call184 : Callable Tryz.prog 184 := ⟨_, Tryz.func184, rfl, by kernel_rfl⟩
theorem call194 : Callable Tryz.prog 194 := ⟨_, Tryz.func194, rfl, by kernel_rfl⟩
theorem call195 : Callable Tryz.prog 195 := ⟨_, Tryz.func195, rfl, by kernel_rfl⟩
theorem ty5 : Ty Tryz.prog 5 (.int .u8 0) 1 1 := ty_of (by kernel_rfl)
theorem ty20 : Ty Tryz.prog 20 .nilIface 1 16 := ty_of (by kernel_rfl)
theorem ty137 : Ty Tryz.prog 137 (.agg #[(.int .u8 0), (.int .u8 0), (.int .u8 0), (.int .u8 0), (.int .u8 0), (.int .u8 0), (.int .u8 0), (.int .u8 0), (.int .u8 0), (.int .u8 0), (.int .u8 0), (.int .u8 0), (.int .u8 0), (.int .u8 0), (.int .u8 0), (.int .u8 0)]) 16 16 := ty_of (by kernel_rfl)
theorem ty224 : Ty Tryz.prog 224 (.agg #[(.int .u8 0), (.int .u16 0), (.slice none 0 0)]) 3 32 := ty_of (by kernel_rfl)
theorem conc127 : Conc Tryz.prog 127 := ⟨_, Tryz.underlying127, by simp⟩
theorem conc129 : Conc Tryz.prog 129 := ⟨_, Tryz.underlying129, by simp⟩
theorem conc130 : Conc Tryz.prog 130 := ⟨_, Tryz.underlying130, by simp⟩
theorem conc131 : Conc Tryz.prog 131 := ⟨_, Tryz.underlying131, by simp⟩
theorem conc185 : Conc Tryz.prog 185 := ⟨_, Tryz.underlying185, by simp⟩
theorem agg137 : Agg Tryz.prog 137 := agg_arr Tryz.underlying137
theorem agg224 : Agg Tryz.prog 224 := agg_of Tryz.underlying224
theorem str224 : Str Tryz.prog 224 #[(0, 1), (1, 1), (2, 1)] := ⟨_, Tryz.underlying224, fun w => by kernel_rfl⟩
theorem vtInt8Value (x : Int) : Fn0 Tryz.prog 161 [.int .i8 x] (.int .u8 2) := by
 refine Fn0.enter (n := 3) Tryz.func161 rfl rfl fun w0 => ?_
 refine WC.sub (fr' := []) ?_ trivial
 refine WC.seq (WC.region ?_)
 refine WL.q (oq_assign rfl) rfl rfl rfl ?_
 refine WL.nil (WE.then_normal (WC.sub (fr' := []) ?_ trivial))
 refine WC.seq (WC.region ?_)
 refine WL.q (oq_assign rfl) rfl rfl rfl ?_
 refine WL.nil (WE.then_normal (WC.sub (fr' := [(2, _)]) ?_ ⟨rfl, trivial⟩))
 refine WC.ret ?_
 refine WE.end0 (.inl rfl) (res1 Tryz.results161 rfl) ?_
 rfl
theorem vtInt16Value (x : Int) : Fn0 Tryz.prog 166 [.int .i16 x] (.int .u8 3) := by
 refine Fn0.enter (n := 3) Tryz.func166 rfl rfl fun w0 => ?_
 refine WC.sub (fr' := []) ?_ trivial
 refine WC.seq (WC.region ?_)
 refine WL.q (oq_assign rfl) rfl rfl rfl ?_
 refine WL.nil (WE.then_normal (WC.sub (fr' := []) ?_ trivial))
 refine WC.seq (WC.region ?_)
 refine WL.q (oq_assign rfl) rfl rfl rfl ?_
 refine WL.nil (WE.then_normal (WC.sub (fr' := [(2, _)]) ?_ ⟨rfl, trivial⟩))
 refine WC.ret ?_
 refine WE.end0 (.inl rfl) (res1 Tryz.results166 rfl) ?_
 rfl
theorem vtInt32Value (x : Int) : Fn0 Tryz.prog 170 [.int .i32 x] (.int .u8 4) := by
 refine Fn0.enter (n := 3) Tryz.func170 rfl rfl fun w0 => ?_
 refine WC.sub (fr' := []) ?_ trivial
 refine WC.seq (WC.region ?_)
 refine WL.q (oq_assign rfl) rfl rfl rfl ?_
 refine WL.nil (WE.then_normal (WC.sub (fr' := []) ?_ trivial))
 refine WC.seq (WC.region ?_)
 refine WL.q (oq_assign rfl) rfl rfl rfl ?_
 refine WL.nil (WE.then_normal (WC.sub (fr' := [(2, _)]) ?_ ⟨rfl, trivial⟩))
 refine WC.ret ?_
 refine WE.end0 (.inl rfl) (res1 Tryz.results170 rfl) ?_
 rfl
theorem vtInt64Value (x : Int) : Fn0 Tryz.prog 174 [.int .i64 x] (.int .u8 5) := by
 refine Fn0.enter (n := 3) Tryz.func174 rfl rfl fun w0 => ?_
 refine WC.sub (fr' := []) ?_ trivial
 refine WC.seq (WC.region ?_)
 refine WL.q (oq_assign rfl) rfl rfl rfl ?_
 refine WL.nil (WE.then_normal (WC.sub (fr' := []) ?_ trivial))
 refine WC.seq (WC.region ?_)
 refine WL.q (oq_assign rfl) rfl rfl rfl ?_
 refine WL.nil (WE.then_normal (WC.sub (fr' := [(2, _)]) ?_ ⟨rfl, trivial⟩))
 refine WC.ret ?_
 refine WE.end0 (.inl rfl) (res1 Tryz.results174 rfl) ?_
 rfl
theorem encInt8Value (base : Nat) (k : TypeId) (r : Value) (f : FuncId) (Wt : List UInt8 → Hp → Prop) (hW : Wr base k r f Wt) (acc0 : List UInt8) (G : Hp) (hG : Wt acc0 G) (x : Int) (hal : acc0.length ≤ 290000) : FnW Tryz.prog 160 [.int .i8 x, .iface k r] base [G] (Then Wt (acc0 ++ (2 :: be 1 x)) []) := by
 refine FnW.enter (n := 14) Tryz.func160 rfl rfl fun w0 R0 hbase => ?_
 subst hbase
 show WC _ _ _ _ _ _ _ ([G, R0])
 refine WC.sub (fr' := [(0, _), (1, _)]) ?_ ⟨rfl, rfl, trivial⟩
 refine WC.seq (WC.region ?_)
 refine WL.q (oq_assign rfl) rfl rfl rfl ?_
 refine WL.nil (WE.then_normal (WC.sub (fr' := [(0, _), (1, _)]) ?_ ⟨rfl, rfl, trivial⟩))
 refine WC.seq (WC.region ?_)
 refine WL.q (oq_move rfl) rfl rfl rfl ?_
 refine WL.qc (oq_call (vtInt8Value x) call161 rfl) rfl rfl rfl ?_
 refine WL.q (oq_build #[_, _, _] str224 ty224 rfl rfl) rfl rfl rfl ?_
 refine WL.alloc ty224 rfl rfl fun b1_3 hb1_3 => ?_
 refine WL.storeS #[_, _, _] ty224 rfl rfl rfl rfl (Nat.le_of_ble_eq_true rfl) rfl rfl ?_
 refine WL.nil (WE.then_normal (WC.sub (fr' := [(0, _), (1, _), (5, _)]) ?_ ⟨rfl, rfl, rfl, trivial⟩))
 refine WC.seq (WC.region ?_)
 refine WL.q (oq_loadS [_, _, _] agg224 ty224 rfl (.head _) (List.mem_singleton.2 rfl) rfl rfl) rfl rfl rfl ?_
 refine WL.q (oq_move rfl) rfl rfl rfl ?_
 refine WL.q (oq_move rfl) rfl rfl rfl ?_
 refine WL.q (oq_makeI conc127 rfl) rfl rfl rfl ?_
 refine WL.f1 ?_
 refine WL.callW1 (encScalar _ k r f Wt hW acc0 G hG 2 (.int .u16 0) (.slice none 0 0) ⟨127, .i8, 1, x⟩ (by simp [Num.ok, Num.kinds]) hal) call162 rfl rfl rfl fun v2_4 Hs2_4 hR2_4 => ?_
 obtain ⟨G2, rfl, rfl, hG2⟩ := hR2_4
 refine WL.to1 ?_
 refine WL.q (oq_assign rfl) rfl rfl rfl ?_
 refine WL.nil (WE.then_normal (WC.sub (fr' := [(4, _)]) ?_ ⟨rfl, trivial⟩))
 refine WC.ret ?_
 refine WE.f1 ?_
 refine WE.lose hb1_3 ?_
 refine WE.endW1 (.inl rfl) (res1 Tryz.results160 rfl) ?_
 exact ⟨_, rfl, rfl, hG2⟩
theorem encInt16Value (base : Nat) (k : TypeId) (r : Value) (f : FuncId) (Wt : List UInt8 → Hp → Prop) (hW : Wr base k r f Wt) (acc0 : List UInt8) (G : Hp) (hG : Wt acc0 G) (x : Int) (hal : acc0.length ≤ 290000) : FnW Tryz.prog 165 [.int .i16 x, .iface k r] base [G] (Then Wt (acc0 ++ (3 :: be 2 x)) []) := by
 refine FnW.enter (n := 14) Tryz.func165 rfl rfl fun w0 R0 hbase => ?_
 subst hbase
 show WC _ _ _ _ _ _ _ ([G, R0])
 refine WC.sub (fr' := [(0, _), (1, _)]) ?_ ⟨rfl, rfl, trivial⟩
 refine WC.seq (WC.region ?_)
 refine WL.q (oq_assign rfl) rfl rfl rfl ?_
 refine WL.nil (WE.then_normal (WC.sub (fr' := [(0, _), (1, _)]) ?_ ⟨rfl, rfl, trivial⟩))
 refine WC.seq (WC.region ?_)
 refine WL.q (oq_move rfl) rfl rfl rfl ?_
 refine WL.qc (oq_call (vtInt16Value x) call166 rfl) rfl rfl rfl ?_
 refine WL.q (oq_build #[_, _, _] str224 ty224 rfl rfl) rfl rfl rfl ?_
 refine WL.alloc ty224 rfl rfl fun b1_3 hb1_3 => ?_
 refine WL.storeS #[_, _, _] ty224 rfl rfl rfl rfl (Nat.le_of_ble_eq_true rfl) rfl rfl ?_
 refine WL.nil (WE.then_normal (WC.sub (fr' := [(0, _), (1, _), (5, _)]) ?_ ⟨rfl, rfl, rfl, trivial⟩))
 refine WC.seq (WC.region ?_)
 refine WL.q (oq_loadS [_, _, _] agg224 ty224 rfl (.head _) (List.mem_singleton.2 rfl) rfl rfl) rfl rfl rfl ?_
 refine WL.q (oq_move rfl) rfl rfl rfl ?_
 refine WL.q (oq_move rfl) rfl rfl rfl ?_
 refine WL.q (oq_makeI conc129 rfl) rfl rfl rfl ?_
 refine WL.f1 ?_
 refine WL.callW1 (encScalar _ k r f Wt hW acc0 G hG 3 (.int .u16 0) (.slice none 0 0) ⟨129, .i16, 2, x⟩ (by simp [Num.ok, Num.kinds]) hal) call162 rfl rfl rfl fun v2_4 Hs2_4 hR2_4 => ?_
 obtain ⟨G2, rfl, rfl, hG2⟩ := hR2_4
 refine WL.to1 ?_
 refine WL.q (oq_assign rfl) rfl rfl rfl ?_
 refine WL.nil (WE.then_normal (WC.sub (fr' := [(4, _)]) ?_ ⟨rfl, trivial⟩))
 refine WC.ret ?_
 refine WE.f1 ?_
 refine WE.lose hb1_3 ?_
 refine WE.endW1 (.inl rfl) (res1 Tryz.results165 rfl) ?_
 exact ⟨_, rfl, rfl, hG2⟩
theorem encInt32Value (base : Nat) (k : TypeId) (r : Value) (f : FuncId) (Wt : List UInt8 → Hp → Prop) (hW : Wr base k r f Wt) (acc0 : List UInt8) (G : Hp) (hG : Wt acc0 G) (x : Int) (hal : acc0.length ≤ 290000) : FnW Tryz.prog 169 [.int .i32 x, .iface k r] base [G] (Then Wt (acc0 ++ (4 :: be 4 x)) []) := by
 refine FnW.enter (n := 14) Tryz.func169 rfl rfl fun w0 R0 hbase => ?_
 subst hbase
 show WC _ _ _ _ _ _ _ ([G, R0])
 refine WC.sub (fr' := [(0, _), (1, _)]) ?_ ⟨rfl, rfl, trivial⟩
 refine WC.seq (WC.region ?_)
 refine WL.q (oq_assign rfl) rfl rfl rfl ?_
 refine WL.nil (WE.then_normal (WC.sub (fr' := [(0, _), (1, _)]) ?_ ⟨rfl, rfl, trivial⟩))
 refine WC.seq (WC.region ?_)
 refine WL.q (oq_move rfl) rfl rfl rfl ?_
 refine WL.qc (oq_call (vtInt32Value x) call170 rfl) rfl rfl rfl ?_
 refine WL.q (oq_build #[_, _, _] str224 ty224 rfl rfl) rfl rfl rfl ?_
 refine WL.alloc ty224 rfl rfl fun b1_3 hb1_3 => ?_
 refine WL.storeS #[_, _, _] ty224 rfl rfl rfl rfl (Nat.le_of_ble_eq_true rfl) rfl rfl ?_
 refine WL.nil (WE.then_normal (WC.sub (fr' := [(0, _), (1, _), (5, _)]) ?_ ⟨rfl, rfl, rfl, trivial⟩))
 refine WC.seq (WC.region ?_)
 refine WL.q (oq_loadS [_, _, _] agg224 ty224 rfl (.head _) (List.mem_singleton.2 rfl) rfl rfl) rfl rfl rfl ?_
 refine WL.q (oq_move rfl) rfl rfl rfl ?_
 refine WL.q (oq_move rfl) rfl rfl rfl ?_
 refine WL.q (oq_makeI conc130 rfl) rfl rfl rfl ?_
 refine WL.f1 ?_
 refine WL.callW1 (encScalar _ k r f Wt hW acc0 G hG 4 (.int .u16 0) (.slice none 0 0) ⟨130, .i32, 4, x⟩ (by simp [Num.ok, Num.kinds]) hal) call162 rfl rfl rfl fun v2_4 Hs2_4 hR2_4 => ?_
 obtain ⟨G2, rfl, rfl, hG2⟩ := hR2_4
 refine WL.to1 ?_
 refine WL.q (oq_assign rfl) rfl rfl rfl ?_
 refine WL.nil (WE.then_normal (WC.sub (fr' := [(4, _)]) ?_ ⟨rfl, trivial⟩))
 refine WC.ret ?_
 refine WE.f1 ?_
 refine WE.lose hb1_3 ?_
 refine WE.endW1 (.inl rfl) (res1 Tryz.results169 rfl) ?_
 exact ⟨_, rfl, rfl, hG2⟩
theorem encInt64Value (base : Nat) (k : TypeId) (r : Value) (f : FuncId) (Wt : List UInt8 → Hp → Prop) (hW : Wr base k r f Wt) (acc0 : List UInt8) (G : Hp) (hG : Wt acc0 G) (x : Int) (hal : acc0.length ≤ 290000) : FnW Tryz.prog 173 [.int .i64 x, .iface k r] base [G] (Then Wt (acc0 ++ (5 :: be 8 x)) []) := by
 refine FnW.enter (n := 14) Tryz.func173 rfl rfl fun w0 R0 hbase => ?_
 subst hbase
 show WC _ _ _ _ _ _ _ ([G, R0])
 refine WC.sub (fr' := [(0, _), (1, _)]) ?_ ⟨rfl, rfl, trivial⟩
 refine WC.seq (WC.region ?_)
 refine WL.q (oq_assign rfl) rfl rfl rfl ?_
 refine WL.nil (WE.then_normal (WC.sub (fr' := [(0, _), (1, _)]) ?_ ⟨rfl, rfl, trivial⟩))
 refine WC.seq (WC.region ?_)
 refine WL.q (oq_move rfl) rfl rfl rfl ?_
 refine WL.qc (oq_call (vtInt64Value x) call174 rfl) rfl rfl rfl ?_
 refine WL.q (oq_build #[_, _, _] str224 ty224 rfl rfl) rfl rfl rfl ?_
 refine WL.alloc ty224 rfl rfl fun b1_3 hb1_3 => ?_
 refine WL.storeS #[_, _, _] ty224 rfl rfl rfl rfl (Nat.le_of_ble_eq_true rfl) rfl rfl ?_
 refine WL.nil (WE.then_normal (WC.sub (fr' := [(0, _), (1, _), (5, _)]) ?_ ⟨rfl, rfl, rfl, trivial⟩))
 refine WC.seq (WC.region ?_)
 refine WL.q (oq_loadS [_, _, _] agg224 ty224 rfl (.head _) (List.mem_singleton.2 rfl) rfl rfl) rfl rfl rfl ?_
 refine WL.q (oq_move rfl) rfl rfl rfl ?_
 refine WL.q (oq_move rfl) rfl rfl rfl ?_
 refine WL.q (oq_makeI conc131 rfl) rfl rfl rfl ?_
 refine WL.f1 ?_
 refine WL.callW1 (encScalar _ k r f Wt hW acc0 G hG 5 (.int .u16 0) (.slice none 0 0) ⟨131, .i64, 8, x⟩ (by simp [Num.ok, Num.kinds]) hal) call162 rfl rfl rfl fun v2_4 Hs2_4 hR2_4 => ?_
 obtain ⟨G2, rfl, rfl, hG2⟩ := hR2_4
 refine WL.to1 ?_
 refine WL.q (oq_assign rfl) rfl rfl rfl ?_
 refine WL.nil (WE.then_normal (WC.sub (fr' := [(4, _)]) ?_ ⟨rfl, trivial⟩))
 refine WC.ret ?_
 refine WE.f1 ?_
 refine WE.lose hb1_3 ?_
 refine WE.endW1 (.inl rfl) (res1 Tryz.results173 rfl) ?_
 exact ⟨_, rfl, rfl, hG2⟩
theorem vtBytesValue (s : Value) : Fn0 Tryz.prog 178 [s] (.int .u8 6) := by
 refine Fn0.enter (n := 3) Tryz.func178 rfl rfl fun w0 => ?_
 refine WC.sub (fr' := []) ?_ trivial
 refine WC.seq (WC.region ?_)
 refine WL.q (oq_assign rfl) rfl rfl rfl ?_
 refine WL.nil (WE.then_normal (WC.sub (fr' := []) ?_ trivial))
 refine WC.seq (WC.region ?_)
 refine WL.q (oq_assign rfl) rfl rfl rfl ?_
 refine WL.nil (WE.then_normal (WC.sub (fr' := [(2, _)]) ?_ ⟨rfl, trivial⟩))
 refine WC.ret ?_
 refine WE.end0 (.inl rfl) (res1 Tryz.results178 rfl) ?_
 rfl
theorem encBytesValue (base : Nat) (k : TypeId) (r : Value) (f : FuncId) (Wt : List UInt8 → Hp → Prop) (hW : Wr base k r f Wt) (acc0 : List UInt8) (G : Hp) (hG : Wt acc0 G) (s : Value) (Z : Hp) (data : List UInt8) (hr : RdS 1 s Z data.length (bytesV data)) (hdl : data.length ≤ 32767) (hal : acc0.length ≤ 250000) : FnW Tryz.prog 177 [s, .iface k r] base [G, Z] (Then Wt (acc0 ++ (6 :: be 2 data.length ++ data)) [Z]) := by
 refine FnW.enter (n := 13) Tryz.func177 rfl rfl fun w0 R0 hbase => ?_
 subst hbase
 show WC _ _ _ _ _ _ _ ([G, Z, R0])
 refine WC.sub (fr' := [(0, _), (1, _)]) ?_ ⟨rfl, rfl, trivial⟩
 refine WC.seq (WC.region ?_)
 refine WL.q (oq_assign rfl) rfl rfl rfl ?_
 refine WL.nil (WE.then_normal (WC.sub (fr' := [(0, _), (1, _)]) ?_ ⟨rfl, rfl, trivial⟩))
 refine WC.seq (WC.region ?_)
 refine WL.q (oq_move rfl) rfl rfl rfl ?_
 refine WL.qc (oq_call (vtBytesValue s) call178 rfl) rfl rfl rfl ?_
 refine WL.q (oq_build #[_, _, _] str224 ty224 rfl rfl) rfl rfl rfl ?_
 refine WL.alloc ty224 rfl rfl fun b1_3 hb1_3 => ?_
 refine WL.storeS #[_, _, _] ty224 rfl rfl rfl rfl (Nat.le_of_ble_eq_true rfl) rfl rfl ?_
 refine WL.nil (WE.then_normal (WC.sub (fr' := [(0, _), (1, _), (5, _)]) ?_ ⟨rfl, rfl, rfl, trivial⟩))
 refine WC.seq (WC.region ?_)
 refine WL.q (oq_loadS [_, _, _] agg224 ty224 rfl (.head _) (List.mem_singleton.2 rfl) rfl rfl) rfl rfl rfl ?_
 refine WL.q (oq_move rfl) rfl rfl rfl ?_
 refine WL.q (oq_move rfl) rfl rfl rfl ?_
 refine WL.f2 ?_
 refine WL.f2 ?_
 refine WL.callW2 (encBytes _ k r f Wt hW acc0 G hG 6 (.int .u16 0) (.slice none 0 0) s Z data hr hdl hal) call179 rfl rfl rfl fun v2_3 Hs2_3 hR2_3 => ?_
 obtain ⟨G2, rfl, rfl, hG2⟩ := hR2_3
 refine WL.to2 ?_
 refine WL.q (oq_assign rfl) rfl rfl rfl ?_
 refine WL.nil (WE.then_normal (WC.sub (fr' := [(4, _)]) ?_ ⟨rfl, trivial⟩))
 refine WC.ret ?_
 refine WE.f2 ?_
 refine WE.lose hb1_3 ?_
 refine WE.endW2 (.inl rfl) (res1 Tryz.results177 rfl) ?_
 exact ⟨_, rfl, rfl, hG2⟩
theorem vtStringValue (s : Value) : Fn0 Tryz.prog 183 [s] (.int .u8 7) := by
 refine Fn0.enter (n := 3) Tryz.func183 rfl rfl fun w0 => ?_
 refine WC.sub (fr' := []) ?_ trivial
 refine WC.seq (WC.region ?_)
 refine WL.q (oq_assign rfl) rfl rfl rfl ?_
 refine WL.nil (WE.then_normal (WC.sub (fr' := []) ?_ trivial))
 refine WC.seq (WC.region ?_)
 refine WL.q (oq_assign rfl) rfl rfl rfl ?_
 refine WL.nil (WE.then_normal (WC.sub (fr' := [(2, _)]) ?_ ⟨rfl, trivial⟩))
 refine WC.ret ?_
 refine WE.end0 (.inl rfl) (res1 Tryz.results183 rfl) ?_
 rfl
theorem encStringValue (base bb : Nat) (acc0 : List UInt8) (G : Hp) (hG : BufG base bb acc0 G) (data : List UInt8) (hdl : data.length ≤ 32767) (hal : acc0.length ≤ 250000) : FnW Tryz.prog 182 [S data, .iface 107 (Pt bb 0)] base [G] (Then (BufG base bb) (acc0 ++ (7 :: be 2 data.length ++ data)) []) := by
 refine FnW.enter (n := 13) Tryz.func182 rfl rfl fun w0 R0 hbase => ?_
 subst hbase
 show WC _ _ _ _ _ _ _ ([G, R0])
 refine WC.sub (fr' := [(0, _), (1, _)]) ?_ ⟨rfl, rfl, trivial⟩
 refine WC.seq (WC.region ?_)
 refine WL.q (oq_assign rfl) rfl rfl rfl ?_
 refine WL.nil (WE.then_normal (WC.sub (fr' := [(0, _), (1, _)]) ?_ ⟨rfl, rfl, trivial⟩))
 refine WC.seq (WC.region ?_)
 refine WL.q (oq_move rfl) rfl rfl rfl ?_
 refine WL.qc (oq_call (vtStringValue (S data)) call183 rfl) rfl rfl rfl ?_
 refine WL.q (oq_build #[_, _, _] str224 ty224 rfl rfl) rfl rfl rfl ?_
 refine WL.alloc ty224 rfl rfl fun b1_3 hb1_3 => ?_
 refine WL.storeS #[_, _, _] ty224 rfl rfl rfl rfl (Nat.le_of_ble_eq_true rfl) rfl rfl ?_
 refine WL.nil (WE.then_normal (WC.sub (fr' := [(0, _), (1, _), (5, _)]) ?_ ⟨rfl, rfl, rfl, trivial⟩))
 refine WC.seq (WC.region ?_)
 refine WL.q (oq_loadS [_, _, _] agg224 ty224 rfl (.head _) (List.mem_singleton.2 rfl) rfl rfl) rfl rfl rfl ?_
 refine WL.q (oq_move rfl) rfl rfl rfl ?_
 refine WL.q (oq_move rfl) rfl rfl rfl ?_
 refine WL.f1 ?_
 refine WL.callW1 (encString _ bb acc0 G hG 7 (.int .u16 0) (.slice none 0 0) data hdl hal) call184 rfl rfl rfl fun v2_3 Hs2_3 hR2_3 => ?_
 obtain ⟨G2, rfl, rfl, hG2⟩ := hR2_3
 refine WL.to1 ?_
 refine WL.q (oq_assign rfl) rfl rfl rfl ?_
 refine WL.nil (WE.then_normal (WC.sub (fr' := [(4, _)]) ?_ ⟨rfl, trivial⟩))
 refine WC.ret ?_
 refine WE.f1 ?_
 refine WE.lose hb1_3 ?_
 refine WE.endW1 (.inl rfl) (res1 Tryz.results182 rfl) ?_
 exact ⟨_, rfl, rfl, hG2⟩
theorem vtBoolValue (b : Bool) : Fn0 Tryz.prog 157 [.bool b] (.int .u8 ((if b then 0 else 1 : Nat) : Int)) := by
 refine Fn0.enter (n := 4) Tryz.func157 rfl rfl fun w0 => ?_
 refine WC.sub (fr' := [(0, _)]) ?_ ⟨rfl, trivial⟩
 refine WC.seq (WC.region ?_)
 refine WL.q (oq_assign rfl) rfl rfl rfl ?_
 refine WL.nil (WE.then_normal (WC.sub (fr' := [(0, _)]) ?_ ⟨rfl, trivial⟩))
 refine WC.seq (WC.seq (WC.region ?_))
 refine WL.q (oq_move rfl) rfl rfl rfl ?_
 refine WL.nil (WE.then_normal (WC.sub (fr' := [(3, _)]) ?_ ⟨rfl, trivial⟩))
 refine WC.cond rfl (fun q1 => ?_) (fun q1 => ?_)
 ·
  try simp only [Z1, Z2, Z3, Z4, Z5, Z6, Z7, Z8, Z9, Z0] at q1
  refine WC.seq (WC.region ?_)
  refine WL.q (oq_assign rfl) rfl rfl rfl ?_
  refine WL.nil (WE.then_normal (WC.sub (fr' := [(2, _)]) ?_ ⟨rfl, trivial⟩))
  refine WC.ret (WE.then_ret ?_)
  refine WE.end0 (.inl rfl) (res1 Tryz.results157 rfl) ?_
  rw [q1]; rfl
 ·
  try simp only [Z1, Z2, Z3, Z4, Z5, Z6, Z7, Z8, Z9, Z0] at q1
  refine WC.skip (WE.then_normal (WC.sub (fr' := []) ?_ trivial))
  refine WC.seq (WC.region ?_)
  refine WL.q (oq_assign rfl) rfl rfl rfl ?_
  refine WL.nil (WE.then_normal (WC.sub (fr' := [(2, _)]) ?_ ⟨rfl, trivial⟩))
  refine WC.ret ?_
  refine WE.end0 (.inl rfl) (res1 Tryz.results157 rfl) ?_
  rw [q1]; rfl
theorem encBoolValue (base : Nat) (k : TypeId) (r : Value) (f : FuncId) (Wt : List UInt8 → Hp → Prop) (hW : Wr base k r f Wt) (acc0 : List UInt8) (G : Hp) (hG : Wt acc0 G) (b : Bool) (hal : acc0.length ≤ 290000) : FnW Tryz.prog 156 [.bool b, .iface k r] base [G] (Then Wt (acc0 ++ [(if b then 0 else 1 : UInt8)]) []) := by
 refine FnW.enter (n := 11) Tryz.func156 rfl rfl fun w0 R0 hbase => ?_
 subst hbase
 show WC _ _ _ _ _ _ _ ([G, R0])
 refine WC.sub (fr' := [(0, _), (1, _)]) ?_ ⟨rfl, rfl, trivial⟩
 refine WC.seq (WC.region ?_)
 refine WL.q (oq_assign rfl) rfl rfl rfl ?_
 refine WL.nil (WE.then_normal (WC.sub (fr' := [(0, _), (1, _)]) ?_ ⟨rfl, rfl, trivial⟩))
 refine WC.seq (WC.region ?_)
 refine WL.q (oq_move rfl) rfl rfl rfl ?_
 refine WL.q (oq_move rfl) rfl rfl rfl ?_
 refine WL.qc (oq_call (vtBoolValue b) call157 rfl) rfl rfl rfl ?_
 refine WL.q (oq_makeI conc185 rfl) rfl rfl rfl ?_
 refine WL.buildL Tryz.underlying184 ty20 rfl rfl (by decide) (by decide) rfl rfl rfl fun v1 A1 ho1 hne1 => ?_
 refine WL.f1 ?_
 refine WL.f1 ?_
 refine WL.callW2 (zzWrite _ k r f Wt hW acc0 G hG v1 A1 [⟨185, .u8, 1, ((if b then 0 else 1 : Nat) : Int)⟩] ho1.rd (ok1 (okT _)) (by simp) (by simp; omega)) call70 rfl rfl rfl fun v1_5 Hs1_5 hR1_5 => ?_
 obtain ⟨G2, rfl, rfl, hG2⟩ := hR1_5
 have e1 : bytesN [⟨185, .u8, 1, ((if b then 0 else 1 : Nat) : Int)⟩] = [(if b then 0 else 1 : UInt8)] := by cases b <;> decide
 rw [e1] at hG2
 refine WL.to2 ?_
 refine WL.q (oq_assign rfl) rfl rfl rfl ?_
 refine WL.nil (WE.then_normal (WC.sub (fr' := [(4, _)]) ?_ ⟨rfl, trivial⟩))
 refine WC.ret ?_
 refine WE.forget ho1.fresh ?_
 refine WE.endW1 (.inl rfl) (res1 Tryz.results156 rfl) ?_
 exact ⟨_, rfl, rfl, hG2⟩
theorem vtUUIDValue (l : List UInt8) (hl : l.length = 16) : Fn0 Tryz.prog 194 [.agg (bytesV l).toArray] (.int .u8 9) := by
 refine Fn0.enter (n := 3) Tryz.func194 rfl rfl fun w0 => ?_
 refine WC.sub (fr' := [(0, _)]) ?_ ⟨rfl, trivial⟩
 refine WC.seq (WC.region ?_)
 refine WL.box rfl rfl rfl fun b0_0 hb0_0 => ?_
 refine WL.q (oq_assign rfl) rfl rfl rfl ?_
 refine WL.nil (WE.then_normal (WC.sub (fr' := []) ?_ trivial))
 refine WC.seq (WC.region ?_)
 refine WL.q (oq_assign rfl) rfl rfl rfl ?_
 refine WL.nil (WE.then_normal (WC.sub (fr' := [(2, _)]) ?_ ⟨rfl, trivial⟩))
 refine WC.ret ?_
 refine WE.lose hb0_0 ?_
 refine WE.end0 (.inl rfl) (res1 Tryz.results194 rfl) ?_
 rfl
theorem encUUIDValue (base : Nat) (k : TypeId) (r : Value) (f : FuncId) (Wt : List UInt8 → Hp → Prop) (hW : Wr base k r f Wt) (acc0 : List UInt8) (G : Hp) (hG : Wt acc0 G) (l : List UInt8) (hl : l.length = 16) (hal : acc0.length ≤ 250000) : FnW Tryz.prog 193 [.agg (bytesV l).toArray, .iface k r] base [G] (Then Wt (acc0 ++ (9 :: l)) []) := by
 refine FnW.enter (n := 13) Tryz.func193 rfl rfl fun w0 R0 hbase => ?_
 subst hbase
 show WC _ _ _ _ _ _ _ ([G, R0])
 refine WC.sub (fr' := [(0, _), (1, _)]) ?_ ⟨rfl, rfl, trivial⟩
 refine WC.seq (WC.region ?_)
 refine WL.box rfl rfl rfl fun ub hub => ?_
 refine WL.asB (l) rfl ?_
 refine WL.q (oq_assign rfl) rfl rfl rfl ?_
 refine WL.nil (WE.then_normal (WC.sub (fr' := [(1, _), (2, _)]) ?_ ⟨rfl, rfl, trivial⟩))
 refine WC.seq (WC.region ?_)
 refine WL.q (oq_loadArr agg137 ty137 (hl) rfl (.head _)) rfl rfl rfl ?_
 refine WL.qc (oq_call (vtUUIDValue l hl) call194 rfl) rfl rfl rfl ?_
 refine WL.q (oq_build #[_, _, _] str224 ty224 rfl rfl) rfl rfl rfl ?_
 refine WL.alloc ty224 rfl rfl fun b1_3 hb1_3 => ?_
 refine WL.storeS #[_, _, _] ty224 rfl rfl rfl rfl (Nat.le_of_ble_eq_true rfl) rfl rfl ?_
 refine WL.nil (WE.then_normal (WC.sub (fr' := [(1, _), (2, _), (5, _)]) ?_ ⟨rfl, rfl, rfl, trivial⟩))
 refine WC.seq ?_
 have hrd : RdS 1 (Sl ub 0 16 16) (Bf ub 137 l) l.length (bytesV l) := by
  have h1 := Sl.rd (b := ub) (off := 0) (n := 16) (c := 16) (e := 137) (l := l) (by omega) (by omega)
  rw [List.drop_zero, List.take_of_length_le (by omega)] at h1; rw [hl]; exact h1
 refine WC.tailM (pl := []) (ql := [_, _, _]) (tl := [_, _]) [] [0, 1, 2] 3 [4] (by kernel_rfl) (by kernel_rfl) (by kernel_rfl) (by kernel_rfl) (by kernel_rfl) (by kernel_rfl) (by decide) rfl rfl rfl (by decide) (by repeat (first | with_reducible exact QOk.body | with_reducible apply QOk.then | with_reducible apply QOk.block | exact QOk.body | apply QOk.then | apply QOk.block)) ?_
 refine WM.nil ?_
 refine WY.q (oq_loadS [_, _, _] agg224 ty224 rfl (.head _) (List.mem_singleton.2 rfl) rfl rfl) rfl rfl rfl ?_
 refine WY.q (oq_move rfl) rfl rfl rfl ?_
 refine WY.q (oq_sliceArr Tryz.underlying137 ty5 rfl rfl rfl (by omega) (by omega)) rfl rfl rfl ?_
 refine WY.nil ?_
 refine WL.f1 ?_
 refine WL.f2 ?_
 refine WL.callW2 (encFixed _ k r f Wt hW acc0 G hG 9 (.int .u16 0) (.slice none 0 0) _ (Bf ub 137 l) l hrd (by omega) hal) call195 rfl rfl rfl fun v2_3 Hs2_3 hR2_3 => ?_
 obtain ⟨G2, rfl, rfl, hG2⟩ := hR2_3
 refine WL.to2 ?_
 refine WL.q (oq_assign rfl) rfl rfl rfl ?_
 refine WL.nil (WE.then_normal (WC.sub (fr' := [(4, _)]) ?_ ⟨rfl, trivial⟩))
 refine WC.ret ?_
 refine WE.f1 ?_
 refine WE.lose hub ?_
 refine WE.f1 ?_
 refine WE.lose hb1_3 ?_
 refine WE.endW1 (.inl rfl) (res1 Tryz.results193 rfl) ?_
 exact ⟨_, rfl, rfl, hG2⟩
end EG
end Go.Proofs.YtodlhaghdplclaaGreatDoor
