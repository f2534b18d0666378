/- Writing into a buffer of bytes. -/
import Derived.Test.YtodlhaghdplclaaDoorEA
namespace Go.Proofs.YtodlhaghdplclaaDoor
open Go Go.RowKit V EA
set_option linter.unusedSimpArgs false
set_option linter.unusedVariables false
set_option maxRecDepth 10000
namespace EB
theorem call57 : Callable Tryd.prog 57 := ⟨_, Tryd.func57, rfl, by kernel_rfl⟩
theorem call58 : Callable Tryd.prog 58 := ⟨_, Tryd.func58, rfl, by kernel_rfl⟩
theorem flat23 : Flat Tryd.prog 23 := ⟨_, Tryd.underlying23, by simp⟩
theorem ty5 : Ty Tryd.prog 5 (.int .u8 0) 1 1 := ty_of (by kernel_rfl)
theorem ty23 : Ty Tryd.prog 23 (.slice none 0 0) 1 24 := ty_of (by kernel_rfl)
theorem ty37 : Ty Tryd.prog 37 (.int .i8 0) 1 1 := ty_of (by kernel_rfl)
theorem fld39_0 : Fld Tryd.prog 39 0 0 23 := fld_of Tryd.underlying39 rfl rfl rfl ty23 (by decide)
theorem fld39_2 : Fld Tryd.prog 39 2 2 37 := fld_of Tryd.underlying39 rfl rfl rfl ty37 (by decide)

theorem tryYes (base bb B len cap n : Nat) (lr : Int) (hlc : len ≤ cap) (hl : len + n ≤ 1000000) (hmx : cap ≤ maxLen) (h0 : 0 < cap) (hf : len + n ≤ cap) : FnW Tryd.prog 58 [Pt bb 0, I (n : Int)] base [BB bb (Sl B 0 len cap) lr] (fun w Hs => w = .tuple #[I (len : Int), .bool true] ∧ Hs = [BB bb (Sl B 0 (len + n) cap) lr]) := by
  refine (tryGrow1 base bb B len cap n lr hlc hl hmx h0).mono ?_
  rintro v Hs ⟨rfl, rfl⟩
  rw [if_pos hf, if_pos hf, decide_eq_true hf]
  exact ⟨rfl, rfl⟩
theorem tryNo (base bb B len cap n : Nat) (lr : Int) (hlc : len ≤ cap) (hl : len + n ≤ 1000000) (hmx : cap ≤ maxLen) (h0 : 0 < cap) (hf : ¬ len + n ≤ cap) : FnW Tryd.prog 58 [Pt bb 0, I (n : Int)] base [BB bb (Sl B 0 len cap) lr] (fun w Hs => w = .tuple #[I 0, .bool false] ∧ Hs = [BB bb (Sl B 0 len cap) lr]) := by
  refine (tryGrow1 base bb B len cap n lr hlc hl hmx h0).mono ?_
  rintro v Hs ⟨rfl, rfl⟩
  rw [if_neg hf, if_neg hf, decide_eq_false hf]
  exact ⟨rfl, rfl⟩
/-- what is written: the result, and the buffer -/
def Wrote (base bb : Nat) (acc data : List UInt8) (C : List Hp) (w : Value) (Hs : List Hp) : Prop :=
  ∃ v A, w = .tuple #[I (data.length : Int), .nilIface] ∧ Hs = BB bb v 0 :: A :: C ∧ Buf base v A (acc ++ data)
theorem wrote_of {base bb B cap : Nat} {acc data L : List UInt8} {C : List Hp} {k : Int} {v : Value} {A : Hp} (hB : base ≤ B) (hL : L.length = cap) (hc : acc.length + data.length ≤ cap) (h0 : 0 < cap) (hm : cap ≤ maxLen) (ht : L.take acc.length = acc)
    (hk : k = (data.length : Int)) (hv : v = Sl B 0 (acc.length + data.length) cap) (hA : A = Bf B 5 (L.take acc.length ++ data ++ L.drop (acc.length + data.length))) : Wrote base bb acc data C (.tuple #[I k, .nilIface]) (BB bb v 0 :: A :: C) := by
  subst hk hv hA
  refine ⟨_, _, rfl, rfl, .inr ⟨B, cap, _, by rw [List.length_append], rfl, hB, ?_, by rw [List.length_append]; exact hc, h0, hm, ?_⟩⟩
  · simp; omega
  · rw [ht, List.take_left' rfl]
/-- (*bytes.Buffer).Write -/
theorem writeY (base bb : Nat) (lr : Int) (data : List UInt8) (B cap : Nat) (L acc : List UInt8) (hB : base ≤ B) (hLc : L.length = cap) (hac : acc.length ≤ cap) (hc0 : 0 < cap) (hmx : cap ≤ maxLen) (hLt : L.take acc.length = acc) (hal : acc.length + data.length ≤ 1000000) (s : Value) (C : Hp) (hr : RdS 1 s C data.length (bytesV data)) (hfit : acc.length + data.length ≤ cap) (hlc : acc.length < cap) : FnW Tryd.prog 54 [Pt bb 0, s] base [[(bb, .cells #[Sl B 0 acc.length cap, I 0, .int .i8 lr] 39 (0, 0))], Bf B 5 L, C] (Wrote base bb acc data [C]) := by
  have hmz : maxLen ≤ 9223372036854775807 := by unfold maxLen; omega
  refine FnW.enter (n := 32) Tryd.func54 rfl rfl fun w0 R0 hbase => ?_
  subst hbase
  show WC _ _ _ _ _ _ _ ([[(bb, .cells #[Sl B 0 acc.length cap, I 0, .int .i8 lr] 39 (0, 0))], Bf B 5 L, C, R0])
  refine WC.sub (fr' := [(0, _), (1, _)]) ?_ ⟨rfl, rfl, trivial⟩
  refine WC.seq (WC.region ?_)
  refine WL.q (oq_assign rfl) rfl rfl rfl ?_
  refine WL.q (oq_assign rfl) rfl rfl rfl ?_
  refine WL.nil (WE.then_normal (WC.sub (fr' := [(0, _), (1, _)]) ?_ ⟨rfl, rfl, trivial⟩))
  refine WC.seq (WC.region ?_)
  refine WL.q (oq_move rfl) rfl rfl rfl ?_
  refine WL.q (oq_nilCheck rfl) rfl rfl rfl ?_
  refine WL.q (oq_fieldAddr fld39_2 rfl) rfl rfl rfl ?_
  refine WL.store1 #[_, _, _] ty37 rfl rfl (by first | rfl | exact OwS.one one_) (Nat.lt_of_lt_of_le (Nat.lt_succ_self _) (Nat.le_of_ble_eq_true rfl)) rfl rfl ?_
  refine WL.nil (WE.then_normal (WC.sub (fr' := [(0, _), (1, _)]) ?_ ⟨rfl, rfl, trivial⟩))
  refine WC.seq (WC.region ?_)
  refine WL.q (oq_move rfl) rfl rfl rfl ?_
  refine WL.q (oq_move rfl) rfl rfl rfl ?_
  refine WL.q (oq_len_rd hr Tryd.underlying23 rfl) rfl rfl rfl ?_
  refine WL.callW1 (tryYes _ bb B acc.length cap data.length 0 hac hal hmx hc0 hfit) call58 rfl rfl rfl fun v2_3 Hs2_3 hR2_3 => ?_
  obtain ⟨rfl, rfl⟩ := hR2_3
  refine WL.to1 ?_
  refine WL.q (oq_move rfl) rfl rfl rfl ?_
  refine WL.q (oq_extract rfl rfl) rfl rfl rfl ?_
  refine WL.q (oq_extract rfl rfl) rfl rfl rfl ?_
  refine WL.q (oq_assign rfl) rfl rfl rfl ?_
  refine WL.q (oq_assign rfl) rfl rfl rfl ?_
  refine WL.nil (WE.then_normal (WC.sub (fr' := [(0, _), (1, _), (6, _), (7, _)]) ?_ ⟨rfl, rfl, rfl, rfl, trivial⟩))
  refine WC.seq (WC.seq (WC.region ?_))
  refine WL.q (oq_move rfl) rfl rfl rfl ?_
  refine WL.q (oq_not rfl) rfl rfl rfl ?_
  refine WL.nil (WE.then_normal (WC.sub (fr' := [(0, _), (1, _), (6, _), (19, _)]) ?_ ⟨rfl, rfl, rfl, rfl, trivial⟩))
  refine WC.cond rfl (fun q3 => ?_) (fun q3 => ?_)
  ·
    try simp only [Z1, Z2, Z3, Z4, Z5, Z6, Z7, Z8, Z9, Z0] at q3
    first | contradiction | (exfalso; omega) | (exfalso; simp_all; done)
  ·
    try simp only [Z1, Z2, Z3, Z4, Z5, Z6, Z7, Z8, Z9, Z0] at q3
    refine WC.skip (WE.then_normal (WC.sub (fr' := [(0, _), (1, _), (6, _)]) ?_ ⟨rfl, rfl, rfl, trivial⟩))
    refine WC.seq (WC.region ?_)
    refine WL.q (oq_move rfl) rfl rfl rfl ?_
    refine WL.q (oq_nilCheck rfl) rfl rfl rfl ?_
    refine WL.q (oq_fieldAddr fld39_0 rfl) rfl rfl rfl ?_
    refine WL.q (oq_load flat23 rfl (.head _) (List.mem_singleton.2 rfl) rfl) rfl rfl rfl ?_
    refine WL.q (oq_move rfl) rfl rfl rfl ?_
    refine WL.q (oq_sliceSl (i := acc.length) Tryd.underlying23 ty5 rfl (by (first | (simp only [List.length_nil]; omega) | omega)) ⟨_, rfl⟩ rfl (by (first | (simp only [List.length_nil]; omega) | omega)) (by (first | (simp only [List.length_nil]; omega) | omega))) rfl rfl rfl ?_
    refine WL.q (oq_move rfl) rfl rfl rfl ?_
    refine WL.f1 ?_
    refine WL.copyB Tryd.underlying23 ty5 rfl rfl hr (.tail _ (.head _)) (by (first | (simp only [List.length_nil]; omega) | omega)) rfl rfl ?_
    refine WL.q (oq_assign rfl) rfl rfl rfl ?_
    refine WL.q (oq_assign rfl) rfl rfl rfl ?_
    refine WL.nil (WE.then_normal (WC.sub (fr' := [(4, _), (5, _)]) ?_ ⟨rfl, rfl, trivial⟩))
    refine WC.ret ?_
    refine WE.f3 ?_
    refine WE.f3 ?_
    refine WE.f2 ?_
    refine WE.f3 ?_
    refine WE.endW3 (.inl rfl) (res2 Tryd.results54 rfl rfl) ?_
    -- end 0
    refine wrote_of hB hLc hfit hc0 hmx hLt (by omega) rfl ?_
    rw [show min data.length (acc.length + data.length - acc.length) = data.length by omega, Nat.zero_add, List.take_length]

/-- (*bytes.Buffer).Write -/
theorem writeF (base bb : Nat) (lr : Int) (B : Nat) (L acc : List UInt8) (hB : base ≤ B) (hLc : L.length = acc.length) (hc0 : 0 < acc.length) (hmx : acc.length ≤ maxLen) (hLt : L.take acc.length = acc) (hal : acc.length + ([] : List UInt8).length ≤ 1000000) (s : Value) (C : Hp) (hr : RdS 1 s C ([] : List UInt8).length (bytesV ([] : List UInt8))) : FnW Tryd.prog 54 [Pt bb 0, s] base [[(bb, .cells #[Sl B 0 acc.length acc.length, I 0, .int .i8 lr] 39 (0, 0))], Bf B 5 L, C] (Wrote base bb acc ([] : List UInt8) [C]) := by
  have hac : acc.length ≤ acc.length := Nat.le_refl _
  have hfit : acc.length + ([] : List UInt8).length ≤ acc.length := Nat.le_refl _
  have hmz : maxLen ≤ 9223372036854775807 := by unfold maxLen; omega
  refine FnW.enter (n := 32) Tryd.func54 rfl rfl fun w0 R0 hbase => ?_
  subst hbase
  show WC _ _ _ _ _ _ _ ([[(bb, .cells #[Sl B 0 acc.length acc.length, I 0, .int .i8 lr] 39 (0, 0))], Bf B 5 L, C, R0])
  refine WC.sub (fr' := [(0, _), (1, _)]) ?_ ⟨rfl, rfl, trivial⟩
  refine WC.seq (WC.region ?_)
  refine WL.q (oq_assign rfl) rfl rfl rfl ?_
  refine WL.q (oq_assign rfl) rfl rfl rfl ?_
  refine WL.nil (WE.then_normal (WC.sub (fr' := [(0, _), (1, _)]) ?_ ⟨rfl, rfl, trivial⟩))
  refine WC.seq (WC.region ?_)
  refine WL.q (oq_move rfl) rfl rfl rfl ?_
  refine WL.q (oq_nilCheck rfl) rfl rfl rfl ?_
  refine WL.q (oq_fieldAddr fld39_2 rfl) rfl rfl rfl ?_
  refine WL.store1 #[_, _, _] ty37 rfl rfl (by first | rfl | exact OwS.one one_) (Nat.lt_of_lt_of_le (Nat.lt_succ_self _) (Nat.le_of_ble_eq_true rfl)) rfl rfl ?_
  refine WL.nil (WE.then_normal (WC.sub (fr' := [(0, _), (1, _)]) ?_ ⟨rfl, rfl, trivial⟩))
  refine WC.seq (WC.region ?_)
  refine WL.q (oq_move rfl) rfl rfl rfl ?_
  refine WL.q (oq_move rfl) rfl rfl rfl ?_
  refine WL.q (oq_len_rd hr Tryd.underlying23 rfl) rfl rfl rfl ?_
  refine WL.callW1 (tryYes _ bb B acc.length acc.length ([] : List UInt8).length 0 hac hal hmx hc0 hfit) call58 rfl rfl rfl fun v2_3 Hs2_3 hR2_3 => ?_
  obtain ⟨rfl, rfl⟩ := hR2_3
  refine WL.to1 ?_
  refine WL.q (oq_move rfl) rfl rfl rfl ?_
  refine WL.q (oq_extract rfl rfl) rfl rfl rfl ?_
  refine WL.q (oq_extract rfl rfl) rfl rfl rfl ?_
  refine WL.q (oq_assign rfl) rfl rfl rfl ?_
  refine WL.q (oq_assign rfl) rfl rfl rfl ?_
  refine WL.nil (WE.then_normal (WC.sub (fr' := [(0, _), (1, _), (6, _), (7, _)]) ?_ ⟨rfl, rfl, rfl, rfl, trivial⟩))
  refine WC.seq (WC.seq (WC.region ?_))
  refine WL.q (oq_move rfl) rfl rfl rfl ?_
  refine WL.q (oq_not rfl) rfl rfl rfl ?_
  refine WL.nil (WE.then_normal (WC.sub (fr' := [(0, _), (1, _), (6, _), (19, _)]) ?_ ⟨rfl, rfl, rfl, rfl, trivial⟩))
  refine WC.cond rfl (fun q3 => ?_) (fun q3 => ?_)
  ·
    try simp only [Z1, Z2, Z3, Z4, Z5, Z6, Z7, Z8, Z9, Z0] at q3
    first | contradiction | (exfalso; omega) | (exfalso; simp_all; done)
  ·
    try simp only [Z1, Z2, Z3, Z4, Z5, Z6, Z7, Z8, Z9, Z0] at q3
    refine WC.skip (WE.then_normal (WC.sub (fr' := [(0, _), (1, _), (6, _)]) ?_ ⟨rfl, rfl, rfl, trivial⟩))
    refine WC.seq (WC.region ?_)
    refine WL.q (oq_move rfl) rfl rfl rfl ?_
    refine WL.q (oq_nilCheck rfl) rfl rfl rfl ?_
    refine WL.q (oq_fieldAddr fld39_0 rfl) rfl rfl rfl ?_
    refine WL.q (oq_load flat23 rfl (.head _) (List.mem_singleton.2 rfl) rfl) rfl rfl rfl ?_
    refine WL.q (oq_move rfl) rfl rfl rfl ?_
    refine WL.q (oq_sliceEnd (b := B) (off := 0) (c := acc.length) Tryd.underlying23 ty5 rfl rfl) rfl rfl rfl ?_
    refine WL.q (oq_move rfl) rfl rfl rfl ?_
    refine WL.f1 ?_
    refine WL.copyB Tryd.underlying23 ty5 rfl rfl hr (.tail _ (.head _)) (by (first | (simp only [List.length_nil]; omega) | omega)) rfl rfl ?_
    refine WL.q (oq_assign rfl) rfl rfl rfl ?_
    refine WL.q (oq_assign rfl) rfl rfl rfl ?_
    refine WL.nil (WE.then_normal (WC.sub (fr' := [(4, _), (5, _)]) ?_ ⟨rfl, rfl, trivial⟩))
    refine WC.ret ?_
    refine WE.f3 ?_
    refine WE.f3 ?_
    refine WE.f2 ?_
    refine WE.f3 ?_
    refine WE.endW3 (.inl rfl) (res2 Tryd.results54 rfl rfl) ?_
    -- end 0
    refine wrote_of (data := []) hB hLc hfit hc0 hmx hLt ?_ rfl ?_
    · simp
    · simp

/-- (*bytes.Buffer).WriteString -/
theorem writeSF (base bb : Nat) (lr : Int) (B : Nat) (L acc : List UInt8) (hB : base ≤ B) (hLc : L.length = acc.length) (hc0 : 0 < acc.length) (hmx : acc.length ≤ maxLen) (hLt : L.take acc.length = acc) (hal : acc.length + ([] : List UInt8).length ≤ 1000000) (hsl : ([] : List UInt8).length ≤ maxLen) : FnW Tryd.prog 118 [Pt bb 0, S ([] : List UInt8)] base [[(bb, .cells #[Sl B 0 acc.length acc.length, I 0, .int .i8 lr] 39 (0, 0))], Bf B 5 L] (Wrote base bb acc ([] : List UInt8) []) := by
  have hac : acc.length ≤ acc.length := Nat.le_refl _
  have hfit : acc.length + ([] : List UInt8).length ≤ acc.length := Nat.le_refl _
  have hmz : maxLen ≤ 9223372036854775807 := by unfold maxLen; omega
  refine FnW.enter (n := 32) Tryd.func118 rfl rfl fun w0 R0 hbase => ?_
  subst hbase
  show WC _ _ _ _ _ _ _ ([[(bb, .cells #[Sl B 0 acc.length acc.length, I 0, .int .i8 lr] 39 (0, 0))], Bf B 5 L, R0])
  refine WC.sub (fr' := [(0, _), (1, _)]) ?_ ⟨rfl, rfl, trivial⟩
  refine WC.seq (WC.region ?_)
  refine WL.q (oq_assign rfl) rfl rfl rfl ?_
  refine WL.q (oq_assign rfl) rfl rfl rfl ?_
  refine WL.nil (WE.then_normal (WC.sub (fr' := [(0, _), (1, _)]) ?_ ⟨rfl, rfl, trivial⟩))
  refine WC.seq (WC.region ?_)
  refine WL.q (oq_move rfl) rfl rfl rfl ?_
  refine WL.q (oq_nilCheck rfl) rfl rfl rfl ?_
  refine WL.q (oq_fieldAddr fld39_2 rfl) rfl rfl rfl ?_
  refine WL.store1 #[_, _, _] ty37 rfl rfl (by first | rfl | exact OwS.one one_) (Nat.lt_of_lt_of_le (Nat.lt_succ_self _) (Nat.le_of_ble_eq_true rfl)) rfl rfl ?_
  refine WL.nil (WE.then_normal (WC.sub (fr' := [(0, _), (1, _)]) ?_ ⟨rfl, rfl, trivial⟩))
  refine WC.seq (WC.region ?_)
  refine WL.q (oq_move rfl) rfl rfl rfl ?_
  refine WL.q (oq_move rfl) rfl rfl rfl ?_
  refine WL.q (oq_len_s Tryd.underlying9 rfl) rfl rfl rfl ?_
  refine WL.callW1 (tryYes _ bb B acc.length acc.length ([] : List UInt8).length 0 hac hal hmx hc0 hfit) call58 rfl rfl rfl fun v2_3 Hs2_3 hR2_3 => ?_
  obtain ⟨rfl, rfl⟩ := hR2_3
  refine WL.to1 ?_
  refine WL.q (oq_move rfl) rfl rfl rfl ?_
  refine WL.q (oq_extract rfl rfl) rfl rfl rfl ?_
  refine WL.q (oq_extract rfl rfl) rfl rfl rfl ?_
  refine WL.q (oq_assign rfl) rfl rfl rfl ?_
  refine WL.q (oq_assign rfl) rfl rfl rfl ?_
  refine WL.nil (WE.then_normal (WC.sub (fr' := [(0, _), (1, _), (6, _), (7, _)]) ?_ ⟨rfl, rfl, rfl, rfl, trivial⟩))
  refine WC.seq (WC.seq (WC.region ?_))
  refine WL.q (oq_move rfl) rfl rfl rfl ?_
  refine WL.q (oq_not rfl) rfl rfl rfl ?_
  refine WL.nil (WE.then_normal (WC.sub (fr' := [(0, _), (1, _), (6, _), (19, _)]) ?_ ⟨rfl, rfl, rfl, rfl, trivial⟩))
  refine WC.cond rfl (fun q3 => ?_) (fun q3 => ?_)
  ·
    try simp only [Z1, Z2, Z3, Z4, Z5, Z6, Z7, Z8, Z9, Z0] at q3
    first | contradiction | (exfalso; omega) | (exfalso; simp_all; done)
  ·
    try simp only [Z1, Z2, Z3, Z4, Z5, Z6, Z7, Z8, Z9, Z0] at q3
    refine WC.skip (WE.then_normal (WC.sub (fr' := [(0, _), (1, _), (6, _)]) ?_ ⟨rfl, rfl, rfl, trivial⟩))
    refine WC.seq (WC.region ?_)
    refine WL.q (oq_move rfl) rfl rfl rfl ?_
    refine WL.q (oq_nilCheck rfl) rfl rfl rfl ?_
    refine WL.q (oq_fieldAddr fld39_0 rfl) rfl rfl rfl ?_
    refine WL.q (oq_load flat23 rfl (.head _) (List.mem_singleton.2 rfl) rfl) rfl rfl rfl ?_
    refine WL.q (oq_move rfl) rfl rfl rfl ?_
    refine WL.q (oq_sliceEnd (b := B) (off := 0) (c := acc.length) Tryd.underlying23 ty5 rfl rfl) rfl rfl rfl ?_
    refine WL.q (oq_move rfl) rfl rfl rfl ?_
    refine WL.f1 ?_
    refine WL.copyBS Tryd.underlying23 ty5 rfl rfl (by (first | (simp only [List.length_nil]; omega) | omega)) rfl rfl ?_
    refine WL.q (oq_assign rfl) rfl rfl rfl ?_
    refine WL.q (oq_assign rfl) rfl rfl rfl ?_
    refine WL.nil (WE.then_normal (WC.sub (fr' := [(4, _), (5, _)]) ?_ ⟨rfl, rfl, trivial⟩))
    refine WC.ret ?_
    refine WE.f2 ?_
    refine WE.f1 ?_
    refine WE.f2 ?_
    refine WE.endW2 (.inl rfl) (res2 Tryd.results118 rfl rfl) ?_
    -- end 0
    refine wrote_of (data := []) hB hLc hfit hc0 hmx hLt ?_ rfl ?_
    · simp
    · simp

/-- (*bytes.Buffer).Write -/
theorem writeN (base bb : Nat) (lr : Int) (data : List UInt8) (B cap : Nat) (L acc : List UInt8) (hB : base ≤ B) (hLc : L.length = cap) (hac : acc.length ≤ cap) (hc0 : 0 < cap) (hmx : cap ≤ maxLen) (hLt : L.take acc.length = acc) (hal : acc.length + data.length ≤ 1000000) (s : Value) (C : Hp) (hr : RdS 1 s C data.length (bytesV data)) (hfit : ¬ acc.length + data.length ≤ cap) : FnW Tryd.prog 54 [Pt bb 0, s] base [[(bb, .cells #[Sl B 0 acc.length cap, I 0, .int .i8 lr] 39 (0, 0))], Bf B 5 L, C] (Wrote base bb acc data [C]) := by
  have hmz : maxLen ≤ 9223372036854775807 := by unfold maxLen; omega
  refine FnW.enter (n := 32) Tryd.func54 rfl rfl fun w0 R0 hbase => ?_
  subst hbase
  show WC _ _ _ _ _ _ _ ([[(bb, .cells #[Sl B 0 acc.length cap, I 0, .int .i8 lr] 39 (0, 0))], Bf B 5 L, C, R0])
  refine WC.sub (fr' := [(0, _), (1, _)]) ?_ ⟨rfl, rfl, trivial⟩
  refine WC.seq (WC.region ?_)
  refine WL.q (oq_assign rfl) rfl rfl rfl ?_
  refine WL.q (oq_assign rfl) rfl rfl rfl ?_
  refine WL.nil (WE.then_normal (WC.sub (fr' := [(0, _), (1, _)]) ?_ ⟨rfl, rfl, trivial⟩))
  refine WC.seq (WC.region ?_)
  refine WL.q (oq_move rfl) rfl rfl rfl ?_
  refine WL.q (oq_nilCheck rfl) rfl rfl rfl ?_
  refine WL.q (oq_fieldAddr fld39_2 rfl) rfl rfl rfl ?_
  refine WL.store1 #[_, _, _] ty37 rfl rfl (by first | rfl | exact OwS.one one_) (Nat.lt_of_lt_of_le (Nat.lt_succ_self _) (Nat.le_of_ble_eq_true rfl)) rfl rfl ?_
  refine WL.nil (WE.then_normal (WC.sub (fr' := [(0, _), (1, _)]) ?_ ⟨rfl, rfl, trivial⟩))
  refine WC.seq (WC.region ?_)
  refine WL.q (oq_move rfl) rfl rfl rfl ?_
  refine WL.q (oq_move rfl) rfl rfl rfl ?_
  refine WL.q (oq_len_rd hr Tryd.underlying23 rfl) rfl rfl rfl ?_
  refine WL.callW1 (tryNo _ bb B acc.length cap data.length 0 hac hal hmx hc0 hfit) call58 rfl rfl rfl fun v2_3 Hs2_3 hR2_3 => ?_
  obtain ⟨rfl, rfl⟩ := hR2_3
  refine WL.to1 ?_
  refine WL.q (oq_move rfl) rfl rfl rfl ?_
  refine WL.q (oq_extract rfl rfl) rfl rfl rfl ?_
  refine WL.q (oq_extract rfl rfl) rfl rfl rfl ?_
  refine WL.q (oq_assign rfl) rfl rfl rfl ?_
  refine WL.q (oq_assign rfl) rfl rfl rfl ?_
  refine WL.nil (WE.then_normal (WC.sub (fr' := [(0, _), (1, _), (6, _), (7, _)]) ?_ ⟨rfl, rfl, rfl, rfl, trivial⟩))
  refine WC.seq (WC.seq (WC.region ?_))
  refine WL.q (oq_move rfl) rfl rfl rfl ?_
  refine WL.q (oq_not rfl) rfl rfl rfl ?_
  refine WL.nil (WE.then_normal (WC.sub (fr' := [(0, _), (1, _), (6, _), (19, _)]) ?_ ⟨rfl, rfl, rfl, rfl, trivial⟩))
  refine WC.cond rfl (fun q3 => ?_) (fun q3 => ?_)
  ·
    try simp only [Z1, Z2, Z3, Z4, Z5, Z6, Z7, Z8, Z9, Z0] at q3
    refine WC.region ?_
    refine WL.q (oq_move rfl) rfl rfl rfl ?_
    refine WL.q (oq_move rfl) rfl rfl rfl ?_
    refine WL.q (oq_len_rd hr Tryd.underlying23 rfl) rfl rfl rfl ?_
    refine WL.f1 ?_
    refine WL.f1 ?_
    refine WL.callW2 (grow1 _ bb B cap data.length 0 L acc hB hLc hac hc0 hmx hLt (by omega) hal) call57 rfl rfl rfl fun v4_3 Hs4_3 hR4_3 => ?_
    obtain ⟨B2, cap2, L2, rfl, rfl, hB2, hL2, hc2, hm2, ht2⟩ := hR4_3
    refine WL.to2 ?_
    refine WL.q (oq_assign rfl) rfl rfl rfl ?_
    refine WL.nil (WE.then_normal (WC.sub (fr' := [(0, _), (1, _), (6, _)]) ?_ ⟨rfl, rfl, rfl, trivial⟩))
    refine WC.seq (WC.region ?_)
    refine WL.q (oq_move rfl) rfl rfl rfl ?_
    refine WL.q (oq_nilCheck rfl) rfl rfl rfl ?_
    refine WL.q (oq_fieldAddr fld39_0 rfl) rfl rfl rfl ?_
    refine WL.q (oq_load flat23 rfl (.head _) (List.mem_singleton.2 rfl) rfl) rfl rfl rfl ?_
    refine WL.q (oq_move rfl) rfl rfl rfl ?_
    refine WL.q (oq_sliceSl (i := acc.length) Tryd.underlying23 ty5 rfl (by (first | (simp only [List.length_nil]; omega) | omega)) ⟨_, rfl⟩ rfl (by (first | (simp only [List.length_nil]; omega) | omega)) (by (first | (simp only [List.length_nil]; omega) | omega))) rfl rfl rfl ?_
    refine WL.q (oq_move rfl) rfl rfl rfl ?_
    refine WL.f1 ?_
    refine WL.copyB Tryd.underlying23 ty5 rfl rfl hr (.tail _ (.head _)) (by (first | (simp only [List.length_nil]; omega) | omega)) rfl rfl ?_
    refine WL.q (oq_assign rfl) rfl rfl rfl ?_
    refine WL.q (oq_assign rfl) rfl rfl rfl ?_
    refine WL.nil (WE.then_normal (WC.sub (fr' := [(4, _), (5, _)]) ?_ ⟨rfl, rfl, trivial⟩))
    refine WC.ret ?_
    refine WE.f3 ?_
    refine WE.f3 ?_
    refine WE.f2 ?_
    refine WE.f3 ?_
    refine WE.endW3 (.inl rfl) (res2 Tryd.results54 rfl rfl) ?_
    -- end 0
    refine wrote_of hB2 hL2 hc2 (by omega) hm2 ht2 (by omega) rfl ?_
    rw [show min data.length (acc.length + data.length - acc.length) = data.length by omega, Nat.zero_add, List.take_length]
  ·
    try simp only [Z1, Z2, Z3, Z4, Z5, Z6, Z7, Z8, Z9, Z0] at q3
    first | contradiction | (exfalso; omega) | (exfalso; simp_all; done)

/-- (*bytes.Buffer).Write -/
theorem write0 (base bb : Nat) (lr : Int) (data : List UInt8) (hal : data.length ≤ 1000000) (hne : 0 < data.length) (s : Value) (C : Hp) (hr : RdS 1 s C data.length (bytesV data)) : FnW Tryd.prog 54 [Pt bb 0, s] base [[(bb, .cells #[.slice none 0 0, I 0, .int .i8 lr] 39 (0, 0))], C] (Wrote base bb [] data [C]) := by
  have hmz : maxLen ≤ 9223372036854775807 := by unfold maxLen; omega
  refine FnW.enter (n := 32) Tryd.func54 rfl rfl fun w0 R0 hbase => ?_
  subst hbase
  show WC _ _ _ _ _ _ _ ([[(bb, .cells #[.slice none 0 0, I 0, .int .i8 lr] 39 (0, 0))], C, R0])
  refine WC.sub (fr' := [(0, _), (1, _)]) ?_ ⟨rfl, rfl, trivial⟩
  refine WC.seq (WC.region ?_)
  refine WL.q (oq_assign rfl) rfl rfl rfl ?_
  refine WL.q (oq_assign rfl) rfl rfl rfl ?_
  refine WL.nil (WE.then_normal (WC.sub (fr' := [(0, _), (1, _)]) ?_ ⟨rfl, rfl, trivial⟩))
  refine WC.seq (WC.region ?_)
  refine WL.q (oq_move rfl) rfl rfl rfl ?_
  refine WL.q (oq_nilCheck rfl) rfl rfl rfl ?_
  refine WL.q (oq_fieldAddr fld39_2 rfl) rfl rfl rfl ?_
  refine WL.store1 #[_, _, _] ty37 rfl rfl (by first | rfl | exact OwS.one one_) (Nat.lt_of_lt_of_le (Nat.lt_succ_self _) (Nat.le_of_ble_eq_true rfl)) rfl rfl ?_
  refine WL.nil (WE.then_normal (WC.sub (fr' := [(0, _), (1, _)]) ?_ ⟨rfl, rfl, trivial⟩))
  refine WC.seq (WC.region ?_)
  refine WL.q (oq_move rfl) rfl rfl rfl ?_
  refine WL.q (oq_move rfl) rfl rfl rfl ?_
  refine WL.q (oq_len_rd hr Tryd.underlying23 rfl) rfl rfl rfl ?_
  refine WL.callW1 (tryGrow0 _ bb data.length 0 hne) call58 rfl rfl rfl fun v2_3 Hs2_3 hR2_3 => ?_
  obtain ⟨rfl, rfl⟩ := hR2_3
  refine WL.to1 ?_
  refine WL.q (oq_move rfl) rfl rfl rfl ?_
  refine WL.q (oq_extract rfl rfl) rfl rfl rfl ?_
  refine WL.q (oq_extract rfl rfl) rfl rfl rfl ?_
  refine WL.q (oq_assign rfl) rfl rfl rfl ?_
  refine WL.q (oq_assign rfl) rfl rfl rfl ?_
  refine WL.nil (WE.then_normal (WC.sub (fr' := [(0, _), (1, _), (6, _), (7, _)]) ?_ ⟨rfl, rfl, rfl, rfl, trivial⟩))
  refine WC.seq (WC.seq (WC.region ?_))
  refine WL.q (oq_move rfl) rfl rfl rfl ?_
  refine WL.q (oq_not rfl) rfl rfl rfl ?_
  refine WL.nil (WE.then_normal (WC.sub (fr' := [(0, _), (1, _), (6, _), (19, _)]) ?_ ⟨rfl, rfl, rfl, rfl, trivial⟩))
  refine WC.cond rfl (fun q3 => ?_) (fun q3 => ?_)
  ·
    try simp only [Z1, Z2, Z3, Z4, Z5, Z6, Z7, Z8, Z9, Z0] at q3
    refine WC.region ?_
    refine WL.q (oq_move rfl) rfl rfl rfl ?_
    refine WL.q (oq_move rfl) rfl rfl rfl ?_
    refine WL.q (oq_len_rd hr Tryd.underlying23 rfl) rfl rfl rfl ?_
    refine WL.callW1 (grow0 _ bb data.length 0 hne hal) call57 rfl rfl rfl fun v4_3 Hs4_3 hR4_3 => ?_
    obtain ⟨B2, cap2, L2, rfl, rfl, hB2, hL2, hc2, hm2, ht2⟩ := hR4_3
    refine WL.to2 ?_
    refine WL.q (oq_assign rfl) rfl rfl rfl ?_
    refine WL.nil (WE.then_normal (WC.sub (fr' := [(0, _), (1, _), (6, _)]) ?_ ⟨rfl, rfl, rfl, trivial⟩))
    refine WC.seq (WC.region ?_)
    refine WL.q (oq_move rfl) rfl rfl rfl ?_
    refine WL.q (oq_nilCheck rfl) rfl rfl rfl ?_
    refine WL.q (oq_fieldAddr fld39_0 rfl) rfl rfl rfl ?_
    refine WL.q (oq_load flat23 rfl (.head _) (List.mem_singleton.2 rfl) rfl) rfl rfl rfl ?_
    refine WL.q (oq_move rfl) rfl rfl rfl ?_
    refine WL.q (oq_sliceSl (i := 0) Tryd.underlying23 ty5 rfl (by (first | (simp only [List.length_nil]; omega) | omega)) ⟨_, rfl⟩ rfl (by (first | (simp only [List.length_nil]; omega) | omega)) (by (first | (simp only [List.length_nil]; omega) | omega))) rfl rfl rfl ?_
    refine WL.q (oq_move rfl) rfl rfl rfl ?_
    refine WL.f1 ?_
    refine WL.copyB Tryd.underlying23 ty5 rfl rfl hr (.tail _ (.head _)) (by (first | (simp only [List.length_nil]; omega) | omega)) rfl rfl ?_
    refine WL.q (oq_assign rfl) rfl rfl rfl ?_
    refine WL.q (oq_assign rfl) rfl rfl rfl ?_
    refine WL.nil (WE.then_normal (WC.sub (fr' := [(4, _), (5, _)]) ?_ ⟨rfl, rfl, trivial⟩))
    refine WC.ret ?_
    refine WE.f3 ?_
    refine WE.f3 ?_
    refine WE.f2 ?_
    refine WE.f3 ?_
    refine WE.endW3 (.inl rfl) (res2 Tryd.results54 rfl rfl) ?_
    -- end 0
    refine wrote_of hB2 hL2 hc2 (by simp only [List.length_nil] at hc2; omega) hm2 ht2 (by simp only [List.length_nil]; omega) rfl ?_
    rw [show min data.length ([].length + data.length - 0) = data.length by simp, List.take_length]; rfl
  ·
    try simp only [Z1, Z2, Z3, Z4, Z5, Z6, Z7, Z8, Z9, Z0] at q3
    first | contradiction | (exfalso; omega) | (exfalso; simp_all; done)

/-- (*bytes.Buffer).WriteString -/
theorem writeSY (base bb : Nat) (lr : Int) (data : List UInt8) (B cap : Nat) (L acc : List UInt8) (hB : base ≤ B) (hLc : L.length = cap) (hac : acc.length ≤ cap) (hc0 : 0 < cap) (hmx : cap ≤ maxLen) (hLt : L.take acc.length = acc) (hal : acc.length + data.length ≤ 1000000) (hsl : data.length ≤ maxLen) (hfit : acc.length + data.length ≤ cap) (hlc : acc.length < cap) : FnW Tryd.prog 118 [Pt bb 0, S data] base [[(bb, .cells #[Sl B 0 acc.length cap, I 0, .int .i8 lr] 39 (0, 0))], Bf B 5 L] (Wrote base bb acc data []) := by
  have hmz : maxLen ≤ 9223372036854775807 := by unfold maxLen; omega
  refine FnW.enter (n := 32) Tryd.func118 rfl rfl fun w0 R0 hbase => ?_
  subst hbase
  show WC _ _ _ _ _ _ _ ([[(bb, .cells #[Sl B 0 acc.length cap, I 0, .int .i8 lr] 39 (0, 0))], Bf B 5 L, R0])
  refine WC.sub (fr' := [(0, _), (1, _)]) ?_ ⟨rfl, rfl, trivial⟩
  refine WC.seq (WC.region ?_)
  refine WL.q (oq_assign rfl) rfl rfl rfl ?_
  refine WL.q (oq_assign rfl) rfl rfl rfl ?_
  refine WL.nil (WE.then_normal (WC.sub (fr' := [(0, _), (1, _)]) ?_ ⟨rfl, rfl, trivial⟩))
  refine WC.seq (WC.region ?_)
  refine WL.q (oq_move rfl) rfl rfl rfl ?_
  refine WL.q (oq_nilCheck rfl) rfl rfl rfl ?_
  refine WL.q (oq_fieldAddr fld39_2 rfl) rfl rfl rfl ?_
  refine WL.store1 #[_, _, _] ty37 rfl rfl (by first | rfl | exact OwS.one one_) (Nat.lt_of_lt_of_le (Nat.lt_succ_self _) (Nat.le_of_ble_eq_true rfl)) rfl rfl ?_
  refine WL.nil (WE.then_normal (WC.sub (fr' := [(0, _), (1, _)]) ?_ ⟨rfl, rfl, trivial⟩))
  refine WC.seq (WC.region ?_)
  refine WL.q (oq_move rfl) rfl rfl rfl ?_
  refine WL.q (oq_move rfl) rfl rfl rfl ?_
  refine WL.q (oq_len_s Tryd.underlying9 rfl) rfl rfl rfl ?_
  refine WL.callW1 (tryYes _ bb B acc.length cap data.length 0 hac hal hmx hc0 hfit) call58 rfl rfl rfl fun v2_3 Hs2_3 hR2_3 => ?_
  obtain ⟨rfl, rfl⟩ := hR2_3
  refine WL.to1 ?_
  refine WL.q (oq_move rfl) rfl rfl rfl ?_
  refine WL.q (oq_extract rfl rfl) rfl rfl rfl ?_
  refine WL.q (oq_extract rfl rfl) rfl rfl rfl ?_
  refine WL.q (oq_assign rfl) rfl rfl rfl ?_
  refine WL.q (oq_assign rfl) rfl rfl rfl ?_
  refine WL.nil (WE.then_normal (WC.sub (fr' := [(0, _), (1, _), (6, _), (7, _)]) ?_ ⟨rfl, rfl, rfl, rfl, trivial⟩))
  refine WC.seq (WC.seq (WC.region ?_))
  refine WL.q (oq_move rfl) rfl rfl rfl ?_
  refine WL.q (oq_not rfl) rfl rfl rfl ?_
  refine WL.nil (WE.then_normal (WC.sub (fr' := [(0, _), (1, _), (6, _), (19, _)]) ?_ ⟨rfl, rfl, rfl, rfl, trivial⟩))
  refine WC.cond rfl (fun q3 => ?_) (fun q3 => ?_)
  ·
    try simp only [Z1, Z2, Z3, Z4, Z5, Z6, Z7, Z8, Z9, Z0] at q3
    first | contradiction | (exfalso; omega) | (exfalso; simp_all; done)
  ·
    try simp only [Z1, Z2, Z3, Z4, Z5, Z6, Z7, Z8, Z9, Z0] at q3
    refine WC.skip (WE.then_normal (WC.sub (fr' := [(0, _), (1, _), (6, _)]) ?_ ⟨rfl, rfl, rfl, trivial⟩))
    refine WC.seq (WC.region ?_)
    refine WL.q (oq_move rfl) rfl rfl rfl ?_
    refine WL.q (oq_nilCheck rfl) rfl rfl rfl ?_
    refine WL.q (oq_fieldAddr fld39_0 rfl) rfl rfl rfl ?_
    refine WL.q (oq_load flat23 rfl (.head _) (List.mem_singleton.2 rfl) rfl) rfl rfl rfl ?_
    refine WL.q (oq_move rfl) rfl rfl rfl ?_
    refine WL.q (oq_sliceSl (i := acc.length) Tryd.underlying23 ty5 rfl (by (first | (simp only [List.length_nil]; omega) | omega)) ⟨_, rfl⟩ rfl (by (first | (simp only [List.length_nil]; omega) | omega)) (by (first | (simp only [List.length_nil]; omega) | omega))) rfl rfl rfl ?_
    refine WL.q (oq_move rfl) rfl rfl rfl ?_
    refine WL.f1 ?_
    refine WL.copyBS Tryd.underlying23 ty5 rfl rfl (by (first | (simp only [List.length_nil]; omega) | omega)) rfl rfl ?_
    refine WL.q (oq_assign rfl) rfl rfl rfl ?_
    refine WL.q (oq_assign rfl) rfl rfl rfl ?_
    refine WL.nil (WE.then_normal (WC.sub (fr' := [(4, _), (5, _)]) ?_ ⟨rfl, rfl, trivial⟩))
    refine WC.ret ?_
    refine WE.f2 ?_
    refine WE.f1 ?_
    refine WE.f2 ?_
    refine WE.endW2 (.inl rfl) (res2 Tryd.results118 rfl rfl) ?_
    -- end 0
    refine wrote_of hB hLc hfit hc0 hmx hLt (by omega) rfl ?_
    rw [show min data.length (acc.length + data.length - acc.length) = data.length by omega, Nat.zero_add, List.take_length]

/-- (*bytes.Buffer).WriteString -/
theorem writeSN (base bb : Nat) (lr : Int) (data : List UInt8) (B cap : Nat) (L acc : List UInt8) (hB : base ≤ B) (hLc : L.length = cap) (hac : acc.length ≤ cap) (hc0 : 0 < cap) (hmx : cap ≤ maxLen) (hLt : L.take acc.length = acc) (hal : acc.length + data.length ≤ 1000000) (hsl : data.length ≤ maxLen) (hfit : ¬ acc.length + data.length ≤ cap) : FnW Tryd.prog 118 [Pt bb 0, S data] base [[(bb, .cells #[Sl B 0 acc.length cap, I 0, .int .i8 lr] 39 (0, 0))], Bf B 5 L] (Wrote base bb acc data []) := by
  have hmz : maxLen ≤ 9223372036854775807 := by unfold maxLen; omega
  refine FnW.enter (n := 32) Tryd.func118 rfl rfl fun w0 R0 hbase => ?_
  subst hbase
  show WC _ _ _ _ _ _ _ ([[(bb, .cells #[Sl B 0 acc.length cap, I 0, .int .i8 lr] 39 (0, 0))], Bf B 5 L, R0])
  refine WC.sub (fr' := [(0, _), (1, _)]) ?_ ⟨rfl, rfl, trivial⟩
  refine WC.seq (WC.region ?_)
  refine WL.q (oq_assign rfl) rfl rfl rfl ?_
  refine WL.q (oq_assign rfl) rfl rfl rfl ?_
  refine WL.nil (WE.then_normal (WC.sub (fr' := [(0, _), (1, _)]) ?_ ⟨rfl, rfl, trivial⟩))
  refine WC.seq (WC.region ?_)
  refine WL.q (oq_move rfl) rfl rfl rfl ?_
  refine WL.q (oq_nilCheck rfl) rfl rfl rfl ?_
  refine WL.q (oq_fieldAddr fld39_2 rfl) rfl rfl rfl ?_
  refine WL.store1 #[_, _, _] ty37 rfl rfl (by first | rfl | exact OwS.one one_) (Nat.lt_of_lt_of_le (Nat.lt_succ_self _) (Nat.le_of_ble_eq_true rfl)) rfl rfl ?_
  refine WL.nil (WE.then_normal (WC.sub (fr' := [(0, _), (1, _)]) ?_ ⟨rfl, rfl, trivial⟩))
  refine WC.seq (WC.region ?_)
  refine WL.q (oq_move rfl) rfl rfl rfl ?_
  refine WL.q (oq_move rfl) rfl rfl rfl ?_
  refine WL.q (oq_len_s Tryd.underlying9 rfl) rfl rfl rfl ?_
  refine WL.callW1 (tryNo _ bb B acc.length cap data.length 0 hac hal hmx hc0 hfit) call58 rfl rfl rfl fun v2_3 Hs2_3 hR2_3 => ?_
  obtain ⟨rfl, rfl⟩ := hR2_3
  refine WL.to1 ?_
  refine WL.q (oq_move rfl) rfl rfl rfl ?_
  refine WL.q (oq_extract rfl rfl) rfl rfl rfl ?_
  refine WL.q (oq_extract rfl rfl) rfl rfl rfl ?_
  refine WL.q (oq_assign rfl) rfl rfl rfl ?_
  refine WL.q (oq_assign rfl) rfl rfl rfl ?_
  refine WL.nil (WE.then_normal (WC.sub (fr' := [(0, _), (1, _), (6, _), (7, _)]) ?_ ⟨rfl, rfl, rfl, rfl, trivial⟩))
  refine WC.seq (WC.seq (WC.region ?_))
  refine WL.q (oq_move rfl) rfl rfl rfl ?_
  refine WL.q (oq_not rfl) rfl rfl rfl ?_
  refine WL.nil (WE.then_normal (WC.sub (fr' := [(0, _), (1, _), (6, _), (19, _)]) ?_ ⟨rfl, rfl, rfl, rfl, trivial⟩))
  refine WC.cond rfl (fun q3 => ?_) (fun q3 => ?_)
  ·
    try simp only [Z1, Z2, Z3, Z4, Z5, Z6, Z7, Z8, Z9, Z0] at q3
    refine WC.region ?_
    refine WL.q (oq_move rfl) rfl rfl rfl ?_
    refine WL.q (oq_move rfl) rfl rfl rfl ?_
    refine WL.q (oq_len_s Tryd.underlying9 rfl) rfl rfl rfl ?_
    refine WL.f1 ?_
    refine WL.f1 ?_
    refine WL.callW2 (grow1 _ bb B cap data.length 0 L acc hB hLc hac hc0 hmx hLt (by omega) hal) call57 rfl rfl rfl fun v4_3 Hs4_3 hR4_3 => ?_
    obtain ⟨B2, cap2, L2, rfl, rfl, hB2, hL2, hc2, hm2, ht2⟩ := hR4_3
    refine WL.to2 ?_
    refine WL.q (oq_assign rfl) rfl rfl rfl ?_
    refine WL.nil (WE.then_normal (WC.sub (fr' := [(0, _), (1, _), (6, _)]) ?_ ⟨rfl, rfl, rfl, trivial⟩))
    refine WC.seq (WC.region ?_)
    refine WL.q (oq_move rfl) rfl rfl rfl ?_
    refine WL.q (oq_nilCheck rfl) rfl rfl rfl ?_
    refine WL.q (oq_fieldAddr fld39_0 rfl) rfl rfl rfl ?_
    refine WL.q (oq_load flat23 rfl (.head _) (List.mem_singleton.2 rfl) rfl) rfl rfl rfl ?_
    refine WL.q (oq_move rfl) rfl rfl rfl ?_
    refine WL.q (oq_sliceSl (i := acc.length) Tryd.underlying23 ty5 rfl (by (first | (simp only [List.length_nil]; omega) | omega)) ⟨_, rfl⟩ rfl (by (first | (simp only [List.length_nil]; omega) | omega)) (by (first | (simp only [List.length_nil]; omega) | omega))) rfl rfl rfl ?_
    refine WL.q (oq_move rfl) rfl rfl rfl ?_
    refine WL.f1 ?_
    refine WL.copyBS Tryd.underlying23 ty5 rfl rfl (by (first | (simp only [List.length_nil]; omega) | omega)) rfl rfl ?_
    refine WL.q (oq_assign rfl) rfl rfl rfl ?_
    refine WL.q (oq_assign rfl) rfl rfl rfl ?_
    refine WL.nil (WE.then_normal (WC.sub (fr' := [(4, _), (5, _)]) ?_ ⟨rfl, rfl, trivial⟩))
    refine WC.ret ?_
    refine WE.f2 ?_
    refine WE.f1 ?_
    refine WE.f2 ?_
    refine WE.endW2 (.inl rfl) (res2 Tryd.results118 rfl rfl) ?_
    -- end 0
    refine wrote_of hB2 hL2 hc2 (by omega) hm2 ht2 (by omega) rfl ?_
    rw [show min data.length (acc.length + data.length - acc.length) = data.length by omega, Nat.zero_add, List.take_length]
  ·
    try simp only [Z1, Z2, Z3, Z4, Z5, Z6, Z7, Z8, Z9, Z0] at q3
    first | contradiction | (exfalso; omega) | (exfalso; simp_all; done)

/-- (*bytes.Buffer).WriteString -/
theorem writeS0 (base bb : Nat) (lr : Int) (data : List UInt8) (hal : data.length ≤ 1000000) (hne : 0 < data.length) (hsl : data.length ≤ maxLen) : FnW Tryd.prog 118 [Pt bb 0, S data] base [[(bb, .cells #[.slice none 0 0, I 0, .int .i8 lr] 39 (0, 0))]] (Wrote base bb [] data []) := by
  have hmz : maxLen ≤ 9223372036854775807 := by unfold maxLen; omega
  refine FnW.enter (n := 32) Tryd.func118 rfl rfl fun w0 R0 hbase => ?_
  subst hbase
  show WC _ _ _ _ _ _ _ ([[(bb, .cells #[.slice none 0 0, I 0, .int .i8 lr] 39 (0, 0))], R0])
  refine WC.sub (fr' := [(0, _), (1, _)]) ?_ ⟨rfl, rfl, trivial⟩
  refine WC.seq (WC.region ?_)
  refine WL.q (oq_assign rfl) rfl rfl rfl ?_
  refine WL.q (oq_assign rfl) rfl rfl rfl ?_
  refine WL.nil (WE.then_normal (WC.sub (fr' := [(0, _), (1, _)]) ?_ ⟨rfl, rfl, trivial⟩))
  refine WC.seq (WC.region ?_)
  refine WL.q (oq_move rfl) rfl rfl rfl ?_
  refine WL.q (oq_nilCheck rfl) rfl rfl rfl ?_
  refine WL.q (oq_fieldAddr fld39_2 rfl) rfl rfl rfl ?_
  refine WL.store1 #[_, _, _] ty37 rfl rfl (by first | rfl | exact OwS.one one_) (Nat.lt_of_lt_of_le (Nat.lt_succ_self _) (Nat.le_of_ble_eq_true rfl)) rfl rfl ?_
  refine WL.nil (WE.then_normal (WC.sub (fr' := [(0, _), (1, _)]) ?_ ⟨rfl, rfl, trivial⟩))
  refine WC.seq (WC.region ?_)
  refine WL.q (oq_move rfl) rfl rfl rfl ?_
  refine WL.q (oq_move rfl) rfl rfl rfl ?_
  refine WL.q (oq_len_s Tryd.underlying9 rfl) rfl rfl rfl ?_
  refine WL.callW1 (tryGrow0 _ bb data.length 0 hne) call58 rfl rfl rfl fun v2_3 Hs2_3 hR2_3 => ?_
  obtain ⟨rfl, rfl⟩ := hR2_3
  refine WL.to1 ?_
  refine WL.q (oq_move rfl) rfl rfl rfl ?_
  refine WL.q (oq_extract rfl rfl) rfl rfl rfl ?_
  refine WL.q (oq_extract rfl rfl) rfl rfl rfl ?_
  refine WL.q (oq_assign rfl) rfl rfl rfl ?_
  refine WL.q (oq_assign rfl) rfl rfl rfl ?_
  refine WL.nil (WE.then_normal (WC.sub (fr' := [(0, _), (1, _), (6, _), (7, _)]) ?_ ⟨rfl, rfl, rfl, rfl, trivial⟩))
  refine WC.seq (WC.seq (WC.region ?_))
  refine WL.q (oq_move rfl) rfl rfl rfl ?_
  refine WL.q (oq_not rfl) rfl rfl rfl ?_
  refine WL.nil (WE.then_normal (WC.sub (fr' := [(0, _), (1, _), (6, _), (19, _)]) ?_ ⟨rfl, rfl, rfl, rfl, trivial⟩))
  refine WC.cond rfl (fun q3 => ?_) (fun q3 => ?_)
  ·
    try simp only [Z1, Z2, Z3, Z4, Z5, Z6, Z7, Z8, Z9, Z0] at q3
    refine WC.region ?_
    refine WL.q (oq_move rfl) rfl rfl rfl ?_
    refine WL.q (oq_move rfl) rfl rfl rfl ?_
    refine WL.q (oq_len_s Tryd.underlying9 rfl) rfl rfl rfl ?_
    refine WL.callW1 (grow0 _ bb data.length 0 hne hal) call57 rfl rfl rfl fun v4_3 Hs4_3 hR4_3 => ?_
    obtain ⟨B2, cap2, L2, rfl, rfl, hB2, hL2, hc2, hm2, ht2⟩ := hR4_3
    refine WL.to2 ?_
    refine WL.q (oq_assign rfl) rfl rfl rfl ?_
    refine WL.nil (WE.then_normal (WC.sub (fr' := [(0, _), (1, _), (6, _)]) ?_ ⟨rfl, rfl, rfl, trivial⟩))
    refine WC.seq (WC.region ?_)
    refine WL.q (oq_move rfl) rfl rfl rfl ?_
    refine WL.q (oq_nilCheck rfl) rfl rfl rfl ?_
    refine WL.q (oq_fieldAddr fld39_0 rfl) rfl rfl rfl ?_
    refine WL.q (oq_load flat23 rfl (.head _) (List.mem_singleton.2 rfl) rfl) rfl rfl rfl ?_
    refine WL.q (oq_move rfl) rfl rfl rfl ?_
    refine WL.q (oq_sliceSl (i := 0) Tryd.underlying23 ty5 rfl (by (first | (simp only [List.length_nil]; omega) | omega)) ⟨_, rfl⟩ rfl (by (first | (simp only [List.length_nil]; omega) | omega)) (by (first | (simp only [List.length_nil]; omega) | omega))) rfl rfl rfl ?_
    refine WL.q (oq_move rfl) rfl rfl rfl ?_
    refine WL.f1 ?_
    refine WL.copyBS Tryd.underlying23 ty5 rfl rfl (by (first | (simp only [List.length_nil]; omega) | omega)) rfl rfl ?_
    refine WL.q (oq_assign rfl) rfl rfl rfl ?_
    refine WL.q (oq_assign rfl) rfl rfl rfl ?_
    refine WL.nil (WE.then_normal (WC.sub (fr' := [(4, _), (5, _)]) ?_ ⟨rfl, rfl, trivial⟩))
    refine WC.ret ?_
    refine WE.f2 ?_
    refine WE.f1 ?_
    refine WE.f2 ?_
    refine WE.endW2 (.inl rfl) (res2 Tryd.results118 rfl rfl) ?_
    -- end 0
    refine wrote_of hB2 hL2 hc2 (by simp only [List.length_nil] at hc2; omega) hm2 ht2 (by simp only [List.length_nil]; omega) rfl ?_
    rw [show min data.length ([].length + data.length - 0) = data.length by simp, List.take_length]; rfl
  ·
    try simp only [Z1, Z2, Z3, Z4, Z5, Z6, Z7, Z8, Z9, Z0] at q3
    first | contradiction | (exfalso; omega) | (exfalso; simp_all; done)


theorem bufWrite (base bb : Nat) (lr : Int) (v : Value) (A : Hp) (acc data : List UInt8) (hb : Buf base v A acc) (s : Value) (C : Hp) (hr : RdS 1 s C data.length (bytesV data)) (hal : acc.length + data.length ≤ 1000000) (hne : 0 < acc.length + data.length) :
    FnW Tryd.prog 54 [Pt bb 0, s] base [BB bb v lr, A, C] (Wrote base bb acc data [C]) := by
  rcases hb with ⟨rfl, rfl, rfl⟩ | ⟨B, cap, L, rfl, rfl, hB, hL, hc, hc0, hm, ht⟩
  · have h := write0 base bb lr data (by simpa using hal) (by simpa using hne) s C hr
    intro w0 R0 w hbase hw
    exact h w0 R0 w hbase (by simpa using hw)
  · by_cases hf : acc.length + data.length ≤ cap
    · rcases Nat.lt_or_ge acc.length cap with hl | hl
      · exact writeY base bb lr data B cap L acc hB hL hc hc0 hm ht hal s C hr hf hl
      · obtain rfl : cap = acc.length := by omega
        obtain rfl : data = [] := List.eq_nil_of_length_eq_zero (by omega)
        exact writeF base bb lr B L acc hB hL hc0 hm ht hal s C hr
    · exact writeN base bb lr data B cap L acc hB hL hc hc0 hm ht hal s C hr hf
theorem bufWriteS (base bb : Nat) (lr : Int) (v : Value) (A : Hp) (acc data : List UInt8) (hb : Buf base v A acc) (hal : acc.length + data.length ≤ 1000000) (hne : 0 < acc.length + data.length) :
    FnW Tryd.prog 118 [Pt bb 0, S data] base [BB bb v lr, A] (Wrote base bb acc data []) := by
  have hsl : data.length ≤ maxLen := by unfold maxLen; omega
  rcases hb with ⟨rfl, rfl, rfl⟩ | ⟨B, cap, L, rfl, rfl, hB, hL, hc, hc0, hm, ht⟩
  · have h := writeS0 base bb lr data (by simpa using hal) (by simpa using hne) hsl
    intro w0 R0 w hbase hw
    exact h w0 R0 w hbase (by simpa using hw)
  · by_cases hf : acc.length + data.length ≤ cap
    · rcases Nat.lt_or_ge acc.length cap with hl | hl
      · exact writeSY base bb lr data B cap L acc hB hL hc hc0 hm ht hal hsl hf hl
      · obtain rfl : cap = acc.length := by omega
        obtain rfl : data = [] := List.eq_nil_of_length_eq_zero (by omega)
        exact writeSF base bb lr B L acc hB hL hc0 hm ht hal hsl
    · exact writeSN base bb lr data B cap L acc hB hL hc hc0 hm ht hal hsl hf
end EB
end Go.Proofs.YtodlhaghdplclaaDoor
