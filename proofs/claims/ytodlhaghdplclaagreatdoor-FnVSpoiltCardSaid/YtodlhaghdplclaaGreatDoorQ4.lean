/- Preludes, sums, limits. -/
import Derived.Test.YtodlhaghdplclaaGreatDoorQ3
import Derived.Test.YtodlhaghdplclaaGreatDoorQ1
namespace Go.Proofs.YtodlhaghdplclaaGreatDoor
open Go Go.RowKit V EA EB EC ED EL DC DD DA DE EE EH EI EJ DF DG DH DI EM
set_option linter.unusedSimpArgs false
set_option linter.unusedVariables false
set_option maxRecDepth 10000
namespace DJ
theorem call69 : Callable Tryz.prog 69 := ⟨_, Tryz.func69, rfl, by kernel_rfl⟩
theorem call77 : Callable Tryz.prog 77 := ⟨_, Tryz.func77, rfl, by kernel_rfl⟩
theorem call85 : Callable Tryz.prog 85 := ⟨_, Tryz.func85, rfl, by kernel_rfl⟩
theorem call89 : Callable Tryz.prog 89 := ⟨_, Tryz.func89, rfl, by kernel_rfl⟩
theorem flat74 : Flat Tryz.prog 74 := ⟨_, Tryz.underlying74, by simp⟩
theorem ty74 : Ty Tryz.prog 74 (.int .u32 0) 1 4 := ty_of (by kernel_rfl)
theorem ty118 : Ty Tryz.prog 118 (.agg #[]) 0 0 := ty_of (by kernel_rfl)
theorem ty120 : Ty Tryz.prog 120 (.agg #[(S []), (.int .i64 0), (.int .i64 0), .nilIface]) 4 48 := ty_of (by kernel_rfl)
theorem ty182 : Ty Tryz.prog 182 (.agg #[(.int .u32 0), (.int .u32 0), (.int .u32 0)]) 3 12 := ty_of (by kernel_rfl)
theorem ty208 : Ty Tryz.prog 208 (.agg #[.nilIface, (.int .i64 0)]) 2 24 := ty_of (by kernel_rfl)
theorem ty211 : Ty Tryz.prog 211 (.agg #[.nilIface, .nilIface]) 2 32 := ty_of (by kernel_rfl)
theorem conc118 : Conc Tryz.prog 118 := ⟨_, Tryz.underlying118, by simp⟩
theorem conc120 : Conc Tryz.prog 120 := ⟨_, Tryz.underlying120, by simp⟩
theorem conc205 : Conc Tryz.prog 205 := ⟨_, Tryz.underlying205, by simp⟩
theorem conc209 : Conc Tryz.prog 209 := ⟨_, Tryz.underlying209, by simp⟩
theorem agg182 : Agg Tryz.prog 182 := agg_of Tryz.underlying182
theorem str118 : Str Tryz.prog 118 #[] := ⟨_, Tryz.underlying118, fun w => by kernel_rfl⟩
theorem str120 : Str Tryz.prog 120 #[(0, 1), (1, 1), (2, 1), (3, 1)] := ⟨_, Tryz.underlying120, fun w => by kernel_rfl⟩
theorem str182 : Str Tryz.prog 182 #[(0, 1), (1, 1), (2, 1)] := ⟨_, Tryz.underlying182, fun w => by kernel_rfl⟩
theorem str208 : Str Tryz.prog 208 #[(0, 1), (1, 1)] := ⟨_, Tryz.underlying208, fun w => by kernel_rfl⟩
theorem str211 : Str Tryz.prog 211 #[(0, 1), (1, 1)] := ⟨_, Tryz.underlying211, fun w => by kernel_rfl⟩
theorem fld182_0 : Fld Tryz.prog 182 0 0 74 := fld_of Tryz.underlying182 rfl rfl rfl ty74 (by decide)
theorem fld182_1 : Fld Tryz.prog 182 1 1 74 := fld_of Tryz.underlying182 rfl rfl rfl ty74 (by decide)
theorem fld182_2 : Fld Tryz.prog 182 2 2 74 := fld_of Tryz.underlying182 rfl rfl rfl ty74 (by decide)
def preC (all : List UInt8) : Nat := if all.length < 4 then rdc 4 all else if all.length < 8 then rdc 4 (all.drop 4) else if totl all = 0 then 4 else if all.length < 12 then rdc 4 (all.drop 8) else if sumOk all = false then 3 else 0
def vcC (e : Nat) (rs : List UInt8) : Nat := if rs.length < 4 then rdc 4 rs else if nm (rs.take 4) = e then 0 else 3
theorem vcC_s {e : Nat} {rs : List UInt8} (h : rs.length < 4) : vcC e rs = rdc 4 rs := if_pos h
theorem vcC_0 {e : Nat} {rs : List UInt8} (h : 4 ≤ rs.length) (h2 : nm (rs.take 4) = e) : vcC e rs = 0 := by unfold vcC; rw [if_neg (by omega), if_pos h2]
theorem vcC_3 {e : Nat} {rs : List UInt8} (h : 4 ≤ rs.length) (h2 : nm (rs.take 4) ≠ e) : vcC e rs = 3 := by unfold vcC; rw [if_neg (by omega), if_neg h2]
theorem vcC_le (e : Nat) (rs : List UInt8) : vcC e rs ≤ 3 := by
 unfold vcC; split
 ·have := rdc_small 4 rs; omega
 ·split <;> omega
def SumR (hb : Nat) (all : List UInt8) (Rt : List UInt8 → Hp → Prop) : Prop := ∀ rs G, Rt rs G → FnR Tryz.prog 69 [Pt hb 0] G (U32 (crc (all.take (all.length - rs.length))))
theorem teeSum (tb : Nat) (k : TypeId) (r : Value) (hb : Nat) (Rt : List UInt8 → Hp → Prop) (all : List UInt8) : SumR hb all (TeeG tb k r hb Rt all) := by
 rintro rs G ⟨acc, X, rfl, rfl, hX⟩
 have e : (acc ++ rs).take ((acc ++ rs).length - rs.length) = acc := by
  rw [List.length_append, Nat.add_sub_cancel, List.take_left' rfl]
 rw [e]
 exact (sum32 hb (crc acc)).wide List.perm_append_comm
def PreR (kE : TypeId) (pE pU : Addr) (E : Hp) (Rt : List UInt8 → Hp → Prop) (all : List UInt8) (w : Value) (Hs : List Hp) : Prop :=
 ∃ X2 pv c rs', w = .tuple #[pv, erv kE pE pU 0 c] ∧ Hs = [X2, E] ∧ c = preC all ∧ Rt rs' X2 ∧ (0 < all.length → rs'.length < all.length) ∧ (∃ a b d, pv = .agg #[a, b, d] ∧ a.oneCell' = true ∧ b.oneCell' = true ∧ d.oneCell' = true) ∧ (c = 0 → rs' = all.drop 12 ∧ ∃ d : Value, pv = .agg #[.int .u32 (totl all : Nat), .int .u32 (head all : Nat), d])
theorem pre_tail {all : List UInt8} {c : Nat} (h4 : 4 ≤ all.length) (h8 : 8 ≤ all.length) (hz : totl all ≠ 0) (hc : c = vcC (crc (all.take 8)).toNat (all.drop 8)) : c = preC all := by
 unfold preC
 rw [if_neg (by omega), if_neg (by omega), if_neg hz, hc]
 by_cases h12 : all.length < 12
 ·rw [if_pos h12, vcC_s (by rw [List.length_drop]; omega)]
 ·rw [if_neg h12]
  have h : 4 ≤ (all.drop 8).length := by rw [List.length_drop]; omega
  by_cases hs : (crc (all.take 8)).toNat = nm ((all.drop 8).take 4)
  ·rw [vcC_0 h hs.symm, if_neg (by unfold sumOk; simp [hs])]
  ·rw [vcC_3 h (fun e => hs e.symm), if_pos (by unfold sumOk; simp [hs])]
theorem validCRC (base : Nat) (E : Hp) (kE : TypeId) (pE pU : Addr) (hS : Sn E kE pE pU) (k : TypeId) (r : Value) (f : FuncId) (Rt : List UInt8 → Hp → Prop) (hR : Rr base k r f E kE pE pU Rt) (rs : List UInt8) (X : Hp) (hX : Rt rs X) (hrs : rs.length ≤ 1000000) (e : Nat) : FnW Tryz.prog 85 [.iface k r, .int .u32 (e : Nat)] base [X, E] (fun w Hs => ∃ X2, w = erv kE pE pU 0 (vcC e rs) ∧ Hs = [X2, E] ∧ Rt (rs.drop 4) X2) := by
 refine FnW.enter (n := 20) Tryz.func85 rfl rfl fun w0 R0 hbase => ?_
 subst hbase
 show WC _ _ _ _ _ _ _ ([X, E, R0])
 refine WC.sub (fr' := [(0, _), (1, _)]) ?_ ⟨rfl, rfl, trivial⟩
 refine WC.seq (WC.region ?_)
 refine WL.q (oq_assign rfl) rfl rfl rfl ?_
 refine WL.nil (WE.then_normal (WC.sub (fr' := [(0, _), (1, _)]) ?_ ⟨rfl, rfl, trivial⟩))
 refine WC.seq (WC.region ?_)
 refine WL.q (oq_move rfl) rfl rfl rfl ?_
 refine WL.f1 ?_
 refine WL.f1 ?_
 refine WL.callW2 (dec32 _ E kE pE pU hS k r f Rt hR rs X hX hrs) call89 rfl rfl rfl fun v1_1 Hs1_1 hR1_1 => ?_
 obtain ⟨X2, x, rfl, rfl, hX2, hb, hxl⟩ := hR1_1
 refine WL.to2 ?_
 refine WL.q (oq_move rfl) rfl rfl rfl ?_
 refine WL.q (oq_extract rfl rfl) rfl rfl rfl ?_
 refine WL.q (oq_extract rfl rfl) rfl rfl rfl ?_
 refine WL.q (oq_assign rfl) rfl rfl rfl ?_
 refine WL.q (oq_assign rfl) rfl rfl rfl ?_
 refine WL.nil (WE.then_normal (WC.sub (fr' := [(1, _), (5, _), (6, _)]) ?_ ⟨rfl, rfl, rfl, trivial⟩))
 refine WC.seq (WC.seq (WC.region ?_))
 refine WL.q (oq_move rfl) rfl rfl rfl ?_
 refine WL.q (oq_ineq Tryz.underlying99 rfl (erv_or _ _ _ _ _)) rfl rfl rfl ?_
 refine WL.nil (WE.then_normal (WC.sub (fr' := [(1, _), (5, _), (6, _), (13, _)]) ?_ ⟨rfl, rfl, rfl, rfl, trivial⟩))
 refine WC.cond rfl (fun q2 => ?_) (fun q2 => ?_)
 ·
  try simp only [Z1, Z2, Z3, Z4, Z5, Z6, Z7, Z8, Z9, Z0] at q2
  refine WC.seq (WC.region ?_)
  refine WL.q (oq_move rfl) rfl rfl rfl ?_
  refine WL.q (oq_assign rfl) rfl rfl rfl ?_
  refine WL.nil (WE.then_normal (WC.sub (fr' := [(4, _)]) ?_ ⟨rfl, trivial⟩))
  refine WC.ret (WE.then_ret ?_)
  refine WE.endW2 (.inl rfl) (res1 Tryz.results85 rfl) ?_
  have hne := rdcN (ervN q2)
  rw [vcC_s hne.1]
  exact ⟨X2, rfl, rfl, hX2⟩
 ·
  try simp only [Z1, Z2, Z3, Z4, Z5, Z6, Z7, Z8, Z9, Z0] at q2
  refine WC.skip (WE.then_normal (WC.sub (fr' := [(1, _), (5, _)]) ?_ ⟨rfl, rfl, trivial⟩))
  refine WC.seq (WC.seq (WC.region ?_))
  refine WL.q (oq_move rfl) rfl rfl rfl ?_
  refine WL.q (oq_move rfl) rfl rfl rfl ?_
  refine WL.q (oq_neq rfl rfl) rfl rfl rfl ?_
  refine WL.nil (WE.then_normal (WC.sub (fr' := [(17, _)]) ?_ ⟨rfl, trivial⟩))
  refine WC.cond rfl (fun q4 => ?_) (fun q4 => ?_)
  ·
   try simp only [Z1, Z2, Z3, Z4, Z5, Z6, Z7, Z8, Z9, Z0] at q4
   refine WC.seq (WC.region ?_)
   refine WL.q (oq_build (#[]) str118 ty118 rfl (by kernel_rfl)) rfl rfl rfl ?_
   refine WL.q (oq_makeI conc118 rfl) rfl rfl rfl ?_
   refine WL.q (oq_assign rfl) rfl rfl rfl ?_
   refine WL.nil (WE.then_normal (WC.sub (fr' := [(4, _)]) ?_ ⟨rfl, trivial⟩))
   refine WC.ret (WE.then_ret ?_)
   refine WE.endW2 (.inl rfl) (res1 Tryz.results85 rfl) ?_
   have hle := rdc0 (erv0 q2)
   rw [vcC_3 hle (by rw [← hb hle]; omega)]
   exact ⟨X2, rfl, rfl, hX2⟩
  ·
   try simp only [Z1, Z2, Z3, Z4, Z5, Z6, Z7, Z8, Z9, Z0] at q4
   refine WC.skip (WE.then_normal (WC.sub (fr' := []) ?_ trivial))
   refine WC.seq (WC.region ?_)
   refine WL.q (oq_assign rfl) rfl rfl rfl ?_
   refine WL.nil (WE.then_normal (WC.sub (fr' := [(4, _)]) ?_ ⟨rfl, trivial⟩))
   refine WC.ret ?_
   refine WE.endW2 (.inl rfl) (res1 Tryz.results85 rfl) ?_
   have hle := rdc0 (erv0 q2)
   rw [vcC_0 hle (by rw [← hb hle]; omega)]
   exact ⟨X2, rfl, rfl, hX2⟩
theorem validLens2 (n : Nat) (hn : n < 4294967296) (a b : Value) (kE : TypeId) (pE pU : Addr) : Fn0 Tryz.prog 77 [.agg #[.int .u32 (n : Int), a, b]] (erv kE pE pU 0 (if n = 0 then 4 else 0)) := by
 refine Fn0.enter (n := 11) Tryz.func77 rfl rfl fun w0 => ?_
 refine WC.sub (fr' := [(0, _)]) ?_ ⟨rfl, trivial⟩
 refine WC.seq (WC.region ?_)
 refine WL.box rfl rfl rfl fun b0_0 hb0_0 => ?_
 refine WL.q (oq_assign rfl) rfl rfl rfl ?_
 refine WL.nil (WE.then_normal (WC.sub (fr' := [(1, _)]) ?_ ⟨rfl, trivial⟩))
 refine WC.seq (WC.seq (WC.region ?_))
 refine WL.q (oq_fieldAddr fld182_0 rfl) rfl rfl rfl ?_
 refine WL.q (oq_load flat74 rfl (.head _) (List.mem_singleton.2 rfl) rfl) rfl rfl rfl ?_
 refine WL.q (oq_eql rfl rfl) rfl rfl rfl ?_
 refine WL.nil (WE.then_normal (WC.sub (fr' := [(1, _), (5, _)]) ?_ ⟨rfl, rfl, trivial⟩))
 refine WC.cond rfl (fun q1 => ?_) (fun q1 => ?_)
 ·
  try simp only [Z1, Z2, Z3, Z4, Z5, Z6, Z7, Z8, Z9, Z0] at q1
  refine WC.seq (WC.region ?_)
  refine WL.q (oq_fieldAddr fld182_0 rfl) rfl rfl rfl ?_
  refine WL.q (oq_load flat74 rfl (.head _) (List.mem_singleton.2 rfl) rfl) rfl rfl rfl ?_
  refine WL.q (oq_conv Tryz.underlying74 Tryz.underlying3 rfl (by rw [i64_lo, i64_hi]; (first | omega | (simp only [List.length_cons, List.length_nil, List.length_append, List.length_drop, List.length_take]; omega)))) rfl rfl rfl ?_
  refine WL.q (oq_build (#[S [109, 101, 115, 115, 97, 103, 101, 32, 112, 114, 101, 108, 117, 100, 101], I 16, I (n : Int), .nilIface]) str120 ty120 rfl (by kernel_rfl)) rfl rfl rfl ?_
  refine WL.q (oq_makeI conc120 rfl) rfl rfl rfl ?_
  refine WL.q (oq_assign rfl) rfl rfl rfl ?_
  refine WL.nil (WE.then_normal (WC.sub (fr' := [(2, _)]) ?_ ⟨rfl, trivial⟩))
  refine WC.ret (WE.then_ret ?_)
  refine WE.lose hb0_0 ?_
  refine WE.end0 (.inl rfl) (res1 Tryz.results77 rfl) ?_
  obtain rfl : n = 0 := by omega
  rfl
 ·
  try simp only [Z1, Z2, Z3, Z4, Z5, Z6, Z7, Z8, Z9, Z0] at q1
  refine WC.skip (WE.then_normal (WC.sub (fr' := []) ?_ trivial))
  refine WC.seq (WC.region ?_)
  refine WL.q (oq_assign rfl) rfl rfl rfl ?_
  refine WL.nil (WE.then_normal (WC.sub (fr' := [(2, _)]) ?_ ⟨rfl, trivial⟩))
  refine WC.ret ?_
  refine WE.lose hb0_0 ?_
  refine WE.end0 (.inl rfl) (res1 Tryz.results77 rfl) ?_
  rw [if_neg (by omega)]; rfl
theorem payloadLen (a b : Nat) (c : Value) (h : 16 + b ≤ a) (ha : a < 4294967296) : Fn0 Tryz.prog 83 [.agg #[.int .u32 (a : Int), .int .u32 (b : Int), c]] (.int .u32 ((a - 16 - b : Nat) : Int)) := by
 refine Fn0.enter (n := 9) Tryz.func83 rfl rfl fun w0 => ?_
 refine WC.sub (fr' := [(0, _)]) ?_ ⟨rfl, trivial⟩
 refine WC.seq (WC.region ?_)
 refine WL.box rfl rfl rfl fun b0_0 hb0_0 => ?_
 refine WL.q (oq_assign rfl) rfl rfl rfl ?_
 refine WL.nil (WE.then_normal (WC.sub (fr' := [(1, _)]) ?_ ⟨rfl, trivial⟩))
 refine WC.seq (WC.region ?_)
 refine WL.q (oq_fieldAddr fld182_0 rfl) rfl rfl rfl ?_
 refine WL.q (oq_load flat74 rfl (.head _) (List.mem_singleton.2 rfl) rfl) rfl rfl rfl ?_
 refine WL.q (oq_fieldAddr fld182_1 rfl) rfl rfl rfl ?_
 refine WL.q (oq_load flat74 rfl (.head _) (List.mem_singleton.2 rfl) rfl) rfl rfl rfl ?_
 refine WL.q (oq_sub rfl rfl (by rw [u32_lo, u32_hi]; (first | omega | (simp only [List.length_cons, List.length_nil, List.length_append, List.length_drop, List.length_take]; omega)))) rfl rfl rfl ?_
 refine WL.q (oq_sub rfl rfl (by rw [u32_lo, u32_hi]; (first | omega | (simp only [List.length_cons, List.length_nil, List.length_append, List.length_drop, List.length_take]; omega)))) rfl rfl rfl ?_
 refine WL.q (oq_assign rfl) rfl rfl rfl ?_
 refine WL.nil (WE.then_normal (WC.sub (fr' := [(2, _)]) ?_ ⟨rfl, trivial⟩))
 refine WC.ret ?_
 refine WE.lose hb0_0 ?_
 refine WE.end0 (.inl rfl) (res1 Tryz.results83 rfl) ?_
 congr 1; omega
theorem teeReader (k : TypeId) (r : Value) (hb : Nat) : FnA Tryz.prog 79 [.iface k r, .iface 153 (Pt hb 0)] [] (fun w N => ∃ tb, w = .iface 209 (Pt tb 0) ∧ N = TB tb k r hb) := by
 refine FnA.enter0 (n := 10) Tryz.func79 rfl rfl fun w0 => ?_
 refine WC.sub (fr' := [(0, _), (1, _)]) ?_ ⟨rfl, rfl, trivial⟩
 refine WC.seq (WC.region ?_)
 refine WL.q (oq_assign rfl) rfl rfl rfl ?_
 refine WL.nil (WE.then_normal (WC.sub (fr' := [(0, _), (1, _)]) ?_ ⟨rfl, rfl, trivial⟩))
 refine WC.seq (WC.region ?_)
 refine WL.q (oq_move rfl) rfl rfl rfl ?_
 refine WL.q (oq_move rfl) rfl rfl rfl ?_
 refine WL.q (oq_build #[_, _] str211 ty211 rfl rfl) rfl rfl rfl ?_
 refine WL.box rfl rfl rfl fun tb htb => ?_
 refine WL.q (oq_makeI conc209 rfl) rfl rfl rfl ?_
 refine WL.q (oq_assign rfl) rfl rfl rfl ?_
 refine WL.nil (WE.then_normal (WC.sub (fr' := [(4, _)]) ?_ ⟨rfl, trivial⟩))
 refine WC.ret ?_
 refine WE.endA0 (.inl rfl) (res1 Tryz.results79 rfl) ?_ (fresh1 htb)
 exact ⟨_, rfl, rfl⟩
theorem limitReader (k : TypeId) (r : Value) (n : Int) : FnA Tryz.prog 81 [.iface k r, I n] [] (fun w N => ∃ lb, w = .iface 205 (Pt lb 0) ∧ N = LB lb k r n) := by
 refine FnA.enter0 (n := 10) Tryz.func81 rfl rfl fun w0 => ?_
 refine WC.sub (fr' := [(0, _), (1, _)]) ?_ ⟨rfl, rfl, trivial⟩
 refine WC.seq (WC.region ?_)
 refine WL.q (oq_assign rfl) rfl rfl rfl ?_
 refine WL.nil (WE.then_normal (WC.sub (fr' := [(0, _), (1, _)]) ?_ ⟨rfl, rfl, trivial⟩))
 refine WC.seq (WC.region ?_)
 refine WL.q (oq_move rfl) rfl rfl rfl ?_
 refine WL.q (oq_move rfl) rfl rfl rfl ?_
 refine WL.q (oq_build #[_, _] str208 ty208 rfl rfl) rfl rfl rfl ?_
 refine WL.box rfl rfl rfl fun lb hlb => ?_
 refine WL.q (oq_makeI conc205 rfl) rfl rfl rfl ?_
 refine WL.q (oq_assign rfl) rfl rfl rfl ?_
 refine WL.nil (WE.then_normal (WC.sub (fr' := [(4, _)]) ?_ ⟨rfl, trivial⟩))
 refine WC.ret ?_
 refine WE.endA0 (.inl rfl) (res1 Tryz.results81 rfl) ?_ (fresh1 hlb)
 exact ⟨_, rfl, rfl⟩
theorem decPrelude (base hb : Nat) (E : Hp) (kE : TypeId) (pE pU : Addr) (hS : Sn E kE pE pU) (k : TypeId) (r : Value) (f : FuncId) (Rt : List UInt8 → Hp → Prop) (hR : Rr base k r f E kE pE pU Rt) (all : List UInt8) (hsum : SumR hb all Rt) (X : Hp) (hX : Rt all X) (hrs : all.length ≤ 1000000) : FnW Tryz.prog 80 [.iface k r, Pt hb 0] base [X, E] (PreR kE pE pU E Rt all) := by
 refine FnW.enter (n := 49) Tryz.func80 rfl rfl fun w0 R0 hbase => ?_
 subst hbase
 show WC _ _ _ _ _ _ _ ([X, E, R0])
 refine WC.sub (fr' := [(0, _), (1, _)]) ?_ ⟨rfl, rfl, trivial⟩
 refine WC.seq (WC.region ?_)
 refine WL.alloc ty182 rfl rfl fun res hres => ?_
 refine WL.q (oq_assign rfl) rfl rfl rfl ?_
 refine WL.nil (WE.then_normal (WC.sub (fr' := [(0, _), (1, _), (4, _)]) ?_ ⟨rfl, rfl, rfl, trivial⟩))
 refine WC.seq (WC.region ?_)
 refine WL.alloc ty182 rfl rfl fun pb hpb => ?_
 refine WL.nil (WE.then_normal (WC.sub (fr' := [(0, _), (1, _), (4, _), (6, _)]) ?_ ⟨rfl, rfl, rfl, rfl, trivial⟩))
 refine WC.seq (WC.region ?_)
 refine WL.q (oq_assign rfl) rfl rfl rfl ?_
 refine WL.nil (WE.then_normal (WC.sub (fr' := [(0, _), (1, _), (4, _), (6, _)]) ?_ ⟨rfl, rfl, rfl, rfl, trivial⟩))
 refine WC.seq (WC.region ?_)
 refine WL.q (oq_move rfl) rfl rfl rfl ?_
 refine WL.f3 ?_
 refine WL.f3 ?_
 refine WL.callW2 (dec32 _ E kE pE pU hS k r f Rt hR all X hX (by first | omega | (rw [List.length_drop]; omega))) call89 rfl rfl rfl fun v3_1 Hs3_1 hR3_1 => ?_
 obtain ⟨X2, x1, rfl, rfl, hX2, hb1, hx1⟩ := hR3_1
 refine WL.to2 ?_
 refine WL.q (oq_move rfl) rfl rfl rfl ?_
 refine WL.q (oq_extract rfl rfl) rfl rfl rfl ?_
 refine WL.q (oq_extract rfl rfl) rfl rfl rfl ?_
 refine WL.q (oq_fieldAddr fld182_0 rfl) rfl rfl rfl ?_
 refine WL.f2 ?_
 refine WL.store1 #[_, _, _] ty74 rfl rfl (by first | rfl | exact OwS.one rfl) (Nat.lt_of_lt_of_le (Nat.lt_succ_self _) (Nat.le_of_ble_eq_true rfl)) rfl rfl ?_
 refine WL.q (oq_assign rfl) rfl rfl rfl ?_
 refine WL.nil (WE.then_normal (WC.sub (fr' := [(0, _), (1, _), (4, _), (6, _), (7, _)]) ?_ ⟨rfl, rfl, rfl, rfl, rfl, trivial⟩))
 refine WC.seq (WC.seq (WC.region ?_))
 refine WL.q (oq_move rfl) rfl rfl rfl ?_
 refine WL.q (oq_ineq Tryz.underlying99 rfl (erv_or _ _ _ _ _)) rfl rfl rfl ?_
 refine WL.nil (WE.then_normal (WC.sub (fr' := [(0, _), (1, _), (4, _), (6, _), (7, _), (18, _)]) ?_ ⟨rfl, rfl, rfl, rfl, rfl, rfl, trivial⟩))
 refine WC.cond rfl (fun q4 => ?_) (fun q4 => ?_)
 ·
  try simp only [Z1, Z2, Z3, Z4, Z5, Z6, Z7, Z8, Z9, Z0] at q4
  refine WC.seq (WC.region ?_)
  refine WL.q (oq_build #[_, _, _] str182 ty182 rfl rfl) rfl rfl rfl ?_
  refine WL.q (oq_move rfl) rfl rfl rfl ?_
  refine WL.f3 ?_
  refine WL.storeS #[_, _, _] ty182 rfl rfl rfl rfl (Nat.le_of_ble_eq_true rfl) rfl rfl ?_
  refine WL.q (oq_assign rfl) rfl rfl rfl ?_
  refine WL.nil (WE.then_normal (WC.sub (fr' := [(4, _), (5, _)]) ?_ ⟨rfl, rfl, trivial⟩))
  refine WC.ret (WE.then_ret ?_)
  refine WE.endDW [_, _] (.inl rfl) (rs2 Tryz.results80 (rv_cellS [_, _, _] agg182 ty182 rfl (.head _) (List.mem_singleton.2 rfl) rfl rfl) (rv_tmp rfl)) (dr_lose hres (dr_lose hpb dr_refl)) ?_
  have hne := rdcN (ervN q4)
  refine ⟨X2, _, _, _, rfl, rfl, by unfold preC; rw [if_pos hne.1], hX2, fun h => by rw [List.length_drop]; omega, ⟨_, _, _, rfl, rfl, rfl, rfl⟩, fun h => absurd h (ervN q4)⟩
 ·
  try simp only [Z1, Z2, Z3, Z4, Z5, Z6, Z7, Z8, Z9, Z0] at q4
  refine WC.skip (WE.then_normal (WC.sub (fr' := [(0, _), (1, _), (4, _), (6, _)]) ?_ ⟨rfl, rfl, rfl, rfl, trivial⟩))
  refine WC.seq ?_
  have hl4 := rdc0 (erv0 q4)
  have hx1e := hb1 hl4
  refine WC.region ?_
  refine WL.q (oq_move rfl) rfl rfl rfl ?_
  refine WL.f2 ?_
  refine WL.f2 ?_
  refine WL.callW2 (dec32 _ E kE pE pU hS k r f Rt hR (all.drop 4) X2 hX2 (by first | omega | (rw [List.length_drop]; omega))) call89 rfl rfl rfl fun v6_1 Hs6_1 hR6_1 => ?_
  obtain ⟨X3, x2, rfl, rfl, hX3, hb2, hx2⟩ := hR6_1
  rw [List.drop_drop] at hX3
  refine WL.to2 ?_
  refine WL.q (oq_move rfl) rfl rfl rfl ?_
  refine WL.q (oq_extract rfl rfl) rfl rfl rfl ?_
  refine WL.q (oq_extract rfl rfl) rfl rfl rfl ?_
  refine WL.q (oq_fieldAddr fld182_1 rfl) rfl rfl rfl ?_
  refine WL.f2 ?_
  refine WL.store1 #[_, _, _] ty74 rfl rfl (by first | rfl | exact OwS.one rfl) (Nat.lt_of_lt_of_le (Nat.lt_succ_self _) (Nat.le_of_ble_eq_true rfl)) rfl rfl ?_
  refine WL.q (oq_assign rfl) rfl rfl rfl ?_
  refine WL.nil (WE.then_normal (WC.sub (fr' := [(0, _), (1, _), (4, _), (6, _), (7, _)]) ?_ ⟨rfl, rfl, rfl, rfl, rfl, trivial⟩))
  refine WC.seq (WC.seq (WC.region ?_))
  refine WL.q (oq_move rfl) rfl rfl rfl ?_
  refine WL.q (oq_ineq Tryz.underlying99 rfl (erv_or _ _ _ _ _)) rfl rfl rfl ?_
  refine WL.nil (WE.then_normal (WC.sub (fr' := [(0, _), (1, _), (4, _), (6, _), (7, _), (28, _)]) ?_ ⟨rfl, rfl, rfl, rfl, rfl, rfl, trivial⟩))
  refine WC.cond rfl (fun q7 => ?_) (fun q7 => ?_)
  ·
   try simp only [Z1, Z2, Z3, Z4, Z5, Z6, Z7, Z8, Z9, Z0] at q7
   refine WC.seq (WC.region ?_)
   refine WL.q (oq_build #[_, _, _] str182 ty182 rfl rfl) rfl rfl rfl ?_
   refine WL.q (oq_move rfl) rfl rfl rfl ?_
   refine WL.f3 ?_
   refine WL.storeS #[_, _, _] ty182 rfl rfl rfl rfl (Nat.le_of_ble_eq_true rfl) rfl rfl ?_
   refine WL.q (oq_assign rfl) rfl rfl rfl ?_
   refine WL.nil (WE.then_normal (WC.sub (fr' := [(4, _), (5, _)]) ?_ ⟨rfl, rfl, trivial⟩))
   refine WC.ret (WE.then_ret ?_)
   refine WE.endDW [_, _] (.inl rfl) (rs2 Tryz.results80 (rv_cellS [_, _, _] agg182 ty182 rfl (.head _) (List.mem_singleton.2 rfl) rfl rfl) (rv_tmp rfl)) (dr_lose hres (dr_lose hpb dr_refl)) ?_
   have hne := rdcN (ervN q7)
   rw [List.length_drop] at hne
   refine ⟨X3, _, _, _, rfl, rfl, by unfold preC; rw [if_neg (by omega), if_pos (by omega)], hX3, fun h => by rw [List.length_drop]; omega, ⟨_, _, _, rfl, rfl, rfl, rfl⟩, fun h => absurd h (ervN q7)⟩
  ·
   try simp only [Z1, Z2, Z3, Z4, Z5, Z6, Z7, Z8, Z9, Z0] at q7
   refine WC.skip (WE.then_normal (WC.sub (fr' := [(0, _), (1, _), (4, _), (6, _)]) ?_ ⟨rfl, rfl, rfl, rfl, trivial⟩))
   refine WC.seq (WC.seq ?_)
   have hl8 := rdc0 (erv0 q7)
   rw [List.length_drop] at hl8
   have hx2e := hb2 (by rw [List.length_drop]; omega)
   have ht : totl all = x1 := hx1e.symm
   have hh : head all = x2 := hx2e.symm
   refine WC.region ?_
   refine WL.q (oq_loadS [_, _, _] agg182 ty182 rfl (.head _) (List.mem_singleton.2 rfl) rfl rfl) rfl rfl rfl ?_
   refine WL.qc (oq_call (validLens2 x1 hx1 _ _ kE pE pU) call77 rfl) rfl rfl rfl ?_
   refine WL.q (oq_assign rfl) rfl rfl rfl ?_
   refine WL.nil (WE.then_normal (WC.sub (fr' := [(0, _), (1, _), (4, _), (6, _), (8, _)]) ?_ ⟨rfl, rfl, rfl, rfl, rfl, trivial⟩))
   refine WC.seq (WC.region ?_)
   refine WL.q (oq_move rfl) rfl rfl rfl ?_
   refine WL.q (oq_ineq Tryz.underlying99 rfl (erv_or _ _ _ _ _)) rfl rfl rfl ?_
   refine WL.nil (WE.then_normal (WC.sub (fr' := [(0, _), (1, _), (4, _), (6, _), (8, _), (34, _)]) ?_ ⟨rfl, rfl, rfl, rfl, rfl, rfl, trivial⟩))
   refine WC.cond rfl (fun q10 => ?_) (fun q10 => ?_)
   ·
    try simp only [Z1, Z2, Z3, Z4, Z5, Z6, Z7, Z8, Z9, Z0] at q10
    refine WC.seq (WC.region ?_)
    refine WL.q (oq_build #[_, _, _] str182 ty182 rfl rfl) rfl rfl rfl ?_
    refine WL.q (oq_move rfl) rfl rfl rfl ?_
    refine WL.f3 ?_
    refine WL.storeS #[_, _, _] ty182 rfl rfl rfl rfl (Nat.le_of_ble_eq_true rfl) rfl rfl ?_
    refine WL.q (oq_assign rfl) rfl rfl rfl ?_
    refine WL.nil (WE.then_normal (WC.sub (fr' := [(4, _), (5, _)]) ?_ ⟨rfl, rfl, trivial⟩))
    refine WC.ret (WE.then_ret ?_)
    refine WE.endDW [_, _] (.inl rfl) (rs2 Tryz.results80 (rv_cellS [_, _, _] agg182 ty182 rfl (.head _) (List.mem_singleton.2 rfl) rfl rfl) (rv_tmp rfl)) (dr_lose hres (dr_lose hpb dr_refl)) ?_
    have hz : x1 = 0 := by by_cases h : x1 = 0; exact h; rw [if_neg h] at q10; cases q10
    rw [if_pos hz]
    refine ⟨X3, _, _, _, rfl, rfl, by unfold preC; rw [if_neg (by omega), if_neg (by omega), if_pos (by omega)], hX3, fun h => by rw [List.length_drop]; omega, ⟨_, _, _, rfl, rfl, rfl, rfl⟩, fun h => by cases h⟩
   ·
    try simp only [Z1, Z2, Z3, Z4, Z5, Z6, Z7, Z8, Z9, Z0] at q10
    refine WC.skip (WE.then_normal (WC.sub (fr' := [(0, _), (1, _), (4, _), (6, _)]) ?_ ⟨rfl, rfl, rfl, rfl, trivial⟩))
    refine WC.seq ?_
    have hz : x1 ≠ 0 := fun h => by rw [if_pos h] at q10; cases q10
    have h8l : all.length - (all.drop 8).length = 8 := by rw [List.length_drop]; omega
    refine WC.region ?_
    refine WL.q (oq_move rfl) rfl rfl rfl ?_
    refine WL.qc (oq_callRm (hsum _ X3 hX3) (.tail _ (.head _)) call69 rfl) rfl rfl rfl ?_
    refine WL.q (oq_assign rfl) rfl rfl rfl ?_
    refine WL.nil (WE.then_normal (WC.sub (fr' := [(0, _), (4, _), (6, _), (9, _)]) ?_ ⟨rfl, rfl, rfl, rfl, trivial⟩))
    refine WC.seq (WC.seq ?_)
    rw [h8l]
    refine WC.region ?_
    refine WL.q (oq_move rfl) rfl rfl rfl ?_
    refine WL.q (oq_move rfl) rfl rfl rfl ?_
    refine WL.f2 ?_
    refine WL.f2 ?_
    refine WL.callW2 (validCRC _ E kE pE pU hS k r f Rt hR (all.drop 8) X3 hX3 (by rw [List.length_drop]; omega) (crc (all.take 8)).toNat) call85 rfl rfl rfl fun v13_2 Hs13_2 hR13_2 => ?_
    obtain ⟨X4, rfl, rfl, hX4⟩ := hR13_2
    rw [List.drop_drop] at hX4
    refine WL.to2 ?_
    refine WL.q (oq_assign rfl) rfl rfl rfl ?_
    refine WL.nil (WE.then_normal (WC.sub (fr' := [(4, _), (6, _), (9, _), (10, _)]) ?_ ⟨rfl, rfl, rfl, rfl, trivial⟩))
    refine WC.seq (WC.region ?_)
    refine WL.q (oq_move rfl) rfl rfl rfl ?_
    refine WL.q (oq_ineq Tryz.underlying99 rfl (erv_or _ _ _ _ _)) rfl rfl rfl ?_
    refine WL.nil (WE.then_normal (WC.sub (fr' := [(4, _), (6, _), (9, _), (10, _), (43, _)]) ?_ ⟨rfl, rfl, rfl, rfl, rfl, trivial⟩))
    refine WC.cond rfl (fun q14 => ?_) (fun q14 => ?_)
    ·
     try simp only [Z1, Z2, Z3, Z4, Z5, Z6, Z7, Z8, Z9, Z0] at q14
     refine WC.seq (WC.region ?_)
     refine WL.q (oq_build #[_, _, _] str182 ty182 rfl rfl) rfl rfl rfl ?_
     refine WL.q (oq_move rfl) rfl rfl rfl ?_
     refine WL.f3 ?_
     refine WL.storeS #[_, _, _] ty182 rfl rfl rfl rfl (Nat.le_of_ble_eq_true rfl) rfl rfl ?_
     refine WL.q (oq_assign rfl) rfl rfl rfl ?_
     refine WL.nil (WE.then_normal (WC.sub (fr' := [(4, _), (5, _)]) ?_ ⟨rfl, rfl, trivial⟩))
     refine WC.ret (WE.then_ret ?_)
     refine WE.endDW [_, _] (.inl rfl) (rs2 Tryz.results80 (rv_cellS [_, _, _] agg182 ty182 rfl (.head _) (List.mem_singleton.2 rfl) rfl rfl) (rv_tmp rfl)) (dr_lose hres (dr_f2 (dr_lose hpb dr_refl))) ?_
     have hne := ervN q14
     refine ⟨X4, _, _, _, rfl, rfl, ?_, hX4, fun h => by rw [List.length_drop]; omega, ⟨_, _, _, rfl, rfl, rfl, rfl⟩, fun h => absurd h hne⟩
     exact pre_tail hl4 (by omega) (by rw [ht]; exact hz) rfl
    ·
     try simp only [Z1, Z2, Z3, Z4, Z5, Z6, Z7, Z8, Z9, Z0] at q14
     refine WC.skip (WE.then_normal (WC.sub (fr' := [(4, _), (6, _), (9, _)]) ?_ ⟨rfl, rfl, rfl, trivial⟩))
     refine WC.seq (WC.region ?_)
     refine WL.q (oq_move rfl) rfl rfl rfl ?_
     refine WL.q (oq_fieldAddr fld182_2 rfl) rfl rfl rfl ?_
     refine WL.f2 ?_
     refine WL.store1 #[_, _, _] ty74 rfl rfl (by first | rfl | exact OwS.one rfl) (Nat.lt_of_lt_of_le (Nat.lt_succ_self _) (Nat.le_of_ble_eq_true rfl)) rfl rfl ?_
     refine WL.nil (WE.then_normal (WC.sub (fr' := [(4, _), (6, _)]) ?_ ⟨rfl, rfl, trivial⟩))
     refine WC.seq (WC.region ?_)
     refine WL.q (oq_loadS [_, _, _] agg182 ty182 rfl (.head _) (List.mem_singleton.2 rfl) rfl rfl) rfl rfl rfl ?_
     refine WL.f3 ?_
     refine WL.storeS #[_, _, _] ty182 rfl rfl rfl rfl (Nat.le_of_ble_eq_true rfl) rfl rfl ?_
     refine WL.q (oq_assign rfl) rfl rfl rfl ?_
     refine WL.nil (WE.then_normal (WC.sub (fr' := [(4, _), (5, _)]) ?_ ⟨rfl, rfl, trivial⟩))
     refine WC.ret ?_
     refine WE.endDW [_, _] (.inl rfl) (rs2 Tryz.results80 (rv_cellS [_, _, _] agg182 ty182 rfl (.head _) (List.mem_singleton.2 rfl) rfl rfl) (rv_tmp rfl)) (dr_lose hres (dr_lose hpb dr_refl)) ?_
     have h0 := erv0 q14
     refine ⟨X4, _, 0, _, rfl, rfl, ?_, hX4, fun h => by rw [List.length_drop]; omega, ⟨_, _, _, rfl, rfl, rfl, rfl⟩, fun _ => ⟨rfl, _, by rw [ht, hh]⟩⟩
     rw [← h0]
     exact pre_tail hl4 (by omega) (by rw [ht]; exact hz) rfl
end DJ
end Go.Proofs.YtodlhaghdplclaaGreatDoor
/- A message read. -/
namespace Go.Proofs.YtodlhaghdplclaaGreatDoor
open Go Go.RowKit V EA EB EC ED EL DC DD DA DE EE EH EI EJ DF DG DH DI EM DJ
set_option linter.unusedSimpArgs false
set_option linter.unusedVariables false
set_option maxRecDepth 10000
namespace DK
theorem call69 : Callable Tryz.prog 69 := ⟨_, Tryz.func69, rfl, by kernel_rfl⟩
theorem call71 : Callable Tryz.prog 71 := ⟨_, Tryz.func71, rfl, by kernel_rfl⟩
theorem call79 : Callable Tryz.prog 79 := ⟨_, Tryz.func79, rfl, by kernel_rfl⟩
theorem call80 : Callable Tryz.prog 80 := ⟨_, Tryz.func80, rfl, by kernel_rfl⟩
theorem call81 : Callable Tryz.prog 81 := ⟨_, Tryz.func81, rfl, by kernel_rfl⟩
theorem call82 : Callable Tryz.prog 82 := ⟨_, Tryz.func82, rfl, by kernel_rfl⟩
theorem call83 : Callable Tryz.prog 83 := ⟨_, Tryz.func83, rfl, by kernel_rfl⟩
theorem call84 : Callable Tryz.prog 84 := ⟨_, Tryz.func84, rfl, by kernel_rfl⟩
theorem call85 : Callable Tryz.prog 85 := ⟨_, Tryz.func85, rfl, by kernel_rfl⟩
theorem flat74 : Flat Tryz.prog 74 := ⟨_, Tryz.underlying74, by simp⟩
theorem ty28 : Ty Tryz.prog 28 (.slice none 0 0) 1 24 := ty_of (by kernel_rfl)
theorem ty62 : Ty Tryz.prog 62 (.slice none 0 0) 1 24 := ty_of (by kernel_rfl)
theorem ty74 : Ty Tryz.prog 74 (.int .u32 0) 1 4 := ty_of (by kernel_rfl)
theorem ty109 : Ty Tryz.prog 109 (.agg #[(.slice none 0 0), (.slice none 0 0)]) 2 48 := ty_of (by kernel_rfl)
theorem ty155 : Ty Tryz.prog 155 (.agg #[(.int .u32 0)]) 1 4 := ty_of (by kernel_rfl)
theorem ty182 : Ty Tryz.prog 182 (.agg #[(.int .u32 0), (.int .u32 0), (.int .u32 0)]) 3 12 := ty_of (by kernel_rfl)
theorem conc153 : Conc Tryz.prog 153 := ⟨_, Tryz.underlying153, by simp⟩
theorem agg109 : Agg Tryz.prog 109 := agg_of Tryz.underlying109
theorem agg182 : Agg Tryz.prog 182 := agg_of Tryz.underlying182
theorem str109 : Str Tryz.prog 109 #[(0, 1), (1, 1)] := ⟨_, Tryz.underlying109, fun w => by kernel_rfl⟩
theorem str155 : Str Tryz.prog 155 #[(0, 1)] := ⟨_, Tryz.underlying155, fun w => by kernel_rfl⟩
theorem fld109_0 : Fld Tryz.prog 109 0 0 62 := fld_of Tryz.underlying109 rfl rfl rfl ty62 (by decide)
theorem fld109_1 : Fld Tryz.prog 109 1 1 28 := fld_of Tryz.underlying109 rfl rfl rfl ty28 (by decide)
theorem fld182_1 : Fld Tryz.prog 182 1 1 74 := fld_of Tryz.underlying182 rfl rfl rfl ty74 (by decide)
def codeOf (all : List UInt8) (c : Nat) : Nat := if c = 1 ∨ c = 2 then (if all = [] then 1 else 2) else c
theorem codeOf_o {all : List UInt8} {c : Nat} (h1 : c ≠ 1) (h2 : c ≠ 2) : codeOf all c = c := by unfold codeOf; rw [if_neg (by omega)]
theorem codeOf_s {all : List UInt8} {c : Nat} (h : c = 1 ∨ c = 2) (h0 : 0 < all.length) : codeOf all c = 2 := by
 unfold codeOf; rw [if_pos h, if_neg (fun e => by rw [e] at h0; simp at h0)]
theorem dec_pre {all : List UInt8} (h : preC all ≠ 0) : (dec all).1 = codeOf all (preC all) := by
 unfold preC at h ⊢
 unfold dec
 by_cases h0 : all = []
 ·subst h0; rfl
 ·have hl : 0 < all.length := by rcases Nat.eq_zero_or_pos all.length with e | e; exact absurd (len_nil.1 e) h0; exact e
  rw [if_neg h0]
  by_cases h4 : all.length < 4
  ·rw [if_pos (show all.length < 8 by omega), if_pos h4, codeOf_s (rdcN (fun e => by have := rdc0 e; omega)).2 hl]; rfl
  ·rw [if_neg h4] at h ⊢
   by_cases h8 : all.length < 8
   ·rw [if_pos h8, if_pos h8, codeOf_s (rdcN (fun e => by have := rdc0 e; rw [List.length_drop] at this; omega)).2 hl]; rfl
   ·rw [if_neg h8] at h ⊢
    rw [if_neg h8]
    by_cases hz : totl all = 0
    ·rw [if_pos hz, if_pos hz]; rfl
    ·rw [if_neg hz] at h ⊢
     rw [if_neg hz]
     by_cases h12 : all.length < 12
     ·rw [if_pos h12, if_pos h12, codeOf_s (rdcN (fun e => by have := rdc0 e; rw [List.length_drop] at this; omega)).2 hl]; rfl
     ·rw [if_neg h12] at h ⊢
      rw [if_neg h12]
      by_cases hs : sumOk all = false
      ·rw [if_pos hs, if_pos hs]; rfl
      ·rw [if_neg hs] at h; exact absurd rfl h
theorem pre_0 {all : List UInt8} (h : preC all = 0) : 12 ≤ all.length ∧ dec all = match tk ((all.drop 12).take (head all)) [] with
  | .short => err 2
  | .other => err 5
  | .ok l => tailR all l
  | .opn l => tailR all l := by
 unfold preC at h
 by_cases h4 : all.length < 4
 ·rw [if_pos h4] at h; have := rdc0 h; omega
 rw [if_neg h4] at h
 by_cases h8 : all.length < 8
 ·rw [if_pos h8] at h; have := rdc0 h; rw [List.length_drop] at this; omega
 rw [if_neg h8] at h
 by_cases hz : totl all = 0
 ·rw [if_pos hz] at h; cases h
 rw [if_neg hz] at h
 by_cases h12 : all.length < 12
 ·rw [if_pos h12] at h; have := rdc0 h; rw [List.length_drop] at this; omega
 rw [if_neg h12] at h
 by_cases hs : sumOk all = false
 ·rw [if_pos hs] at h; cases h
 refine ⟨by omega, ?_⟩
 unfold dec
 rw [if_neg (fun e => by rw [e] at h4; simp at h4), if_neg h8, if_neg hz, if_neg h12, if_neg hs]
 cases tk ((all.drop 12).take (head all)) [] <;> rfl
theorem tail_c {all : List UInt8} {l : List HV} (h12 : 12 ≤ all.length) (hw : 16 + head all ≤ totl all) : (tailR all l).1 = codeOf all (vcC (crc (all.take (all.length - (all.drop (totl all - 4)).length))).toNat (all.drop (totl all - 4))) := by
 have hdl : (all.drop (totl all - 4)).length = all.length - (totl all - 4) := List.length_drop
 unfold tailR
 by_cases h : all.length < totl all
 ·rw [if_pos h, vcC_s (by omega), codeOf_s (rdcN (fun e => by have := rdc0 e; omega)).2 (by omega)]; rfl
 ·rw [if_neg h, hdl, show all.length - (all.length - (totl all - 4)) = totl all - 4 by omega]
  by_cases hs : (crc (all.take (totl all - 4))).toNat = nm ((all.drop (totl all - 4)).take 4)
  ·rw [if_neg (by simp [hs]), vcC_0 (by omega) hs.symm]; rfl
  ·rw [if_pos hs, vcC_3 (by omega) (fun e => hs e.symm)]; rfl
theorem tail_0 {all : List UInt8} {l : List HV} (hw : 16 + head all ≤ totl all) (h : vcC (crc (all.take (all.length - (all.drop (totl all - 4)).length))).toNat (all.drop (totl all - 4)) = 0) : tailR all l = (0, l, (all.drop (12 + head all)).take (totl all - 16 - head all), totl all) ∧ totl all ≤ all.length := by
 have hdl : (all.drop (totl all - 4)).length = all.length - (totl all - 4) := List.length_drop
 unfold vcC at h
 by_cases h4 : (all.drop (totl all - 4)).length < 4
 ·rw [if_pos h4] at h; have := rdc0 h; omega
 ·rw [if_neg h4, hdl, show all.length - (all.length - (totl all - 4)) = totl all - 4 by omega] at h
  by_cases hs : nm ((all.drop (totl all - 4)).take 4) = (crc (all.take (totl all - 4))).toNat
  ·unfold tailR
   rw [if_neg (by omega), if_neg (by simp [hs])]
   exact ⟨rfl, by omega⟩
  ·rw [if_neg hs] at h; cases h
def MsgDR (base : Nat) (kE : TypeId) (pE pU : Addr) (E : Hp) (Rt : List UInt8 → Hp → Prop) (all : List UInt8) (w : Value) (Hs : List Hp) : Prop :=
 ∃ X2 N mv c ob rs', w = .tuple #[mv, erv kE pE pU ob c] ∧ Hs = [X2, N, E] ∧ (∀ b o, (b, o) ∈ N → base ≤ b) ∧ Rt rs' X2 ∧ (0 < all.length → rs'.length < all.length) ∧ (dec all).1 = codeOf all c ∧ (c = 5 → ∃ cs t, (ob, .cells cs t (0, 0)) ∈ N) ∧ (c = 2 → 0 < all.length) ∧ c ≤ 5 ∧
  ∃ hv pv, mv = .agg #[hv, pv] ∧ hv.oneCell' = true ∧ pv.oneCell' = true ∧ (c = 0 → (∃ ps, RdS 2 hv N ps.length (recsV PV.row ps) ∧ PB (dec all).2.1 ps N) ∧ RdS 1 pv N (dec all).2.2.1.length (bytesV (dec all).2.2.1) ∧ rs' = all.drop (dec all).2.2.2 ∧ (dec all).2.2.2 ≤ all.length)
theorem trip_inj {a b c x y z : Value} (h : Value.agg #[a, b, c] = .agg #[x, y, z]) : a = x ∧ b = y ∧ c = z := by simpa using h
abbrev HcR (Rt : List UInt8 → Hp → Prop) (R : TR) (hv : Value) (X2 N : Hp) (c ob : Nat) : Prop := match R with
  | .ok l => c = 0 ∧ (∃ ps, RdS 2 hv N ps.length (recsV PV.row ps) ∧ PB l ps N) ∧ Rt [] X2
  | .opn l => c = 0 ∧ (∃ ps, RdS 2 hv N ps.length (recsV PV.row ps) ∧ PB l ps N) ∧ Rt [] X2
  | .short => (c = 1 ∨ c = 2) ∧ ∃ rs', Rt rs' X2
  | .other => c = 5 ∧ (∃ cs t, (ob, .cells cs t (0, 0)) ∈ N) ∧ ∃ rs', Rt rs' X2
theorem hdrs_good {Rt : List UInt8 → Hp → Prop} {R : TR} {hv : Value} {X2 N : Hp} {c ob : Nat} (h : HcR Rt R hv X2 N c ob) (hc : c = 0) : ∃ l, (R = .ok l ∨ R = .opn l) ∧ (∃ ps, RdS 2 hv N ps.length (recsV PV.row ps) ∧ PB l ps N) ∧ Rt [] X2 := by
 cases R with
 | ok l => exact ⟨l, .inl rfl, h.2⟩
 | opn l => exact ⟨l, .inr rfl, h.2⟩
 | short => have := h.1; omega
 | other => have := h.1; omega
theorem hdrs_bad {Rt : List UInt8 → Hp → Prop} {R : TR} {hv : Value} {X2 N : Hp} {c ob : Nat} (h : HcR Rt R hv X2 N c ob) (hc : c ≠ 0) : (∃ rs', Rt rs' X2) ∧ ((R = .short ∧ (c = 1 ∨ c = 2)) ∨ (R = .other ∧ c = 5 ∧ ∃ cs t, (ob, .cells cs t (0, 0)) ∈ N)) := by
 cases R with
 | ok l => exact absurd h.1 hc
 | opn l => exact absurd h.1 hc
 | short => exact ⟨h.2, .inl ⟨rfl, h.1⟩⟩
 | other => exact ⟨h.2.2, .inr ⟨rfl, h.1, h.2.1⟩⟩
theorem mid3 (L W G F : Hp) : (L ++ ((W ++ G) ++ F)).Perm (G ++ (L ++ (W ++ F))) := by
 have h1 : (L ++ ((W ++ G) ++ F)).Perm (L ++ (G ++ (W ++ F))) := List.Perm.append_left _ (mid2 W G F)
 refine h1.trans ?_
 rw [← List.append_assoc, ← List.append_assoc G L]
 exact (List.perm_append_comm).append_right _
theorem nm4_lt (l : List UInt8) : nm (l.take 4) < 4294967296 := nm_lt' (n := 4) (by rw [List.length_take]; omega)
theorem preC_le4 (all : List UInt8) : preC all ≤ 4 := by
 unfold preC
 have h1 := rdc_small 4 all
 have h2 := rdc_small 4 (all.drop 4)
 have h3 := rdc_small 4 (all.drop 8)
 repeat (first | omega | split)
theorem preC_le (all : List UInt8) : preC all ≤ 5 := by have := preC_le4 all; omega
theorem pre_2 {all : List UInt8} (h : preC all = 2) : 0 < all.length := by
 rcases Nat.eq_zero_or_pos all.length with e | e
 ·rw [len_nil.1 e] at h; cases h
 ·exact e
theorem dec_l {all : List UInt8} {R : TR} {l : List HV} (h : dec all = match R with
  | .short => err 2
  | .other => err 5
  | .ok l => tailR all l
  | .opn l => tailR all l) (hl : R = .ok l ∨ R = .opn l) : dec all = tailR all l := by
 rcases hl with rfl | rfl <;> exact h
theorem decMessage (base : Nat) (E : Hp) (kE : TypeId) (pE pU : Addr) (hS : Sn E kE pE pU) (k : TypeId) (r : Value) (f : FuncId) (Rt : List UInt8 → Hp → Prop) (hR : Rr base k r f E kE pE pU Rt) (all : List UInt8) (X : Hp) (hX : Rt all X) (hrs : all.length ≤ 900000) (hwf : preC all = 0 → 16 + head all ≤ totl all) : FnW Tryz.prog 71 [.iface k r, .slice none 0 0] base [X, E] (MsgDR base kE pE pU E Rt all) := by
 refine FnW.enter (n := 78) Tryz.func71 rfl rfl fun w0 R0 hbase => ?_
 subst hbase
 show WC _ _ _ _ _ _ _ ([X, E, R0])
 refine WC.sub (fr' := [(0, _), (1, _)]) ?_ ⟨rfl, rfl, trivial⟩
 refine WC.seq (WC.region ?_)
 refine WL.alloc ty109 rfl rfl fun m hm => ?_
 refine WL.q (oq_assign rfl) rfl rfl rfl ?_
 refine WL.nil (WE.then_normal (WC.sub (fr' := [(0, _), (1, _), (4, _)]) ?_ ⟨rfl, rfl, rfl, trivial⟩))
 refine WC.seq (WC.region ?_)
 refine WL.q (oq_build #[_] str155 ty155 rfl rfl) rfl rfl rfl ?_
 refine WL.box rfl rfl rfl fun hb hhb => ?_
 refine WL.q (oq_assign rfl) rfl rfl rfl ?_
 refine WL.nil (WE.then_normal (WC.sub (fr' := [(0, _), (1, _), (4, _), (6, _)]) ?_ ⟨rfl, rfl, rfl, rfl, trivial⟩))
 refine WC.seq (WC.region ?_)
 refine WL.q (oq_move rfl) rfl rfl rfl ?_
 refine WL.q (oq_move rfl) rfl rfl rfl ?_
 refine WL.q (oq_makeI conc153 rfl) rfl rfl rfl ?_
 refine WL.callA0 (teeReader k r hb) call79 rfl rfl rfl fun v2_3 N2_3 hR2_3 hN2_3 => ?_
 obtain ⟨tb, rfl, rfl⟩ := hR2_3
 have htb := hN2_3 _ _ (List.mem_singleton.2 rfl)
 refine WL.q (oq_assign rfl) rfl rfl rfl ?_
 refine WL.nil (WE.then_normal (WC.sub (fr' := [(0, _), (1, _), (4, _), (6, _), (7, _)]) ?_ ⟨rfl, rfl, rfl, rfl, rfl, trivial⟩))
 refine WC.seq ?_
 refine WC.f1 ?_
 refine WC.f3 ?_
 refine WC.f2 ?_
 have hT : TeeG tb k r hb Rt all all ((TB tb k r hb ++ X) ++ [(hb, .cells #[U32 (crc [])] 155 (0, 0))]) := ⟨[], X, rfl, rfl, hX⟩
 refine WC.cat (WC.cat ?_)
 refine WC.region ?_
 refine WL.q (oq_move rfl) rfl rfl rfl ?_
 refine WL.q (oq_move rfl) rfl rfl rfl ?_
 refine WL.f2 ?_
 refine WL.f1 ?_
 refine WL.callW2 (decPrelude _ hb E kE pE pU hS _ _ _ _ (teeRr _ tb hb E kE pE pU hS k r f Rt hR all) all (teeSum tb k r hb Rt all) _ hT (by omega)) call80 rfl rfl rfl fun v3_2 Hs3_2 hR3_2 => ?_
 obtain ⟨T2, pv, c, rs1, rfl, rfl, hc, hT2, hlt, ⟨a1, b1, d1, rfl, o1, o2, o3⟩, hok⟩ := hR3_2
 refine WL.to2 ?_
 refine WL.q (oq_move rfl) rfl rfl rfl ?_
 refine WL.q (oq_extract rfl rfl) rfl rfl rfl ?_
 refine WL.q (oq_extract rfl rfl) rfl rfl rfl ?_
 refine WL.alloc ty182 rfl rfl fun pb hpb => ?_
 refine WL.storeS (#[a1, b1, d1]) ty182 rfl rfl rfl (by simp [Value.cells, o1, o2, o3]) (Nat.le_of_ble_eq_true rfl) rfl rfl ?_
 refine WL.q (oq_assign rfl) rfl rfl rfl ?_
 refine WL.nil (WE.then_normal (WC.sub (fr' := [(0, _), (1, _), (4, _), (5, _), (6, _), (7, _), (8, _)]) ?_ ⟨rfl, rfl, rfl, rfl, rfl, rfl, rfl, trivial⟩))
 refine WC.seq (WC.seq (WC.region ?_))
 refine WL.q (oq_move rfl) rfl rfl rfl ?_
 refine WL.q (oq_ineq Tryz.underlying99 rfl (erv_or _ _ _ _ _)) rfl rfl rfl ?_
 refine WL.nil (WE.then_normal (WC.sub (fr' := [(0, _), (1, _), (4, _), (5, _), (6, _), (7, _), (8, _), (28, _)]) ?_ ⟨rfl, rfl, rfl, rfl, rfl, rfl, rfl, rfl, trivial⟩))
 refine WC.cond rfl (fun q4 => ?_) (fun q4 => ?_)
 ·
  try simp only [Z1, Z2, Z3, Z4, Z5, Z6, Z7, Z8, Z9, Z0] at q4
  refine WC.seq ?_
  refine WC.add0 ?_
  refine WC.f2 ?_
  obtain ⟨ac, X3, hac, rfl, hX3⟩ := hT2
  refine WC.reg (reg_out (mid2 _ X3 _)) ?_
  refine WC.region ?_
  refine WL.q (oq_build #[_, _] str109 ty109 rfl rfl) rfl rfl rfl ?_
  refine WL.q (oq_move rfl) rfl rfl rfl ?_
  refine WL.f5 ?_
  refine WL.storeS #[_, _] ty109 rfl rfl rfl rfl (Nat.le_of_ble_eq_true rfl) rfl rfl ?_
  refine WL.q (oq_assign rfl) rfl rfl rfl ?_
  refine WL.nil (WE.then_normal (WC.sub (fr' := [(4, _), (5, _)]) ?_ ⟨rfl, rfl, trivial⟩))
  refine WC.ret (WE.then_ret ?_)
  refine WE.endDW [_, _, _] (.inl rfl) (rs2 Tryz.results71 (rv_cellS [_, _] agg109 ty109 rfl (.head _) (List.mem_singleton.2 rfl) rfl rfl) (rv_tmp rfl)) (dr_lose hm (dr_f1 (dr_forget (fresh_cat (fresh1 htb) (fresh1 hhb)) (dr_f2 (dr_lose hpb dr_refl))))) ?_
  have hcn : preC all ≠ 0 := by rw [← hc]; exact ervN q4
  have hcl : preC all ≤ 5 := preC_le all
  exact ⟨X3, _, _, c, 0, rs1, rfl, rfl, (fun _ _ h => nomatch h), hX3, hlt, by rw [hc]; exact dec_pre hcn, (fun h => absurd h (by have := preC_le4 all; omega)), (fun h => pre_2 (hc ▸ h)), by omega, _, _, rfl, rfl, rfl, fun h => absurd h (ervN q4)⟩
 ·
  try simp only [Z1, Z2, Z3, Z4, Z5, Z6, Z7, Z8, Z9, Z0] at q4
  refine WC.skip (WE.then_normal (WC.sub (fr' := [(0, _), (1, _), (4, _), (6, _), (7, _), (8, _)]) ?_ ⟨rfl, rfl, rfl, rfl, rfl, rfl, trivial⟩))
  refine WC.cut (ι := Hp × Hp × Value × Value × (List HV)) (fun i_ => (fun (T : Hp) (N : Hp) (hv : Value) (d2 : Value) (l : List HV) => [(0, .iface k r), (1, .slice none 0 0), (4, Pt m 0), (6, Pt hb 0), (7, .iface 209 (Pt tb 0)), (8, Pt pb 0)]) i_.1 i_.2.1 i_.2.2.1 i_.2.2.2.1 i_.2.2.2.2) (fun i_ => (fun (T : Hp) (N : Hp) (hv : Value) (d2 : Value) (l : List HV) => [T, N, [(m, .cells #[hv, .slice none 0 0] 109 (0, 0))], [(pb, .cells #[.int .u32 (totl all : Nat), .int .u32 (head all : Nat), d2] 182 (0, 0))], E, R0]) i_.1 i_.2.1 i_.2.2.1 i_.2.2.2.1 i_.2.2.2.2) (fun i_ => (fun (T : Hp) (N : Hp) (hv : Value) (d2 : Value) (l : List HV) => preC all = 0 ∧ (tk ((all.drop 12).take (head all)) [] = .ok l ∨ tk ((all.drop 12).take (head all)) [] = .opn l) ∧ (∃ ps, RdS 2 hv N ps.length (recsV PV.row ps) ∧ PB l ps N) ∧ (∀ b o, (b, o) ∈ N → w0.heap.size ≤ b) ∧ (∃ D T2, T = D ++ T2 ∧ (∀ b o, (b, o) ∈ D → w0.heap.size ≤ b) ∧ TeeG tb k r hb Rt all (all.drop (12 + head all)) T2)) i_.1 i_.2.1 i_.2.2.1 i_.2.2.2.1 i_.2.2.2.2) ?_ ?_
  ·
   refine WC.seq ?_
   have hc0 := erv0 q4
   obtain ⟨rfl, d2, hpv⟩ := hok hc0
   obtain ⟨rfl, rfl, rfl⟩ := trip_inj hpv
   have hp0 : preC all = 0 := by rw [← hc]; exact hc0
   have hw := hwf hp0
   obtain ⟨h12, hdec⟩ := pre_0 hp0
   have hh32 : head all < 4294967296 := nm4_lt _
   have ht32 : totl all < 4294967296 := nm4_lt _
   refine WC.add0 ?_
   refine WC.region ?_
   refine WL.q (oq_fieldAddr fld182_1 rfl) rfl rfl rfl ?_
   refine WL.q (oq_load flat74 rfl (.tail _ (.head _)) (List.mem_singleton.2 rfl) rfl) rfl rfl rfl ?_
   refine WL.q (oq_gtr rfl rfl) rfl rfl rfl ?_
   refine WL.nil (WE.then_normal (WC.sub (fr' := [(0, _), (1, _), (4, _), (6, _), (7, _), (8, _), (33, _)]) ?_ ⟨rfl, rfl, rfl, rfl, rfl, rfl, rfl, trivial⟩))
   refine WC.cond rfl (fun q6 => ?_) (fun q6 => ?_)
   ·
    try simp only [Z1, Z2, Z3, Z4, Z5, Z6, Z7, Z8, Z9, Z0] at q6
    refine WC.seq (WC.region ?_)
    refine WL.q (oq_move rfl) rfl rfl rfl ?_
    refine WL.q (oq_fieldAddr fld182_1 rfl) rfl rfl rfl ?_
    refine WL.q (oq_load flat74 rfl (.tail _ (.head _)) (List.mem_singleton.2 rfl) rfl) rfl rfl rfl ?_
    refine WL.q (oq_conv Tryz.underlying74 Tryz.underlying2 rfl (by rw [i64_lo, i64_hi]; (first | omega | (simp only [List.length_cons, List.length_nil, List.length_append, List.length_drop, List.length_take]; omega)))) rfl rfl rfl ?_
    refine WL.callA0 (limitReader 209 (Pt tb 0) (head all : Int)) call81 rfl rfl rfl fun v7_4 N7_4 hR7_4 hN7_4 => ?_
    obtain ⟨lb, rfl, rfl⟩ := hR7_4
    have hlb := hN7_4 _ _ (List.mem_singleton.2 rfl)
    refine WL.q (oq_assign rfl) rfl rfl rfl ?_
    refine WL.nil (WE.then_normal (WC.sub (fr' := [(0, _), (1, _), (4, _), (6, _), (7, _), (8, _), (9, _)]) ?_ ⟨rfl, rfl, rfl, rfl, rfl, rfl, rfl, trivial⟩))
    refine WC.seq ?_
    refine WC.f3 ?_
    refine WC.f1 ?_
    have hL := LimG.start (lb := lb) (k := 209) (r := Pt tb 0) (N := head all) hT2
    refine WC.cat ?_
    refine WC.region ?_
    refine WL.q (oq_move rfl) rfl rfl rfl ?_
    refine WL.f3 ?_
    refine WL.f1 ?_
    refine WL.callW2 (decHeaders _ E kE pE pU hS _ _ _ _ (limRr _ lb E kE pE pU hS _ _ _ _ (teeRr _ tb hb E kE pE pU hS k r f Rt hR all) (all.drop 12) (head all) (by omega) (by rw [List.length_drop]; omega)) _ _ hL (by rw [List.length_take, List.length_drop]; omega) (noBR _ (.inl rfl))) call82 rfl rfl rfl fun v8_1 Hs8_1 hR8_1 => ?_
    obtain ⟨L2, N1, hv, c2, ob, rfl, rfl, hv1, hN1, hcs⟩ := hR8_1
    have hcs : HcR _ _ _ _ _ _ _ := hcs
    refine WL.to3 ?_
    refine WL.q (oq_move rfl) rfl rfl rfl ?_
    refine WL.q (oq_extract rfl rfl) rfl rfl rfl ?_
    refine WL.q (oq_extract rfl rfl) rfl rfl rfl ?_
    refine WL.q (oq_fieldAddr fld109_0 rfl) rfl rfl rfl ?_
    refine WL.f5 ?_
    refine WL.store1 #[_, _] ty62 rfl rfl (by exact hv1) (Nat.lt_of_lt_of_le (Nat.lt_succ_self _) (Nat.le_of_ble_eq_true rfl)) rfl rfl ?_
    refine WL.q (oq_assign rfl) rfl rfl rfl ?_
    refine WL.nil (WE.then_normal (WC.sub (fr' := [(0, _), (1, _), (4, _), (5, _), (6, _), (7, _), (8, _)]) ?_ ⟨rfl, rfl, rfl, rfl, rfl, rfl, rfl, trivial⟩))
    refine WC.seq ?_
    refine WC.f4 ?_
    refine WC.f3 ?_
    refine WC.cat ?_
    refine WC.region ?_
    refine WL.q (oq_move rfl) rfl rfl rfl ?_
    refine WL.q (oq_ineq Tryz.underlying99 rfl (erv_or _ _ _ _ _)) rfl rfl rfl ?_
    refine WL.nil (WE.then_normal (WC.sub (fr' := [(0, _), (1, _), (4, _), (5, _), (6, _), (7, _), (8, _), (46, _)]) ?_ ⟨rfl, rfl, rfl, rfl, rfl, rfl, rfl, rfl, trivial⟩))
    refine WC.cond rfl (fun q9 => ?_) (fun q9 => ?_)
    ·
     try simp only [Z1, Z2, Z3, Z4, Z5, Z6, Z7, Z8, Z9, Z0] at q9
     refine WC.seq ?_
     refine WC.f2 ?_
     obtain ⟨⟨rz, hL2⟩, hbad⟩ := hdrs_bad hcs (ervN q9)
     obtain ⟨i9, j9, T3, rfl, hT3⟩ := hL2.out
     obtain ⟨ac, X3, hac, rfl, hX3⟩ := hT3
     refine WC.reg (reg_out (mid3 _ _ X3 _)) ?_
     refine WC.region ?_
     refine WL.q (oq_build #[_, _] str109 ty109 rfl rfl) rfl rfl rfl ?_
     refine WL.q (oq_move rfl) rfl rfl rfl ?_
     refine WL.f3 ?_
     refine WL.storeS #[_, _] ty109 rfl rfl rfl rfl (Nat.le_of_ble_eq_true rfl) rfl rfl ?_
     refine WL.q (oq_assign rfl) rfl rfl rfl ?_
     refine WL.nil (WE.then_normal (WC.sub (fr' := [(4, _), (5, _)]) ?_ ⟨rfl, rfl, trivial⟩))
     refine WC.ret (WE.then_ret ?_)
     refine WE.endDW [_, _, _] (.inl rfl) (rs2 Tryz.results71 (rv_cellS [_, _] agg109 ty109 rfl (.head _) (List.mem_singleton.2 rfl) rfl rfl) (rv_tmp rfl)) (dr_lose hm (dr_f1 (dr_forget (fresh_cat (fresh1 hlb) (fresh_cat (fresh1 htb) (fresh1 hhb))) (dr_f3 (dr_lose hpb dr_refl))))) ?_
     have hcn : c2 ≠ 0 := ervN q9
     have hlt3 : ((all.drop 12).drop j9).length < all.length := by rw [List.length_drop, List.length_drop]; omega
     rcases hbad with ⟨hR1, hc12⟩ | ⟨hR1, hc5, cs, t, hob⟩
     ·refine ⟨X3, _, _, c2, ob, _, rfl, rfl, fresh_cat hN1 (fun _ _ h => nomatch h), hX3, fun _ => hlt3, by rw [hdec, hR1, codeOf_s hc12 (by omega)]; rfl, (fun h => (by omega)), (fun _ => (by omega)), by omega, _, _, rfl, rfl, rfl, fun h => absurd h hcn⟩
     ·refine ⟨X3, _, _, c2, ob, _, rfl, rfl, fresh_cat hN1 (fun _ _ h => nomatch h), hX3, fun _ => hlt3, by rw [hdec, hR1, codeOf_o (by omega) (by omega), hc5]; rfl, (fun _ => ⟨cs, t, List.mem_append_left _ hob⟩), (fun h => (by omega)), by omega, _, _, rfl, rfl, rfl, fun h => absurd h hcn⟩
    ·
     try simp only [Z1, Z2, Z3, Z4, Z5, Z6, Z7, Z8, Z9, Z0] at q9
     refine WC.skip ?_
     obtain ⟨l, hl, ⟨ps, hps, hpb2⟩, hdn⟩ := hdrs_good hcs (erv0 q9)
     obtain ⟨i9, T3, rfl, hT3⟩ := hdn.done
     rw [List.drop_drop] at hT3
     refine WE.f5 ?_
     refine WE.f4 ?_
     refine WE.f5 ?_
     refine WE.f4 ?_
     refine WE.f4 ?_
     refine WE.f5 ?_
     refine WE.meet (_, _, _, _, l) ?_ ⟨rfl, rfl, rfl, rfl, rfl, rfl, trivial⟩ (List.Perm.refl _)
     try dsimp only
     exact ⟨hp0, hl, ⟨ps, hps.weaken (fun x hx => List.mem_append_left _ hx), hpb2.weaken (fun x hx => List.mem_append_left _ hx)⟩, fresh_cat hN1 (fun _ _ h => nomatch h), _, T3, rfl, fresh1 hlb, hT3⟩
   ·
    try simp only [Z1, Z2, Z3, Z4, Z5, Z6, Z7, Z8, Z9, Z0] at q6
    refine WC.skip ?_
    have hz : head all = 0 := by omega
    refine WE.f5 ?_
    refine WE.f4 ?_
    refine WE.f3 ?_
    refine WE.f5 ?_
    refine WE.f4 ?_
    refine WE.f5 ?_
    refine WE.meet (_, _, _, _, []) ?_ ⟨rfl, rfl, rfl, rfl, rfl, rfl, trivial⟩ (List.Perm.refl _)
    try dsimp only
    exact ⟨hp0, .inl (by rw [hz]; rfl), ⟨[], ⟨rfl, .inl ⟨rfl, _, _, rfl⟩⟩, trivial⟩, (fun _ _ h => nomatch h), [], _, rfl, (fun _ _ h => nomatch h), by rw [hz]; exact hT2⟩
  ·rintro ⟨T, N, hv, d2, l⟩ hp
   try dsimp only at hp
   obtain ⟨hp0, hl, hps, hN, hTT⟩ := hp
   show WC _ _ _ _ _ _ ([(0, .iface k r), (1, .slice none 0 0), (4, Pt m 0), (6, Pt hb 0), (7, .iface 209 (Pt tb 0)), (8, Pt pb 0)]) ([T, N, [(m, .cells #[hv, .slice none 0 0] 109 (0, 0))], [(pb, .cells #[.int .u32 (totl all : Nat), .int .u32 (head all : Nat), d2] 182 (0, 0))], E, R0])
   have hw := hwf hp0
   obtain ⟨h12, hdec⟩ := pre_0 hp0
   have hh32 : head all < 4294967296 := nm4_lt _
   have ht32 : totl all < 4294967296 := nm4_lt _
   refine WC.cut (ι := Hp × Hp × Value) (fun i_ => (fun (T : Hp) (N : Hp) (pv : Value) => [(0, .iface k r), (4, Pt m 0), (6, Pt hb 0)]) i_.1 i_.2.1 i_.2.2) (fun i_ => (fun (T : Hp) (N : Hp) (pv : Value) => [T, N, [(m, .cells #[hv, pv] 109 (0, 0))], E, R0]) i_.1 i_.2.1 i_.2.2) (fun i_ => (fun (T : Hp) (N : Hp) (pv : Value) => (∃ ps, RdS 2 hv N ps.length (recsV PV.row ps) ∧ PB l ps N) ∧ RdS 1 pv N ((all.drop (12 + head all)).take (totl all - 16 - head all)).length (bytesV ((all.drop (12 + head all)).take (totl all - 16 - head all))) ∧ (∀ b o, (b, o) ∈ N → w0.heap.size ≤ b) ∧ (∃ D T2, T = D ++ T2 ∧ (∀ b o, (b, o) ∈ D → w0.heap.size ≤ b) ∧ TeeG tb k r hb Rt all (all.drop (totl all - 4)) T2)) i_.1 i_.2.1 i_.2.2) ?_ ?_
   ·
    refine WC.seq ?_
    obtain ⟨D, T2, rfl, hD, hT2⟩ := hTT
    refine WC.reg (reg_out List.perm_append_comm) ?_
    refine WC.region ?_
    refine WL.q (oq_loadS [_, _, _] agg182 ty182 rfl (.tail _ (.tail _ (.tail _ (.tail _ (.head _))))) (List.mem_singleton.2 rfl) rfl rfl) rfl rfl rfl ?_
    refine WL.qc (oq_call (payloadLen (totl all) (head all) _ hw ht32) call83 rfl) rfl rfl rfl ?_
    refine WL.q (oq_assign rfl) rfl rfl rfl ?_
    refine WL.nil (WE.then_normal (WC.sub (fr' := [(0, _), (1, _), (4, _), (6, _), (7, _), (10, _)]) ?_ ⟨rfl, rfl, rfl, rfl, rfl, rfl, trivial⟩))
    refine WC.seq (WC.region ?_)
    refine WL.q (oq_move rfl) rfl rfl rfl ?_
    refine WL.q (oq_gtr rfl rfl) rfl rfl rfl ?_
    refine WL.nil (WE.then_normal (WC.sub (fr' := [(0, _), (1, _), (4, _), (6, _), (7, _), (10, _), (52, _)]) ?_ ⟨rfl, rfl, rfl, rfl, rfl, rfl, rfl, trivial⟩))
    refine WC.cond rfl (fun q12 => ?_) (fun q12 => ?_)
    ·
     try simp only [Z1, Z2, Z3, Z4, Z5, Z6, Z7, Z8, Z9, Z0] at q12
     refine WC.seq (WC.region ?_)
     refine WL.q (oq_move rfl) rfl rfl rfl ?_
     refine WL.q (oq_move rfl) rfl rfl rfl ?_
     refine WL.q (oq_move rfl) rfl rfl rfl ?_
     refine WL.q (oq_conv Tryz.underlying74 Tryz.underlying2 rfl (by rw [i64_lo, i64_hi]; (first | omega | (simp only [List.length_cons, List.length_nil, List.length_append, List.length_drop, List.length_take]; omega)))) rfl rfl rfl ?_
     refine WL.callA0 (limitReader 209 (Pt tb 0) ((totl all - 16 - head all : Nat) : Int)) call81 rfl rfl rfl fun v13_4 N13_4 hR13_4 hN13_4 => ?_
     obtain ⟨lb, rfl, rfl⟩ := hR13_4
     have hlb := hN13_4 _ _ (List.mem_singleton.2 rfl)
     refine WL.f6 ?_
     refine WL.f2 ?_
     refine WL.f2 ?_
     have hL2 := LimG.start (lb := lb) (k := 209) (r := Pt tb 0) (N := totl all - 16 - head all) hT2
     refine WL.cat ?_
     refine WL.callW2 (decPayload _ E kE pE pU hS _ _ _ _ (limRr _ lb E kE pE pU hS _ _ _ _ (teeRr _ tb hb E kE pE pU hS k r f Rt hR all) (all.drop (12 + head all)) (totl all - 16 - head all) (by omega) (by rw [List.length_drop]; omega)) _ _ hL2 (by rw [List.length_take, List.length_drop]; omega) noWT) call84 rfl rfl rfl fun v13_5 Hs13_5 hR13_5 => ?_
     obtain ⟨L3, N2, pv, rfl, rfl, hN2, hpv, hL3⟩ := hR13_5
     refine WL.to3 ?_
     refine WL.q (oq_move rfl) rfl rfl rfl ?_
     refine WL.q (oq_extract rfl rfl) rfl rfl rfl ?_
     refine WL.q (oq_extract rfl rfl) rfl rfl rfl ?_
     refine WL.q (oq_assign rfl) rfl rfl rfl ?_
     refine WL.q (oq_assign rfl) rfl rfl rfl ?_
     refine WL.nil (WE.then_normal (WC.sub (fr' := [(0, _), (4, _), (6, _), (11, _), (12, _)]) ?_ ⟨rfl, rfl, rfl, rfl, rfl, trivial⟩))
     refine WC.seq (WC.seq (WC.region ?_))
     refine WL.q (oq_move rfl) rfl rfl rfl ?_
     refine WL.q (oq_ineq Tryz.underlying99 rfl (.inl rfl)) rfl rfl rfl ?_
     refine WL.nil (WE.then_normal (WC.sub (fr' := [(0, _), (4, _), (6, _), (11, _), (12, _), (63, _)]) ?_ ⟨rfl, rfl, rfl, rfl, rfl, rfl, trivial⟩))
     refine WC.cond rfl (fun q14 => ?_) (fun q14 => ?_)
     ·
      try simp only [Z1, Z2, Z3, Z4, Z5, Z6, Z7, Z8, Z9, Z0] at q14
      first | contradiction | (exfalso; omega) | (exfalso; simp_all; done)
     ·
      try simp only [Z1, Z2, Z3, Z4, Z5, Z6, Z7, Z8, Z9, Z0] at q14
      refine WC.skip (WE.then_normal (WC.sub (fr' := [(0, _), (4, _), (6, _), (11, _)]) ?_ ⟨rfl, rfl, rfl, rfl, trivial⟩))
      refine WC.f4 ?_
      refine WC.f2 ?_
      refine WC.cat ?_
      refine WC.region ?_
      refine WL.q (oq_move rfl) rfl rfl rfl ?_
      refine WL.q (oq_fieldAddr fld109_1 rfl) rfl rfl rfl ?_
      refine WL.f4 ?_
      refine WL.store1 #[_, _] ty28 rfl rfl (by exact rd_one hpv) (Nat.lt_of_lt_of_le (Nat.lt_succ_self _) (Nat.le_of_ble_eq_true rfl)) rfl rfl ?_
      refine WL.nil ?_
      obtain ⟨i9, T4, rfl, hT4⟩ := hL3.done
      rw [List.drop_drop, show 12 + head all + (totl all - 16 - head all) = totl all - 4 by omega] at hT4
      obtain ⟨ps, hps1, hps2⟩ := hps
      refine WE.f4 ?_
      refine WE.forget hD ?_
      refine WE.f4 ?_
      refine WE.lose hpb ?_
      refine WE.f4 ?_
      refine WE.f4 ?_
      refine WE.f2 ?_
      refine WE.f3 ?_
      refine WE.f4 ?_
      refine WE.meet (_, _, _) ?_ ⟨rfl, rfl, rfl, trivial⟩ (List.Perm.refl _)
      try dsimp only
      exact ⟨⟨ps, hps1.weaken (fun x hx => List.mem_append_right _ hx), hps2.weaken (fun x hx => List.mem_append_right _ hx)⟩, hpv.weaken (fun x hx => List.mem_append_left _ hx), fresh_cat hN2 hN, _, T4, rfl, fresh1 hlb, hT4⟩
    ·
     try simp only [Z1, Z2, Z3, Z4, Z5, Z6, Z7, Z8, Z9, Z0] at q12
     refine WC.skip ?_
     have hz : totl all - 16 - head all = 0 := by omega
     rw [show 12 + head all = totl all - 4 by omega] at hT2
     refine WE.f1 ?_
     refine WE.forget hD ?_
     refine WE.f3 ?_
     refine WE.lose hpb ?_
     refine WE.meet (_, _, _) ?_ ⟨rfl, rfl, rfl, trivial⟩ (List.Perm.refl _)
     try dsimp only
     exact ⟨hps, by rw [hz]; exact ⟨rfl, .inl ⟨rfl, _, _, rfl⟩⟩, hN, [], _, rfl, (fun _ _ h => nomatch h), hT2⟩
   ·rintro ⟨T, N, pv⟩ hp
    try dsimp only at hp
    obtain ⟨hps, hpv, hN, hTT2⟩ := hp
    show WC _ _ _ _ _ _ ([(0, .iface k r), (4, Pt m 0), (6, Pt hb 0)]) ([T, N, [(m, .cells #[hv, pv] 109 (0, 0))], E, R0])
    refine WC.seq ?_
    obtain ⟨D3, T3, rfl, hD3, hT3⟩ := hTT2
    refine WC.reg (reg_out List.perm_append_comm) ?_
    refine WC.region ?_
    refine WL.q (oq_move rfl) rfl rfl rfl ?_
    refine WL.qc (oq_callRm (teeSum tb k r hb Rt all _ _ hT3) (.head _) call69 rfl) rfl rfl rfl ?_
    refine WL.q (oq_assign rfl) rfl rfl rfl ?_
    refine WL.nil (WE.then_normal (WC.sub (fr' := [(0, _), (4, _), (13, _)]) ?_ ⟨rfl, rfl, rfl, trivial⟩))
    refine WC.seq (WC.seq ?_)
    obtain ⟨ac, X3, hac, rfl, hX3⟩ := hT3
    refine WC.reg (reg_out (mid2 _ X3 _)) ?_
    refine WC.region ?_
    refine WL.q (oq_move rfl) rfl rfl rfl ?_
    refine WL.q (oq_move rfl) rfl rfl rfl ?_
    refine WL.f5 ?_
    refine WL.f1 ?_
    refine WL.callW2 (validCRC _ E kE pE pU hS k r f Rt hR (all.drop (totl all - 4)) X3 hX3 (by rw [List.length_drop]; omega) (crc (all.take (all.length - (all.drop (totl all - 4)).length))).toNat) call85 rfl rfl rfl fun v18_2 Hs18_2 hR18_2 => ?_
    obtain ⟨X4, rfl, rfl, hX4⟩ := hR18_2
    rw [List.drop_drop] at hX4
    refine WL.to2 ?_
    refine WL.q (oq_assign rfl) rfl rfl rfl ?_
    refine WL.nil (WE.then_normal (WC.sub (fr' := [(4, _), (14, _)]) ?_ ⟨rfl, rfl, trivial⟩))
    refine WC.seq (WC.region ?_)
    refine WL.q (oq_move rfl) rfl rfl rfl ?_
    refine WL.q (oq_ineq Tryz.underlying99 rfl (erv_or _ _ _ _ _)) rfl rfl rfl ?_
    refine WL.nil (WE.then_normal (WC.sub (fr' := [(4, _), (14, _), (74, _)]) ?_ ⟨rfl, rfl, rfl, trivial⟩))
    refine WC.cond rfl (fun q19 => ?_) (fun q19 => ?_)
    ·
     try simp only [Z1, Z2, Z3, Z4, Z5, Z6, Z7, Z8, Z9, Z0] at q19
     refine WC.seq (WC.region ?_)
     refine WL.q (oq_build #[_, _] str109 ty109 rfl rfl) rfl rfl rfl ?_
     refine WL.q (oq_move rfl) rfl rfl rfl ?_
     refine WL.f5 ?_
     refine WL.storeS #[_, _] ty109 rfl rfl rfl rfl (Nat.le_of_ble_eq_true rfl) rfl rfl ?_
     refine WL.q (oq_assign rfl) rfl rfl rfl ?_
     refine WL.nil (WE.then_normal (WC.sub (fr' := [(4, _), (5, _)]) ?_ ⟨rfl, rfl, trivial⟩))
     refine WC.ret (WE.then_ret ?_)
     refine WE.endDW [_, _, _] (.inl rfl) (rs2 Tryz.results71 (rv_cellS [_, _] agg109 ty109 rfl (.head _) (List.mem_singleton.2 rfl) rfl rfl) (rv_tmp rfl)) (dr_lose hm (dr_f2 (dr_forget (fresh_cat (fresh1 htb) (fresh1 hhb)) (dr_f2 (dr_forget hD3 (dr_f3 (dr_f2 (dr_f3 (dr_f3 dr_refl))))))))) ?_
     have hcn := ervN q19
     have hd2 := dec_l hdec hl
     have hv3 := vcC_le (crc (all.take (all.length - (all.drop (totl all - 4)).length))).toNat (all.drop (totl all - 4))
     refine ⟨X4, _, _, _, 0, _, rfl, rfl, hN, hX4, fun _ => by rw [List.length_drop]; omega, by rw [hd2]; exact tail_c h12 hw, (fun h => (by omega)), (fun _ => (by omega)), by omega, _, _, rfl, rfl, rfl, fun h => absurd h hcn⟩
    ·
     try simp only [Z1, Z2, Z3, Z4, Z5, Z6, Z7, Z8, Z9, Z0] at q19
     refine WC.skip (WE.then_normal (WC.sub (fr' := [(4, _)]) ?_ ⟨rfl, trivial⟩))
     refine WC.seq ?_
     obtain ⟨ps, hps1, hps2⟩ := hps
     have o1h := rd_one hps1
     have o2h := rd_one hpv
     refine WC.region ?_
     refine WL.q (oq_loadS [_, _] agg109 ty109 rfl (.tail _ (.tail _ (.tail _ (.tail _ (.tail _ (.head _)))))) (List.mem_singleton.2 rfl) rfl rfl) rfl rfl rfl ?_
     refine WL.f5 ?_
     refine WL.storeS (#[hv, pv]) ty109 rfl rfl rfl (by simp [Value.cells, o1h, o2h]) (Nat.le_of_ble_eq_true rfl) rfl rfl ?_
     refine WL.q (oq_assign rfl) rfl rfl rfl ?_
     refine WL.nil (WE.then_normal (WC.sub (fr' := [(4, _), (5, _)]) ?_ ⟨rfl, rfl, trivial⟩))
     refine WC.ret ?_
     refine WE.endDW [_, _, _] (.inl rfl) (rs2 Tryz.results71 (rv_cellS [_, _] agg109 ty109 rfl (.head _) (List.mem_singleton.2 rfl) rfl rfl) (rv_tmp rfl)) (dr_lose hm (dr_f2 (dr_forget (fresh_cat (fresh1 htb) (fresh1 hhb)) (dr_f2 (dr_forget hD3 (dr_f3 (dr_f2 (dr_f3 (dr_f3 dr_refl))))))))) ?_
     have hc0 := erv0 q19
     have hd2 := dec_l hdec hl
     obtain ⟨ht0, htl⟩ := tail_0 (l := l) hw hc0
     have hd3 : dec all = (0, l, ((all.drop (12 + head all)).take (totl all - 16 - head all)), totl all) := by rw [hd2, ht0]
     refine ⟨X4, _, _, 0, 0, _, rfl, rfl, hN, hX4, fun _ => by rw [List.length_drop]; omega, by rw [hd3]; rfl, (fun h => (by omega)), (fun h => (by omega)), by omega, _, _, rfl, rd_one hps1, rd_one hpv, fun _ => ?_⟩
     rw [hd3]
     exact ⟨⟨ps, hps1, hps2⟩, hpv, by rw [show totl all - 4 + 4 = totl all by omega], htl⟩
theorem decodeM (base : Nat) (E : Hp) (kE : TypeId) (pE pU : Addr) (hS : Sn E kE pE pU) (k : TypeId) (r : Value) (f : FuncId) (Rt : List UInt8 → Hp → Prop) (hR : Rr base k r f E kE pE pU Rt) (all : List UInt8) (X : Hp) (hX : Rt all X) (hrs : all.length ≤ 900000) (hwf : preC all = 0 → 16 + head all ≤ totl all) (d : Value) : FnW Tryz.prog 52 [d, .iface k r, .slice none 0 0] base [X, E] (MsgDR base kE pE pU E Rt all) := by
 refine FnW.enter (n := 16) Tryz.func52 rfl rfl fun w0 R0 hbase => ?_
 subst hbase
 show WC _ _ _ _ _ _ _ ([X, E, R0])
 refine WC.sub (fr' := [(1, _), (2, _)]) ?_ ⟨rfl, rfl, trivial⟩
 refine WC.seq (WC.region ?_)
 refine WL.alloc ty109 rfl rfl fun m hm => ?_
 refine WL.q (oq_assign rfl) rfl rfl rfl ?_
 refine WL.nil (WE.then_normal (WC.sub (fr' := [(1, _), (2, _), (6, _)]) ?_ ⟨rfl, rfl, rfl, trivial⟩))
 refine WC.seq (WC.region ?_)
 refine WL.q (oq_move rfl) rfl rfl rfl ?_
 refine WL.q (oq_move rfl) rfl rfl rfl ?_
 refine WL.f2 ?_
 refine WL.f2 ?_
 refine WL.callW2 (decMessage _ E kE pE pU hS k r f Rt hR all X hX hrs hwf) call71 rfl rfl rfl fun v1_2 Hs1_2 hR1_2 => ?_
 obtain ⟨X2, N, mv, c, ob, rz, rfl, rfl, hN, hX2, hlt, hdc, h5, h2a, hc5, hv, pv, rfl, o1, o2, hok⟩ := hR1_2
 refine WL.to3 ?_
 refine WL.q (oq_move rfl) rfl rfl rfl ?_
 refine WL.q (oq_extract rfl rfl) rfl rfl rfl ?_
 refine WL.q (oq_extract rfl rfl) rfl rfl rfl ?_
 refine WL.f3 ?_
 refine WL.storeS (#[hv, pv]) ty109 rfl rfl rfl (by simp [Value.cells, o1, o2]) (Nat.le_of_ble_eq_true rfl) rfl rfl ?_
 refine WL.q (oq_assign rfl) rfl rfl rfl ?_
 refine WL.nil (WE.then_normal (WC.sub (fr' := [(6, _), (7, _)]) ?_ ⟨rfl, rfl, trivial⟩))
 refine WC.seq (WC.region ?_)
 refine WL.q (oq_loadS [_, _] agg109 ty109 rfl (.head _) (List.mem_singleton.2 rfl) rfl rfl) rfl rfl rfl ?_
 refine WL.q (oq_move rfl) rfl rfl rfl ?_
 refine WL.storeS (#[hv, pv]) ty109 rfl rfl rfl (by simp [Value.cells, o1, o2]) (Nat.le_of_ble_eq_true rfl) rfl rfl ?_
 refine WL.q (oq_assign rfl) rfl rfl rfl ?_
 refine WL.nil (WE.then_normal (WC.sub (fr' := [(6, _), (7, _)]) ?_ ⟨rfl, rfl, trivial⟩))
 refine WC.ret ?_
 refine WE.endDW [_, _, _] (.inl rfl) (rs2 Tryz.results52 (rv_cellS [_, _] agg109 ty109 rfl (.head _) (List.mem_singleton.2 rfl) rfl rfl) (rv_tmp rfl)) (dr_lose hm dr_refl) ?_
 exact ⟨X2, N, _, c, ob, rz, rfl, rfl, hN, hX2, hlt, hdc, h5, h2a, hc5, hv, pv, rfl, o1, o2, hok⟩
end DK
end Go.Proofs.YtodlhaghdplclaaGreatDoor
/- Values back, headers back. -/
namespace Go.Proofs.YtodlhaghdplclaaGreatDoor
open Go Go.RowKit V EA EB EC ED EL DC DD DA DE EE EH EI EJ DF DG DH DI EM DJ DK
set_option linter.unusedSimpArgs false
set_option linter.unusedVariables false
set_option maxRecDepth 10000
namespace DL
theorem call33 : Callable Tryz.prog 33 := ⟨_, Tryz.func33, rfl, by kernel_rfl⟩
theorem call56 : Callable Tryz.prog 56 := ⟨_, Tryz.func56, rfl, by kernel_rfl⟩
theorem call57 : Callable Tryz.prog 57 := ⟨_, Tryz.func57, rfl, by kernel_rfl⟩
theorem call72 : Callable Tryz.prog 72 := ⟨_, Tryz.func72, rfl, by kernel_rfl⟩
theorem call73 : Callable Tryz.prog 73 := ⟨_, Tryz.func73, rfl, by kernel_rfl⟩
theorem call86 : Callable Tryz.prog 86 := ⟨_, Tryz.func86, rfl, by kernel_rfl⟩
theorem flat9 : Flat Tryz.prog 9 := ⟨_, Tryz.underlying9, by simp⟩
theorem flat60 : Flat Tryz.prog 60 := ⟨_, Tryz.underlying60, by simp⟩
theorem ty5 : Ty Tryz.prog 5 (.int .u8 0) 1 1 := ty_of (by kernel_rfl)
theorem ty9 : Ty Tryz.prog 9 (S []) 1 16 := ty_of (by kernel_rfl)
theorem ty24 : Ty Tryz.prog 24 (.agg #[(.int .i64 0), (.int .i64 0), (.int .i64 0), (S [])]) 4 40 := ty_of (by kernel_rfl)
theorem ty32 : Ty Tryz.prog 32 (.agg #[(S []), (.int .i64 0), (.int .i64 0), (.int .i64 0), (S [])]) 5 56 := ty_of (by kernel_rfl)
theorem ty60 : Ty Tryz.prog 60 .nilIface 1 16 := ty_of (by kernel_rfl)
theorem ty89 : Ty Tryz.prog 89 (.agg #[(.int .i64 0), (.int .i32 0), (S []), (.int .i64 0)]) 4 40 := ty_of (by kernel_rfl)
theorem ty125 : Ty Tryz.prog 125 (.agg #[(S []), .nilIface]) 2 32 := ty_of (by kernel_rfl)
theorem ty126 : Ty Tryz.prog 126 (.bool false) 1 1 := ty_of (by kernel_rfl)
theorem ty127 : Ty Tryz.prog 127 (.int .i8 0) 1 1 := ty_of (by kernel_rfl)
theorem ty129 : Ty Tryz.prog 129 (.int .i16 0) 1 2 := ty_of (by kernel_rfl)
theorem ty130 : Ty Tryz.prog 130 (.int .i32 0) 1 4 := ty_of (by kernel_rfl)
theorem ty131 : Ty Tryz.prog 131 (.int .i64 0) 1 8 := ty_of (by kernel_rfl)
theorem ty132 : Ty Tryz.prog 132 (.slice none 0 0) 1 24 := ty_of (by kernel_rfl)
theorem ty133 : Ty Tryz.prog 133 (S []) 1 16 := ty_of (by kernel_rfl)
theorem ty134 : Ty Tryz.prog 134 (.agg #[(.int .i64 0), (.int .i32 0), (S []), (.int .i64 0)]) 4 40 := ty_of (by kernel_rfl)
theorem ty137 : Ty Tryz.prog 137 (.agg #[(.int .u8 0), (.int .u8 0), (.int .u8 0), (.int .u8 0), (.int .u8 0), (.int .u8 0), (.int .u8 0), (.int .u8 0), (.int .u8 0), (.int .u8 0), (.int .u8 0), (.int .u8 0), (.int .u8 0), (.int .u8 0), (.int .u8 0), (.int .u8 0)]) 16 16 := ty_of (by kernel_rfl)
theorem conc126 : Conc Tryz.prog 126 := ⟨_, Tryz.underlying126, by simp⟩
theorem conc127 : Conc Tryz.prog 127 := ⟨_, Tryz.underlying127, by simp⟩
theorem conc129 : Conc Tryz.prog 129 := ⟨_, Tryz.underlying129, by simp⟩
theorem conc130 : Conc Tryz.prog 130 := ⟨_, Tryz.underlying130, by simp⟩
theorem conc131 : Conc Tryz.prog 131 := ⟨_, Tryz.underlying131, by simp⟩
theorem conc132 : Conc Tryz.prog 132 := ⟨_, Tryz.underlying132, by simp⟩
theorem conc133 : Conc Tryz.prog 133 := ⟨_, Tryz.underlying133, by simp⟩
theorem conc134 : Conc Tryz.prog 134 := ⟨_, Tryz.underlying134, by simp⟩
theorem conc137 : Conc Tryz.prog 137 := ⟨_, Tryz.underlying137, by simp⟩
theorem agg24 : Agg Tryz.prog 24 := agg_of Tryz.underlying24
theorem agg89 : Agg Tryz.prog 89 := agg_of Tryz.underlying89
theorem agg125 : Agg Tryz.prog 125 := agg_of Tryz.underlying125
theorem agg134 : Agg Tryz.prog 134 := agg_of Tryz.underlying134
theorem str24 : Str Tryz.prog 24 #[(0, 1), (1, 1), (2, 1), (3, 1)] := ⟨_, Tryz.underlying24, fun w => by kernel_rfl⟩
theorem str32 : Str Tryz.prog 32 #[(0, 1), (1, 4)] := ⟨_, Tryz.underlying32, fun w => by kernel_rfl⟩
theorem fld125_0 : Fld Tryz.prog 125 0 0 9 := fld_of Tryz.underlying125 rfl rfl rfl ty9 (by decide)
theorem fld125_1 : Fld Tryz.prog 125 1 1 60 := fld_of Tryz.underlying125 rfl rfl rfl ty60 (by decide)
section
variable {n : Nat} {w0 : World} {ds : List Deferred} {fr : Fr} {H : List Hp} {dst : Option Tmp} {ty : TypeId} {pos : String} {aft : Array Edge} {g : Option (Nat × Bool)} {k t u : TypeId} {x : Operand} {v z : Value} {size bytes : Nat}
theorem oq_askN (hc : Conc Tryz.prog t) (hty : Ty Tryz.prog t z size bytes) (hne : k ≠ t) (hx : ev fr x = some (.iface k v)) : OV Tryz.prog n w0 ⟨dst, .typeAssert x u t true, ty, pos, aft, g⟩ (.tuple #[z, .bool false]) ds fr H :=
 (oq_askG hc hty hx).to (by rw [if_neg hne, decide_eq_false hne])
theorem oq_askC3 {kE : TypeId} {pE pU : Addr} {ob c : Nat} (hk : kE = 248) (hc : Conc Tryz.prog 118) (hty : Ty Tryz.prog 118 (.agg #[]) size bytes) (hx : ev fr x = some (erv kE pE pU ob c)) : OV Tryz.prog n w0 ⟨dst, .typeAssert x u 118 true, ty, pos, aft, g⟩ (.tuple #[.agg #[], .bool (decide (c = 3))]) ds fr H := by
 match c, hx with
 | 0, hx => exact oq_askNil hc hty hx
 | 1, hx => exact oq_askN hc hty (by rw [hk]; decide) hx
 | 2, hx => exact oq_askN hc hty (by rw [hk]; decide) hx
 | 3, hx => exact oq_askC hc hx
 | 4, hx => exact oq_askN hc hty (by decide) hx
 | m + 5, hx => exact oq_askN hc hty (by rw [hk]; decide) hx
theorem oq_askC4 {kE : TypeId} {pE pU : Addr} {ob c : Nat} (hk : kE = 248) (hc : Conc Tryz.prog 120) (hty : Ty Tryz.prog 120 z size bytes) (hx : ev fr x = some (erv kE pE pU ob c)) : OV Tryz.prog n w0 ⟨dst, .typeAssert x u 120 true, ty, pos, aft, g⟩ (.tuple #[if c = 4 then lenE else z, .bool (decide (c = 4))]) ds fr H := by
 match c, hx with
 | 0, hx => exact oq_askNil hc hty hx
 | 1, hx => exact oq_askN hc hty (by rw [hk]; decide) hx
 | 2, hx => exact oq_askN hc hty (by rw [hk]; decide) hx
 | 3, hx => exact oq_askN hc hty (by decide) hx
 | 4, hx => exact oq_askC hc hx
 | m + 5, hx => exact oq_askN hc hty (by rw [hk]; decide) hx
end
theorem ms_back {ms : Int} (h1 : -9223372036854775808 ≤ ms) (h2 : ms ≤ 9223372036854775807) : IntKind.i64.wrap (IntKind.i64.wrap ((ms / 1000 + 62135596800 + -62135596800) * 1000) + ms % 1000 * 1000000 / 1000000) = ms := by
 have e1 : ms % 1000 * 1000000 / 1000000 = ms % 1000 := by omega
 rw [e1, show ms / 1000 + 62135596800 + -62135596800 = ms / 1000 by omega]
 simp only [IntKind.wrap, IntKind.signed, IntKind.bits, Bool.true_and, decide_eq_true_eq]
 split <;> split <;> omega
theorem own_rd5 {base : Nat} {v : Value} {A : Hp} {l : List HV} {m : Nat} {xs : List Value} (h : OwS base 32 5 v A m xs) (hm : m = l.length) (hx : xs = recsV HV.row l) : RdS 5 v A l.length (recsV HV.row l) := by subst hm hx; exact h.rd
theorem hv_snoc {l : List HV} {i : Nat} (hi : i < l.length) : recsV HV.row (l.take i) ++ [S (l.getD i HV0).name, I (l.getD i HV0).kind, I (l.getD i HV0).width, I (l.getD i HV0).int, S (l.getD i HV0).text] = recsV HV.row (l.take (i + 1)) := by
 rw [take_snoc hi]; unfold recsV; rw [List.flatMap_append]; simp [HV.row]
theorem oneHV (h : HV) : ∀ u ∈ [S h.name, I h.kind, I h.width, I h.int, S h.text], u.oneCell' = true := fun u hu => by
 simp only [List.mem_cons, List.not_mem_nil, or_false] at hu
 rcases hu with rfl | rfl | rfl | rfl | rfl <;> rfl
theorem unixSec2 (s n : Int) (h : -10000000000000000 ≤ s ∧ s ≤ 10000000000000000) : Fn0 Tryz.prog 72 [tmV s n] (I (s + -62135596800)) := by
 refine Fn0.enter (n := 6) Tryz.func72 rfl rfl fun w0 => ?_
 refine WC.sub (fr' := [(0, _)]) ?_ ⟨rfl, trivial⟩
 refine WC.seq (WC.region ?_)
 refine WL.box rfl rfl rfl fun b0_0 hb0_0 => ?_
 refine WL.q (oq_assign rfl) rfl rfl rfl ?_
 refine WL.nil (WE.then_normal (WC.sub (fr' := [(1, _)]) ?_ ⟨rfl, trivial⟩))
 refine WC.seq (WC.region ?_)
 refine WL.q (oq_loadS [_, _, _, _] agg89 ty89 rfl (.head _) (List.mem_singleton.2 rfl) rfl rfl) rfl rfl rfl ?_
 refine WL.qc (oq_call (sec _ _) call86 rfl) rfl rfl rfl ?_
 refine WL.q (oq_add rfl rfl (by rw [i64_lo, i64_hi]; (first | omega | (simp only [List.length_cons, List.length_nil, List.length_append, List.length_drop, List.length_take]; omega)))) rfl rfl rfl ?_
 refine WL.q (oq_assign rfl) rfl rfl rfl ?_
 refine WL.nil (WE.then_normal (WC.sub (fr' := [(2, _)]) ?_ ⟨rfl, trivial⟩))
 refine WC.ret ?_
 refine WE.lose hb0_0 ?_
 refine WE.end0 (.inl rfl) (res1 Tryz.results72 rfl) ?_
 rfl
theorem unixT (s n : Int) (h : -10000000000000000 ≤ s ∧ s ≤ 10000000000000000) : Fn0 Tryz.prog 56 [tmV s n] (I (s + -62135596800)) := by
 refine Fn0.enter (n := 5) Tryz.func56 rfl rfl fun w0 => ?_
 refine WC.sub (fr' := [(0, _)]) ?_ ⟨rfl, trivial⟩
 refine WC.seq (WC.region ?_)
 refine WL.box rfl rfl rfl fun b0_0 hb0_0 => ?_
 refine WL.q (oq_assign rfl) rfl rfl rfl ?_
 refine WL.nil (WE.then_normal (WC.sub (fr' := [(1, _)]) ?_ ⟨rfl, trivial⟩))
 refine WC.seq (WC.region ?_)
 refine WL.q (oq_loadS [_, _, _, _] agg89 ty89 rfl (.head _) (List.mem_singleton.2 rfl) rfl rfl) rfl rfl rfl ?_
 refine WL.qc (oq_call (unixSec2 s n h) call72 rfl) rfl rfl rfl ?_
 refine WL.q (oq_assign rfl) rfl rfl rfl ?_
 refine WL.nil (WE.then_normal (WC.sub (fr' := [(2, _)]) ?_ ⟨rfl, trivial⟩))
 refine WC.ret ?_
 refine WE.lose hb0_0 ?_
 refine WE.end0 (.inl rfl) (res1 Tryz.results56 rfl) ?_
 rfl
theorem nanoT (s n : Int) (h : 0 ≤ n ∧ n ≤ 999999999) : Fn0 Tryz.prog 57 [tmV s n] (I n) := by
 refine Fn0.enter (n := 6) Tryz.func57 rfl rfl fun w0 => ?_
 refine WC.sub (fr' := [(0, _)]) ?_ ⟨rfl, trivial⟩
 refine WC.seq (WC.region ?_)
 refine WL.box rfl rfl rfl fun b0_0 hb0_0 => ?_
 refine WL.q (oq_assign rfl) rfl rfl rfl ?_
 refine WL.nil (WE.then_normal (WC.sub (fr' := [(1, _)]) ?_ ⟨rfl, trivial⟩))
 refine WC.seq (WC.region ?_)
 refine WL.q (oq_loadS [_, _, _, _] agg89 ty89 rfl (.head _) (List.mem_singleton.2 rfl) rfl rfl) rfl rfl rfl ?_
 refine WL.qc (oq_call (nsec s n) call73 rfl) rfl rfl rfl ?_
 refine WL.q (oq_conv Tryz.underlying21 Tryz.underlying3 rfl (by rw [i64_lo, i64_hi]; (first | omega | (simp only [List.length_cons, List.length_nil, List.length_append, List.length_drop, List.length_take]; omega)))) rfl rfl rfl ?_
 refine WL.q (oq_assign rfl) rfl rfl rfl ?_
 refine WL.nil (WE.then_normal (WC.sub (fr' := [(2, _)]) ?_ ⟨rfl, trivial⟩))
 refine WC.ret ?_
 refine WE.lose hb0_0 ?_
 refine WE.end0 (.inl rfl) (res1 Tryz.results57 rfl) ?_
 rfl
theorem backBoolValue (b : Bool) : Fn0 Tryz.prog 33 [.iface 126 (.bool b)] (.agg #[I 0, I 0, I (if b then 1 else 0), S []]) := by
 refine Fn0.enter (n := 72) Tryz.func33 rfl rfl fun w0 => ?_
 refine WC.sub (fr' := [(0, _)]) ?_ ⟨rfl, trivial⟩
 refine WC.seq (WC.region ?_)
 refine WL.alloc ty24 rfl rfl fun res hres => ?_
 refine WL.nil (WE.then_normal (WC.sub (fr' := [(0, _), (2, _)]) ?_ ⟨rfl, rfl, trivial⟩))
 refine WC.seq (WC.seq (WC.region ?_))
 refine WL.q (oq_move rfl) rfl rfl rfl ?_
 refine WL.nil (WE.then_normal (WC.sub (fr' := [(2, _), (13, _)]) ?_ ⟨rfl, rfl, trivial⟩))
 refine WC.block (WC.seq (WC.region ?_))
 refine WL.q (oq_askC conc126 rfl) rfl rfl rfl ?_
 refine WL.q (oq_extract rfl rfl) rfl rfl rfl ?_
 refine WL.q (oq_extract rfl rfl) rfl rfl rfl ?_
 refine WL.nil (WE.then_normal (WC.sub (fr' := [(2, _), (13, _), (15, _), (16, _)]) ?_ ⟨rfl, rfl, rfl, rfl, trivial⟩))
 refine WC.cond_t rfl ?_
 refine WC.seq (WC.region ?_)
 refine WL.q (oq_assign rfl) rfl rfl rfl ?_
 refine WL.nil (WE.then_normal (WC.sub (fr' := [(2, _), (3, _)]) ?_ ⟨rfl, rfl, trivial⟩))
 refine WC.seq (WC.region ?_)
 refine WL.q (oq_move rfl) rfl rfl rfl ?_
 refine WL.nil (WE.then_normal (WC.sub (fr' := [(2, _), (17, _)]) ?_ ⟨rfl, rfl, trivial⟩))
 refine WC.cond rfl (fun q4 => ?_) (fun q4 => ?_)
 ·
  try simp only [Z1, Z2, Z3, Z4, Z5, Z6, Z7, Z8, Z9, Z0] at q4
  refine WC.seq (WC.region ?_)
  refine WL.q (oq_build #[_, _, _, _] str24 ty24 rfl rfl) rfl rfl rfl ?_
  refine WL.storeS #[_, _, _, _] ty24 rfl rfl rfl rfl (Nat.le_of_ble_eq_true rfl) rfl rfl ?_
  refine WL.nil (WE.then_normal (WC.sub (fr' := [(2, _)]) ?_ ⟨rfl, trivial⟩))
  refine WC.ret (WE.block_ret (WE.then_ret ?_))
  refine WE.endD0 (.inl rfl) (rs1 Tryz.results33 (rv_cellS [_, _, _, _] agg24 ty24 rfl (.head _) (List.mem_singleton.2 rfl) rfl rfl)) (dr_lose hres dr_refl) ?_
  rw [q4]; rfl
 ·
  try simp only [Z1, Z2, Z3, Z4, Z5, Z6, Z7, Z8, Z9, Z0] at q4
  refine WC.skip (WE.block_normal (WE.then_normal (WC.sub (fr' := [(2, _)]) ?_ ⟨rfl, trivial⟩)))
  refine WC.seq (WC.region ?_)
  refine WL.q (oq_build #[_, _, _, _] str24 ty24 rfl rfl) rfl rfl rfl ?_
  refine WL.storeS #[_, _, _, _] ty24 rfl rfl rfl rfl (Nat.le_of_ble_eq_true rfl) rfl rfl ?_
  refine WL.nil (WE.then_normal (WC.sub (fr' := [(2, _)]) ?_ ⟨rfl, trivial⟩))
  refine WC.ret ?_
  refine WE.endD0 (.inl rfl) (rs1 Tryz.results33 (rv_cellS [_, _, _, _] agg24 ty24 rfl (.head _) (List.mem_singleton.2 rfl) rfl rfl)) (dr_lose hres dr_refl) ?_
  rw [q4]; rfl
theorem backInt8Value (x : Int) (hx : -128 ≤ x ∧ x ≤ 127) : Fn0 Tryz.prog 33 [.iface 127 (.int .i8 x)] (.agg #[I 1, I 8, I x, S []]) := by
 refine Fn0.enter (n := 72) Tryz.func33 rfl rfl fun w0 => ?_
 refine WC.sub (fr' := [(0, _)]) ?_ ⟨rfl, trivial⟩
 refine WC.seq (WC.region ?_)
 refine WL.alloc ty24 rfl rfl fun res hres => ?_
 refine WL.nil (WE.then_normal (WC.sub (fr' := [(0, _), (2, _)]) ?_ ⟨rfl, rfl, trivial⟩))
 refine WC.seq (WC.seq (WC.region ?_))
 refine WL.q (oq_move rfl) rfl rfl rfl ?_
 refine WL.nil (WE.then_normal (WC.sub (fr' := [(2, _), (13, _)]) ?_ ⟨rfl, rfl, trivial⟩))
 refine WC.block (WC.seq (WC.region ?_))
 refine WL.q (oq_askN conc126 ty126 (by decide) rfl) rfl rfl rfl ?_
 refine WL.q (oq_extract rfl rfl) rfl rfl rfl ?_
 refine WL.q (oq_extract rfl rfl) rfl rfl rfl ?_
 refine WL.nil (WE.then_normal (WC.sub (fr' := [(2, _), (13, _), (15, _), (16, _)]) ?_ ⟨rfl, rfl, rfl, rfl, trivial⟩))
 refine WC.cond_f rfl ?_
 refine WC.seq (WC.region ?_)
 refine WL.q (oq_askC conc127 rfl) rfl rfl rfl ?_
 refine WL.q (oq_extract rfl rfl) rfl rfl rfl ?_
 refine WL.q (oq_extract rfl rfl) rfl rfl rfl ?_
 refine WL.nil (WE.then_normal (WC.sub (fr' := [(2, _), (13, _), (20, _), (21, _)]) ?_ ⟨rfl, rfl, rfl, rfl, trivial⟩))
 refine WC.cond_t rfl ?_
 refine WC.seq (WC.region ?_)
 refine WL.q (oq_assign rfl) rfl rfl rfl ?_
 refine WL.nil (WE.then_normal (WC.sub (fr' := [(2, _), (4, _)]) ?_ ⟨rfl, rfl, trivial⟩))
 refine WC.seq (WC.region ?_)
 refine WL.q (oq_move rfl) rfl rfl rfl ?_
 refine WL.q (oq_conv Tryz.underlying127 Tryz.underlying2 rfl (by rw [i64_lo, i64_hi]; (first | omega | (simp only [List.length_cons, List.length_nil, List.length_append, List.length_drop, List.length_take]; omega)))) rfl rfl rfl ?_
 refine WL.q (oq_build #[_, _, _, _] str24 ty24 rfl rfl) rfl rfl rfl ?_
 refine WL.storeS #[_, _, _, _] ty24 rfl rfl rfl rfl (Nat.le_of_ble_eq_true rfl) rfl rfl ?_
 refine WL.nil (WE.then_normal (WC.sub (fr' := [(2, _)]) ?_ ⟨rfl, trivial⟩))
 refine WC.ret (WE.block_ret (WE.then_ret ?_))
 refine WE.endD0 (.inl rfl) (rs1 Tryz.results33 (rv_cellS [_, _, _, _] agg24 ty24 rfl (.head _) (List.mem_singleton.2 rfl) rfl rfl)) (dr_lose hres dr_refl) ?_
 rfl
theorem backInt16Value (x : Int) (hx : -32768 ≤ x ∧ x ≤ 32767) : Fn0 Tryz.prog 33 [.iface 129 (.int .i16 x)] (.agg #[I 1, I 16, I x, S []]) := by
 refine Fn0.enter (n := 72) Tryz.func33 rfl rfl fun w0 => ?_
 refine WC.sub (fr' := [(0, _)]) ?_ ⟨rfl, trivial⟩
 refine WC.seq (WC.region ?_)
 refine WL.alloc ty24 rfl rfl fun res hres => ?_
 refine WL.nil (WE.then_normal (WC.sub (fr' := [(0, _), (2, _)]) ?_ ⟨rfl, rfl, trivial⟩))
 refine WC.seq (WC.seq (WC.region ?_))
 refine WL.q (oq_move rfl) rfl rfl rfl ?_
 refine WL.nil (WE.then_normal (WC.sub (fr' := [(2, _), (13, _)]) ?_ ⟨rfl, rfl, trivial⟩))
 refine WC.block (WC.seq (WC.region ?_))
 refine WL.q (oq_askN conc126 ty126 (by decide) rfl) rfl rfl rfl ?_
 refine WL.q (oq_extract rfl rfl) rfl rfl rfl ?_
 refine WL.q (oq_extract rfl rfl) rfl rfl rfl ?_
 refine WL.nil (WE.then_normal (WC.sub (fr' := [(2, _), (13, _), (15, _), (16, _)]) ?_ ⟨rfl, rfl, rfl, rfl, trivial⟩))
 refine WC.cond_f rfl ?_
 refine WC.seq (WC.region ?_)
 refine WL.q (oq_askN conc127 ty127 (by decide) rfl) rfl rfl rfl ?_
 refine WL.q (oq_extract rfl rfl) rfl rfl rfl ?_
 refine WL.q (oq_extract rfl rfl) rfl rfl rfl ?_
 refine WL.nil (WE.then_normal (WC.sub (fr' := [(2, _), (13, _), (20, _), (21, _)]) ?_ ⟨rfl, rfl, rfl, rfl, trivial⟩))
 refine WC.cond_f rfl ?_
 refine WC.seq (WC.region ?_)
 refine WL.q (oq_askC conc129 rfl) rfl rfl rfl ?_
 refine WL.q (oq_extract rfl rfl) rfl rfl rfl ?_
 refine WL.q (oq_extract rfl rfl) rfl rfl rfl ?_
 refine WL.nil (WE.then_normal (WC.sub (fr' := [(2, _), (13, _), (26, _), (27, _)]) ?_ ⟨rfl, rfl, rfl, rfl, trivial⟩))
 refine WC.cond_t rfl ?_
 refine WC.seq (WC.region ?_)
 refine WL.q (oq_assign rfl) rfl rfl rfl ?_
 refine WL.nil (WE.then_normal (WC.sub (fr' := [(2, _), (5, _)]) ?_ ⟨rfl, rfl, trivial⟩))
 refine WC.seq (WC.region ?_)
 refine WL.q (oq_move rfl) rfl rfl rfl ?_
 refine WL.q (oq_conv Tryz.underlying129 Tryz.underlying2 rfl (by rw [i64_lo, i64_hi]; (first | omega | (simp only [List.length_cons, List.length_nil, List.length_append, List.length_drop, List.length_take]; omega)))) rfl rfl rfl ?_
 refine WL.q (oq_build #[_, _, _, _] str24 ty24 rfl rfl) rfl rfl rfl ?_
 refine WL.storeS #[_, _, _, _] ty24 rfl rfl rfl rfl (Nat.le_of_ble_eq_true rfl) rfl rfl ?_
 refine WL.nil (WE.then_normal (WC.sub (fr' := [(2, _)]) ?_ ⟨rfl, trivial⟩))
 refine WC.ret (WE.block_ret (WE.then_ret ?_))
 refine WE.endD0 (.inl rfl) (rs1 Tryz.results33 (rv_cellS [_, _, _, _] agg24 ty24 rfl (.head _) (List.mem_singleton.2 rfl) rfl rfl)) (dr_lose hres dr_refl) ?_
 rfl
theorem backInt32Value (x : Int) (hx : -2147483648 ≤ x ∧ x ≤ 2147483647) : Fn0 Tryz.prog 33 [.iface 130 (.int .i32 x)] (.agg #[I 1, I 32, I x, S []]) := by
 refine Fn0.enter (n := 72) Tryz.func33 rfl rfl fun w0 => ?_
 refine WC.sub (fr' := [(0, _)]) ?_ ⟨rfl, trivial⟩
 refine WC.seq (WC.region ?_)
 refine WL.alloc ty24 rfl rfl fun res hres => ?_
 refine WL.nil (WE.then_normal (WC.sub (fr' := [(0, _), (2, _)]) ?_ ⟨rfl, rfl, trivial⟩))
 refine WC.seq (WC.seq (WC.region ?_))
 refine WL.q (oq_move rfl) rfl rfl rfl ?_
 refine WL.nil (WE.then_normal (WC.sub (fr' := [(2, _), (13, _)]) ?_ ⟨rfl, rfl, trivial⟩))
 refine WC.block (WC.seq (WC.region ?_))
 refine WL.q (oq_askN conc126 ty126 (by decide) rfl) rfl rfl rfl ?_
 refine WL.q (oq_extract rfl rfl) rfl rfl rfl ?_
 refine WL.q (oq_extract rfl rfl) rfl rfl rfl ?_
 refine WL.nil (WE.then_normal (WC.sub (fr' := [(2, _), (13, _), (15, _), (16, _)]) ?_ ⟨rfl, rfl, rfl, rfl, trivial⟩))
 refine WC.cond_f rfl ?_
 refine WC.seq (WC.region ?_)
 refine WL.q (oq_askN conc127 ty127 (by decide) rfl) rfl rfl rfl ?_
 refine WL.q (oq_extract rfl rfl) rfl rfl rfl ?_
 refine WL.q (oq_extract rfl rfl) rfl rfl rfl ?_
 refine WL.nil (WE.then_normal (WC.sub (fr' := [(2, _), (13, _), (20, _), (21, _)]) ?_ ⟨rfl, rfl, rfl, rfl, trivial⟩))
 refine WC.cond_f rfl ?_
 refine WC.seq (WC.region ?_)
 refine WL.q (oq_askN conc129 ty129 (by decide) rfl) rfl rfl rfl ?_
 refine WL.q (oq_extract rfl rfl) rfl rfl rfl ?_
 refine WL.q (oq_extract rfl rfl) rfl rfl rfl ?_
 refine WL.nil (WE.then_normal (WC.sub (fr' := [(2, _), (13, _), (26, _), (27, _)]) ?_ ⟨rfl, rfl, rfl, rfl, trivial⟩))
 refine WC.cond_f rfl ?_
 refine WC.seq (WC.region ?_)
 refine WL.q (oq_askC conc130 rfl) rfl rfl rfl ?_
 refine WL.q (oq_extract rfl rfl) rfl rfl rfl ?_
 refine WL.q (oq_extract rfl rfl) rfl rfl rfl ?_
 refine WL.nil (WE.then_normal (WC.sub (fr' := [(2, _), (13, _), (32, _), (33, _)]) ?_ ⟨rfl, rfl, rfl, rfl, trivial⟩))
 refine WC.cond_t rfl ?_
 refine WC.seq (WC.region ?_)
 refine WL.q (oq_assign rfl) rfl rfl rfl ?_
 refine WL.nil (WE.then_normal (WC.sub (fr' := [(2, _), (6, _)]) ?_ ⟨rfl, rfl, trivial⟩))
 refine WC.seq (WC.region ?_)
 refine WL.q (oq_move rfl) rfl rfl rfl ?_
 refine WL.q (oq_conv Tryz.underlying130 Tryz.underlying2 rfl (by rw [i64_lo, i64_hi]; (first | omega | (simp only [List.length_cons, List.length_nil, List.length_append, List.length_drop, List.length_take]; omega)))) rfl rfl rfl ?_
 refine WL.q (oq_build #[_, _, _, _] str24 ty24 rfl rfl) rfl rfl rfl ?_
 refine WL.storeS #[_, _, _, _] ty24 rfl rfl rfl rfl (Nat.le_of_ble_eq_true rfl) rfl rfl ?_
 refine WL.nil (WE.then_normal (WC.sub (fr' := [(2, _)]) ?_ ⟨rfl, trivial⟩))
 refine WC.ret (WE.block_ret (WE.then_ret ?_))
 refine WE.endD0 (.inl rfl) (rs1 Tryz.results33 (rv_cellS [_, _, _, _] agg24 ty24 rfl (.head _) (List.mem_singleton.2 rfl) rfl rfl)) (dr_lose hres dr_refl) ?_
 rfl
theorem backInt64Value (x : Int) (hx : -9223372036854775808 ≤ x ∧ x ≤ 9223372036854775807) : Fn0 Tryz.prog 33 [.iface 131 (.int .i64 x)] (.agg #[I 1, I 64, I x, S []]) := by
 refine Fn0.enter (n := 72) Tryz.func33 rfl rfl fun w0 => ?_
 refine WC.sub (fr' := [(0, _)]) ?_ ⟨rfl, trivial⟩
 refine WC.seq (WC.region ?_)
 refine WL.alloc ty24 rfl rfl fun res hres => ?_
 refine WL.nil (WE.then_normal (WC.sub (fr' := [(0, _), (2, _)]) ?_ ⟨rfl, rfl, trivial⟩))
 refine WC.seq (WC.seq (WC.region ?_))
 refine WL.q (oq_move rfl) rfl rfl rfl ?_
 refine WL.nil (WE.then_normal (WC.sub (fr' := [(2, _), (13, _)]) ?_ ⟨rfl, rfl, trivial⟩))
 refine WC.block (WC.seq (WC.region ?_))
 refine WL.q (oq_askN conc126 ty126 (by decide) rfl) rfl rfl rfl ?_
 refine WL.q (oq_extract rfl rfl) rfl rfl rfl ?_
 refine WL.q (oq_extract rfl rfl) rfl rfl rfl ?_
 refine WL.nil (WE.then_normal (WC.sub (fr' := [(2, _), (13, _), (15, _), (16, _)]) ?_ ⟨rfl, rfl, rfl, rfl, trivial⟩))
 refine WC.cond_f rfl ?_
 refine WC.seq (WC.region ?_)
 refine WL.q (oq_askN conc127 ty127 (by decide) rfl) rfl rfl rfl ?_
 refine WL.q (oq_extract rfl rfl) rfl rfl rfl ?_
 refine WL.q (oq_extract rfl rfl) rfl rfl rfl ?_
 refine WL.nil (WE.then_normal (WC.sub (fr' := [(2, _), (13, _), (20, _), (21, _)]) ?_ ⟨rfl, rfl, rfl, rfl, trivial⟩))
 refine WC.cond_f rfl ?_
 refine WC.seq (WC.region ?_)
 refine WL.q (oq_askN conc129 ty129 (by decide) rfl) rfl rfl rfl ?_
 refine WL.q (oq_extract rfl rfl) rfl rfl rfl ?_
 refine WL.q (oq_extract rfl rfl) rfl rfl rfl ?_
 refine WL.nil (WE.then_normal (WC.sub (fr' := [(2, _), (13, _), (26, _), (27, _)]) ?_ ⟨rfl, rfl, rfl, rfl, trivial⟩))
 refine WC.cond_f rfl ?_
 refine WC.seq (WC.region ?_)
 refine WL.q (oq_askN conc130 ty130 (by decide) rfl) rfl rfl rfl ?_
 refine WL.q (oq_extract rfl rfl) rfl rfl rfl ?_
 refine WL.q (oq_extract rfl rfl) rfl rfl rfl ?_
 refine WL.nil (WE.then_normal (WC.sub (fr' := [(2, _), (13, _), (32, _), (33, _)]) ?_ ⟨rfl, rfl, rfl, rfl, trivial⟩))
 refine WC.cond_f rfl ?_
 refine WC.seq (WC.region ?_)
 refine WL.q (oq_askC conc131 rfl) rfl rfl rfl ?_
 refine WL.q (oq_extract rfl rfl) rfl rfl rfl ?_
 refine WL.q (oq_extract rfl rfl) rfl rfl rfl ?_
 refine WL.nil (WE.then_normal (WC.sub (fr' := [(2, _), (13, _), (38, _), (39, _)]) ?_ ⟨rfl, rfl, rfl, rfl, trivial⟩))
 refine WC.cond_t rfl ?_
 refine WC.seq (WC.region ?_)
 refine WL.q (oq_assign rfl) rfl rfl rfl ?_
 refine WL.nil (WE.then_normal (WC.sub (fr' := [(2, _), (7, _)]) ?_ ⟨rfl, rfl, trivial⟩))
 refine WC.seq (WC.region ?_)
 refine WL.q (oq_move rfl) rfl rfl rfl ?_
 refine WL.q (oq_build #[_, _, _, _] str24 ty24 rfl rfl) rfl rfl rfl ?_
 refine WL.storeS #[_, _, _, _] ty24 rfl rfl rfl rfl (Nat.le_of_ble_eq_true rfl) rfl rfl ?_
 refine WL.nil (WE.then_normal (WC.sub (fr' := [(2, _)]) ?_ ⟨rfl, trivial⟩))
 refine WC.ret (WE.block_ret (WE.then_ret ?_))
 refine WE.endD0 (.inl rfl) (rs1 Tryz.results33 (rv_cellS [_, _, _, _] agg24 ty24 rfl (.head _) (List.mem_singleton.2 rfl) rfl rfl)) (dr_lose hres dr_refl) ?_
 rfl
theorem backBytesValue (s : Value) (N : Hp) (t : List UInt8) (hr : RdS 1 s N t.length (bytesV t)) : FnR Tryz.prog 33 [.iface 132 s] N (.agg #[I 2, I 0, I 0, S t]) := by
 refine FnR.enter (n := 72) Tryz.func33 rfl rfl fun w0 => ?_
 refine WC.sub (fr' := [(0, _)]) ?_ ⟨rfl, trivial⟩
 refine WC.seq (WC.region ?_)
 refine WL.alloc ty24 rfl rfl fun res hres => ?_
 refine WL.nil (WE.then_normal (WC.sub (fr' := [(0, _), (2, _)]) ?_ ⟨rfl, rfl, trivial⟩))
 refine WC.seq (WC.seq (WC.region ?_))
 refine WL.q (oq_move rfl) rfl rfl rfl ?_
 refine WL.nil (WE.then_normal (WC.sub (fr' := [(2, _), (13, _)]) ?_ ⟨rfl, rfl, trivial⟩))
 refine WC.block (WC.seq (WC.region ?_))
 refine WL.q (oq_askN conc126 ty126 (by decide) rfl) rfl rfl rfl ?_
 refine WL.q (oq_extract rfl rfl) rfl rfl rfl ?_
 refine WL.q (oq_extract rfl rfl) rfl rfl rfl ?_
 refine WL.nil (WE.then_normal (WC.sub (fr' := [(2, _), (13, _), (15, _), (16, _)]) ?_ ⟨rfl, rfl, rfl, rfl, trivial⟩))
 refine WC.cond_f rfl ?_
 refine WC.seq (WC.region ?_)
 refine WL.q (oq_askN conc127 ty127 (by decide) rfl) rfl rfl rfl ?_
 refine WL.q (oq_extract rfl rfl) rfl rfl rfl ?_
 refine WL.q (oq_extract rfl rfl) rfl rfl rfl ?_
 refine WL.nil (WE.then_normal (WC.sub (fr' := [(2, _), (13, _), (20, _), (21, _)]) ?_ ⟨rfl, rfl, rfl, rfl, trivial⟩))
 refine WC.cond_f rfl ?_
 refine WC.seq (WC.region ?_)
 refine WL.q (oq_askN conc129 ty129 (by decide) rfl) rfl rfl rfl ?_
 refine WL.q (oq_extract rfl rfl) rfl rfl rfl ?_
 refine WL.q (oq_extract rfl rfl) rfl rfl rfl ?_
 refine WL.nil (WE.then_normal (WC.sub (fr' := [(2, _), (13, _), (26, _), (27, _)]) ?_ ⟨rfl, rfl, rfl, rfl, trivial⟩))
 refine WC.cond_f rfl ?_
 refine WC.seq (WC.region ?_)
 refine WL.q (oq_askN conc130 ty130 (by decide) rfl) rfl rfl rfl ?_
 refine WL.q (oq_extract rfl rfl) rfl rfl rfl ?_
 refine WL.q (oq_extract rfl rfl) rfl rfl rfl ?_
 refine WL.nil (WE.then_normal (WC.sub (fr' := [(2, _), (13, _), (32, _), (33, _)]) ?_ ⟨rfl, rfl, rfl, rfl, trivial⟩))
 refine WC.cond_f rfl ?_
 refine WC.seq (WC.region ?_)
 refine WL.q (oq_askN conc131 ty131 (by decide) rfl) rfl rfl rfl ?_
 refine WL.q (oq_extract rfl rfl) rfl rfl rfl ?_
 refine WL.q (oq_extract rfl rfl) rfl rfl rfl ?_
 refine WL.nil (WE.then_normal (WC.sub (fr' := [(2, _), (13, _), (38, _), (39, _)]) ?_ ⟨rfl, rfl, rfl, rfl, trivial⟩))
 refine WC.cond_f rfl ?_
 refine WC.seq (WC.region ?_)
 refine WL.q (oq_askC conc132 rfl) rfl rfl rfl ?_
 refine WL.q (oq_extract rfl rfl) rfl rfl rfl ?_
 refine WL.q (oq_extract rfl rfl) rfl rfl rfl ?_
 refine WL.nil (WE.then_normal (WC.sub (fr' := [(2, _), (13, _), (43, _), (44, _)]) ?_ ⟨rfl, rfl, rfl, rfl, trivial⟩))
 refine WC.cond_t rfl ?_
 refine WC.seq (WC.region ?_)
 refine WL.q (oq_assign rfl) rfl rfl rfl ?_
 refine WL.nil (WE.then_normal (WC.sub (fr' := [(2, _), (8, _)]) ?_ ⟨rfl, rfl, trivial⟩))
 refine WC.seq (WC.region ?_)
 refine WL.q (oq_move rfl) rfl rfl rfl ?_
 refine WL.q (oq_bytesStr hr (.tail _ (.head _)) Tryz.underlying9 Tryz.underlying132 Tryz.underlying5 rfl) rfl rfl rfl ?_
 refine WL.q (oq_build #[_, _, _, _] str24 ty24 rfl rfl) rfl rfl rfl ?_
 refine WL.storeS #[_, _, _, _] ty24 rfl rfl rfl rfl (Nat.le_of_ble_eq_true rfl) rfl rfl ?_
 refine WL.nil (WE.then_normal (WC.sub (fr' := [(2, _)]) ?_ ⟨rfl, trivial⟩))
 refine WC.ret (WE.block_ret (WE.then_ret ?_))
 refine WE.endDR (.inl rfl) (rs1 Tryz.results33 (rv_cellS [_, _, _, _] agg24 ty24 rfl (.head _) (List.mem_singleton.2 rfl) rfl rfl)) (dr_lose hres dr_refl) ?_
 rfl
theorem backStringValue (t : List UInt8) : Fn0 Tryz.prog 33 [.iface 133 (S t)] (.agg #[I 3, I 0, I 0, S t]) := by
 refine Fn0.enter (n := 72) Tryz.func33 rfl rfl fun w0 => ?_
 refine WC.sub (fr' := [(0, _)]) ?_ ⟨rfl, trivial⟩
 refine WC.seq (WC.region ?_)
 refine WL.alloc ty24 rfl rfl fun res hres => ?_
 refine WL.nil (WE.then_normal (WC.sub (fr' := [(0, _), (2, _)]) ?_ ⟨rfl, rfl, trivial⟩))
 refine WC.seq (WC.seq (WC.region ?_))
 refine WL.q (oq_move rfl) rfl rfl rfl ?_
 refine WL.nil (WE.then_normal (WC.sub (fr' := [(2, _), (13, _)]) ?_ ⟨rfl, rfl, trivial⟩))
 refine WC.block (WC.seq (WC.region ?_))
 refine WL.q (oq_askN conc126 ty126 (by decide) rfl) rfl rfl rfl ?_
 refine WL.q (oq_extract rfl rfl) rfl rfl rfl ?_
 refine WL.q (oq_extract rfl rfl) rfl rfl rfl ?_
 refine WL.nil (WE.then_normal (WC.sub (fr' := [(2, _), (13, _), (15, _), (16, _)]) ?_ ⟨rfl, rfl, rfl, rfl, trivial⟩))
 refine WC.cond_f rfl ?_
 refine WC.seq (WC.region ?_)
 refine WL.q (oq_askN conc127 ty127 (by decide) rfl) rfl rfl rfl ?_
 refine WL.q (oq_extract rfl rfl) rfl rfl rfl ?_
 refine WL.q (oq_extract rfl rfl) rfl rfl rfl ?_
 refine WL.nil (WE.then_normal (WC.sub (fr' := [(2, _), (13, _), (20, _), (21, _)]) ?_ ⟨rfl, rfl, rfl, rfl, trivial⟩))
 refine WC.cond_f rfl ?_
 refine WC.seq (WC.region ?_)
 refine WL.q (oq_askN conc129 ty129 (by decide) rfl) rfl rfl rfl ?_
 refine WL.q (oq_extract rfl rfl) rfl rfl rfl ?_
 refine WL.q (oq_extract rfl rfl) rfl rfl rfl ?_
 refine WL.nil (WE.then_normal (WC.sub (fr' := [(2, _), (13, _), (26, _), (27, _)]) ?_ ⟨rfl, rfl, rfl, rfl, trivial⟩))
 refine WC.cond_f rfl ?_
 refine WC.seq (WC.region ?_)
 refine WL.q (oq_askN conc130 ty130 (by decide) rfl) rfl rfl rfl ?_
 refine WL.q (oq_extract rfl rfl) rfl rfl rfl ?_
 refine WL.q (oq_extract rfl rfl) rfl rfl rfl ?_
 refine WL.nil (WE.then_normal (WC.sub (fr' := [(2, _), (13, _), (32, _), (33, _)]) ?_ ⟨rfl, rfl, rfl, rfl, trivial⟩))
 refine WC.cond_f rfl ?_
 refine WC.seq (WC.region ?_)
 refine WL.q (oq_askN conc131 ty131 (by decide) rfl) rfl rfl rfl ?_
 refine WL.q (oq_extract rfl rfl) rfl rfl rfl ?_
 refine WL.q (oq_extract rfl rfl) rfl rfl rfl ?_
 refine WL.nil (WE.then_normal (WC.sub (fr' := [(2, _), (13, _), (38, _), (39, _)]) ?_ ⟨rfl, rfl, rfl, rfl, trivial⟩))
 refine WC.cond_f rfl ?_
 refine WC.seq (WC.region ?_)
 refine WL.q (oq_askN conc132 ty132 (by decide) rfl) rfl rfl rfl ?_
 refine WL.q (oq_extract rfl rfl) rfl rfl rfl ?_
 refine WL.q (oq_extract rfl rfl) rfl rfl rfl ?_
 refine WL.nil (WE.then_normal (WC.sub (fr' := [(2, _), (13, _), (43, _), (44, _)]) ?_ ⟨rfl, rfl, rfl, rfl, trivial⟩))
 refine WC.cond_f rfl ?_
 refine WC.seq (WC.region ?_)
 refine WL.q (oq_askC conc133 rfl) rfl rfl rfl ?_
 refine WL.q (oq_extract rfl rfl) rfl rfl rfl ?_
 refine WL.q (oq_extract rfl rfl) rfl rfl rfl ?_
 refine WL.nil (WE.then_normal (WC.sub (fr' := [(2, _), (13, _), (49, _), (50, _)]) ?_ ⟨rfl, rfl, rfl, rfl, trivial⟩))
 refine WC.cond_t rfl ?_
 refine WC.seq (WC.region ?_)
 refine WL.q (oq_assign rfl) rfl rfl rfl ?_
 refine WL.nil (WE.then_normal (WC.sub (fr' := [(2, _), (9, _)]) ?_ ⟨rfl, rfl, trivial⟩))
 refine WC.seq (WC.region ?_)
 refine WL.q (oq_move rfl) rfl rfl rfl ?_
 refine WL.q (oq_build #[_, _, _, _] str24 ty24 rfl rfl) rfl rfl rfl ?_
 refine WL.storeS #[_, _, _, _] ty24 rfl rfl rfl rfl (Nat.le_of_ble_eq_true rfl) rfl rfl ?_
 refine WL.nil (WE.then_normal (WC.sub (fr' := [(2, _)]) ?_ ⟨rfl, trivial⟩))
 refine WC.ret (WE.block_ret (WE.then_ret ?_))
 refine WE.endD0 (.inl rfl) (rs1 Tryz.results33 (rv_cellS [_, _, _, _] agg24 ty24 rfl (.head _) (List.mem_singleton.2 rfl) rfl rfl)) (dr_lose hres dr_refl) ?_
 rfl
theorem backTimestampValue (ms : Int) (h1 : -9223372036854775808 ≤ ms) (h2 : ms ≤ 9223372036854775807) : Fn0 Tryz.prog 33 [.iface 134 (msV ms)] (.agg #[I 4, I 0, I ms, S []]) := by
 refine Fn0.enter (n := 72) Tryz.func33 rfl rfl fun w0 => ?_
 refine WC.sub (fr' := [(0, _)]) ?_ ⟨rfl, trivial⟩
 refine WC.seq (WC.region ?_)
 refine WL.alloc ty24 rfl rfl fun res hres => ?_
 refine WL.nil (WE.then_normal (WC.sub (fr' := [(0, _), (2, _)]) ?_ ⟨rfl, rfl, trivial⟩))
 refine WC.seq (WC.seq (WC.region ?_))
 refine WL.q (oq_move rfl) rfl rfl rfl ?_
 refine WL.nil (WE.then_normal (WC.sub (fr' := [(2, _), (13, _)]) ?_ ⟨rfl, rfl, trivial⟩))
 refine WC.block (WC.seq (WC.region ?_))
 refine WL.q (oq_askN conc126 ty126 (by decide) rfl) rfl rfl rfl ?_
 refine WL.q (oq_extract rfl rfl) rfl rfl rfl ?_
 refine WL.q (oq_extract rfl rfl) rfl rfl rfl ?_
 refine WL.nil (WE.then_normal (WC.sub (fr' := [(2, _), (13, _), (15, _), (16, _)]) ?_ ⟨rfl, rfl, rfl, rfl, trivial⟩))
 refine WC.cond_f rfl ?_
 refine WC.seq (WC.region ?_)
 refine WL.q (oq_askN conc127 ty127 (by decide) rfl) rfl rfl rfl ?_
 refine WL.q (oq_extract rfl rfl) rfl rfl rfl ?_
 refine WL.q (oq_extract rfl rfl) rfl rfl rfl ?_
 refine WL.nil (WE.then_normal (WC.sub (fr' := [(2, _), (13, _), (20, _), (21, _)]) ?_ ⟨rfl, rfl, rfl, rfl, trivial⟩))
 refine WC.cond_f rfl ?_
 refine WC.seq (WC.region ?_)
 refine WL.q (oq_askN conc129 ty129 (by decide) rfl) rfl rfl rfl ?_
 refine WL.q (oq_extract rfl rfl) rfl rfl rfl ?_
 refine WL.q (oq_extract rfl rfl) rfl rfl rfl ?_
 refine WL.nil (WE.then_normal (WC.sub (fr' := [(2, _), (13, _), (26, _), (27, _)]) ?_ ⟨rfl, rfl, rfl, rfl, trivial⟩))
 refine WC.cond_f rfl ?_
 refine WC.seq (WC.region ?_)
 refine WL.q (oq_askN conc130 ty130 (by decide) rfl) rfl rfl rfl ?_
 refine WL.q (oq_extract rfl rfl) rfl rfl rfl ?_
 refine WL.q (oq_extract rfl rfl) rfl rfl rfl ?_
 refine WL.nil (WE.then_normal (WC.sub (fr' := [(2, _), (13, _), (32, _), (33, _)]) ?_ ⟨rfl, rfl, rfl, rfl, trivial⟩))
 refine WC.cond_f rfl ?_
 refine WC.seq (WC.region ?_)
 refine WL.q (oq_askN conc131 ty131 (by decide) rfl) rfl rfl rfl ?_
 refine WL.q (oq_extract rfl rfl) rfl rfl rfl ?_
 refine WL.q (oq_extract rfl rfl) rfl rfl rfl ?_
 refine WL.nil (WE.then_normal (WC.sub (fr' := [(2, _), (13, _), (38, _), (39, _)]) ?_ ⟨rfl, rfl, rfl, rfl, trivial⟩))
 refine WC.cond_f rfl ?_
 refine WC.seq (WC.region ?_)
 refine WL.q (oq_askN conc132 ty132 (by decide) rfl) rfl rfl rfl ?_
 refine WL.q (oq_extract rfl rfl) rfl rfl rfl ?_
 refine WL.q (oq_extract rfl rfl) rfl rfl rfl ?_
 refine WL.nil (WE.then_normal (WC.sub (fr' := [(2, _), (13, _), (43, _), (44, _)]) ?_ ⟨rfl, rfl, rfl, rfl, trivial⟩))
 refine WC.cond_f rfl ?_
 refine WC.seq (WC.region ?_)
 refine WL.q (oq_askN conc133 ty133 (by decide) rfl) rfl rfl rfl ?_
 refine WL.q (oq_extract rfl rfl) rfl rfl rfl ?_
 refine WL.q (oq_extract rfl rfl) rfl rfl rfl ?_
 refine WL.nil (WE.then_normal (WC.sub (fr' := [(2, _), (13, _), (49, _), (50, _)]) ?_ ⟨rfl, rfl, rfl, rfl, trivial⟩))
 refine WC.cond_f rfl ?_
 refine WC.seq (WC.region ?_)
 refine WL.q (oq_askC conc134 rfl) rfl rfl rfl ?_
 refine WL.q (oq_extract rfl rfl) rfl rfl rfl ?_
 refine WL.q (oq_extract rfl rfl) rfl rfl rfl ?_
 refine WL.nil (WE.then_normal (WC.sub (fr' := [(2, _), (13, _), (54, _), (55, _)]) ?_ ⟨rfl, rfl, rfl, rfl, trivial⟩))
 refine WC.cond_t rfl ?_
 refine WC.seq (WC.region ?_)
 refine WL.alloc ty134 rfl rfl fun tq htq => ?_
 refine WL.storeS #[_, _, _, _] ty134 rfl rfl rfl rfl (Nat.le_of_ble_eq_true rfl) rfl rfl ?_
 refine WL.nil (WE.then_normal (WC.sub (fr' := [(2, _), (10, _)]) ?_ ⟨rfl, rfl, trivial⟩))
 refine WC.seq (WC.region ?_)
 refine WL.q (oq_loadS [_, _, _, _] agg134 ty134 rfl (.head _) (List.mem_singleton.2 rfl) rfl rfl) rfl rfl rfl ?_
 refine WL.alloc ty89 rfl rfl fun tr htr => ?_
 refine WL.storeS #[_, _, _, _] ty89 rfl rfl rfl rfl (Nat.le_of_ble_eq_true rfl) rfl rfl ?_
 refine WL.nil (WE.then_normal (WC.sub (fr' := [(2, _), (11, _)]) ?_ ⟨rfl, rfl, trivial⟩))
 refine WC.seq ?_
 refine WC.gate 8 ([(tr, .cells #[I (ms / 1000 + 62135596800), .int .i32 (ms % 1000 * 1000000), S [85, 84, 67], I 0] 89 (0, 0))]) (by kernel_rfl) ?_
 refine WG.q 0 [] rfl (.head _) (fun w0 => oq_loadS [_, _, _, _] agg89 ty89 rfl (.head _) (List.mem_singleton.2 rfl) rfl rfl) rfl rfl rfl ?_
 refine WG.q 3 [] rfl (.head _) (fun w0 => oq_loadS [_, _, _, _] agg89 ty89 rfl (.head _) (List.mem_singleton.2 rfl) rfl rfl) rfl rfl rfl ?_
 refine WG.step (i := 1) (by kernel_rfl) rfl ?_
 refine WL.qc (oq_call (unixT (ms / 1000 + 62135596800) (ms % 1000 * 1000000) (by omega)) call56 rfl) rfl rfl rfl ?_
 refine WL.nil ?_
 refine WE.toG (.head _) ?_
 refine WG.q 2 [] rfl (.head _) (fun w0 => oq_mulw rfl rfl) rfl rfl rfl ?_
 refine WG.step (i := 4) (by kernel_rfl) rfl ?_
 refine WL.qc (oq_call (nanoT (ms / 1000 + 62135596800) (ms % 1000 * 1000000) (by omega)) call57 rfl) rfl rfl rfl ?_
 refine WL.nil ?_
 refine WE.toG (.head _) ?_
 refine WG.q 5 [] rfl (.head _) (fun w0 => oq_quo rfl rfl (by rw [i64_hi]; omega)) rfl rfl rfl ?_
 refine WG.q 6 [] rfl (.head _) (fun w0 => oq_addw rfl rfl) rfl rfl rfl ?_
 refine WG.q 7 [] rfl (.head _) (fun w0 => oq_build #[_, _, _, _] str24 ty24 rfl rfl) rfl rfl rfl ?_
 refine WG.step (i := 8) (by kernel_rfl) rfl ?_
 refine WL.f2 ?_
 refine WL.storeS #[_, _, _, _] ty24 rfl rfl rfl rfl (Nat.le_of_ble_eq_true rfl) rfl rfl ?_
 refine WL.nil ?_
 refine WE.toG0 (by kernel_rfl) ?_
 refine WG.done (by kernel_rfl) ?_
 refine WE.then_normal (WC.sub (fr' := [(2, _)]) ?_ ⟨rfl, trivial⟩)
 refine WC.ret (WE.block_ret (WE.then_ret ?_))
 refine WE.endD0 (.inl rfl) (rs1 Tryz.results33 (rv_cellS [_, _, _, _] agg24 ty24 rfl (.head _) (List.mem_singleton.2 rfl) rfl rfl)) (dr_lose hres (dr_lose htr (dr_lose htq dr_refl))) ?_
 rw [ms_back h1 h2]; rfl
theorem backUUIDValue (a0 a1 a2 a3 a4 a5 a6 a7 a8 a9 a10 a11 a12 a13 a14 a15 : UInt8) : Fn0 Tryz.prog 33 [.iface 137 (.agg #[.int .u8 (a0.toNat : Int), .int .u8 (a1.toNat : Int), .int .u8 (a2.toNat : Int), .int .u8 (a3.toNat : Int), .int .u8 (a4.toNat : Int), .int .u8 (a5.toNat : Int), .int .u8 (a6.toNat : Int), .int .u8 (a7.toNat : Int), .int .u8 (a8.toNat : Int), .int .u8 (a9.toNat : Int), .int .u8 (a10.toNat : Int), .int .u8 (a11.toNat : Int), .int .u8 (a12.toNat : Int), .int .u8 (a13.toNat : Int), .int .u8 (a14.toNat : Int), .int .u8 (a15.toNat : Int)])] (.agg #[I 5, I 0, I 0, S [a0, a1, a2, a3, a4, a5, a6, a7, a8, a9, a10, a11, a12, a13, a14, a15]]) := by
 refine Fn0.enter (n := 72) Tryz.func33 rfl rfl fun w0 => ?_
 refine WC.sub (fr' := [(0, _)]) ?_ ⟨rfl, trivial⟩
 refine WC.seq (WC.region ?_)
 refine WL.alloc ty24 rfl rfl fun res hres => ?_
 refine WL.nil (WE.then_normal (WC.sub (fr' := [(0, _), (2, _)]) ?_ ⟨rfl, rfl, trivial⟩))
 refine WC.seq (WC.seq (WC.region ?_))
 refine WL.q (oq_move rfl) rfl rfl rfl ?_
 refine WL.nil (WE.then_normal (WC.sub (fr' := [(2, _), (13, _)]) ?_ ⟨rfl, rfl, trivial⟩))
 refine WC.block (WC.seq (WC.region ?_))
 refine WL.q (oq_askN conc126 ty126 (by decide) rfl) rfl rfl rfl ?_
 refine WL.q (oq_extract rfl rfl) rfl rfl rfl ?_
 refine WL.q (oq_extract rfl rfl) rfl rfl rfl ?_
 refine WL.nil (WE.then_normal (WC.sub (fr' := [(2, _), (13, _), (15, _), (16, _)]) ?_ ⟨rfl, rfl, rfl, rfl, trivial⟩))
 refine WC.cond_f rfl ?_
 refine WC.seq (WC.region ?_)
 refine WL.q (oq_askN conc127 ty127 (by decide) rfl) rfl rfl rfl ?_
 refine WL.q (oq_extract rfl rfl) rfl rfl rfl ?_
 refine WL.q (oq_extract rfl rfl) rfl rfl rfl ?_
 refine WL.nil (WE.then_normal (WC.sub (fr' := [(2, _), (13, _), (20, _), (21, _)]) ?_ ⟨rfl, rfl, rfl, rfl, trivial⟩))
 refine WC.cond_f rfl ?_
 refine WC.seq (WC.region ?_)
 refine WL.q (oq_askN conc129 ty129 (by decide) rfl) rfl rfl rfl ?_
 refine WL.q (oq_extract rfl rfl) rfl rfl rfl ?_
 refine WL.q (oq_extract rfl rfl) rfl rfl rfl ?_
 refine WL.nil (WE.then_normal (WC.sub (fr' := [(2, _), (13, _), (26, _), (27, _)]) ?_ ⟨rfl, rfl, rfl, rfl, trivial⟩))
 refine WC.cond_f rfl ?_
 refine WC.seq (WC.region ?_)
 refine WL.q (oq_askN conc130 ty130 (by decide) rfl) rfl rfl rfl ?_
 refine WL.q (oq_extract rfl rfl) rfl rfl rfl ?_
 refine WL.q (oq_extract rfl rfl) rfl rfl rfl ?_
 refine WL.nil (WE.then_normal (WC.sub (fr' := [(2, _), (13, _), (32, _), (33, _)]) ?_ ⟨rfl, rfl, rfl, rfl, trivial⟩))
 refine WC.cond_f rfl ?_
 refine WC.seq (WC.region ?_)
 refine WL.q (oq_askN conc131 ty131 (by decide) rfl) rfl rfl rfl ?_
 refine WL.q (oq_extract rfl rfl) rfl rfl rfl ?_
 refine WL.q (oq_extract rfl rfl) rfl rfl rfl ?_
 refine WL.nil (WE.then_normal (WC.sub (fr' := [(2, _), (13, _), (38, _), (39, _)]) ?_ ⟨rfl, rfl, rfl, rfl, trivial⟩))
 refine WC.cond_f rfl ?_
 refine WC.seq (WC.region ?_)
 refine WL.q (oq_askN conc132 ty132 (by decide) rfl) rfl rfl rfl ?_
 refine WL.q (oq_extract rfl rfl) rfl rfl rfl ?_
 refine WL.q (oq_extract rfl rfl) rfl rfl rfl ?_
 refine WL.nil (WE.then_normal (WC.sub (fr' := [(2, _), (13, _), (43, _), (44, _)]) ?_ ⟨rfl, rfl, rfl, rfl, trivial⟩))
 refine WC.cond_f rfl ?_
 refine WC.seq (WC.region ?_)
 refine WL.q (oq_askN conc133 ty133 (by decide) rfl) rfl rfl rfl ?_
 refine WL.q (oq_extract rfl rfl) rfl rfl rfl ?_
 refine WL.q (oq_extract rfl rfl) rfl rfl rfl ?_
 refine WL.nil (WE.then_normal (WC.sub (fr' := [(2, _), (13, _), (49, _), (50, _)]) ?_ ⟨rfl, rfl, rfl, rfl, trivial⟩))
 refine WC.cond_f rfl ?_
 refine WC.seq (WC.region ?_)
 refine WL.q (oq_askN conc134 ty134 (by decide) rfl) rfl rfl rfl ?_
 refine WL.q (oq_extract rfl rfl) rfl rfl rfl ?_
 refine WL.q (oq_extract rfl rfl) rfl rfl rfl ?_
 refine WL.nil (WE.then_normal (WC.sub (fr' := [(2, _), (13, _), (54, _), (55, _)]) ?_ ⟨rfl, rfl, rfl, rfl, trivial⟩))
 refine WC.cond_f rfl ?_
 refine WC.seq (WC.region ?_)
 refine WL.q (oq_askC conc137 rfl) rfl rfl rfl ?_
 refine WL.q (oq_extract rfl rfl) rfl rfl rfl ?_
 refine WL.q (oq_extract rfl rfl) rfl rfl rfl ?_
 refine WL.nil (WE.then_normal (WC.sub (fr' := [(2, _), (66, _), (67, _)]) ?_ ⟨rfl, rfl, rfl, trivial⟩))
 refine WC.cond_t rfl ?_
 refine WC.seq (WC.region ?_)
 refine WL.alloc ty137 rfl rfl fun ub hub => ?_
 refine WL.storeS (#[.int .u8 (a0.toNat : Int), .int .u8 (a1.toNat : Int), .int .u8 (a2.toNat : Int), .int .u8 (a3.toNat : Int), .int .u8 (a4.toNat : Int), .int .u8 (a5.toNat : Int), .int .u8 (a6.toNat : Int), .int .u8 (a7.toNat : Int), .int .u8 (a8.toNat : Int), .int .u8 (a9.toNat : Int), .int .u8 (a10.toNat : Int), .int .u8 (a11.toNat : Int), .int .u8 (a12.toNat : Int), .int .u8 (a13.toNat : Int), .int .u8 (a14.toNat : Int), .int .u8 (a15.toNat : Int)]) ty137 rfl rfl (by kernel_rfl) (by kernel_rfl) (Nat.le_of_ble_eq_true rfl) (by kernel_rfl) rfl ?_
 refine WL.nil (WE.then_normal (WC.sub (fr' := [(2, _), (12, _)]) ?_ ⟨rfl, rfl, trivial⟩))
 refine WC.seq (WC.region ?_)
 refine WL.asB [a0, a1, a2, a3, a4, a5, a6, a7, a8, a9, a10, a11, a12, a13, a14, a15] rfl ?_
 refine WL.q (oq_sliceArr Tryz.underlying137 ty5 rfl rfl rfl (by (first | omega | (simp; done))) (by (first | omega | (simp; done)))) rfl rfl rfl ?_
 refine WL.q (oq_bytesStr (Sl.rd (by (first | omega | (simp; done))) (by (first | omega | (simp; done)))) (.head _) Tryz.underlying9 Tryz.underlying28 Tryz.underlying5 rfl) rfl rfl rfl ?_
 refine WL.q (oq_build #[_, _, _, _] str24 ty24 rfl rfl) rfl rfl rfl ?_
 refine WL.f1 ?_
 refine WL.storeS #[_, _, _, _] ty24 rfl rfl rfl rfl (Nat.le_of_ble_eq_true rfl) rfl rfl ?_
 refine WL.nil (WE.then_normal (WC.sub (fr' := [(2, _)]) ?_ ⟨rfl, trivial⟩))
 refine WC.ret (WE.block_ret (WE.then_ret ?_))
 refine WE.endD0 (.inl rfl) (rs1 Tryz.results33 (rv_cellS [_, _, _, _] agg24 ty24 rfl (.head _) (List.mem_singleton.2 rfl) rfl rfl)) (dr_lose hres (dr_lose hub dr_refl)) ?_
 rfl
theorem l16 {l : List UInt8} (h : l.length = 16) : ∃ a0 a1 a2 a3 a4 a5 a6 a7 a8 a9 a10 a11 a12 a13 a14 a15, l = [a0, a1, a2, a3, a4, a5, a6, a7, a8, a9, a10, a11, a12, a13, a14, a15] := by
 match l, h with
 | [a0, a1, a2, a3, a4, a5, a6, a7, a8, a9, a10, a11, a12, a13, a14, a15], _ => exact ⟨a0, a1, a2, a3, a4, a5, a6, a7, a8, a9, a10, a11, a12, a13, a14, a15, rfl⟩
theorem valueBack {h : HV} {v : Value} {N : Hp} (hv : VBk h v N) : FnR Tryz.prog 33 [v] N (.agg #[I h.kind, I h.width, I h.int, S h.text]) := by
 have z : ∀ {a : Value}, Fn0 Tryz.prog 33 [v] a → FnR Tryz.prog 33 [v] N a := fun hf w hw => by
  refine (hf w).mono ?_
  rintro e w' ⟨he, hst⟩
  exact ⟨he, by have := St.pure (R := N) hw.st hst; simpa using this⟩
 rcases hv with ⟨k, a, b, c, rfl⟩ | ⟨k, a, b, c, rfl⟩ | ⟨k, a, b, c, rfl⟩ | ⟨k, a, b, c, rfl⟩ | ⟨k, a, b, c, rfl⟩ | ⟨k, a, b, s, rfl, c⟩ | ⟨k, a, b, rfl⟩ | ⟨k, a, b, c, rfl⟩ | ⟨k, a, b, c, rfl⟩
 ·have hb := backBoolValue (decide (h.int = 1))
  rw [k, a, b]
  refine z ?_
  rcases c with c | c
  ·rw [c] at hb ⊢; exact hb
  ·rw [c] at hb ⊢; exact hb
 ·rw [k, a, b]; exact z (backInt8Value h.int c)
 ·rw [k, a, b]; exact z (backInt16Value h.int c)
 ·rw [k, a, b]; exact z (backInt32Value h.int c)
 ·rw [k, a, b]; exact z (backInt64Value h.int c)
 ·rw [k, a, b]; exact backBytesValue s N h.text c
 ·rw [k, a, b]; exact z (backStringValue h.text)
 ·rw [k, a, b]; exact z (backTimestampValue h.int c.1 c.2)
 ·rw [k, a, b]
  obtain ⟨a0, a1, a2, a3, a4, a5, a6, a7, a8, a9, a10, a11, a12, a13, a14, a15, hl⟩ := l16 c
  have hb := backUUIDValue a0 a1 a2 a3 a4 a5 a6 a7 a8 a9 a10 a11 a12 a13 a14 a15
  have e : (bytesV h.text).toArray = #[.int .u8 (a0.toNat : Int), .int .u8 (a1.toNat : Int), .int .u8 (a2.toNat : Int), .int .u8 (a3.toNat : Int), .int .u8 (a4.toNat : Int), .int .u8 (a5.toNat : Int), .int .u8 (a6.toNat : Int), .int .u8 (a7.toNat : Int), .int .u8 (a8.toNat : Int), .int .u8 (a9.toNat : Int), .int .u8 (a10.toNat : Int), .int .u8 (a11.toNat : Int), .int .u8 (a12.toNat : Int), .int .u8 (a13.toNat : Int), .int .u8 (a14.toNat : Int), .int .u8 (a15.toNat : Int)] := by rw [hl]; rfl
  rw [e] at z ⊢
  rw [hl]
  exact z hb
theorem headersBack (v : Value) (Z : Hp) (ps : List PV) (l : List HV) (hr : RdS 2 v Z ps.length (recsV PV.row ps)) (hpb : PB l ps Z) (hn : ps.length ≤ 1000000) : FnA Tryz.prog 36 [v] Z (fun w N => RdS 5 w N l.length (recsV HV.row l)) := by
 have hpl := hpb.len
 refine FnA.enter (n := 23) Tryz.func36 rfl rfl fun w0 => ?_
 refine WC.sub (fr' := [(0, _)]) ?_ ⟨rfl, trivial⟩
 refine WC.seq (WC.region ?_)
 refine WL.q (oq_assign rfl) rfl rfl rfl ?_
 refine WL.nil (WE.then_normal (WC.sub (fr' := [(0, _)]) ?_ ⟨rfl, trivial⟩))
 refine WC.seq ?_
 refine WC.add0 ?_
 refine WC.region ?_
 refine WL.q (oq_assign rfl) rfl rfl rfl ?_
 refine WL.nil (WE.then_normal (WC.sub (fr' := [(0, _), (3, _)]) ?_ ⟨rfl, rfl, trivial⟩))
 refine WC.seq (WC.seq (WC.region ?_))
 refine WL.q (oq_move rfl) rfl rfl rfl ?_
 refine WL.q (oq_len_rd hr Tryz.underlying62 rfl) rfl rfl rfl ?_
 refine WL.q (oq_move rfl) rfl rfl rfl ?_
 refine WL.nil (WE.then_normal (WC.sub (fr' := [(3, _), (6, _), (7, _), (8, _)]) ?_ ⟨rfl, rfl, rfl, rfl, trivial⟩))
 refine WC.block ?_
 refine WC.loop (ι := Nat × Value × Hp) (fun i_ => (fun (i : Nat) (u : Value) (B : Hp) => [(3, u), (6, v), (7, I (ps.length : Int)), (8, I (i : Int))]) i_.1 i_.2.1 i_.2.2) (fun i_ => (fun (i : Nat) (u : Value) (B : Hp) => [B, Z]) i_.1 i_.2.1 i_.2.2) (fun i_ => (fun (i : Nat) (u : Value) (B : Hp) => i ≤ l.length ∧ OwS w0.heap.size 32 5 u B i (recsV HV.row (l.take i))) i_.1 i_.2.1 i_.2.2) (fun i_ => (fun (i : Nat) (u : Value) (B : Hp) => l.length - i) i_.1 i_.2.1 i_.2.2) ((0, _, _)) ?_ ⟨rfl, rfl, rfl, rfl, trivial⟩ (List.Perm.refl _) ?_
 ·try dsimp only
  exact ⟨by omega, OwS.nil _ _ _⟩
 ·rintro ⟨i, u, B⟩ hp
  try dsimp only at hp
  obtain ⟨hi, ho⟩ := hp
  show WC _ _ _ _ _ _ ([(3, u), (6, v), (7, I (ps.length : Int)), (8, I (i : Int))]) ([B, Z])
  refine WC.seq (WC.region ?_)
  refine WL.q (oq_lss rfl rfl) rfl rfl rfl ?_
  refine WL.nil (WE.then_normal (WC.sub (fr' := [(3, _), (6, _), (7, _), (8, _), (9, _)]) ?_ ⟨rfl, rfl, rfl, rfl, rfl, trivial⟩))
  refine WC.seq ?_
  refine WC.cond rfl (fun q3 => ?_) (fun q3 => ?_)
  ·
   try simp only [Z1, Z2, Z3, Z4, Z5, Z6, Z7, Z8, Z9, Z0] at q3
   refine WC.skip (WE.then_normal (WC.sub (fr' := [(3, _), (6, _), (7, _), (8, _)]) ?_ ⟨rfl, rfl, rfl, rfl, trivial⟩))
   refine WC.seq (WC.block (WC.seq ?_))
   have hlt : i < l.length := by omega
   obtain ⟨hnm, hvb⟩ := hpb.get i hlt
   refine WC.region ?_
   refine WL.q (oq_ixaddr hr Tryz.underlying62 ty125 rfl rfl (by (first | omega | (simp only [List.length_cons, List.length_nil, List.length_append, List.length_drop, List.length_take]; omega)))) rfl rfl rfl ?_
   refine WL.q (oq_loadEl (f := PV.row) PV0 [_, _] (fun _ => rfl) agg125 ty125 hr (.tail _ (.head _)) rfl (by (first | omega | (simp only [List.length_cons, List.length_nil, List.length_append, List.length_drop, List.length_take]; omega))) (by first | exact Int.toNat_natCast _ | exact rfl) rfl) rfl rfl rfl ?_
   refine WL.alloc ty125 rfl rfl fun pq hpq => ?_
   refine WL.storeS #[_, _] ty125 rfl rfl rfl rfl (Nat.le_of_ble_eq_true rfl) rfl rfl ?_
   refine WL.nil (WE.then_normal (WC.sub (fr' := [(3, _), (5, _), (6, _), (7, _), (8, _)]) ?_ ⟨rfl, rfl, rfl, rfl, rfl, trivial⟩))
   rw [hnm]
   refine WC.gate 7 ([(pq, .cells #[S (l.getD i HV0).name, .iface (ps.getD i PV0).k (ps.getD i PV0).r] 125 (0, 0))]) (by kernel_rfl) ?_
   refine WG.p 0 rfl (.inr (.head _)) (fun w0 => oq_move rfl) rfl rfl rfl ?_
   refine WG.q 1 [6, 2] rfl (.head _) (fun w0 => oq_fieldAddr fld125_0 rfl) rfl rfl rfl ?_
   refine WG.q 2 [6] rfl (.head _) (fun w0 => oq_load flat9 rfl (.head _) (List.mem_singleton.2 rfl) rfl) rfl rfl rfl ?_
   refine WG.q 3 [6, 5, 4] rfl (.head _) (fun w0 => oq_fieldAddr fld125_1 rfl) rfl rfl rfl ?_
   refine WG.q 4 [6, 5] rfl (.head _) (fun w0 => oq_load flat60 rfl (.head _) (List.mem_singleton.2 rfl) rfl) rfl rfl rfl ?_
   refine WG.step (i := 5) (by kernel_rfl) rfl ?_
   refine WL.qc (oq_callRm (valueBack hvb) (.tail _ (.tail _ (.head _))) call33 rfl) rfl rfl rfl ?_
   refine WL.nil ?_
   refine WE.toG (.head _) ?_
   refine WG.q 6 [] rfl (.head _) (fun w0 => oq_build (#[S (l.getD i HV0).name, I (l.getD i HV0).kind, I (l.getD i HV0).width, I (l.getD i HV0).int, S (l.getD i HV0).text]) str32 ty32 rfl (by kernel_rfl)) rfl rfl rfl ?_
   refine WG.step (i := 7) (by kernel_rfl) rfl ?_
   refine WL.buildSS (#[S (l.getD i HV0).name, I (l.getD i HV0).kind, I (l.getD i HV0).width, I (l.getD i HV0).int, S (l.getD i HV0).text]) Tryz.underlying22 ty32 rfl (by decide) (by decide) (by kernel_rfl) (by kernel_rfl) rfl rfl fun v5_7 A5_7 ho5_7 hne5_7 => ?_
   refine WL.nil ?_
   refine WE.toG0 (by kernel_rfl) ?_
   refine WG.step (i := 8) (by kernel_rfl) rfl ?_
   refine WL.f2 ?_
   refine WL.appendS ho Tryz.underlying22 ty32 rfl (by decide) rfl rfl ho5_7.rd (.head _) (oneHV _) (by unfold maxLen; omega) (by omega) rfl rfl fun v5b A5b ho5b hne5b => ?_
   refine WL.nil ?_
   refine WE.toG0 (by kernel_rfl) ?_
   refine WG.p 9 rfl (.inl (by kernel_rfl)) (fun w0 => oq_assign rfl) rfl rfl rfl ?_
   refine WG.done (by kernel_rfl) ?_
   refine WE.block_normal (WE.then_normal (WC.sub (fr' := [(3, _), (6, _), (7, _), (8, _)]) ?_ ⟨rfl, rfl, rfl, rfl, trivial⟩))
   refine WC.region ?_
   refine WL.q (oq_add rfl rfl (by rw [i64_lo, i64_hi]; (first | omega | (simp only [List.length_cons, List.length_nil, List.length_append, List.length_drop, List.length_take]; omega)))) rfl rfl rfl ?_
   refine WL.q (oq_move rfl) rfl rfl rfl ?_
   refine WL.nil ?_
   refine WE.f1 ?_
   refine WE.forget ho5_7.fresh ?_
   refine WE.f1 ?_
   refine WE.lose hpq ?_
   refine WE.again (i + 1, _, _) ?_ ?_ ⟨rfl, rfl, rfl, rfl, trivial⟩ (List.Perm.refl _)
   ·try dsimp only
    exact ⟨by omega, by rw [hv_snoc hlt] at ho5b; exact ho5b⟩
   ·(try dsimp only); omega
  ·
   try simp only [Z1, Z2, Z3, Z4, Z5, Z6, Z7, Z8, Z9, Z0] at q3
   refine WC.exit (WE.then_exit (WE.then_exit (WE.block_same (WE.then_normal (WC.sub (fr' := [(3, _)]) ?_ ⟨rfl, trivial⟩)))))
   refine WC.seq (WC.region ?_)
   refine WL.q (oq_move rfl) rfl rfl rfl ?_
   refine WL.q (oq_assign rfl) rfl rfl rfl ?_
   refine WL.nil (WE.then_normal (WC.sub (fr' := [(2, _)]) ?_ ⟨rfl, trivial⟩))
   refine WC.ret ?_
   refine WE.endA (.inl rfl) (res1 Tryz.results36 rfl) ?_ (ho.fresh)
   obtain rfl : i = l.length := by omega
   exact own_rd5 ho rfl (by rw [List.take_length])
end DL
end Go.Proofs.YtodlhaghdplclaaGreatDoor
/- A message as the caller has it. -/
namespace Go.Proofs.YtodlhaghdplclaaGreatDoor
open Go Go.RowKit V EA EB EC ED EL DC DD DA DE EE EH EI EJ DF DG DH DI EM DJ DK DL
set_option linter.unusedSimpArgs false
set_option linter.unusedVariables false
set_option maxRecDepth 10000
namespace DM
theorem call36 : Callable Tryz.prog 36 := ⟨_, Tryz.func36, rfl, by kernel_rfl⟩
theorem call50 : Callable Tryz.prog 50 := ⟨_, Tryz.func50, rfl, by kernel_rfl⟩
theorem call51 : Callable Tryz.prog 51 := ⟨_, Tryz.func51, rfl, by kernel_rfl⟩
theorem call52 : Callable Tryz.prog 52 := ⟨_, Tryz.func52, rfl, by kernel_rfl⟩
theorem call53 : Callable Tryz.prog 53 := ⟨_, Tryz.func53, rfl, by kernel_rfl⟩
theorem flat2 : Flat Tryz.prog 2 := ⟨_, Tryz.underlying2, by simp⟩
theorem flat28 : Flat Tryz.prog 28 := ⟨_, Tryz.underlying28, by simp⟩
theorem flat62 : Flat Tryz.prog 62 := ⟨_, Tryz.underlying62, by simp⟩
theorem flat99 : Flat Tryz.prog 99 := ⟨_, Tryz.underlying99, by simp⟩
theorem ty2 : Ty Tryz.prog 2 (.int .i64 0) 1 8 := ty_of (by kernel_rfl)
theorem ty28 : Ty Tryz.prog 28 (.slice none 0 0) 1 24 := ty_of (by kernel_rfl)
theorem ty30 : Ty Tryz.prog 30 (.agg #[(.slice none 0 0), (.slice none 0 0)]) 2 48 := ty_of (by kernel_rfl)
theorem ty62 : Ty Tryz.prog 62 (.slice none 0 0) 1 24 := ty_of (by kernel_rfl)
theorem ty109 : Ty Tryz.prog 109 (.agg #[(.slice none 0 0), (.slice none 0 0)]) 2 48 := ty_of (by kernel_rfl)
theorem ty118 : Ty Tryz.prog 118 (.agg #[]) 0 0 := ty_of (by kernel_rfl)
theorem ty120 : Ty Tryz.prog 120 (.agg #[(S []), (.int .i64 0), (.int .i64 0), .nilIface]) 4 48 := ty_of (by kernel_rfl)
theorem ty163 : Ty Tryz.prog 163 (.agg #[(.slice none 0 0), (.int .i64 0), (.int .i64 0)]) 3 40 := ty_of (by kernel_rfl)
theorem ty164 : Ty Tryz.prog 164 (.agg #[]) 0 0 := ty_of (by kernel_rfl)
theorem conc110 : Conc Tryz.prog 110 := ⟨_, Tryz.underlying110, by simp⟩
theorem conc118 : Conc Tryz.prog 118 := ⟨_, Tryz.underlying118, by simp⟩
theorem conc120 : Conc Tryz.prog 120 := ⟨_, Tryz.underlying120, by simp⟩
theorem agg30 : Agg Tryz.prog 30 := agg_of Tryz.underlying30
theorem str30 : Str Tryz.prog 30 #[(0, 1), (1, 1)] := ⟨_, Tryz.underlying30, fun w => by kernel_rfl⟩
theorem str163 : Str Tryz.prog 163 #[(0, 1), (1, 1), (2, 1)] := ⟨_, Tryz.underlying163, fun w => by kernel_rfl⟩
theorem str164 : Str Tryz.prog 164 #[] := ⟨_, Tryz.underlying164, fun w => by kernel_rfl⟩
theorem fld109_0 : Fld Tryz.prog 109 0 0 62 := fld_of Tryz.underlying109 rfl rfl rfl ty62 (by decide)
theorem fld109_1 : Fld Tryz.prog 109 1 1 28 := fld_of Tryz.underlying109 rfl rfl rfl ty28 (by decide)
theorem fld163_0 : Fld Tryz.prog 163 0 0 28 := fld_of Tryz.underlying163 rfl rfl rfl ty28 (by decide)
theorem fld163_1 : Fld Tryz.prog 163 1 1 2 := fld_of Tryz.underlying163 rfl rfl rfl ty2 (by decide)
theorem hob_of {c ob : Nat} {N : Hp} {B : Nat} {H : List Hp} (hN : N ∈ H) (h5 : c = 5 → ∃ cs t, (ob, Obj.cells cs t (0, 0)) ∈ N) (hc : c ≤ 5) (hB : ∀ b o, (b, o) ∈ N → B < b) : c < 5 ∨ ∃ X ∈ H, ∃ cs u, (ob, Obj.cells cs u (0, 0)) ∈ X ∧ ob ≠ B := by
 rcases (show c < 5 ∨ c = 5 by omega) with h | h
 ·exact .inl h
 ·obtain ⟨cs, t, hm⟩ := h5 h
  exact .inr ⟨N, hN, cs, t, hm, by have := hB _ _ hm; omega⟩
theorem put_len : ∀ (l : List HV) (h : HV), (put l h).length ≤ l.length + 1
 | [], _ => Nat.le_refl _
 | x :: l, h => by
  have := put_len l h
  unfold put; split
  ·simp
  ·rw [List.length_cons, List.length_cons]; omega
theorem tk_len : ∀ (f : Nat) (r : List UInt8) (acc l : List HV), (tkF f r acc = .ok l ∨ tkF f r acc = .opn l) → l.length ≤ acc.length + r.length
 | 0, _, _, _, h => by rcases h with h | h <;> cases h
 | f + 1, [], acc, l, h => by
  rcases h with h | h
  ·injection h with h; subst h; simp
  ·cases h
 | f + 1, n :: r, acc, l, h => by
  unfold tkF at h
  split at h
  ·rcases h with h | h
   ·cases h
   ·injection h with h; subst h; simp
  ·split at h
   ·rcases h with h | h <;> cases h
   ·cases hv : val (r.getD n.toNat 0) (r.drop (n.toNat + 1)) with
    | short => rw [hv] at h; rcases h with h | h <;> cases h
    | other => rw [hv] at h; rcases h with h | h <;> cases h
    | ok kd w i t r' =>
     rw [hv] at h
     have h1 := tk_len f r' _ l h
     have h2 := val_len hv
     have h3 := put_len acc ⟨r.take n.toNat, kd, w, i, t⟩
     rw [List.length_drop] at h2
     rw [List.length_cons]; omega
theorem dec_hn (all : List UInt8) : (dec all).2.1.length ≤ all.length := by
 have key : ∀ l, (tk ((all.drop 12).take (head all)) [] = .ok l ∨ tk ((all.drop 12).take (head all)) [] = .opn l) → (tailR all l).2.1.length ≤ all.length := fun l hl => by
  have h1 := tk_len _ _ _ _ hl
  rw [List.length_take, List.length_drop, List.length_nil] at h1
  unfold tailR
  split
  ·exact Nat.zero_le _
  ·split
   ·exact Nat.zero_le _
   ·show l.length ≤ _
    omega
 unfold dec
 split
 ·exact Nat.zero_le _
 split
 ·exact Nat.zero_le _
 split
 ·exact Nat.zero_le _
 split
 ·exact Nat.zero_le _
 split
 ·exact Nat.zero_le _
 cases ht : tk ((all.drop 12).take (head all)) [] with
 | short => exact Nat.zero_le _
 | other => exact Nat.zero_le _
 | ok l => exact key l (.inl ht)
 | opn l => exact key l (.inr ht)
theorem code_end {all : List UInt8} {c : Nat} (hdc : (dec all).1 = codeOf all c) (hc : c = 1) (h0 : all.length = 0) : (dec all).1 = 1 := by
 rw [hdc, hc]; unfold codeOf; rw [if_pos (.inl rfl), if_pos (len_nil.1 h0)]
theorem code_short {all : List UInt8} {c : Nat} (hdc : (dec all).1 = codeOf all c) (hc : c = 1 ∨ c = 2) (h0 : 0 < all.length) : (dec all).1 = 2 := by
 rw [hdc, codeOf_s hc h0]
theorem code_at {all : List UInt8} {c : Nat} (k : Nat) (hdc : (dec all).1 = codeOf all c) (hc : c = k) (h1 : k ≠ 1) (h2 : k ≠ 2) : (dec all).1 = k := by
 rw [hdc, codeOf_o (by omega) (by omega), hc]
def DecR (all : List UInt8) (w : Value) (N : Hp) : Prop := ∃ mv n, w = .tuple #[mv, I ((dec all).1 : Nat), I n] ∧ (∃ hv pv, mv = .agg #[hv, pv] ∧ hv.oneCell' = true ∧ pv.oneCell' = true ∧ ((dec all).1 = 0 → RdS 5 hv N (dec all).2.1.length (recsV HV.row (dec all).2.1) ∧ RdS 1 pv N (dec all).2.2.1.length (bytesV (dec all).2.2.1) ∧ n = ((dec all).2.2.2 : Nat) ∧ (dec all).2.2.2 ≤ all.length))
theorem decR_err {all : List UInt8} {n : Int} {c : Nat} (h : (dec all).1 = c) (h0 : c ≠ 0) : DecR all (.tuple #[.agg #[.slice none 0 0, .slice none 0 0], I (c : Int), I n]) [] := by
 subst h
 exact ⟨_, _, rfl, _, _, rfl, rfl, rfl, fun h => absurd h h0⟩
theorem newReader (p : Option Addr) (n c : Nat) : FnA Tryz.prog 50 [.slice p n c] [] (fun w N => ∃ rb, w = Pt rb 0 ∧ N = RB rb (.slice p n c) 0 (-1)) := by
 refine FnA.enter0 (n := 6) Tryz.func50 rfl rfl fun w0 => ?_
 refine WC.sub (fr' := [(0, _)]) ?_ ⟨rfl, trivial⟩
 refine WC.seq (WC.region ?_)
 refine WL.q (oq_assign rfl) rfl rfl rfl ?_
 refine WL.nil (WE.then_normal (WC.sub (fr' := [(0, _)]) ?_ ⟨rfl, trivial⟩))
 refine WC.seq (WC.region ?_)
 refine WL.q (oq_move rfl) rfl rfl rfl ?_
 refine WL.q (oq_build #[_, _, _] str163 ty163 rfl rfl) rfl rfl rfl ?_
 refine WL.box rfl rfl rfl fun rb hrb => ?_
 refine WL.q (oq_assign rfl) rfl rfl rfl ?_
 refine WL.nil (WE.then_normal (WC.sub (fr' := [(2, _)]) ?_ ⟨rfl, trivial⟩))
 refine WC.ret ?_
 refine WE.endA0 (.inl rfl) (res1 Tryz.results50 rfl) ?_ (fresh1 hrb)
 exact ⟨_, rfl, rfl⟩
theorem newDecoder  : FnA Tryz.prog 51 [] [] (fun w N => ∃ db, w = Pt db 0) := by
 refine FnA.enter0 (n := 3) Tryz.func51 rfl rfl fun w0 => ?_
 refine WC.sub (fr' := []) ?_ trivial
 refine WC.seq (WC.region ?_)
 refine WL.q (oq_assign rfl) rfl rfl rfl ?_
 refine WL.nil (WE.then_normal (WC.sub (fr' := []) ?_ trivial))
 refine WC.seq (WC.region ?_)
 refine WL.q (oq_build (#[]) str164 ty164 rfl (by kernel_rfl)) rfl rfl rfl ?_
 refine WL.box rfl rfl rfl fun db hdb => ?_
 refine WL.q (oq_assign rfl) rfl rfl rfl ?_
 refine WL.nil (WE.then_normal (WC.sub (fr' := [(0, _)]) ?_ ⟨rfl, trivial⟩))
 refine WC.ret ?_
 refine WE.endA0 (.inl rfl) (res1 Tryz.results51 rfl) ?_ (fresh1 hdb)
 exact ⟨_, rfl⟩
theorem rdLen (rb n c i : Nat) (p : Option Addr) (pr : Int) (hi : i ≤ n) (hn : n ≤ 1000000) : FnR Tryz.prog 53 [Pt rb 0] (RB rb (.slice p n c) (i : Nat) pr) (I ((n - i : Nat) : Int)) := by
 refine FnR.enter (n := 23) Tryz.func53 rfl rfl fun w0 => ?_
 refine WC.sub (fr' := [(0, _)]) ?_ ⟨rfl, trivial⟩
 refine WC.seq (WC.region ?_)
 refine WL.q (oq_assign rfl) rfl rfl rfl ?_
 refine WL.nil (WE.then_normal (WC.sub (fr' := [(0, _)]) ?_ ⟨rfl, trivial⟩))
 refine WC.seq (WC.seq (WC.quiet (by kernel_rfl) (by kernel_rfl) ?_))
 refine WQ.q (oq_move rfl) rfl rfl rfl ?_
 refine WQ.q (oq_nilCheck rfl) rfl rfl rfl ?_
 refine WQ.q (oq_fieldAddr fld163_1 rfl) rfl rfl rfl ?_
 refine WQ.q (oq_load flat2 rfl (.head _) (List.mem_singleton.2 rfl) rfl) rfl rfl rfl ?_
 refine WQ.q (oq_move rfl) rfl rfl rfl ?_
 refine WQ.q (oq_nilCheck rfl) rfl rfl rfl ?_
 refine WQ.q (oq_fieldAddr fld163_0 rfl) rfl rfl rfl ?_
 refine WQ.q (oq_load flat28 rfl (.head _) (List.mem_singleton.2 rfl) rfl) rfl rfl rfl ?_
 refine WQ.q (oq_len_sl Tryz.underlying28 rfl) rfl rfl rfl ?_
 refine WQ.q (oq_geq rfl rfl) rfl rfl rfl ?_
 refine WQ.nil (WE.then_normal (WC.sub (fr' := [(0, _), (12, _)]) ?_ ⟨rfl, rfl, trivial⟩))
 refine WC.cond rfl (fun q1 => ?_) (fun q1 => ?_)
 ·
  try simp only [Z1, Z2, Z3, Z4, Z5, Z6, Z7, Z8, Z9, Z0] at q1
  refine WC.seq (WC.region ?_)
  refine WL.q (oq_assign rfl) rfl rfl rfl ?_
  refine WL.nil (WE.then_normal (WC.sub (fr' := [(2, _)]) ?_ ⟨rfl, trivial⟩))
  refine WC.ret (WE.then_ret ?_)
  refine WE.endR (.inl rfl) (res1 Tryz.results53 rfl) ?_
  congr 1; omega
 ·
  try simp only [Z1, Z2, Z3, Z4, Z5, Z6, Z7, Z8, Z9, Z0] at q1
  refine WC.skip (WE.then_normal (WC.sub (fr' := [(0, _)]) ?_ ⟨rfl, trivial⟩))
  refine WC.seq (WC.quiet (by kernel_rfl) (by kernel_rfl) ?_)
  refine WQ.q (oq_move rfl) rfl rfl rfl ?_
  refine WQ.q (oq_nilCheck rfl) rfl rfl rfl ?_
  refine WQ.q (oq_fieldAddr fld163_0 rfl) rfl rfl rfl ?_
  refine WQ.q (oq_load flat28 rfl (.head _) (List.mem_singleton.2 rfl) rfl) rfl rfl rfl ?_
  refine WQ.q (oq_len_sl Tryz.underlying28 rfl) rfl rfl rfl ?_
  refine WQ.q (oq_move rfl) rfl rfl rfl ?_
  refine WQ.q (oq_nilCheck rfl) rfl rfl rfl ?_
  refine WQ.q (oq_fieldAddr fld163_1 rfl) rfl rfl rfl ?_
  refine WQ.q (oq_load flat2 rfl (.head _) (List.mem_singleton.2 rfl) rfl) rfl rfl rfl ?_
  refine WQ.q (oq_sub rfl rfl (by rw [i64_lo, i64_hi]; (first | omega | (simp only [List.length_cons, List.length_nil, List.length_append, List.length_drop, List.length_take]; omega)))) rfl rfl rfl ?_
  refine WQ.q (oq_assign rfl) rfl rfl rfl ?_
  refine WQ.nil (WE.then_normal (WC.sub (fr' := [(2, _)]) ?_ ⟨rfl, trivial⟩))
  refine WC.ret ?_
  refine WE.endR (.inl rfl) (res1 Tryz.results53 rfl) ?_
  congr 1; omega
theorem vDecode (A : Hp) (kE : TypeId) (pE pU : Addr) (hS : Sn A kE pE pU) (pp : Option Addr) (pc : Nat) (all : List UInt8) (hrd : RdS 1 (.slice pp all.length pc) A all.length (bytesV all)) (hrs : all.length ≤ 900000) (hwf : preC all = 0 → 16 + head all ≤ totl all) : FnA Tryz.prog 27 [.slice pp all.length pc] A (DecR all) := by
 refine FnA.enterH (n := 64) Tryz.func27 rfl rfl fun w0 hw0 => ?_
 obtain ⟨tE, fE, hEm⟩ := hS.eof
 obtain ⟨tU, fU, hUm⟩ := hS.uex
 obtain ⟨cE, uE, hbE⟩ := hS.bE
 obtain ⟨cU, uU, hbU⟩ := hS.bU
 have hpE := hw0.lt hbE
 have hpU := hw0.lt hbU
 refine WC.sub (fr' := [(0, _)]) ?_ ⟨rfl, trivial⟩
 refine WC.seq (WC.region ?_)
 refine WL.alloc ty30 rfl rfl fun res hres => ?_
 refine WL.q (oq_assign rfl) rfl rfl rfl ?_
 refine WL.q (oq_assign rfl) rfl rfl rfl ?_
 refine WL.nil (WE.then_normal (WC.sub (fr' := [(0, _), (2, _)]) ?_ ⟨rfl, rfl, trivial⟩))
 refine WC.seq (WC.region ?_)
 refine WL.q (oq_move rfl) rfl rfl rfl ?_
 refine WL.callA0 (newReader _ _ _) call50 rfl rfl rfl fun v1_1 N1_1 hR1_1 hN1_1 => ?_
 obtain ⟨rb, rfl, rfl⟩ := hR1_1
 have hrb := hN1_1 _ _ (List.mem_singleton.2 rfl)
 refine WL.q (oq_assign rfl) rfl rfl rfl ?_
 refine WL.nil (WE.then_normal (WC.sub (fr' := [(0, _), (2, _), (5, _)]) ?_ ⟨rfl, rfl, rfl, trivial⟩))
 refine WC.seq (WC.region ?_)
 refine WL.callA0 (newDecoder) call51 rfl rfl rfl fun v2_0 N2_0 hR2_0 hN2_0 => ?_
 obtain ⟨db, rfl⟩ := hR2_0
 refine WL.q (oq_move rfl) rfl rfl rfl ?_
 refine WL.q (oq_makeI conc110 rfl) rfl rfl rfl ?_
 refine WL.f3 ?_
 refine WL.f2 ?_
 refine WL.callW2 (decodeM _ A kE pE pU hS _ _ _ _ (brRr _ rb (.slice pp all.length pc) A all hrd (by omega) kE pE pU hS) all _ ⟨[], -1, rfl, rfl⟩ hrs hwf (Pt db 0)) call52 rfl rfl rfl fun v2_3 Hs2_3 hR2_3 => ?_
 obtain ⟨X2, N2_3, mv, c, ob, rz, rfl, rfl, hN, hX2, hlt, hdc, h5, h2a, hc5, hv, pv, rfl, o1, o2, hok⟩ := hR2_3
 obtain ⟨dn, pr2, hall, rfl⟩ := hX2
 have hlen : all.length = dn.length + rz.length := by rw [hall, List.length_append]
 have hNE : ∀ b o, (b, o) ∈ N2_3 → pE.block < b := fun b o hb => by have := hN b o hb; omega
 have hNU : ∀ b o, (b, o) ∈ N2_3 → pU.block < b := fun b o hb => by have := hN b o hb; omega
 refine WL.to3 ?_
 refine WL.q (oq_move rfl) rfl rfl rfl ?_
 refine WL.q (oq_extract rfl rfl) rfl rfl rfl ?_
 refine WL.q (oq_extract rfl rfl) rfl rfl rfl ?_
 refine WL.alloc ty109 rfl rfl fun m2 hm2 => ?_
 refine WL.storeS (#[hv, pv]) ty109 rfl rfl rfl (by simp [Value.cells, o1, o2]) (Nat.le_of_ble_eq_true rfl) rfl rfl ?_
 refine WL.q (oq_assign rfl) rfl rfl rfl ?_
 refine WL.nil (WE.then_normal (WC.sub (fr' := [(0, _), (2, _), (5, _), (6, _), (7, _)]) ?_ ⟨rfl, rfl, rfl, rfl, rfl, trivial⟩))
 refine WC.seq (WC.region ?_)
 refine WL.q (oq_move rfl) rfl rfl rfl ?_
 refine WL.q (oq_len_sl Tryz.underlying28 rfl) rfl rfl rfl ?_
 refine WL.q (oq_move rfl) rfl rfl rfl ?_
 refine WL.qc (oq_callRm (rdLen rb all.length pc dn.length pp pr2 (by omega) (by omega)) (.tail _ (.head _)) call53 rfl) rfl rfl rfl ?_
 refine WL.q (oq_sub rfl rfl (by rw [i64_lo, i64_hi]; (first | omega | (simp only [List.length_cons, List.length_nil, List.length_append, List.length_drop, List.length_take]; omega)))) rfl rfl rfl ?_
 refine WL.q (oq_assign rfl) rfl rfl rfl ?_
 refine WL.nil (WE.then_normal (WC.sub (fr' := [(2, _), (6, _), (7, _), (8, _)]) ?_ ⟨rfl, rfl, rfl, rfl, trivial⟩))
 refine WC.seq (WC.seq (WC.region ?_))
 refine WL.q (oq_move rfl) rfl rfl rfl ?_
 refine WL.q (oq_ieql Tryz.underlying99 rfl (erv_or _ _ _ _ _)) rfl rfl rfl ?_
 refine WL.nil (WE.then_normal (WC.sub (fr' := [(2, _), (6, _), (7, _), (8, _), (24, _)]) ?_ ⟨rfl, rfl, rfl, rfl, rfl, trivial⟩))
 refine WC.cond rfl (fun q4 => ?_) (fun q4 => ?_)
 ·
  try simp only [Z1, Z2, Z3, Z4, Z5, Z6, Z7, Z8, Z9, Z0] at q4
  refine WC.seq ?_
  have hc0 := erv0 q4
  obtain ⟨⟨ps, hrp, hpb⟩, hpl, hrz, hnl⟩ := hok hc0
  have hpn : ps.length ≤ 1000000 := by rw [hpb.len]; have := dec_hn all; omega
  obtain ⟨pp5, pc5, rfl⟩ := hpl.shape
  refine WC.gate 7 ([(m2, .cells #[hv, .slice pp5 (dec all).2.2.1.length pc5] 109 (0, 0))]) (by kernel_rfl) ?_
  refine WG.q 0 [] rfl (.head _) (fun w0 => oq_fieldAddr fld109_0 rfl) rfl rfl rfl ?_
  refine WG.q 1 [] rfl (.head _) (fun w0 => oq_load flat62 rfl (.head _) (List.mem_singleton.2 rfl) rfl) rfl rfl rfl ?_
  refine WG.q 3 [] rfl (.head _) (fun w0 => oq_fieldAddr fld109_1 rfl) rfl rfl rfl ?_
  refine WG.q 4 [] rfl (.head _) (fun w0 => oq_load flat28 rfl (.head _) (List.mem_singleton.2 rfl) rfl) rfl rfl rfl ?_
  refine WG.p 6 rfl (.inr (.head _)) (fun w0 => oq_move rfl) rfl rfl rfl ?_
  refine WG.step (i := 2) (by kernel_rfl) rfl ?_
  refine WL.f2 ?_
  refine WL.callA (headersBack hv N2_3 ps (dec all).2.1 hrp hpb hpn) call36 rfl rfl rfl fun v5_2 N5_2 hR5_2 hN5_2 => ?_
  obtain ⟨hp5, hcc5, rfl⟩ := hR5_2.shape
  refine WL.nil ?_
  refine WE.toG (.tail _ (.tail _ (.head _))) ?_
  refine WG.q 5 [] rfl (.tail _ (.tail _ (.head _))) (fun w0 => oq_build #[_, _] str30 ty30 rfl rfl) rfl rfl rfl ?_
  refine WG.step (i := 7) (by kernel_rfl) rfl ?_
  refine WL.f6 ?_
  refine WL.storeS #[_, _] ty30 rfl rfl rfl rfl (Nat.le_of_ble_eq_true rfl) rfl rfl ?_
  refine WL.nil ?_
  refine WE.toG0 (by kernel_rfl) ?_
  refine WG.p 8 rfl (.inl (by kernel_rfl)) (fun w0 => oq_assign rfl) rfl rfl rfl ?_
  refine WG.p 9 rfl (.inl (by kernel_rfl)) (fun w0 => oq_assign rfl) rfl rfl rfl ?_
  refine WG.done (by kernel_rfl) ?_
  refine WE.then_normal (WC.sub (fr' := [(2, _), (3, _), (4, _)]) ?_ ⟨rfl, rfl, rfl, trivial⟩)
  refine WC.ret (WE.then_ret ?_)
  refine WE.endDA (.inl rfl) (rs3 Tryz.results27 (rv_cellS [_, _] agg30 ty30 rfl (.head _) (List.mem_singleton.2 rfl) rfl rfl) (rv_tmp rfl) (rv_tmp rfl)) (dr_lose hres (dr_f2 (dr_lose hm2 (dr_f2 (dr_lose hrb (dr_f3 (dr_forget hN2_0 (dr_cat dr_refl)))))))) (fresh_cat (hN5_2) (hN)) ?_
  have hd0 : (dec all).1 = 0 := code_at 0 hdc hc0 (by decide) (by decide)
  refine ⟨_, _, by rw [hd0]; rfl, _, _, rfl, rfl, rfl, fun _ => ⟨hR5_2.weaken (fun x hx => List.mem_append_left _ hx), hpl.weaken (fun x hx => List.mem_append_right _ hx), ?_, hnl⟩⟩
  rw [hrz, List.length_drop] at hlen
  congr 1; omega
 ·
  try simp only [Z1, Z2, Z3, Z4, Z5, Z6, Z7, Z8, Z9, Z0] at q4
  refine WC.skip (WE.then_normal (WC.sub (fr' := [(2, _), (7, _), (8, _)]) ?_ ⟨rfl, rfl, rfl, trivial⟩))
  refine WC.seq (WC.seq ?_)
  have hcn := ervN q4
  refine WC.region ?_
  refine WL.q (oq_move rfl) rfl rfl rfl ?_
  refine WL.q (oq_load flat99 rfl (.tail _ (.tail _ (.tail _ (.head _)))) hEm rfl) rfl rfl rfl ?_
  refine WL.q (oq_erE hS (by repeat (first | exact .head _ | apply List.Mem.tail)) (hob_of (N := N2_3) (by repeat (first | exact .head _ | apply List.Mem.tail)) h5 hc5 hNE) Tryz.underlying99 rfl rfl) rfl rfl rfl ?_
  refine WL.q (oq_move rfl) rfl rfl rfl ?_
  refine WL.split 35 rfl (fun s6_3 => ?_) (fun s6_3 => ?_)
  ·
   try simp only [Z1, Z2, Z3, Z4, Z5, Z6, Z7, Z8, Z9, Z0] at s6_3
   refine WL.q (oq_move rfl) rfl rfl rfl ?_
   refine WL.q (oq_eql rfl rfl) rfl rfl rfl ?_
   refine WL.q (oq_pick_t rfl rfl) rfl rfl rfl ?_
   refine WL.nil (WE.then_normal (WC.sub (fr' := [(2, _), (7, _), (8, _), (38, _)]) ?_ ⟨rfl, rfl, rfl, rfl, trivial⟩))
   refine WC.cond rfl (fun q6 => ?_) (fun q6 => ?_)
   ·
    try simp only [Z1, Z2, Z3, Z4, Z5, Z6, Z7, Z8, Z9, Z0] at q6
    refine WC.seq (WC.region ?_)
    refine WL.q (oq_build #[_, _] str30 ty30 rfl rfl) rfl rfl rfl ?_
    refine WL.q (oq_move rfl) rfl rfl rfl ?_
    refine WL.f5 ?_
    refine WL.storeS #[_, _] ty30 rfl rfl rfl rfl (Nat.le_of_ble_eq_true rfl) rfl rfl ?_
    refine WL.q (oq_assign rfl) rfl rfl rfl ?_
    refine WL.q (oq_assign rfl) rfl rfl rfl ?_
    refine WL.nil (WE.then_normal (WC.sub (fr' := [(2, _), (3, _), (4, _)]) ?_ ⟨rfl, rfl, rfl, trivial⟩))
    refine WC.ret (WE.then_ret ?_)
    refine WE.endDA (.inl rfl) (rs3 Tryz.results27 (rv_cellS [_, _] agg30 ty30 rfl (.head _) (List.mem_singleton.2 rfl) rfl rfl) (rv_tmp rfl) (rv_tmp rfl)) (dr_lose hres (dr_lose hm2 (dr_lose hrb (dr_forget hN (dr_f1 (dr_forget hN2_0 (dr_add0 dr_refl))))))) fresh0 ?_
    first | (exact decR_err (c := 1) (code_end hdc (by omega) (by omega)) (by decide)) | (exact decR_err (c := 2) (code_short hdc (by omega) (by first | omega | exact h2a (by omega))) (by decide)) | (exact decR_err (c := 3) (code_at 3 hdc (by omega) (by decide) (by decide)) (by decide)) | (exact decR_err (c := 4) (code_at 4 hdc (by omega) (by decide) (by decide)) (by decide)) | (exact decR_err (c := 5) (code_at 5 hdc (by omega) (by decide) (by decide)) (by decide)) | (exfalso; omega) | (exfalso; simp_all; done)
   ·
    try simp only [Z1, Z2, Z3, Z4, Z5, Z6, Z7, Z8, Z9, Z0] at q6
    refine WC.skip (WE.then_normal (WC.sub (fr' := [(2, _), (7, _), (8, _)]) ?_ ⟨rfl, rfl, rfl, trivial⟩))
    refine WC.seq (WC.seq (WC.region ?_))
    refine WL.q (oq_move rfl) rfl rfl rfl ?_
    refine WL.q (oq_load flat99 rfl (.tail _ (.tail _ (.tail _ (.head _)))) hEm rfl) rfl rfl rfl ?_
    refine WL.q (oq_erE hS (by repeat (first | exact .head _ | apply List.Mem.tail)) (hob_of (N := N2_3) (by repeat (first | exact .head _ | apply List.Mem.tail)) h5 hc5 hNE) Tryz.underlying99 rfl rfl) rfl rfl rfl ?_
    refine WL.q (oq_move rfl) rfl rfl rfl ?_
    refine WL.split 44 rfl (fun s8_3 => ?_) (fun s8_3 => ?_)
    ·
     try simp only [Z1, Z2, Z3, Z4, Z5, Z6, Z7, Z8, Z9, Z0] at s8_3
     refine WL.skip rfl rfl rfl ?_
     refine WL.skip rfl rfl rfl ?_
     refine WL.skip rfl rfl rfl ?_
     refine WL.q (oq_pick_t rfl rfl) rfl rfl rfl ?_
     refine WL.nil (WE.then_normal (WC.sub (fr' := [(2, _), (7, _), (8, _), (48, _)]) ?_ ⟨rfl, rfl, rfl, rfl, trivial⟩))
     refine WC.cond_t rfl ?_
     refine WC.seq (WC.region ?_)
     refine WL.q (oq_build #[_, _] str30 ty30 rfl rfl) rfl rfl rfl ?_
     refine WL.q (oq_move rfl) rfl rfl rfl ?_
     refine WL.f5 ?_
     refine WL.storeS #[_, _] ty30 rfl rfl rfl rfl (Nat.le_of_ble_eq_true rfl) rfl rfl ?_
     refine WL.q (oq_assign rfl) rfl rfl rfl ?_
     refine WL.q (oq_assign rfl) rfl rfl rfl ?_
     refine WL.nil (WE.then_normal (WC.sub (fr' := [(2, _), (3, _), (4, _)]) ?_ ⟨rfl, rfl, rfl, trivial⟩))
     refine WC.ret (WE.then_ret ?_)
     refine WE.endDA (.inl rfl) (rs3 Tryz.results27 (rv_cellS [_, _] agg30 ty30 rfl (.head _) (List.mem_singleton.2 rfl) rfl rfl) (rv_tmp rfl) (rv_tmp rfl)) (dr_lose hres (dr_lose hm2 (dr_lose hrb (dr_forget hN (dr_f1 (dr_forget hN2_0 (dr_add0 dr_refl))))))) fresh0 ?_
     first | (exact decR_err (c := 1) (code_end hdc (by omega) (by omega)) (by decide)) | (exact decR_err (c := 2) (code_short hdc (by omega) (by first | omega | exact h2a (by omega))) (by decide)) | (exact decR_err (c := 3) (code_at 3 hdc (by omega) (by decide) (by decide)) (by decide)) | (exact decR_err (c := 4) (code_at 4 hdc (by omega) (by decide) (by decide)) (by decide)) | (exact decR_err (c := 5) (code_at 5 hdc (by omega) (by decide) (by decide)) (by decide)) | (exfalso; omega) | (exfalso; simp_all; done)
    ·
     try simp only [Z1, Z2, Z3, Z4, Z5, Z6, Z7, Z8, Z9, Z0] at s8_3
     refine WL.q (oq_move rfl) rfl rfl rfl ?_
     refine WL.q (oq_load flat99 rfl (.tail _ (.tail _ (.tail _ (.head _)))) hUm rfl) rfl rfl rfl ?_
     refine WL.q (oq_erU hS (by repeat (first | exact .head _ | apply List.Mem.tail)) (hob_of (N := N2_3) (by repeat (first | exact .head _ | apply List.Mem.tail)) h5 hc5 hNU) Tryz.underlying99 rfl rfl) rfl rfl rfl ?_
     refine WL.q (oq_pick_f rfl rfl) rfl rfl rfl ?_
     refine WL.nil (WE.then_normal (WC.sub (fr' := [(2, _), (7, _), (8, _), (48, _)]) ?_ ⟨rfl, rfl, rfl, rfl, trivial⟩))
     refine WC.cond rfl (fun q8 => ?_) (fun q8 => ?_)
     ·
      try simp only [Z1, Z2, Z3, Z4, Z5, Z6, Z7, Z8, Z9, Z0] at q8
      refine WC.seq (WC.region ?_)
      refine WL.q (oq_build #[_, _] str30 ty30 rfl rfl) rfl rfl rfl ?_
      refine WL.q (oq_move rfl) rfl rfl rfl ?_
      refine WL.f5 ?_
      refine WL.storeS #[_, _] ty30 rfl rfl rfl rfl (Nat.le_of_ble_eq_true rfl) rfl rfl ?_
      refine WL.q (oq_assign rfl) rfl rfl rfl ?_
      refine WL.q (oq_assign rfl) rfl rfl rfl ?_
      refine WL.nil (WE.then_normal (WC.sub (fr' := [(2, _), (3, _), (4, _)]) ?_ ⟨rfl, rfl, rfl, trivial⟩))
      refine WC.ret (WE.then_ret ?_)
      refine WE.endDA (.inl rfl) (rs3 Tryz.results27 (rv_cellS [_, _] agg30 ty30 rfl (.head _) (List.mem_singleton.2 rfl) rfl rfl) (rv_tmp rfl) (rv_tmp rfl)) (dr_lose hres (dr_lose hm2 (dr_lose hrb (dr_forget hN (dr_f1 (dr_forget hN2_0 (dr_add0 dr_refl))))))) fresh0 ?_
      first | (exact decR_err (c := 1) (code_end hdc (by omega) (by omega)) (by decide)) | (exact decR_err (c := 2) (code_short hdc (by omega) (by first | omega | exact h2a (by omega))) (by decide)) | (exact decR_err (c := 3) (code_at 3 hdc (by omega) (by decide) (by decide)) (by decide)) | (exact decR_err (c := 4) (code_at 4 hdc (by omega) (by decide) (by decide)) (by decide)) | (exact decR_err (c := 5) (code_at 5 hdc (by omega) (by decide) (by decide)) (by decide)) | (exfalso; omega) | (exfalso; simp_all; done)
     ·
      try simp only [Z1, Z2, Z3, Z4, Z5, Z6, Z7, Z8, Z9, Z0] at q8
      refine WC.skip (WE.then_normal (WC.sub (fr' := [(2, _), (7, _), (8, _)]) ?_ ⟨rfl, rfl, rfl, trivial⟩))
      refine WC.seq (WC.seq (WC.region ?_))
      refine WL.q (oq_move rfl) rfl rfl rfl ?_
      refine WL.nil (WE.then_normal (WC.sub (fr' := [(2, _), (8, _), (51, _)]) ?_ ⟨rfl, rfl, rfl, trivial⟩))
      refine WC.block (WC.seq (WC.region ?_))
      refine WL.q (oq_askC3 hS.kd conc118 ty118 rfl) rfl rfl rfl ?_
      refine WL.q (oq_extract rfl rfl) rfl rfl rfl ?_
      refine WL.q (oq_extract rfl rfl) rfl rfl rfl ?_
      refine WL.nil (WE.then_normal (WC.sub (fr' := [(2, _), (8, _), (51, _), (53, _)]) ?_ ⟨rfl, rfl, rfl, rfl, trivial⟩))
      refine WC.cond rfl (fun q11 => ?_) (fun q11 => ?_)
      ·
       try simp only [Z1, Z2, Z3, Z4, Z5, Z6, Z7, Z8, Z9, Z0] at q11
       refine WC.seq (WC.region ?_)
       refine WL.q (oq_build #[_, _] str30 ty30 rfl rfl) rfl rfl rfl ?_
       refine WL.q (oq_move rfl) rfl rfl rfl ?_
       refine WL.f5 ?_
       refine WL.storeS #[_, _] ty30 rfl rfl rfl rfl (Nat.le_of_ble_eq_true rfl) rfl rfl ?_
       refine WL.q (oq_assign rfl) rfl rfl rfl ?_
       refine WL.q (oq_assign rfl) rfl rfl rfl ?_
       refine WL.nil (WE.then_normal (WC.sub (fr' := [(2, _), (3, _), (4, _)]) ?_ ⟨rfl, rfl, rfl, trivial⟩))
       refine WC.ret (WE.block_ret (WE.then_ret ?_))
       refine WE.endDA (.inl rfl) (rs3 Tryz.results27 (rv_cellS [_, _] agg30 ty30 rfl (.head _) (List.mem_singleton.2 rfl) rfl rfl) (rv_tmp rfl) (rv_tmp rfl)) (dr_lose hres (dr_lose hm2 (dr_lose hrb (dr_forget hN (dr_f1 (dr_forget hN2_0 (dr_add0 dr_refl))))))) fresh0 ?_
       first | (exact decR_err (c := 1) (code_end hdc (by omega) (by omega)) (by decide)) | (exact decR_err (c := 2) (code_short hdc (by omega) (by first | omega | exact h2a (by omega))) (by decide)) | (exact decR_err (c := 3) (code_at 3 hdc (by omega) (by decide) (by decide)) (by decide)) | (exact decR_err (c := 4) (code_at 4 hdc (by omega) (by decide) (by decide)) (by decide)) | (exact decR_err (c := 5) (code_at 5 hdc (by omega) (by decide) (by decide)) (by decide)) | (exfalso; omega) | (exfalso; simp_all; done)
      ·
       try simp only [Z1, Z2, Z3, Z4, Z5, Z6, Z7, Z8, Z9, Z0] at q11
       refine WC.seq (WC.region ?_)
       refine WL.q (oq_askC4 hS.kd conc120 ty120 rfl) rfl rfl rfl ?_
       refine WL.q (oq_extract rfl rfl) rfl rfl rfl ?_
       refine WL.q (oq_extract rfl rfl) rfl rfl rfl ?_
       refine WL.nil (WE.then_normal (WC.sub (fr' := [(2, _), (8, _), (58, _)]) ?_ ⟨rfl, rfl, rfl, trivial⟩))
       refine WC.cond rfl (fun q13 => ?_) (fun q13 => ?_)
       ·
        try simp only [Z1, Z2, Z3, Z4, Z5, Z6, Z7, Z8, Z9, Z0] at q13
        refine WC.seq (WC.region ?_)
        refine WL.q (oq_build #[_, _] str30 ty30 rfl rfl) rfl rfl rfl ?_
        refine WL.q (oq_move rfl) rfl rfl rfl ?_
        refine WL.f5 ?_
        refine WL.storeS #[_, _] ty30 rfl rfl rfl rfl (Nat.le_of_ble_eq_true rfl) rfl rfl ?_
        refine WL.q (oq_assign rfl) rfl rfl rfl ?_
        refine WL.q (oq_assign rfl) rfl rfl rfl ?_
        refine WL.nil (WE.then_normal (WC.sub (fr' := [(2, _), (3, _), (4, _)]) ?_ ⟨rfl, rfl, rfl, trivial⟩))
        refine WC.ret (WE.block_ret (WE.then_ret ?_))
        refine WE.endDA (.inl rfl) (rs3 Tryz.results27 (rv_cellS [_, _] agg30 ty30 rfl (.head _) (List.mem_singleton.2 rfl) rfl rfl) (rv_tmp rfl) (rv_tmp rfl)) (dr_lose hres (dr_lose hm2 (dr_lose hrb (dr_forget hN (dr_f1 (dr_forget hN2_0 (dr_add0 dr_refl))))))) fresh0 ?_
        first | (exact decR_err (c := 1) (code_end hdc (by omega) (by omega)) (by decide)) | (exact decR_err (c := 2) (code_short hdc (by omega) (by first | omega | exact h2a (by omega))) (by decide)) | (exact decR_err (c := 3) (code_at 3 hdc (by omega) (by decide) (by decide)) (by decide)) | (exact decR_err (c := 4) (code_at 4 hdc (by omega) (by decide) (by decide)) (by decide)) | (exact decR_err (c := 5) (code_at 5 hdc (by omega) (by decide) (by decide)) (by decide)) | (exfalso; omega) | (exfalso; simp_all; done)
       ·
        try simp only [Z1, Z2, Z3, Z4, Z5, Z6, Z7, Z8, Z9, Z0] at q13
        refine WC.skip (WE.block_normal (WE.then_normal (WC.sub (fr' := [(2, _), (8, _)]) ?_ ⟨rfl, rfl, trivial⟩)))
        refine WC.seq (WC.region ?_)
        refine WL.q (oq_build #[_, _] str30 ty30 rfl rfl) rfl rfl rfl ?_
        refine WL.q (oq_move rfl) rfl rfl rfl ?_
        refine WL.f5 ?_
        refine WL.storeS #[_, _] ty30 rfl rfl rfl rfl (Nat.le_of_ble_eq_true rfl) rfl rfl ?_
        refine WL.q (oq_assign rfl) rfl rfl rfl ?_
        refine WL.q (oq_assign rfl) rfl rfl rfl ?_
        refine WL.nil (WE.then_normal (WC.sub (fr' := [(2, _), (3, _), (4, _)]) ?_ ⟨rfl, rfl, rfl, trivial⟩))
        refine WC.ret ?_
        refine WE.endDA (.inl rfl) (rs3 Tryz.results27 (rv_cellS [_, _] agg30 ty30 rfl (.head _) (List.mem_singleton.2 rfl) rfl rfl) (rv_tmp rfl) (rv_tmp rfl)) (dr_lose hres (dr_lose hm2 (dr_lose hrb (dr_forget hN (dr_f1 (dr_forget hN2_0 (dr_add0 dr_refl))))))) fresh0 ?_
        first | (exact decR_err (c := 1) (code_end hdc (by omega) (by omega)) (by decide)) | (exact decR_err (c := 2) (code_short hdc (by omega) (by first | omega | exact h2a (by omega))) (by decide)) | (exact decR_err (c := 3) (code_at 3 hdc (by omega) (by decide) (by decide)) (by decide)) | (exact decR_err (c := 4) (code_at 4 hdc (by omega) (by decide) (by decide)) (by decide)) | (exact decR_err (c := 5) (code_at 5 hdc (by omega) (by decide) (by decide)) (by decide)) | (exfalso; omega) | (exfalso; simp_all; done)
  ·
   try simp only [Z1, Z2, Z3, Z4, Z5, Z6, Z7, Z8, Z9, Z0] at s6_3
   refine WL.skip rfl rfl rfl ?_
   refine WL.skip rfl rfl rfl ?_
   refine WL.q (oq_pick_f rfl rfl) rfl rfl rfl ?_
   refine WL.nil (WE.then_normal (WC.sub (fr' := [(2, _), (7, _), (8, _), (38, _)]) ?_ ⟨rfl, rfl, rfl, rfl, trivial⟩))
   refine WC.cond_f rfl ?_
   refine WC.skip (WE.then_normal (WC.sub (fr' := [(2, _), (7, _), (8, _)]) ?_ ⟨rfl, rfl, rfl, trivial⟩))
   refine WC.seq (WC.seq (WC.region ?_))
   refine WL.q (oq_move rfl) rfl rfl rfl ?_
   refine WL.q (oq_load flat99 rfl (.tail _ (.tail _ (.tail _ (.head _)))) hEm rfl) rfl rfl rfl ?_
   refine WL.q (oq_erE hS (by repeat (first | exact .head _ | apply List.Mem.tail)) (hob_of (N := N2_3) (by repeat (first | exact .head _ | apply List.Mem.tail)) h5 hc5 hNE) Tryz.underlying99 rfl rfl) rfl rfl rfl ?_
   refine WL.q (oq_move rfl) rfl rfl rfl ?_
   refine WL.split 44 rfl (fun s8_3 => ?_) (fun s8_3 => ?_)
   ·
    try simp only [Z1, Z2, Z3, Z4, Z5, Z6, Z7, Z8, Z9, Z0] at s8_3
    refine WL.skip rfl rfl rfl ?_
    refine WL.skip rfl rfl rfl ?_
    refine WL.skip rfl rfl rfl ?_
    refine WL.q (oq_pick_t rfl rfl) rfl rfl rfl ?_
    refine WL.nil (WE.then_normal (WC.sub (fr' := [(2, _), (7, _), (8, _), (48, _)]) ?_ ⟨rfl, rfl, rfl, rfl, trivial⟩))
    refine WC.cond_t rfl ?_
    refine WC.seq (WC.region ?_)
    refine WL.q (oq_build #[_, _] str30 ty30 rfl rfl) rfl rfl rfl ?_
    refine WL.q (oq_move rfl) rfl rfl rfl ?_
    refine WL.f5 ?_
    refine WL.storeS #[_, _] ty30 rfl rfl rfl rfl (Nat.le_of_ble_eq_true rfl) rfl rfl ?_
    refine WL.q (oq_assign rfl) rfl rfl rfl ?_
    refine WL.q (oq_assign rfl) rfl rfl rfl ?_
    refine WL.nil (WE.then_normal (WC.sub (fr' := [(2, _), (3, _), (4, _)]) ?_ ⟨rfl, rfl, rfl, trivial⟩))
    refine WC.ret (WE.then_ret ?_)
    refine WE.endDA (.inl rfl) (rs3 Tryz.results27 (rv_cellS [_, _] agg30 ty30 rfl (.head _) (List.mem_singleton.2 rfl) rfl rfl) (rv_tmp rfl) (rv_tmp rfl)) (dr_lose hres (dr_lose hm2 (dr_lose hrb (dr_forget hN (dr_f1 (dr_forget hN2_0 (dr_add0 dr_refl))))))) fresh0 ?_
    first | (exact decR_err (c := 1) (code_end hdc (by omega) (by omega)) (by decide)) | (exact decR_err (c := 2) (code_short hdc (by omega) (by first | omega | exact h2a (by omega))) (by decide)) | (exact decR_err (c := 3) (code_at 3 hdc (by omega) (by decide) (by decide)) (by decide)) | (exact decR_err (c := 4) (code_at 4 hdc (by omega) (by decide) (by decide)) (by decide)) | (exact decR_err (c := 5) (code_at 5 hdc (by omega) (by decide) (by decide)) (by decide)) | (exfalso; omega) | (exfalso; simp_all; done)
   ·
    try simp only [Z1, Z2, Z3, Z4, Z5, Z6, Z7, Z8, Z9, Z0] at s8_3
    refine WL.q (oq_move rfl) rfl rfl rfl ?_
    refine WL.q (oq_load flat99 rfl (.tail _ (.tail _ (.tail _ (.head _)))) hUm rfl) rfl rfl rfl ?_
    refine WL.q (oq_erU hS (by repeat (first | exact .head _ | apply List.Mem.tail)) (hob_of (N := N2_3) (by repeat (first | exact .head _ | apply List.Mem.tail)) h5 hc5 hNU) Tryz.underlying99 rfl rfl) rfl rfl rfl ?_
    refine WL.q (oq_pick_f rfl rfl) rfl rfl rfl ?_
    refine WL.nil (WE.then_normal (WC.sub (fr' := [(2, _), (7, _), (8, _), (48, _)]) ?_ ⟨rfl, rfl, rfl, rfl, trivial⟩))
    refine WC.cond rfl (fun q8 => ?_) (fun q8 => ?_)
    ·
     try simp only [Z1, Z2, Z3, Z4, Z5, Z6, Z7, Z8, Z9, Z0] at q8
     refine WC.seq (WC.region ?_)
     refine WL.q (oq_build #[_, _] str30 ty30 rfl rfl) rfl rfl rfl ?_
     refine WL.q (oq_move rfl) rfl rfl rfl ?_
     refine WL.f5 ?_
     refine WL.storeS #[_, _] ty30 rfl rfl rfl rfl (Nat.le_of_ble_eq_true rfl) rfl rfl ?_
     refine WL.q (oq_assign rfl) rfl rfl rfl ?_
     refine WL.q (oq_assign rfl) rfl rfl rfl ?_
     refine WL.nil (WE.then_normal (WC.sub (fr' := [(2, _), (3, _), (4, _)]) ?_ ⟨rfl, rfl, rfl, trivial⟩))
     refine WC.ret (WE.then_ret ?_)
     refine WE.endDA (.inl rfl) (rs3 Tryz.results27 (rv_cellS [_, _] agg30 ty30 rfl (.head _) (List.mem_singleton.2 rfl) rfl rfl) (rv_tmp rfl) (rv_tmp rfl)) (dr_lose hres (dr_lose hm2 (dr_lose hrb (dr_forget hN (dr_f1 (dr_forget hN2_0 (dr_add0 dr_refl))))))) fresh0 ?_
     first | (exact decR_err (c := 1) (code_end hdc (by omega) (by omega)) (by decide)) | (exact decR_err (c := 2) (code_short hdc (by omega) (by first | omega | exact h2a (by omega))) (by decide)) | (exact decR_err (c := 3) (code_at 3 hdc (by omega) (by decide) (by decide)) (by decide)) | (exact decR_err (c := 4) (code_at 4 hdc (by omega) (by decide) (by decide)) (by decide)) | (exact decR_err (c := 5) (code_at 5 hdc (by omega) (by decide) (by decide)) (by decide)) | (exfalso; omega) | (exfalso; simp_all; done)
    ·
     try simp only [Z1, Z2, Z3, Z4, Z5, Z6, Z7, Z8, Z9, Z0] at q8
     refine WC.skip (WE.then_normal (WC.sub (fr' := [(2, _), (7, _), (8, _)]) ?_ ⟨rfl, rfl, rfl, trivial⟩))
     refine WC.seq (WC.seq (WC.region ?_))
     refine WL.q (oq_move rfl) rfl rfl rfl ?_
     refine WL.nil (WE.then_normal (WC.sub (fr' := [(2, _), (8, _), (51, _)]) ?_ ⟨rfl, rfl, rfl, trivial⟩))
     refine WC.block (WC.seq (WC.region ?_))
     refine WL.q (oq_askC3 hS.kd conc118 ty118 rfl) rfl rfl rfl ?_
     refine WL.q (oq_extract rfl rfl) rfl rfl rfl ?_
     refine WL.q (oq_extract rfl rfl) rfl rfl rfl ?_
     refine WL.nil (WE.then_normal (WC.sub (fr' := [(2, _), (8, _), (51, _), (53, _)]) ?_ ⟨rfl, rfl, rfl, rfl, trivial⟩))
     refine WC.cond rfl (fun q11 => ?_) (fun q11 => ?_)
     ·
      try simp only [Z1, Z2, Z3, Z4, Z5, Z6, Z7, Z8, Z9, Z0] at q11
      refine WC.seq (WC.region ?_)
      refine WL.q (oq_build #[_, _] str30 ty30 rfl rfl) rfl rfl rfl ?_
      refine WL.q (oq_move rfl) rfl rfl rfl ?_
      refine WL.f5 ?_
      refine WL.storeS #[_, _] ty30 rfl rfl rfl rfl (Nat.le_of_ble_eq_true rfl) rfl rfl ?_
      refine WL.q (oq_assign rfl) rfl rfl rfl ?_
      refine WL.q (oq_assign rfl) rfl rfl rfl ?_
      refine WL.nil (WE.then_normal (WC.sub (fr' := [(2, _), (3, _), (4, _)]) ?_ ⟨rfl, rfl, rfl, trivial⟩))
      refine WC.ret (WE.block_ret (WE.then_ret ?_))
      refine WE.endDA (.inl rfl) (rs3 Tryz.results27 (rv_cellS [_, _] agg30 ty30 rfl (.head _) (List.mem_singleton.2 rfl) rfl rfl) (rv_tmp rfl) (rv_tmp rfl)) (dr_lose hres (dr_lose hm2 (dr_lose hrb (dr_forget hN (dr_f1 (dr_forget hN2_0 (dr_add0 dr_refl))))))) fresh0 ?_
      first | (exact decR_err (c := 1) (code_end hdc (by omega) (by omega)) (by decide)) | (exact decR_err (c := 2) (code_short hdc (by omega) (by first | omega | exact h2a (by omega))) (by decide)) | (exact decR_err (c := 3) (code_at 3 hdc (by omega) (by decide) (by decide)) (by decide)) | (exact decR_err (c := 4) (code_at 4 hdc (by omega) (by decide) (by decide)) (by decide)) | (exact decR_err (c := 5) (code_at 5 hdc (by omega) (by decide) (by decide)) (by decide)) | (exfalso; omega) | (exfalso; simp_all; done)
     ·
      try simp only [Z1, Z2, Z3, Z4, Z5, Z6, Z7, Z8, Z9, Z0] at q11
      refine WC.seq (WC.region ?_)
      refine WL.q (oq_askC4 hS.kd conc120 ty120 rfl) rfl rfl rfl ?_
      refine WL.q (oq_extract rfl rfl) rfl rfl rfl ?_
      refine WL.q (oq_extract rfl rfl) rfl rfl rfl ?_
      refine WL.nil (WE.then_normal (WC.sub (fr' := [(2, _), (8, _), (58, _)]) ?_ ⟨rfl, rfl, rfl, trivial⟩))
      refine WC.cond rfl (fun q13 => ?_) (fun q13 => ?_)
      ·
       try simp only [Z1, Z2, Z3, Z4, Z5, Z6, Z7, Z8, Z9, Z0] at q13
       refine WC.seq (WC.region ?_)
       refine WL.q (oq_build #[_, _] str30 ty30 rfl rfl) rfl rfl rfl ?_
       refine WL.q (oq_move rfl) rfl rfl rfl ?_
       refine WL.f5 ?_
       refine WL.storeS #[_, _] ty30 rfl rfl rfl rfl (Nat.le_of_ble_eq_true rfl) rfl rfl ?_
       refine WL.q (oq_assign rfl) rfl rfl rfl ?_
       refine WL.q (oq_assign rfl) rfl rfl rfl ?_
       refine WL.nil (WE.then_normal (WC.sub (fr' := [(2, _), (3, _), (4, _)]) ?_ ⟨rfl, rfl, rfl, trivial⟩))
       refine WC.ret (WE.block_ret (WE.then_ret ?_))
       refine WE.endDA (.inl rfl) (rs3 Tryz.results27 (rv_cellS [_, _] agg30 ty30 rfl (.head _) (List.mem_singleton.2 rfl) rfl rfl) (rv_tmp rfl) (rv_tmp rfl)) (dr_lose hres (dr_lose hm2 (dr_lose hrb (dr_forget hN (dr_f1 (dr_forget hN2_0 (dr_add0 dr_refl))))))) fresh0 ?_
       first | (exact decR_err (c := 1) (code_end hdc (by omega) (by omega)) (by decide)) | (exact decR_err (c := 2) (code_short hdc (by omega) (by first | omega | exact h2a (by omega))) (by decide)) | (exact decR_err (c := 3) (code_at 3 hdc (by omega) (by decide) (by decide)) (by decide)) | (exact decR_err (c := 4) (code_at 4 hdc (by omega) (by decide) (by decide)) (by decide)) | (exact decR_err (c := 5) (code_at 5 hdc (by omega) (by decide) (by decide)) (by decide)) | (exfalso; omega) | (exfalso; simp_all; done)
      ·
       try simp only [Z1, Z2, Z3, Z4, Z5, Z6, Z7, Z8, Z9, Z0] at q13
       refine WC.skip (WE.block_normal (WE.then_normal (WC.sub (fr' := [(2, _), (8, _)]) ?_ ⟨rfl, rfl, trivial⟩)))
       refine WC.seq (WC.region ?_)
       refine WL.q (oq_build #[_, _] str30 ty30 rfl rfl) rfl rfl rfl ?_
       refine WL.q (oq_move rfl) rfl rfl rfl ?_
       refine WL.f5 ?_
       refine WL.storeS #[_, _] ty30 rfl rfl rfl rfl (Nat.le_of_ble_eq_true rfl) rfl rfl ?_
       refine WL.q (oq_assign rfl) rfl rfl rfl ?_
       refine WL.q (oq_assign rfl) rfl rfl rfl ?_
       refine WL.nil (WE.then_normal (WC.sub (fr' := [(2, _), (3, _), (4, _)]) ?_ ⟨rfl, rfl, rfl, trivial⟩))
       refine WC.ret ?_
       refine WE.endDA (.inl rfl) (rs3 Tryz.results27 (rv_cellS [_, _] agg30 ty30 rfl (.head _) (List.mem_singleton.2 rfl) rfl rfl) (rv_tmp rfl) (rv_tmp rfl)) (dr_lose hres (dr_lose hm2 (dr_lose hrb (dr_forget hN (dr_f1 (dr_forget hN2_0 (dr_add0 dr_refl))))))) fresh0 ?_
       first | (exact decR_err (c := 1) (code_end hdc (by omega) (by omega)) (by decide)) | (exact decR_err (c := 2) (code_short hdc (by omega) (by first | omega | exact h2a (by omega))) (by decide)) | (exact decR_err (c := 3) (code_at 3 hdc (by omega) (by decide) (by decide)) (by decide)) | (exact decR_err (c := 4) (code_at 4 hdc (by omega) (by decide) (by decide)) (by decide)) | (exact decR_err (c := 5) (code_at 5 hdc (by omega) (by decide) (by decide)) (by decide)) | (exfalso; omega) | (exfalso; simp_all; done)
end DM
end Go.Proofs.YtodlhaghdplclaaGreatDoor
/- Plain words: the sum tells a byte that is another one; what is written is read again. -/
namespace Go.Proofs.YtodlhaghdplclaaGreatDoor
open Go V EI EJ EK EM DA
set_option linter.unusedSimpArgs false
set_option linter.unusedVariables false
namespace DB
theorem nm_inj : ∀ (n : Nat) (a b : List UInt8), a.length = n → b.length = n → nm a = nm b → a = b
 | 0, a, b, ha, hb, _ => by rw [List.eq_nil_of_length_eq_zero ha, List.eq_nil_of_length_eq_zero hb]
 | n + 1, a :: xs, b :: ys, ha, hb, h => by
  rw [List.length_cons] at ha hb
  rw [nm_cons, nm_cons, show xs.length = n by omega, show ys.length = n by omega] at h
  have h1 := nm_lt xs
  have h2 := nm_lt ys
  rw [show xs.length = n by omega] at h1
  rw [show ys.length = n by omega] at h2
  have h3 : a.toNat = b.toNat := by
   have e1 : (a.toNat * 256 ^ n + nm xs) / 256 ^ n = a.toNat := by rw [Nat.mul_comm, Nat.mul_add_div (Nat.pow_pos (by decide)), Nat.div_eq_of_lt h1, Nat.add_zero]
   have e2 : (b.toNat * 256 ^ n + nm ys) / 256 ^ n = b.toNat := by rw [Nat.mul_comm, Nat.mul_add_div (Nat.pow_pos (by decide)), Nat.div_eq_of_lt h2, Nat.add_zero]
   rw [← e1, ← e2, h]
  rw [h3] at h
  rw [UInt8.toNat_inj.1 h3, nm_inj n xs ys (by omega) (by omega) (by omega)]
/-! ### The sum -/
theorem shr1 (c : BitVec 32) : (c >>> 1).toNat = c.toNat / 2 := by rw [BitVec.toNat_ushiftRight, Nat.shiftRight_eq_div_pow]
theorem and1 (c : BitVec 32) : (c &&& 1#32).toNat = c.toNat % 2 := by
 rw [BitVec.toNat_and]; exact Nat.and_one_is_mod _
theorem xor_inj {a b p : BitVec 32} (h : a ^^^ p = b ^^^ p) : a = b := by
 have : a ^^^ p ^^^ p = b ^^^ p ^^^ p := by rw [h]
 rwa [BitVec.xor_assoc, BitVec.xor_assoc, BitVec.xor_self, BitVec.xor_zero, BitVec.xor_zero] at this
theorem top_shr (c : BitVec 32) : (c >>> 1).getLsbD 31 = false := by simp
theorem top_xor (c : BitVec 32) : (c >>> 1 ^^^ 3988292384#32).getLsbD 31 = true := by rw [BitVec.getLsbD_xor, top_shr]; decide
theorem crcBit_inj {c d : BitVec 32} (h : crcBit c = crcBit d) : c = d := by
 unfold crcBit at h
 rw [and1, and1] at h
 by_cases h1 : c.toNat % 2 = 0 <;> by_cases h2 : d.toNat % 2 = 0
 ·rw [if_pos h1, if_pos h2] at h
  have h3 := congrArg BitVec.toNat h
  rw [shr1, shr1] at h3
  exact BitVec.eq_of_toNat_eq (by omega)
 ·rw [if_pos h1, if_neg h2] at h
  have h3 := congrArg (BitVec.getLsbD · 31) h
  simp only [top_shr, top_xor] at h3
  cases h3
 ·rw [if_neg h1, if_pos h2] at h
  have h3 := congrArg (BitVec.getLsbD · 31) h
  simp only [top_shr, top_xor] at h3
  cases h3
 ·rw [if_neg h1, if_neg h2] at h
  have h3 := congrArg BitVec.toNat (xor_inj h)
  rw [shr1, shr1] at h3
  exact BitVec.eq_of_toNat_eq (by omega)
theorem crcBits_inj : ∀ (k : Nat) {c d : BitVec 32}, crcBits k c = crcBits k d → c = d
 | 0, _, _, h => h
 | k + 1, _, _, h => crcBits_inj k (crcBit_inj h)
theorem crcByte_inj {c d : BitVec 32} {b : UInt8} (h : crcByte c b = crcByte d b) : c = d := xor_inj (crcBits_inj 8 h)
theorem crcByte_ne {c : BitVec 32} {a b : UInt8} (h : a ≠ b) : crcByte c a ≠ crcByte c b := fun e => h (by
 have h1 := crcBits_inj 8 e
 rw [BitVec.xor_comm c, BitVec.xor_comm c] at h1
 have h2 := congrArg BitVec.toNat (xor_inj h1)
 have ha := a.toNat_lt
 have hb := b.toNat_lt
 simp only [BitVec.toNat_ofNat] at h2
 exact UInt8.toNat_inj.1 (by omega))
theorem crcRaw_inj : ∀ (l : List UInt8) {c d : BitVec 32}, crcRaw c l = crcRaw d l → c = d
 | [], _, _, h => h
 | b :: l, _, _, h => crcByte_inj (crcRaw_inj l h)
theorem crcRaw_set : ∀ (l : List UInt8) (i : Nat) (v : UInt8) (c : BitVec 32) (hi : i < l.length), v ≠ l[i] → crcRaw c (l.set i v) ≠ crcRaw c l
 | [], _, _, _, hi, _ => by cases hi
 | b :: l, 0, v, c, _, hv => fun e => crcByte_ne hv (crcRaw_inj l e)
 | b :: l, i + 1, v, c, hi, hv => crcRaw_set l i v (crcByte c b) (by simpa using hi) (by simpa using hv)
theorem crc_set {l : List UInt8} {i : Nat} {v : UInt8} (hi : i < l.length) (hv : v ≠ l[i]) : (crc (l.set i v)).toNat ≠ (crc l).toNat := fun e => by
 have h1 := BitVec.eq_of_toNat_eq e
 unfold crc at h1
 have h2 := congrArg (~~~ ·) h1
 simp only [BitVec.not_not] at h2
 exact crcRaw_set l i v _ hi hv h2
theorem set_ne {l : List UInt8} {i : Nat} {v : UInt8} (hi : i < l.length) (hv : v ≠ l[i]) : l.set i v ≠ l := fun e => hv (by
 have h : (l.set i v)[i]? = l[i]? := by rw [e]
 rw [List.getElem?_set_self hi, List.getElem?_eq_getElem hi] at h
 injection h)
/-! ### What is written is read -/
structure Parts (b t4 h4 c4 hd pl s4 beh : List UInt8) : Prop where
 is : b = t4 ++ (h4 ++ (c4 ++ (hd ++ (pl ++ (s4 ++ beh)))))
 l1 : t4.length = 4
 l2 : h4.length = 4
 l3 : c4.length = 4
 l4 : s4.length = 4
 tot : nm t4 = 16 + hd.length + pl.length
 hed : nm h4 = hd.length
section
variable {b t4 h4 c4 hd pl s4 beh : List UInt8}
theorem Parts.totl (p : Parts b t4 h4 c4 hd pl s4 beh) : totl b = 16 + hd.length + pl.length := by
 unfold DA.totl; rw [p.is, List.take_left' p.l1, p.tot]
theorem Parts.head (p : Parts b t4 h4 c4 hd pl s4 beh) : head b = hd.length := by
 unfold DA.head; rw [p.is, List.drop_left' p.l1, List.take_left' p.l2, p.hed]
theorem Parts.take8 (p : Parts b t4 h4 c4 hd pl s4 beh) : b.take 8 = t4 ++ h4 := by
 rw [p.is, ← List.append_assoc, List.take_left' (by rw [List.length_append, p.l1, p.l2])]
theorem Parts.drop8 (p : Parts b t4 h4 c4 hd pl s4 beh) : (b.drop 8).take 4 = c4 := by
 rw [p.is, ← List.append_assoc, List.drop_left' (by rw [List.length_append, p.l1, p.l2]), List.take_left' p.l3]
theorem Parts.all (p : Parts b t4 h4 c4 hd pl s4 beh) : b.take (DA.totl b - 4) = t4 ++ (h4 ++ (c4 ++ (hd ++ pl))) := by
 have e : b = (t4 ++ (h4 ++ (c4 ++ (hd ++ pl)))) ++ (s4 ++ beh) := by rw [p.is]; simp
 rw [p.totl]
 conv => lhs; rw [e]
 rw [List.take_left' (by simp only [List.length_append, p.l1, p.l2, p.l3]; omega)]
theorem Parts.sum (p : Parts b t4 h4 c4 hd pl s4 beh) : (b.drop (DA.totl b - 4)).take 4 = s4 := by
 have e : b = (t4 ++ (h4 ++ (c4 ++ (hd ++ pl)))) ++ (s4 ++ beh) := by rw [p.is]; simp
 rw [p.totl]
 conv => lhs; rw [e]
 rw [List.drop_left' (by simp only [List.length_append, p.l1, p.l2, p.l3]; omega), List.take_left' p.l4]
theorem Parts.len (p : Parts b t4 h4 c4 hd pl s4 beh) : b.length = 16 + hd.length + pl.length + beh.length := by
 rw [p.is]; simp only [List.length_append, p.l1, p.l2, p.l3, p.l4]; omega
end
theorem nm_crcB (l : List UInt8) : nm (crcB l) = (crc l).toNat := by
 have h1 := nm_be 4 ((crc l).toNat : Int)
 have h2 := (crc l).isLt
 unfold crcB
 omega
theorem msg_parts (l : List HV) (data beh : List UInt8) (h : 16 + (hdrs l).length + data.length < 4294967296) :
  Parts (msgB l data ++ beh) (be 4 (16 + ((hdrs l).length : Int) + (data.length : Int))) (be 4 ((hdrs l).length : Int)) (crcB (pre8 (hdrs l).length data.length)) (hdrs l) data (crcB (msg0 l data)) beh := by
 have h1 := nm_be 4 (16 + ((hdrs l).length : Int) + (data.length : Int))
 have h2 := nm_be 4 ((hdrs l).length : Int)
 refine ⟨by unfold msgB msg0 pre12 pre8; simp, be_len _ _, be_len _ _, be_len _ _, be_len _ _, by omega, by omega⟩
/-! ### A byte that is another one -/
theorem dec_ok {b : List UInt8} (h : (dec b).1 = 0) : 12 ≤ b.length ∧ sumOk b = true ∧ totl b ≤ b.length ∧ (crc (b.take (totl b - 4))).toNat = nm ((b.drop (totl b - 4)).take 4) := by
 unfold dec at h
 split at h
 ·cases h
 ·split at h
  ·cases h
  ·split at h
   ·cases h
   ·split at h
    ·cases h
    ·split at h
     ·cases h
     ·rename_i h1 h2 h3 h4 h5
      have key : ∀ l, (tailR b l).1 = 0 → totl b ≤ b.length ∧ (crc (b.take (totl b - 4))).toNat = nm ((b.drop (totl b - 4)).take 4) := fun l hl => by
       unfold tailR at hl
       split at hl
       ·cases hl
       ·split at hl
        ·cases hl
        ·rename_i a1 a2
         exact ⟨by omega, by omega⟩
      refine ⟨by omega, by simpa using h5, ?_⟩
      split at h
      ·cases h
      ·cases h
      ·exact key _ h
      ·exact key _ h
theorem spoilt_b {b t4 h4 c4 hq pq s4 : List UInt8} (p : Parts b t4 h4 c4 hq pq s4 []) (hc : nm c4 = (crc (t4 ++ h4)).toNat) (hsm : nm s4 = (crc (t4 ++ (h4 ++ (c4 ++ (hq ++ pq))))).toNat) {i : Nat} {v : UInt8} (hi : i < b.length) (hv : v ≠ b[i]) (n : Nat) (hn : n ≤ b.length) (hn2 : b.length ≤ n + 1) : (dec ((b.set i v).take n)).1 ≠ 0 := by
 intro hd
 have hlen := p.len
 have h12 : b.length = 16 + hq.length + pq.length := by rw [hlen]; simp
 obtain ⟨d1, d2, d3, d4⟩ := dec_ok hd
 have hg : ∀ m, m ≤ n → ((b.set i v).take n).take m = (b.take m).set i v := fun m hm => by rw [List.take_take, Nat.min_eq_left hm, List.take_set]
 have hs8 : (crc (b.take 8)).toNat = nm ((b.drop 8).take 4) := by rw [p.take8, p.drop8, hc]
 have hgd : ∀ (m : Nat) (hk : i < (b.take m).length), v ≠ (b.take m)[i] := fun m hk => by
  rw [List.getElem_take]; exact hv
 unfold sumOk at d2
 rw [decide_eq_true_eq, hg 8 (by omega)] at d2
 have hdt : (((b.set i v).take n).drop 8).take 4 = ((b.set i v).drop 8).take 4 := by
  rw [List.drop_take, List.take_take, Nat.min_eq_left (by omega)]
 rw [hdt] at d2
 have hin : ∀ (m : Nat) (hm : m ≤ i) (hl : i - m < ((b.drop m).take 4).length), v ≠ ((b.drop m).take 4)[i - m] := fun m hm hl => by
  rw [List.getElem_take, List.getElem_drop]
  have e : m + (i - m) = i := by omega
  simpa only [e] using hv
 rcases Nat.lt_or_ge i 8 with h8 | h8
 ·rw [List.drop_set, if_pos (by omega), ← hs8] at d2
  exact crc_set (by rw [List.length_take]; omega) (hgd 8 (by rw [List.length_take]; omega)) d2
 ·rw [List.set_eq_of_length_le (l := b.take 8) (by rw [List.length_take]; omega), hs8, List.drop_set, if_neg (by omega), List.take_set] at d2
  rcases Nat.lt_or_ge i 12 with hi12 | hi12
  ·have hl4 : ((b.drop 8).take 4).length = 4 := by rw [List.length_take, List.length_drop]; omega
   have := nm_inj 4 _ _ hl4 (by rw [List.length_set]; exact hl4) d2
   exact set_ne (l := (b.drop 8).take 4) (i := i - 8) (v := v) (by rw [hl4]; omega) (hin 8 h8 (by rw [hl4]; omega)) this.symm
  ·have ht : totl ((b.set i v).take n) = totl b := by
    unfold totl; rw [hg 4 (by omega), List.set_eq_of_length_le (by rw [List.length_take]; omega)]
   rw [ht, p.totl] at d3
   rw [List.length_take, List.length_set] at d3
   have hnb : n = b.length := by omega
   rw [ht, p.totl, hg _ (by omega)] at d4
   have hs := p.sum
   have ha := p.all
   rw [p.totl] at hs ha
   have hsum : (crc (b.take (16 + hq.length + pq.length - 4))).toNat = nm ((b.drop (16 + hq.length + pq.length - 4)).take 4) := by rw [hs, ha, hsm]
   have hnn : (b.set i v).take n = b.set i v := List.take_of_length_le (by rw [List.length_set]; omega)
   rw [hnn] at d4
   rcases Nat.lt_or_ge i (16 + hq.length + pq.length - 4) with hlt | hge
   ·rw [List.drop_set, if_pos hlt, ← hsum] at d4
    exact crc_set (by rw [List.length_take]; omega) (hgd _ (by rw [List.length_take]; omega)) d4
   ·rw [List.set_eq_of_length_le (l := b.take _) (by rw [List.length_take]; omega), hsum, List.drop_set, if_neg (by omega), List.take_set] at d4
    have hl4 : ((b.drop (16 + hq.length + pq.length - 4)).take 4).length = 4 := by rw [List.length_take, List.length_drop]; omega
    have := nm_inj 4 _ _ hl4 (by rw [List.length_set]; exact hl4) d4
    exact set_ne (by rw [hl4]; omega) (hin _ hge (by rw [hl4]; omega)) this.symm
theorem spoilt {l : List HV} {data : List UInt8} (h : 16 + (hdrs l).length + data.length < 4294967296) {i : Nat} {v : UInt8} (hi : i < (msgB l data).length) (hv : v ≠ (msgB l data)[i]) (n : Nat) (hn : n ≤ (msgB l data).length) (hn2 : (msgB l data).length ≤ n + 1) : (dec (((msgB l data).set i v).take n)).1 ≠ 0 := by
 have p := msg_parts l data [] h
 rw [List.append_nil] at p
 exact spoilt_b p (by rw [nm_crcB]; rfl) (by rw [nm_crcB]; unfold msg0 pre12 pre8; simp) hi hv n hn hn2
end DB
end Go.Proofs.YtodlhaghdplclaaGreatDoor
/- A message, headers: as bytes. -/
namespace Go.Proofs.YtodlhaghdplclaaGreatDoor
open Go Go.RowKit V EA EB EC ED EE EF EG EH EI EJ EK EL EM
set_option linter.unusedSimpArgs false
set_option linter.unusedVariables false
set_option maxRecDepth 10000
namespace EN
theorem call31 : Callable Tryz.prog 31 := ⟨_, Tryz.func31, rfl, by kernel_rfl⟩
theorem call47 : Callable Tryz.prog 47 := ⟨_, Tryz.func47, rfl, by kernel_rfl⟩
theorem call48 : Callable Tryz.prog 48 := ⟨_, Tryz.func48, rfl, by kernel_rfl⟩
theorem call49 : Callable Tryz.prog 49 := ⟨_, Tryz.func49, rfl, by kernel_rfl⟩
theorem flat22 : Flat Tryz.prog 22 := ⟨_, Tryz.underlying22, by simp⟩
theorem flat28 : Flat Tryz.prog 28 := ⟨_, Tryz.underlying28, by simp⟩
theorem ty22 : Ty Tryz.prog 22 (.slice none 0 0) 1 24 := ty_of (by kernel_rfl)
theorem ty28 : Ty Tryz.prog 28 (.slice none 0 0) 1 24 := ty_of (by kernel_rfl)
theorem ty79 : Ty Tryz.prog 79 (.agg #[(.slice none 0 0), (.int .i64 0), (.int .i8 0)]) 3 40 := ty_of (by kernel_rfl)
theorem ty109 : Ty Tryz.prog 109 (.agg #[(.slice none 0 0), (.slice none 0 0)]) 2 48 := ty_of (by kernel_rfl)
theorem conc107 : Conc Tryz.prog 107 := ⟨_, Tryz.underlying107, by simp⟩
theorem str109 : Str Tryz.prog 109 #[(0, 1), (1, 1)] := ⟨_, Tryz.underlying109, fun w => by kernel_rfl⟩
theorem fld30_0 : Fld Tryz.prog 30 0 0 22 := fld_of Tryz.underlying30 rfl rfl rfl ty22 (by decide)
theorem fld30_1 : Fld Tryz.prog 30 1 1 28 := fld_of Tryz.underlying30 rfl rfl rfl ty28 (by decide)
def EncG (base eb : Nat) (X : Hp) : Prop := ∃ b1 b2 B1 B2 a1 a2, X = (EncB eb b1 b2 ++ B1) ++ B2 ∧ BufG base b1 a1 B1 ∧ BufG base b2 a2 B2 ∧ base ≤ b1 ∧ base ≤ b2
theorem bufG_fresh {base bb : Nat} {acc : List UInt8} {G : Hp} (h : BufG base bb acc G) (hb : base ≤ bb) : ∀ b o, (b, o) ∈ G → base ≤ b := by
 obtain ⟨v, lr, A, rfl, h⟩ := h
 exact fresh_cat (fresh1 hb) h.fresh
theorem EncG.fresh {base eb : Nat} {X : Hp} (h : EncG base eb X) (he : base ≤ eb) : ∀ b o, (b, o) ∈ X → base ≤ b := by
 obtain ⟨b1, b2, B1, B2, a1, a2, rfl, h1, h2, g1, g2⟩ := h
 exact fresh_cat (fresh_cat (fresh1 he) (bufG_fresh h1 g1)) (bufG_fresh h2 g2)
theorem bufG_nil (base bb : Nat) (lr : Int) : BufG base bb [] (BB bb (.slice none 0 0) lr) := ⟨_, lr, [], rfl, .inl ⟨rfl, rfl, rfl⟩⟩
theorem encodeG (base eb ob : Nat) (acc0 : List UInt8) (EG O : Hp) (hE : EncG base eb EG) (hO : BufG base ob acc0 O) (vh : Value) (HZ : Hp) (l : List HV) (hh : HsOk l vh HZ) (hok : okH l) (hn : l.length ≤ 1000) (hsz : szL l ≤ 100000) (vp : Value) (Pg : Hp) (data : List UInt8) (hrp : RdS 1 vp Pg data.length (bytesV data)) (hpl : data.length ≤ 50000) (hal : acc0.length ≤ 100000) :
  FnW Tryz.prog 49 [Pt eb 0, .iface 107 (Pt ob 0), .agg #[vh, vp]] base [EG, O, HZ, Pg] (fun w Hs => ∃ EG2 O2 c, Hs = [EG2, O2, HZ, Pg] ∧ EncG base eb EG2 ∧ BufG base ob c O2 ∧ (w = .nilIface ∨ ∃ k u, w = .iface k u) ∧ (nilI w = true → l.any badH = false ∧ BufG base ob (acc0 ++ msgB l data) O2) ∧ (nilI w = false → l.any badH = true)) := by
 obtain ⟨b1, b2, B1, B2, a1, a2, rfl, h1, h2, g1, g2⟩ := hE
 obtain ⟨ps, M, Z, rfl, hr, hp⟩ := hh
 refine fw_perm (F := []) (encode base eb b1 b2 ob a1 a2 acc0 B1 B2 O h1 h2 hO vh M Z l ps hr hp hok hn hsz vp Pg data hrp hpl hal) (by simp) ?_
 rintro w Hs ⟨B1', B2', O', c1, c2, c3, rfl, hb1, hb2, hO2, h⟩
 cases hb : l.any badH with
 | true =>
  rw [hb] at h
  obtain ⟨k, e, rfl⟩ := h
  exact ⟨_, ⟨(EncB eb b1 b2 ++ B1') ++ B2', O', c3, rfl, ⟨_, _, _, _, _, _, rfl, hb1, hb2, g1, g2⟩, hO2, (.inr ⟨_, _, rfl⟩), (fun h => nomatch h), (fun _ => rfl)⟩, by simp⟩
 | false =>
  rw [hb] at h
  obtain ⟨rfl, rfl⟩ := h
  exact ⟨_, ⟨(EncB eb b1 b2 ++ B1') ++ B2', O', _, rfl, ⟨_, _, _, _, _, _, rfl, hb1, hb2, g1, g2⟩, hO2, (.inl rfl), (fun _ => ⟨rfl, hO2⟩), (fun h => nomatch h)⟩, by simp⟩
def BytesR (bad : Bool) (l : List UInt8) (w : Value) (N : Hp) : Prop := ∃ sv, w = .tuple #[sv, .bool (!bad)] ∧ RdS 1 sv N (if bad then [] else l).length (bytesV (if bad then [] else l))
theorem bytesR_bad {l : List UInt8} {b : Bool} (h : b = true) : BytesR b l (.tuple #[.slice none 0 0, .bool false]) [] := by subst h; exact ⟨_, rfl, rfl, .inl ⟨rfl, _, _, rfl⟩⟩
theorem vEncode (vh : Value) (A : Hp) (l : List HV) (hr : RdS 5 vh A l.length (recsV HV.row l)) (hok : okH l) (hn : l.length ≤ 1000) (hsz : szL l ≤ 100000) (pp : Option Addr) (pc : Nat) (data : List UInt8) (hrp : RdS 1 (.slice pp data.length pc) A data.length (bytesV data)) (hpl : data.length ≤ 50000) : FnA Tryz.prog 26 [.agg #[vh, .slice pp data.length pc]] A (BytesR (l.any badH) (msgB l data)) := by
 refine FnA.enter (n := 16) Tryz.func26 rfl rfl fun w0 => ?_
 refine WC.sub (fr' := [(0, _)]) ?_ ⟨rfl, trivial⟩
 refine WC.seq (WC.region ?_)
 refine WL.box rfl rfl rfl fun xb hxb => ?_
 refine WL.q (oq_assign rfl) rfl rfl rfl ?_
 refine WL.q (oq_assign rfl) rfl rfl rfl ?_
 refine WL.nil (WE.then_normal (WC.sub (fr' := [(1, _)]) ?_ ⟨rfl, trivial⟩))
 refine WC.seq (WC.region ?_)
 refine WL.alloc ty79 rfl rfl fun ob hob => ?_
 refine WL.nil (WE.then_normal (WC.sub (fr' := [(1, _), (4, _)]) ?_ ⟨rfl, rfl, trivial⟩))
 refine WC.seq (WC.seq ?_)
 refine WC.gate 8 ([(xb, .cells #[vh, .slice pp data.length pc] 30 (0, 0))]) (by kernel_rfl) ?_
 refine WG.q 1 [] rfl (.tail _ (.head _)) (fun w0 => oq_makeI conc107 rfl) rfl rfl rfl ?_
 refine WG.q 2 [4, 3] rfl (.tail _ (.head _)) (fun w0 => oq_fieldAddr fld30_0 rfl) rfl rfl rfl ?_
 refine WG.q 3 [4] rfl (.tail _ (.head _)) (fun w0 => oq_load flat22 rfl (.head _) (List.mem_singleton.2 rfl) rfl) rfl rfl rfl ?_
 refine WG.q 5 [7, 6] rfl (.tail _ (.head _)) (fun w0 => oq_fieldAddr fld30_1 rfl) rfl rfl rfl ?_
 refine WG.q 6 [7] rfl (.tail _ (.head _)) (fun w0 => oq_load flat28 rfl (.head _) (List.mem_singleton.2 rfl) rfl) rfl rfl rfl ?_
 refine WG.step (i := 0) (by kernel_rfl) rfl ?_
 refine WL.callA0 (newEncoder) call48 rfl rfl rfl fun v2_0 N2_0 hR2_0 hN2_0 => ?_
 obtain ⟨eb, b1, b2, rfl, rfl⟩ := hR2_0
 have heb := hN2_0 eb _ (List.mem_append_left _ (List.mem_append_left _ (List.mem_singleton.2 rfl)))
 have hb1 := hN2_0 b1 _ (List.mem_append_left _ (List.mem_append_right _ (List.mem_singleton.2 rfl)))
 have hb2 := hN2_0 b2 _ (List.mem_append_right _ (List.mem_singleton.2 rfl))
 refine WL.nil ?_
 refine WE.toG (.tail _ (.tail _ (.head _))) ?_
 refine WG.step (i := 4) (by kernel_rfl) rfl ?_
 refine WL.f3 ?_
 refine WL.callA (headersFor vh A l hr hok hn) call31 rfl rfl rfl fun v2_4 N2_4 hR2_4 hN2_4 => ?_
 obtain ⟨ps0, M0, Z0, hN0, hr0, hp0⟩ := hR2_4
 obtain ⟨pv, cv, rfl⟩ := hr0.shape
 have hR2_4 : HsOk l (.slice pv ps0.length cv) N2_4 := ⟨ps0, M0, Z0, hN0, hr0, hp0⟩
 refine WL.nil ?_
 refine WE.toG (.tail _ (.tail _ (.tail _ (.tail _ (.head _))))) ?_
 refine WG.q 7 [] rfl (.tail _ (.tail _ (.tail _ (.tail _ (.head _))))) (fun w0 => oq_build #[_, _] str109 ty109 rfl rfl) rfl rfl rfl ?_
 refine WG.step (i := 8) (by kernel_rfl) rfl ?_
 refine WL.f1 ?_
 refine WL.f1 ?_
 refine WL.f3 ?_
 refine WL.f3 ?_
 refine WL.callW4 (encodeG _ eb ob [] _ _ ⟨b1, b2, _, _, [], [], rfl, bufG_nil _ b1 0, bufG_nil _ b2 0, hb1, hb2⟩ (bufG_nil _ ob 0) _ _ l hR2_4 hok hn hsz (.slice pp data.length pc) A data hrp hpl (by simp)) call49 rfl rfl rfl fun v2_8 Hs2_8 hR2_8 => ?_
 obtain ⟨EG2, O2, c, rfl, hEG, hOc, hei, he0, he1⟩ := hR2_8
 refine WL.to4 ?_
 refine WL.nil ?_
 refine WE.toG0 (by kernel_rfl) ?_
 refine WG.p 9 rfl (.inl (by kernel_rfl)) (fun w0 => oq_ineq Tryz.underlying99 rfl (hei)) rfl rfl rfl ?_
 refine WG.done (by kernel_rfl) ?_
 refine WE.then_normal (WC.sub (fr' := [(4, _), (14, _)]) ?_ ⟨rfl, rfl, trivial⟩)
 refine WC.cond rfl (fun q2 => ?_) (fun q2 => ?_)
 ·
  try simp only [Z1, Z2, Z3, Z4, Z5, Z6, Z7, Z8, Z9, Z0] at q2
  refine WC.seq (WC.region ?_)
  refine WL.q (oq_assign rfl) rfl rfl rfl ?_
  refine WL.q (oq_assign rfl) rfl rfl rfl ?_
  refine WL.nil (WE.then_normal (WC.sub (fr' := [(2, _), (3, _)]) ?_ ⟨rfl, rfl, trivial⟩))
  refine WC.ret (WE.then_ret ?_)
  refine WE.forget (hEG.fresh heb) ?_
  refine WE.forget (bufG_fresh hOc hob) ?_
  refine WE.forget hN2_4 ?_
  refine WE.f1 ?_
  refine WE.lose hxb ?_
  refine WE.add0 ?_
  refine WE.endA (.inl rfl) (res2 Tryz.results26 rfl rfl) ?_ fresh0
  exact bytesR_bad (he1 (by simpa using q2))
 ·
  try simp only [Z1, Z2, Z3, Z4, Z5, Z6, Z7, Z8, Z9, Z0] at q2
  refine WC.skip (WE.then_normal (WC.sub (fr' := [(4, _)]) ?_ ⟨rfl, trivial⟩))
  refine WC.seq ?_
  obtain ⟨hnb, hO2⟩ := he0 (by simpa using q2)
  rw [List.nil_append] at hO2
  obtain ⟨bv, hbf, hbr⟩ := bytesG _ ob _ O2 hO2
  refine WC.region ?_
  refine WL.qc (oq_callRm (hbf) (.tail _ (.head _)) call47 rfl) rfl rfl rfl ?_
  refine WL.q (oq_assign rfl) rfl rfl rfl ?_
  refine WL.q (oq_assign rfl) rfl rfl rfl ?_
  refine WL.nil (WE.then_normal (WC.sub (fr' := [(2, _), (3, _)]) ?_ ⟨rfl, rfl, trivial⟩))
  refine WC.ret ?_
  refine WE.forget (hEG.fresh heb) ?_
  refine WE.f1 ?_
  refine WE.forget hN2_4 ?_
  refine WE.f2 ?_
  refine WE.lose hxb ?_
  refine WE.endA (.inl rfl) (res2 Tryz.results26 rfl rfl) ?_ ((bufG_fresh hOc hob))
  exact ⟨_, by rw [hnb]; rfl, by rw [hnb]; exact hbr⟩
end EN
end Go.Proofs.YtodlhaghdplclaaGreatDoor
/- What the guards of the law ask. -/
namespace Go.Proofs.YtodlhaghdplclaaGreatDoor
open Go Go.RowKit V EA EB EC ED EE EF EG EH EI EJ EK EL EM EN
set_option linter.unusedSimpArgs false
set_option linter.unusedVariables false
set_option maxRecDepth 10000
namespace EO
theorem call9 : Callable Tryz.prog 9 := ⟨_, Tryz.func9, rfl, by kernel_rfl⟩
theorem call10 : Callable Tryz.prog 10 := ⟨_, Tryz.func10, rfl, by kernel_rfl⟩
theorem call30 : Callable Tryz.prog 30 := ⟨_, Tryz.func30, rfl, by kernel_rfl⟩
theorem flat9 : Flat Tryz.prog 9 := ⟨_, Tryz.underlying9, by simp⟩
theorem flat22 : Flat Tryz.prog 22 := ⟨_, Tryz.underlying22, by simp⟩
theorem flat28 : Flat Tryz.prog 28 := ⟨_, Tryz.underlying28, by simp⟩
theorem ty9 : Ty Tryz.prog 9 (S []) 1 16 := ty_of (by kernel_rfl)
theorem ty22 : Ty Tryz.prog 22 (.slice none 0 0) 1 24 := ty_of (by kernel_rfl)
theorem ty24 : Ty Tryz.prog 24 (.agg #[(.int .i64 0), (.int .i64 0), (.int .i64 0), (S [])]) 4 40 := ty_of (by kernel_rfl)
theorem ty28 : Ty Tryz.prog 28 (.slice none 0 0) 1 24 := ty_of (by kernel_rfl)
theorem ty32 : Ty Tryz.prog 32 (.agg #[(S []), (.int .i64 0), (.int .i64 0), (.int .i64 0), (S [])]) 5 56 := ty_of (by kernel_rfl)
theorem agg24 : Agg Tryz.prog 24 := agg_of Tryz.underlying24
theorem agg32 : Agg Tryz.prog 32 := agg_of Tryz.underlying32
theorem fld24_3 : Fld Tryz.prog 24 3 3 9 := fld_of Tryz.underlying24 rfl rfl rfl ty9 (by decide)
theorem fld30_0 : Fld Tryz.prog 30 0 0 22 := fld_of Tryz.underlying30 rfl rfl rfl ty22 (by decide)
theorem fld30_1 : Fld Tryz.prog 30 1 1 28 := fld_of Tryz.underlying30 rfl rfl rfl ty28 (by decide)
theorem fld32_0 : Fld Tryz.prog 32 0 0 9 := fld_of Tryz.underlying32 rfl rfl rfl ty9 (by decide)
theorem fld32_1 : Fld Tryz.prog 32 1 1 24 := fld_of Tryz.underlying32 rfl rfl rfl ty24 (by decide)
def fitH (h : HV) : Bool := decide (h.name.length ≤ 2147483647) && decide (h.text.length ≤ 2147483647)
def fitL (l : List HV) : Bool := decide (l.length ≤ 2147483647) && l.all fitH
def sumH (l : List HV) : Nat := (l.map fun h => h.name.length + h.text.length).sum
theorem sumH_snoc {l : List HV} {i : Nat} (hi : i < l.length) : sumH (l.take (i + 1)) = sumH (l.take i) + ((l.getD i HV0).name.length + (l.getD i HV0).text.length) := by
 rw [take_snoc hi]; simp [sumH]
theorem all_get {l : List HV} {f : HV → Bool} (h : l.all f = true) {i : Nat} (hi : i < l.length) : f (l.getD i HV0) = true := by
 rw [List.all_eq_true] at h
 refine h _ ?_
 rw [List.getD_eq_getElem?_getD, List.getElem?_eq_getElem hi]; exact List.getElem_mem hi
theorem all_not {l : List HV} {f : HV → Bool} {i : Nat} (hi : i < l.length) (h : f (l.getD i HV0) = false) : l.all f = false := by
 cases hb : l.all f with
 | false => rfl
 | true => rw [all_get hb hi] at h; cases h
theorem all_snoc {l : List HV} {f : HV → Bool} {i : Nat} (hi : i < l.length) (h : (l.take i).all f = true) (hb : f (l.getD i HV0) = true) : (l.take (i + 1)).all f = true := by
 rw [take_snoc hi, List.all_append, h, List.all_cons, hb]; rfl
theorem fitL_len {l : List HV} (h : fitL l = true) : l.length ≤ 2147483647 := by
 unfold fitL at h; rw [Bool.and_eq_true, decide_eq_true_eq] at h; exact h.1
theorem fitL_get {l : List HV} (h : fitL l = true) {i : Nat} (hi : i < l.length) : (l.getD i HV0).name.length ≤ 2147483647 ∧ (l.getD i HV0).text.length ≤ 2147483647 := by
 unfold fitL at h; rw [Bool.and_eq_true] at h
 have h2 := all_get h.2 hi
 unfold fitH at h2; rw [Bool.and_eq_true, decide_eq_true_eq, decide_eq_true_eq] at h2; exact h2
theorem sumH_le {l : List HV} (h : fitL l = true) : ∀ i, i ≤ l.length → sumH (l.take i) ≤ i * 4294967294
 | 0, _ => by simp [sumH]
 | i + 1, hi => by
  rw [sumH_snoc (by omega)]
  have h1 := sumH_le h i (by omega)
  have h2 := fitL_get h (show i < l.length by omega)
  omega
theorem fits6 (h : HV) : Fn0 Tryz.prog 10 [.agg #[I h.kind, I h.width, I h.int, S h.text]] (.bool (decide (h.text.length ≤ 2147483647))) := by
 refine Fn0.enter (n := 7) Tryz.func10 rfl rfl fun w0 => ?_
 refine WC.sub (fr' := [(0, _)]) ?_ ⟨rfl, trivial⟩
 refine WC.seq (WC.region ?_)
 refine WL.box rfl rfl rfl fun b0_0 hb0_0 => ?_
 refine WL.q (oq_assign rfl) rfl rfl rfl ?_
 refine WL.nil (WE.then_normal (WC.sub (fr' := [(1, _)]) ?_ ⟨rfl, trivial⟩))
 refine WC.seq (WC.seq (WC.region ?_))
 refine WL.q (oq_fieldAddr fld24_3 rfl) rfl rfl rfl ?_
 refine WL.q (oq_load flat9 rfl (.head _) (List.mem_singleton.2 rfl) rfl) rfl rfl rfl ?_
 refine WL.q (oq_len_s Tryz.underlying9 rfl) rfl rfl rfl ?_
 refine WL.q (oq_gtr rfl rfl) rfl rfl rfl ?_
 refine WL.nil (WE.then_normal (WC.sub (fr' := [(6, _)]) ?_ ⟨rfl, trivial⟩))
 refine WC.cond rfl (fun q1 => ?_) (fun q1 => ?_)
 ·
  try simp only [Z1, Z2, Z3, Z4, Z5, Z6, Z7, Z8, Z9, Z0] at q1
  refine WC.seq (WC.region ?_)
  refine WL.q (oq_assign rfl) rfl rfl rfl ?_
  refine WL.nil (WE.then_normal (WC.sub (fr' := [(2, _)]) ?_ ⟨rfl, trivial⟩))
  refine WC.ret (WE.then_ret ?_)
  refine WE.lose hb0_0 ?_
  refine WE.end0 (.inl rfl) (res1 Tryz.results10 rfl) ?_
  rw [decide_eq_false (by omega)]
 ·
  try simp only [Z1, Z2, Z3, Z4, Z5, Z6, Z7, Z8, Z9, Z0] at q1
  refine WC.skip (WE.then_normal (WC.sub (fr' := []) ?_ trivial))
  refine WC.seq (WC.region ?_)
  refine WL.q (oq_assign rfl) rfl rfl rfl ?_
  refine WL.nil (WE.then_normal (WC.sub (fr' := [(2, _)]) ?_ ⟨rfl, trivial⟩))
  refine WC.ret ?_
  refine WE.lose hb0_0 ?_
  refine WE.end0 (.inl rfl) (res1 Tryz.results10 rfl) ?_
  rw [decide_eq_true (by omega)]
theorem fits5 (h : HV) : Fn0 Tryz.prog 30 [.agg #[S h.name, I h.kind, I h.width, I h.int, S h.text]] (.bool (fitH h)) := by
 refine Fn0.enter (n := 11) Tryz.func30 rfl rfl fun w0 => ?_
 refine WC.sub (fr' := [(0, _)]) ?_ ⟨rfl, trivial⟩
 refine WC.seq (WC.region ?_)
 refine WL.box rfl rfl rfl fun b0_0 hb0_0 => ?_
 refine WL.q (oq_assign rfl) rfl rfl rfl ?_
 refine WL.nil (WE.then_normal (WC.sub (fr' := [(1, _)]) ?_ ⟨rfl, trivial⟩))
 refine WC.seq (WC.seq (WC.region ?_))
 refine WL.q (oq_fieldAddr fld32_0 rfl) rfl rfl rfl ?_
 refine WL.q (oq_load flat9 rfl (.head _) (List.mem_singleton.2 rfl) rfl) rfl rfl rfl ?_
 refine WL.q (oq_len_s Tryz.underlying9 rfl) rfl rfl rfl ?_
 refine WL.q (oq_gtr rfl rfl) rfl rfl rfl ?_
 refine WL.nil (WE.then_normal (WC.sub (fr' := [(1, _), (6, _)]) ?_ ⟨rfl, rfl, trivial⟩))
 refine WC.cond rfl (fun q1 => ?_) (fun q1 => ?_)
 ·
  try simp only [Z1, Z2, Z3, Z4, Z5, Z6, Z7, Z8, Z9, Z0] at q1
  refine WC.seq (WC.region ?_)
  refine WL.q (oq_assign rfl) rfl rfl rfl ?_
  refine WL.nil (WE.then_normal (WC.sub (fr' := [(2, _)]) ?_ ⟨rfl, trivial⟩))
  refine WC.ret (WE.then_ret ?_)
  refine WE.lose hb0_0 ?_
  refine WE.end0 (.inl rfl) (res1 Tryz.results30 rfl) ?_
  unfold fitH; rw [decide_eq_false (by omega)]; rfl
 ·
  try simp only [Z1, Z2, Z3, Z4, Z5, Z6, Z7, Z8, Z9, Z0] at q1
  refine WC.skip (WE.then_normal (WC.sub (fr' := [(1, _)]) ?_ ⟨rfl, trivial⟩))
  refine WC.seq (WC.seq (WC.region ?_))
  refine WL.q (oq_fieldAddr fld32_1 rfl) rfl rfl rfl ?_
  refine WL.q (oq_loadS [_, _, _, _] agg24 ty24 rfl (.head _) (List.mem_singleton.2 rfl) rfl rfl) rfl rfl rfl ?_
  refine WL.qc (oq_call (fits6 h) call10 rfl) rfl rfl rfl ?_
  refine WL.q (oq_not rfl) rfl rfl rfl ?_
  refine WL.nil (WE.then_normal (WC.sub (fr' := [(10, _)]) ?_ ⟨rfl, trivial⟩))
  refine WC.cond rfl (fun q3 => ?_) (fun q3 => ?_)
  ·
   try simp only [Z1, Z2, Z3, Z4, Z5, Z6, Z7, Z8, Z9, Z0] at q3
   refine WC.seq (WC.region ?_)
   refine WL.q (oq_assign rfl) rfl rfl rfl ?_
   refine WL.nil (WE.then_normal (WC.sub (fr' := [(2, _)]) ?_ ⟨rfl, trivial⟩))
   refine WC.ret (WE.then_ret ?_)
   refine WE.lose hb0_0 ?_
   refine WE.end0 (.inl rfl) (res1 Tryz.results30 rfl) ?_
   unfold fitH; rw [show decide (h.text.length ≤ 2147483647) = false by simpa using q3, Bool.and_false]
  ·
   try simp only [Z1, Z2, Z3, Z4, Z5, Z6, Z7, Z8, Z9, Z0] at q3
   refine WC.skip (WE.then_normal (WC.sub (fr' := []) ?_ trivial))
   refine WC.seq (WC.region ?_)
   refine WL.q (oq_assign rfl) rfl rfl rfl ?_
   refine WL.nil (WE.then_normal (WC.sub (fr' := [(2, _)]) ?_ ⟨rfl, trivial⟩))
   refine WC.ret ?_
   refine WE.lose hb0_0 ?_
   refine WE.end0 (.inl rfl) (res1 Tryz.results30 rfl) ?_
   unfold fitH; rw [show decide (h.text.length ≤ 2147483647) = true by simpa using q3, decide_eq_true (by omega)]; rfl
theorem fits4 (v : Value) (A : Hp) (l : List HV) (hr : RdS 5 v A l.length (recsV HV.row l)) : FnR Tryz.prog 9 [v] A (.bool (fitL l)) := by
 refine FnR.enter (n := 18) Tryz.func9 rfl rfl fun w0 => ?_
 refine WC.sub (fr' := [(0, _)]) ?_ ⟨rfl, trivial⟩
 refine WC.seq (WC.region ?_)
 refine WL.q (oq_assign rfl) rfl rfl rfl ?_
 refine WL.nil (WE.then_normal (WC.sub (fr' := [(0, _)]) ?_ ⟨rfl, trivial⟩))
 refine WC.seq (WC.seq (WC.region ?_))
 refine WL.q (oq_move rfl) rfl rfl rfl ?_
 refine WL.q (oq_len_rd hr Tryz.underlying22 rfl) rfl rfl rfl ?_
 refine WL.q (oq_gtr rfl rfl) rfl rfl rfl ?_
 refine WL.nil (WE.then_normal (WC.sub (fr' := [(0, _), (7, _)]) ?_ ⟨rfl, rfl, trivial⟩))
 refine WC.cond rfl (fun q1 => ?_) (fun q1 => ?_)
 ·
  try simp only [Z1, Z2, Z3, Z4, Z5, Z6, Z7, Z8, Z9, Z0] at q1
  refine WC.seq (WC.region ?_)
  refine WL.q (oq_assign rfl) rfl rfl rfl ?_
  refine WL.nil (WE.then_normal (WC.sub (fr' := [(2, _)]) ?_ ⟨rfl, trivial⟩))
  refine WC.ret (WE.then_ret ?_)
  refine WE.endR (.inl rfl) (res1 Tryz.results9 rfl) ?_
  unfold fitL; rw [decide_eq_false (by omega)]; rfl
 ·
  try simp only [Z1, Z2, Z3, Z4, Z5, Z6, Z7, Z8, Z9, Z0] at q1
  refine WC.skip (WE.then_normal (WC.sub (fr' := [(0, _)]) ?_ ⟨rfl, trivial⟩))
  refine WC.seq (WC.seq (WC.region ?_))
  refine WL.q (oq_move rfl) rfl rfl rfl ?_
  refine WL.q (oq_len_rd hr Tryz.underlying22 rfl) rfl rfl rfl ?_
  refine WL.q (oq_move rfl) rfl rfl rfl ?_
  refine WL.nil (WE.then_normal (WC.sub (fr' := [(8, _), (9, _), (10, _)]) ?_ ⟨rfl, rfl, rfl, trivial⟩))
  refine WC.block ?_
  refine WC.loop (ι := Nat) (fun (i : Nat) => [(8, v), (9, I (l.length : Int)), (10, I (i : Int))]) (fun (i : Nat) => [A]) (fun (i : Nat) => i ≤ l.length ∧ (l.take i).all fitH = true) (fun (i : Nat) => l.length - i) (0) ?_ ⟨rfl, rfl, rfl, trivial⟩ (List.Perm.refl _) ?_
  ·try dsimp only
   exact ⟨by omega, rfl⟩
  ·rintro i hp
   try dsimp only at hp
   obtain ⟨hi, hall⟩ := hp
   show WC _ _ _ _ _ _ ([(8, v), (9, I (l.length : Int)), (10, I (i : Int))]) ([A])
   refine WC.seq (WC.region ?_)
   refine WL.q (oq_lss rfl rfl) rfl rfl rfl ?_
   refine WL.nil (WE.then_normal (WC.sub (fr' := [(8, _), (9, _), (10, _), (11, _)]) ?_ ⟨rfl, rfl, rfl, rfl, trivial⟩))
   refine WC.seq ?_
   refine WC.cond rfl (fun q4 => ?_) (fun q4 => ?_)
   ·
    try simp only [Z1, Z2, Z3, Z4, Z5, Z6, Z7, Z8, Z9, Z0] at q4
    refine WC.skip (WE.then_normal (WC.sub (fr' := [(8, _), (9, _), (10, _)]) ?_ ⟨rfl, rfl, rfl, trivial⟩))
    refine WC.seq (WC.block (WC.seq (WC.region ?_)))
    refine WL.q (oq_ixaddr hr Tryz.underlying22 ty32 rfl rfl (by (first | omega | (simp only [List.length_cons, List.length_nil, List.length_append, List.length_drop, List.length_take]; omega)))) rfl rfl rfl ?_
    refine WL.q (oq_loadEl (f := HV.row) HV0 [_, _, _, _, _] (fun _ => rfl) agg32 ty32 hr (.head _) rfl (by (first | omega | (simp only [List.length_cons, List.length_nil, List.length_append, List.length_drop, List.length_take]; omega))) (by first | exact Int.toNat_natCast _ | exact rfl) rfl) rfl rfl rfl ?_
    refine WL.alloc ty32 rfl rfl fun b5_2 hb5_2 => ?_
    refine WL.storeS #[_, _, _, _, _] ty32 rfl rfl rfl rfl (Nat.le_of_ble_eq_true rfl) rfl rfl ?_
    refine WL.nil (WE.then_normal (WC.sub (fr' := [(4, _), (8, _), (9, _), (10, _)]) ?_ ⟨rfl, rfl, rfl, rfl, trivial⟩))
    refine WC.seq (WC.region ?_)
    refine WL.q (oq_loadS [_, _, _, _, _] agg32 ty32 rfl (.head _) (List.mem_singleton.2 rfl) rfl rfl) rfl rfl rfl ?_
    refine WL.qc (oq_call (fits5 (l.getD i HV0)) call30 rfl) rfl rfl rfl ?_
    refine WL.q (oq_not rfl) rfl rfl rfl ?_
    refine WL.nil (WE.then_normal (WC.sub (fr' := [(8, _), (9, _), (10, _), (16, _)]) ?_ ⟨rfl, rfl, rfl, rfl, trivial⟩))
    refine WC.cond rfl (fun q6 => ?_) (fun q6 => ?_)
    ·
     try simp only [Z1, Z2, Z3, Z4, Z5, Z6, Z7, Z8, Z9, Z0] at q6
     refine WC.seq (WC.region ?_)
     refine WL.q (oq_assign rfl) rfl rfl rfl ?_
     refine WL.nil (WE.then_normal (WC.sub (fr' := [(2, _)]) ?_ ⟨rfl, trivial⟩))
     refine WC.ret (WE.block_ret (WE.then_ret (WE.then_ret (WE.block_ret (WE.then_ret ?_)))))
     refine WE.lose hb5_2 ?_
     refine WE.endR (.inl rfl) (res1 Tryz.results9 rfl) ?_
     unfold fitL; rw [all_not (show i < l.length by omega) (by simpa using q6), Bool.and_false]
    ·
     try simp only [Z1, Z2, Z3, Z4, Z5, Z6, Z7, Z8, Z9, Z0] at q6
     refine WC.skip (WE.block_normal (WE.then_normal (WC.sub (fr' := [(8, _), (9, _), (10, _)]) ?_ ⟨rfl, rfl, rfl, trivial⟩)))
     refine WC.region ?_
     refine WL.q (oq_add rfl rfl (by rw [i64_lo, i64_hi]; (first | omega | (simp only [List.length_cons, List.length_nil, List.length_append, List.length_drop, List.length_take]; omega)))) rfl rfl rfl ?_
     refine WL.q (oq_move rfl) rfl rfl rfl ?_
     refine WL.nil ?_
     refine WE.lose hb5_2 ?_
     refine WE.again (i + 1) ?_ ?_ ⟨rfl, rfl, rfl, trivial⟩ (List.Perm.refl _)
     ·try dsimp only
      exact ⟨by omega, all_snoc (by omega) hall (by simpa using q6)⟩
     ·(try dsimp only); omega
   ·
    try simp only [Z1, Z2, Z3, Z4, Z5, Z6, Z7, Z8, Z9, Z0] at q4
    refine WC.exit (WE.then_exit (WE.then_exit (WE.block_same (WE.then_normal (WC.sub (fr' := []) ?_ trivial)))))
    refine WC.seq (WC.region ?_)
    refine WL.q (oq_assign rfl) rfl rfl rfl ?_
    refine WL.nil (WE.then_normal (WC.sub (fr' := [(2, _)]) ?_ ⟨rfl, trivial⟩))
    refine WC.ret ?_
    refine WE.endR (.inl rfl) (res1 Tryz.results9 rfl) ?_
    obtain rfl : i = l.length := by omega
    rw [List.take_length] at hall
    unfold fitL; rw [hall, decide_eq_true (by omega)]; rfl
theorem fits3 (vh : Value) (A : Hp) (l : List HV) (hr : RdS 5 vh A l.length (recsV HV.row l)) (pp : Option Addr) (pc n : Nat) : FnR Tryz.prog 25 [.agg #[vh, .slice pp n pc]] A (.bool (fitL l && decide (n ≤ 2147483647))) := by
 refine FnR.enter (n := 11) Tryz.func25 rfl rfl fun w0 => ?_
 refine WC.sub (fr' := [(0, _)]) ?_ ⟨rfl, trivial⟩
 refine WC.seq (WC.region ?_)
 refine WL.box rfl rfl rfl fun b0_0 hb0_0 => ?_
 refine WL.q (oq_assign rfl) rfl rfl rfl ?_
 refine WL.nil (WE.then_normal (WC.sub (fr' := [(1, _)]) ?_ ⟨rfl, trivial⟩))
 refine WC.seq (WC.seq (WC.region ?_))
 refine WL.q (oq_fieldAddr fld30_0 rfl) rfl rfl rfl ?_
 refine WL.q (oq_load flat22 rfl (.head _) (List.mem_singleton.2 rfl) rfl) rfl rfl rfl ?_
 refine WL.qc (oq_callRm (fits4 vh A l hr) (.tail _ (.head _)) call9 rfl) rfl rfl rfl ?_
 refine WL.q (oq_not rfl) rfl rfl rfl ?_
 refine WL.nil (WE.then_normal (WC.sub (fr' := [(1, _), (6, _)]) ?_ ⟨rfl, rfl, trivial⟩))
 refine WC.cond rfl (fun q1 => ?_) (fun q1 => ?_)
 ·
  try simp only [Z1, Z2, Z3, Z4, Z5, Z6, Z7, Z8, Z9, Z0] at q1
  refine WC.seq (WC.region ?_)
  refine WL.q (oq_assign rfl) rfl rfl rfl ?_
  refine WL.nil (WE.then_normal (WC.sub (fr' := [(2, _)]) ?_ ⟨rfl, trivial⟩))
  refine WC.ret (WE.then_ret ?_)
  refine WE.lose hb0_0 ?_
  refine WE.endR (.inl rfl) (res1 Tryz.results25 rfl) ?_
  rw [show fitL l = false by simpa using q1]; rfl
 ·
  try simp only [Z1, Z2, Z3, Z4, Z5, Z6, Z7, Z8, Z9, Z0] at q1
  refine WC.skip (WE.then_normal (WC.sub (fr' := [(1, _)]) ?_ ⟨rfl, trivial⟩))
  refine WC.seq (WC.seq (WC.region ?_))
  refine WL.q (oq_fieldAddr fld30_1 rfl) rfl rfl rfl ?_
  refine WL.q (oq_load flat28 rfl (.head _) (List.mem_singleton.2 rfl) rfl) rfl rfl rfl ?_
  refine WL.q (oq_len_sl Tryz.underlying28 rfl) rfl rfl rfl ?_
  refine WL.q (oq_gtr rfl rfl) rfl rfl rfl ?_
  refine WL.nil (WE.then_normal (WC.sub (fr' := [(10, _)]) ?_ ⟨rfl, trivial⟩))
  refine WC.cond rfl (fun q3 => ?_) (fun q3 => ?_)
  ·
   try simp only [Z1, Z2, Z3, Z4, Z5, Z6, Z7, Z8, Z9, Z0] at q3
   refine WC.seq (WC.region ?_)
   refine WL.q (oq_assign rfl) rfl rfl rfl ?_
   refine WL.nil (WE.then_normal (WC.sub (fr' := [(2, _)]) ?_ ⟨rfl, trivial⟩))
   refine WC.ret (WE.then_ret ?_)
   refine WE.lose hb0_0 ?_
   refine WE.endR (.inl rfl) (res1 Tryz.results25 rfl) ?_
   rw [decide_eq_false (by omega), Bool.and_false]
  ·
   try simp only [Z1, Z2, Z3, Z4, Z5, Z6, Z7, Z8, Z9, Z0] at q3
   refine WC.skip (WE.then_normal (WC.sub (fr' := []) ?_ trivial))
   refine WC.seq (WC.region ?_)
   refine WL.q (oq_assign rfl) rfl rfl rfl ?_
   refine WL.nil (WE.then_normal (WC.sub (fr' := [(2, _)]) ?_ ⟨rfl, trivial⟩))
   refine WC.ret ?_
   refine WE.lose hb0_0 ?_
   refine WE.endR (.inl rfl) (res1 Tryz.results25 rfl) ?_
   rw [show fitL l = true by simpa using q1, decide_eq_true (by omega)]; rfl
theorem sized (vh : Value) (A : Hp) (l : List HV) (hr : RdS 5 vh A l.length (recsV HV.row l)) (pp : Option Addr) (pc n : Nat) (hf : fitL l = true) : FnR Tryz.prog 11 [.agg #[vh, .slice pp n pc]] A (.bool (decide (l.length ≤ 100) && decide (sumH l ≤ 70000) && decide (n ≤ 5000))) := by
 have hln := fitL_len hf
 refine FnR.enter (n := 44) Tryz.func11 rfl rfl fun w0 => ?_
 refine WC.sub (fr' := [(0, _)]) ?_ ⟨rfl, trivial⟩
 refine WC.seq (WC.region ?_)
 refine WL.box rfl rfl rfl fun xb hxb => ?_
 refine WL.q (oq_assign rfl) rfl rfl rfl ?_
 refine WL.nil (WE.then_normal (WC.sub (fr' := [(1, _)]) ?_ ⟨rfl, trivial⟩))
 refine WC.seq (WC.region ?_)
 refine WL.q (oq_assign rfl) rfl rfl rfl ?_
 refine WL.nil (WE.then_normal (WC.sub (fr' := [(1, _), (3, _)]) ?_ ⟨rfl, rfl, trivial⟩))
 refine WC.seq (WC.seq (WC.region ?_))
 refine WL.q (oq_assign rfl) rfl rfl rfl ?_
 refine WL.nil (WE.then_normal (WC.sub (fr' := [(1, _), (3, _), (4, _)]) ?_ ⟨rfl, rfl, rfl, trivial⟩))
 refine WC.block ?_
 refine WC.loop (ι := Nat) (fun (i : Nat) => [(1, Pt xb 0), (3, I (sumH (l.take i) : Int)), (4, I (i : Int))]) (fun (i : Nat) => [[(xb, .cells #[vh, .slice pp n pc] 30 (0, 0))], A]) (fun (i : Nat) => i ≤ l.length) (fun (i : Nat) => l.length - i) (0) ?_ ⟨rfl, rfl, rfl, trivial⟩ (List.Perm.refl _) ?_
 ·try dsimp only
  omega
 ·rintro i hp
  try dsimp only at hp
  obtain hi := hp
  show WC _ _ _ _ _ _ ([(1, Pt xb 0), (3, I (sumH (l.take i) : Int)), (4, I (i : Int))]) ([[(xb, .cells #[vh, .slice pp n pc] 30 (0, 0))], A])
  refine WC.seq (WC.seq (WC.region ?_))
  refine WL.q (oq_move rfl) rfl rfl rfl ?_
  refine WL.q (oq_fieldAddr fld30_0 rfl) rfl rfl rfl ?_
  refine WL.q (oq_load flat22 rfl (.head _) (List.mem_singleton.2 rfl) rfl) rfl rfl rfl ?_
  refine WL.q (oq_len_rd hr Tryz.underlying22 rfl) rfl rfl rfl ?_
  refine WL.q (oq_lss rfl rfl) rfl rfl rfl ?_
  refine WL.nil (WE.then_normal (WC.sub (fr' := [(1, _), (3, _), (4, _), (9, _)]) ?_ ⟨rfl, rfl, rfl, rfl, trivial⟩))
  refine WC.cond rfl (fun q3 => ?_) (fun q3 => ?_)
  ·
   try simp only [Z1, Z2, Z3, Z4, Z5, Z6, Z7, Z8, Z9, Z0] at q3
   refine WC.skip (WE.then_normal (WC.sub (fr' := [(1, _), (3, _), (4, _)]) ?_ ⟨rfl, rfl, rfl, trivial⟩))
   refine WC.seq (WC.block ?_)
   have hlt : i < l.length := by omega
   have hfg := fitL_get hf hlt
   have hsm := sumH_le hf i (by omega)
   refine WC.quiet (by kernel_rfl) (by kernel_rfl) ?_
   refine WQ.q (oq_move rfl) rfl rfl rfl ?_
   refine WQ.q (oq_fieldAddr fld30_0 rfl) rfl rfl rfl ?_
   refine WQ.q (oq_load flat22 rfl (.head _) (List.mem_singleton.2 rfl) rfl) rfl rfl rfl ?_
   refine WQ.q (oq_move rfl) rfl rfl rfl ?_
   refine WQ.q (oq_ixaddr hr Tryz.underlying22 ty32 rfl rfl (by (first | omega | (simp only [List.length_cons, List.length_nil, List.length_append, List.length_drop, List.length_take]; omega)))) rfl rfl rfl ?_
   refine WQ.q (oq_fldEl fld32_0 hr rfl (by (first | omega | (simp only [List.length_cons, List.length_nil, List.length_append, List.length_drop, List.length_take]; omega)))) rfl rfl rfl ?_
   refine WQ.q (oq_loadF (f := HV.row) HV0 (fun _ => rfl) flat9 hr (.tail _ (.head _)) rfl (by (first | omega | (simp only [List.length_cons, List.length_nil, List.length_append, List.length_drop, List.length_take]; omega))) (by first | exact Int.toNat_natCast _ | exact rfl) (by decide) rfl) rfl rfl rfl ?_
   refine WQ.q (oq_len_s Tryz.underlying9 rfl) rfl rfl rfl ?_
   refine WQ.q (oq_add rfl rfl (by rw [i64_lo, i64_hi]; (first | omega | (simp only [List.length_cons, List.length_nil, List.length_append, List.length_drop, List.length_take]; omega)))) rfl rfl rfl ?_
   refine WQ.q (oq_fieldAddr fld30_0 rfl) rfl rfl rfl ?_
   refine WQ.q (oq_load flat22 rfl (.head _) (List.mem_singleton.2 rfl) rfl) rfl rfl rfl ?_
   refine WQ.q (oq_move rfl) rfl rfl rfl ?_
   refine WQ.q (oq_ixaddr hr Tryz.underlying22 ty32 rfl rfl (by (first | omega | (simp only [List.length_cons, List.length_nil, List.length_append, List.length_drop, List.length_take]; omega)))) rfl rfl rfl ?_
   refine WQ.q (oq_fldEl fld32_1 hr rfl (by (first | omega | (simp only [List.length_cons, List.length_nil, List.length_append, List.length_drop, List.length_take]; omega)))) rfl rfl rfl ?_
   refine WQ.q (oq_fldElF fld24_3 hr rfl (by (first | omega | (simp only [List.length_cons, List.length_nil, List.length_append, List.length_drop, List.length_take]; omega)))) rfl rfl rfl ?_
   refine WQ.q (oq_loadF (f := HV.row) HV0 (fun _ => rfl) flat9 hr (.tail _ (.head _)) rfl (by (first | omega | (simp only [List.length_cons, List.length_nil, List.length_append, List.length_drop, List.length_take]; omega))) (by first | exact Int.toNat_natCast _ | exact rfl) (by decide) rfl) rfl rfl rfl ?_
   refine WQ.q (oq_len_s Tryz.underlying9 rfl) rfl rfl rfl ?_
   refine WQ.q (oq_add rfl rfl (by rw [i64_lo, i64_hi]; (first | omega | (simp only [List.length_cons, List.length_nil, List.length_append, List.length_drop, List.length_take]; omega)))) rfl rfl rfl ?_
   refine WQ.q (oq_assign rfl) rfl rfl rfl ?_
   refine WQ.nil (WE.block_normal (WE.then_normal (WC.sub (fr' := [(1, _), (3, _), (4, _)]) ?_ ⟨rfl, rfl, rfl, trivial⟩)))
   refine WC.region ?_
   refine WL.q (oq_move rfl) rfl rfl rfl ?_
   refine WL.q (oq_add rfl rfl (by rw [i64_lo, i64_hi]; (first | omega | (simp only [List.length_cons, List.length_nil, List.length_append, List.length_drop, List.length_take]; omega)))) rfl rfl rfl ?_
   refine WL.q (oq_assign rfl) rfl rfl rfl ?_
   refine WL.nil ?_
   refine WE.again (i + 1) ?_ ?_ ⟨rfl, (gti rfl (by (try dsimp only); rw [sumH_snoc hlt]; omega)), rfl, trivial⟩ (List.Perm.refl _)
   ·try dsimp only
    omega
   ·(try dsimp only); omega
  ·
   try simp only [Z1, Z2, Z3, Z4, Z5, Z6, Z7, Z8, Z9, Z0] at q3
   refine WC.exit (WE.then_exit (WE.then_exit (WE.block_same (WE.then_normal (WC.sub (fr' := [(1, _), (3, _)]) ?_ ⟨rfl, rfl, trivial⟩)))))
   refine WC.seq ?_
   obtain rfl : i = l.length := by omega
   rw [List.take_length]
   refine WC.region ?_
   refine WL.q (oq_fieldAddr fld30_0 rfl) rfl rfl rfl ?_
   refine WL.q (oq_load flat22 rfl (.head _) (List.mem_singleton.2 rfl) rfl) rfl rfl rfl ?_
   refine WL.q (oq_len_rd hr Tryz.underlying22 rfl) rfl rfl rfl ?_
   refine WL.q (oq_leq rfl rfl) rfl rfl rfl ?_
   refine WL.q (oq_move rfl) rfl rfl rfl ?_
   refine WL.split 34 rfl (fun s6_4 => ?_) (fun s6_4 => ?_)
   ·
    try simp only [Z1, Z2, Z3, Z4, Z5, Z6, Z7, Z8, Z9, Z0] at s6_4
    refine WL.q (oq_move rfl) rfl rfl rfl ?_
    refine WL.q (oq_leq rfl rfl) rfl rfl rfl ?_
    refine WL.q (oq_pick_t rfl rfl) rfl rfl rfl ?_
    refine WL.q (oq_move rfl) rfl rfl rfl ?_
    refine WL.split 38 rfl (fun s6_8 => ?_) (fun s6_8 => ?_)
    ·
     try simp only [Z1, Z2, Z3, Z4, Z5, Z6, Z7, Z8, Z9, Z0] at s6_8
     refine WL.q (oq_fieldAddr fld30_1 rfl) rfl rfl rfl ?_
     refine WL.q (oq_load flat28 rfl (.head _) (List.mem_singleton.2 rfl) rfl) rfl rfl rfl ?_
     refine WL.q (oq_len_sl Tryz.underlying28 rfl) rfl rfl rfl ?_
     refine WL.q (oq_leq rfl rfl) rfl rfl rfl ?_
     refine WL.q (oq_pick_t rfl rfl) rfl rfl rfl ?_
     refine WL.q (oq_assign rfl) rfl rfl rfl ?_
     refine WL.nil (WE.then_normal (WC.sub (fr' := [(2, _)]) ?_ ⟨rfl, trivial⟩))
     refine WC.ret ?_
     refine WE.lose hxb ?_
     refine WE.endR (.inl rfl) (res1 Tryz.results11 rfl) ?_
     congr 1; rw [Bool.eq_iff_iff]; simp; omega
    ·
     try simp only [Z1, Z2, Z3, Z4, Z5, Z6, Z7, Z8, Z9, Z0] at s6_8
     refine WL.skip rfl rfl rfl ?_
     refine WL.skip rfl rfl rfl ?_
     refine WL.skip rfl rfl rfl ?_
     refine WL.skip rfl rfl rfl ?_
     refine WL.q (oq_pick_f rfl rfl) rfl rfl rfl ?_
     refine WL.q (oq_assign rfl) rfl rfl rfl ?_
     refine WL.nil (WE.then_normal (WC.sub (fr' := [(2, _)]) ?_ ⟨rfl, trivial⟩))
     refine WC.ret ?_
     refine WE.lose hxb ?_
     refine WE.endR (.inl rfl) (res1 Tryz.results11 rfl) ?_
     congr 1; rw [Bool.eq_iff_iff]; simp; omega
   ·
    try simp only [Z1, Z2, Z3, Z4, Z5, Z6, Z7, Z8, Z9, Z0] at s6_4
    refine WL.skip rfl rfl rfl ?_
    refine WL.skip rfl rfl rfl ?_
    refine WL.q (oq_pick_f rfl rfl) rfl rfl rfl ?_
    refine WL.q (oq_move rfl) rfl rfl rfl ?_
    refine WL.skip rfl rfl rfl ?_
    refine WL.skip rfl rfl rfl ?_
    refine WL.skip rfl rfl rfl ?_
    refine WL.skip rfl rfl rfl ?_
    refine WL.q (oq_pick_f rfl rfl) rfl rfl rfl ?_
    refine WL.q (oq_assign rfl) rfl rfl rfl ?_
    refine WL.nil (WE.then_normal (WC.sub (fr' := [(2, _)]) ?_ ⟨rfl, trivial⟩))
    refine WC.ret ?_
    refine WE.lose hxb ?_
    refine WE.endR (.inl rfl) (res1 Tryz.results11 rfl) ?_
    congr 1; rw [Bool.eq_iff_iff]; simp; omega
end EO
end Go.Proofs.YtodlhaghdplclaaGreatDoor
/- The bytes of headers, as the reference tells them. -/
namespace Go.Proofs.YtodlhaghdplclaaGreatDoor
open Go Go.RowKit V EA EB EC ED EE EF EG EH EI EJ EK EL EM EN EO
set_option linter.unusedSimpArgs false
set_option linter.unusedVariables false
set_option maxRecDepth 10000
namespace EP
theorem flat2 : Flat Tryz.prog 2 := ⟨_, Tryz.underlying2, by simp⟩
theorem flat3 : Flat Tryz.prog 3 := ⟨_, Tryz.underlying3, by simp⟩
theorem flat9 : Flat Tryz.prog 9 := ⟨_, Tryz.underlying9, by simp⟩
theorem ty2 : Ty Tryz.prog 2 (.int .i64 0) 1 8 := ty_of (by kernel_rfl)
theorem ty3 : Ty Tryz.prog 3 (.int .i64 0) 1 8 := ty_of (by kernel_rfl)
theorem ty5 : Ty Tryz.prog 5 (.int .u8 0) 1 1 := ty_of (by kernel_rfl)
theorem ty9 : Ty Tryz.prog 9 (S []) 1 16 := ty_of (by kernel_rfl)
theorem ty24 : Ty Tryz.prog 24 (.agg #[(.int .i64 0), (.int .i64 0), (.int .i64 0), (S [])]) 4 40 := ty_of (by kernel_rfl)
theorem ty32 : Ty Tryz.prog 32 (.agg #[(S []), (.int .i64 0), (.int .i64 0), (.int .i64 0), (S [])]) 5 56 := ty_of (by kernel_rfl)
theorem agg24 : Agg Tryz.prog 24 := agg_of Tryz.underlying24
theorem fld24_0 : Fld Tryz.prog 24 0 0 3 := fld_of Tryz.underlying24 rfl rfl rfl ty3 (by decide)
theorem fld24_1 : Fld Tryz.prog 24 1 1 3 := fld_of Tryz.underlying24 rfl rfl rfl ty3 (by decide)
theorem fld24_2 : Fld Tryz.prog 24 2 2 2 := fld_of Tryz.underlying24 rfl rfl rfl ty2 (by decide)
theorem fld24_3 : Fld Tryz.prog 24 3 3 9 := fld_of Tryz.underlying24 rfl rfl rfl ty9 (by decide)
theorem fld32_0 : Fld Tryz.prog 32 0 0 9 := fld_of Tryz.underlying32 rfl rfl rfl ty9 (by decide)
theorem fld32_1 : Fld Tryz.prog 32 1 1 24 := fld_of Tryz.underlying32 rfl rfl rfl ty24 (by decide)
theorem bytesV_app (xs ys : List UInt8) : bytesV xs ++ bytesV ys = bytesV (xs ++ ys) := by simp [bytesV]
end EP
end Go.Proofs.YtodlhaghdplclaaGreatDoor
/- The bytes of a message, as the reference tells them. -/
namespace Go.Proofs.YtodlhaghdplclaaGreatDoor
open Go Go.RowKit V EA EB EC ED EE EF EG EH EI EJ EK EL EM EN EO EP
set_option linter.unusedSimpArgs false
set_option linter.unusedVariables false
set_option maxRecDepth 10000
namespace EQ
theorem flat22 : Flat Tryz.prog 22 := ⟨_, Tryz.underlying22, by simp⟩
theorem flat28 : Flat Tryz.prog 28 := ⟨_, Tryz.underlying28, by simp⟩
theorem ty5 : Ty Tryz.prog 5 (.int .u8 0) 1 1 := ty_of (by kernel_rfl)
theorem ty22 : Ty Tryz.prog 22 (.slice none 0 0) 1 24 := ty_of (by kernel_rfl)
theorem ty28 : Ty Tryz.prog 28 (.slice none 0 0) 1 24 := ty_of (by kernel_rfl)
theorem fld30_0 : Fld Tryz.prog 30 0 0 22 := fld_of Tryz.underlying30 rfl rfl rfl ty22 (by decide)
theorem fld30_1 : Fld Tryz.prog 30 1 1 28 := fld_of Tryz.underlying30 rfl rfl rfl ty28 (by decide)
end EQ
end Go.Proofs.YtodlhaghdplclaaGreatDoor
