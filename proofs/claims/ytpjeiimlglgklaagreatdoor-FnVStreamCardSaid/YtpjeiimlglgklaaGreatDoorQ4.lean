/- Preludes, sums, limits. -/
import Derived.Test.YtpjeiimlglgklaaGreatDoorQ3
import Derived.Test.YtpjeiimlglgklaaGreatDoorQ1
namespace Go.Proofs.YtpjeiimlglgklaaGreatDoor
open Go Go.RowKit V EA EB EC ED EL DC DD DA DE EE EH EI EJ DF DG DH DI EM
set_option linter.unusedSimpArgs false
set_option linter.unusedVariables false
set_option maxRecDepth 10000
namespace DJ
theorem call30 : Callable Tryz.prog 30 := ⟨_, Tryz.func30, rfl, by kernel_rfl⟩
theorem call37 : Callable Tryz.prog 37 := ⟨_, Tryz.func37, rfl, by kernel_rfl⟩
theorem call46 : Callable Tryz.prog 46 := ⟨_, Tryz.func46, rfl, by kernel_rfl⟩
theorem call51 : Callable Tryz.prog 51 := ⟨_, Tryz.func51, rfl, by kernel_rfl⟩
theorem flat75 : Flat Tryz.prog 75 := ⟨_, Tryz.underlying75, by simp⟩
theorem ty65 : Ty Tryz.prog 65 (.agg #[]) 0 0 := ty_of (by kernel_rfl)
theorem ty67 : Ty Tryz.prog 67 (.agg #[(S []), (.int .i64 0), (.int .i64 0), .nilIface]) 4 48 := ty_of (by kernel_rfl)
theorem ty75 : Ty Tryz.prog 75 (.int .u32 0) 1 4 := ty_of (by kernel_rfl)
theorem ty108 : Ty Tryz.prog 108 (.agg #[(.int .u32 0), (.int .u32 0), (.int .u32 0)]) 3 12 := ty_of (by kernel_rfl)
theorem ty151 : Ty Tryz.prog 151 (.agg #[.nilIface, (.int .i64 0)]) 2 24 := ty_of (by kernel_rfl)
theorem ty155 : Ty Tryz.prog 155 (.agg #[.nilIface, .nilIface]) 2 32 := ty_of (by kernel_rfl)
theorem conc65 : Conc Tryz.prog 65 := ⟨_, Tryz.underlying65, by simp⟩
theorem conc67 : Conc Tryz.prog 67 := ⟨_, Tryz.underlying67, by simp⟩
theorem conc148 : Conc Tryz.prog 148 := ⟨_, Tryz.underlying148, by simp⟩
theorem conc153 : Conc Tryz.prog 153 := ⟨_, Tryz.underlying153, by simp⟩
theorem agg108 : Agg Tryz.prog 108 := agg_of Tryz.underlying108
theorem str65 : Str Tryz.prog 65 #[] := ⟨_, Tryz.underlying65, fun w => by kernel_rfl⟩
theorem str67 : Str Tryz.prog 67 #[(0, 1), (1, 1), (2, 1), (3, 1)] := ⟨_, Tryz.underlying67, fun w => by kernel_rfl⟩
theorem str108 : Str Tryz.prog 108 #[(0, 1), (1, 1), (2, 1)] := ⟨_, Tryz.underlying108, fun w => by kernel_rfl⟩
theorem str151 : Str Tryz.prog 151 #[(0, 1), (1, 1)] := ⟨_, Tryz.underlying151, fun w => by kernel_rfl⟩
theorem str155 : Str Tryz.prog 155 #[(0, 1), (1, 1)] := ⟨_, Tryz.underlying155, fun w => by kernel_rfl⟩
theorem fld108_0 : Fld Tryz.prog 108 0 0 75 := fld_of Tryz.underlying108 rfl rfl rfl ty75 (by decide)
theorem fld108_1 : Fld Tryz.prog 108 1 1 75 := fld_of Tryz.underlying108 rfl rfl rfl ty75 (by decide)
theorem fld108_2 : Fld Tryz.prog 108 2 2 75 := fld_of Tryz.underlying108 rfl rfl rfl ty75 (by decide)
def preC (all : List UInt8) : Nat := if all.length < 4 then rdc 4 all else if all.length < 8 then rdc 4 (all.drop 4) else if totl all = 0 then 4 else if all.length < 12 then rdc 4 (all.drop 8) else if sumOk all = false then 3 else 0
def vcC (e : Nat) (rs : List UInt8) : Nat := if rs.length < 4 then rdc 4 rs else if nm (rs.take 4) = e then 0 else 3
theorem vcC_s {e : Nat} {rs : List UInt8} (h : rs.length < 4) : vcC e rs = rdc 4 rs := if_pos h
theorem vcC_0 {e : Nat} {rs : List UInt8} (h : 4 ≤ rs.length) (h2 : nm (rs.take 4) = e) : vcC e rs = 0 := by unfold vcC; rw [if_neg (by omega), if_pos h2]
theorem vcC_3 {e : Nat} {rs : List UInt8} (h : 4 ≤ rs.length) (h2 : nm (rs.take 4) ≠ e) : vcC e rs = 3 := by unfold vcC; rw [if_neg (by omega), if_neg h2]
theorem vcC_le (e : Nat) (rs : List UInt8) : vcC e rs ≤ 3 := by
 unfold vcC; split
 ·have := rdc_small 4 rs; omega
 ·split <;> omega
def SumR (hb : Nat) (all : List UInt8) (Rt : List UInt8 → Hp → Prop) : Prop := ∀ rs G, Rt rs G → FnR Tryz.prog 30 [Pt hb 0] G (U32 (crc (all.take (all.length - rs.length))))
theorem teeSum (tb : Nat) (k : TypeId) (r : Value) (hb : Nat) (Rt : List UInt8 → Hp → Prop) (all : List UInt8) : SumR hb all (TeeG tb k r hb Rt all) := by
 rintro rs G ⟨acc, X, rfl, rfl, hX⟩
 have e : (acc ++ rs).take ((acc ++ rs).length - rs.length) = acc := by
  rw [List.length_append, Nat.add_sub_cancel, List.take_left' rfl]
 rw [e]
 exact (sum32 hb (crc acc)).wide List.perm_append_comm
def PreR (kE : TypeId) (pE pU : Addr) (E : Hp) (Rt : List UInt8 → Hp → Prop) (all : List UInt8) (w : Value) (Hs : List Hp) : Prop :=
 ∃ X2 pv c rs', w = .tuple #[pv, erv kE pE pU 0 c] ∧ Hs = [X2, E] ∧ c = preC all ∧ Rt rs' X2 ∧ (0 < all.length → rs'.length < all.length) ∧ (∃ a b d, pv = .agg #[a, b, d] ∧ a.oneCell' = true ∧ b.oneCell' = true ∧ d.oneCell' = true) ∧ (c = 0 → rs' = all.drop 12 ∧ ∃ d : Value, pv = .agg #[.int .u32 (totl all : Nat), .int .u32 (head all : Nat), d])
theorem pre_tail {all : List UInt8} {c : Nat} (h4 : 4 ≤ all.length) (h8 : 8 ≤ all.length) (hz : totl all ≠ 0) (hc : c = vcC (crc (all.take 8)).toNat (all.drop 8)) : c = preC all := by
 unfold preC
 rw [if_neg (by omega), if_neg (by omega), if_neg hz, hc]
 by_cases h12 : all.length < 12
 ·rw [if_pos h12, vcC_s (by rw [List.length_drop]; omega)]
 ·rw [if_neg h12]
  have h : 4 ≤ (all.drop 8).length := by rw [List.length_drop]; omega
  by_cases hs : (crc (all.take 8)).toNat = nm ((all.drop 8).take 4)
  ·rw [vcC_0 h hs.symm, if_neg (by unfold sumOk; simp [hs])]
  ·rw [vcC_3 h (fun e => hs e.symm), if_pos (by unfold sumOk; simp [hs])]
theorem validCRC (base : Nat) (E : Hp) (kE : TypeId) (pE pU : Addr) (hS : Sn E kE pE pU) (k : TypeId) (r : Value) (f : FuncId) (Rt : List UInt8 → Hp → Prop) (hR : Rr base k r f E kE pE pU Rt) (rs : List UInt8) (X : Hp) (hX : Rt rs X) (hrs : rs.length ≤ 1000000) (e : Nat) : FnW Tryz.prog 46 [.iface k r, .int .u32 (e : Nat)] base [X, E] (fun w Hs => ∃ X2, w = erv kE pE pU 0 (vcC e rs) ∧ Hs = [X2, E] ∧ Rt (rs.drop 4) X2) := by
 refine FnW.enter (n := 20) Tryz.func46 rfl rfl fun w0 R0 hbase => ?_
 subst hbase
 show WC _ _ _ _ _ _ _ ([X, E, R0])
 refine WC.sub (fr' := [(0, _), (1, _)]) ?_ ⟨rfl, rfl, trivial⟩
 refine WC.seq (WC.region ?_)
 refine WL.q (oq_assign rfl) rfl rfl rfl ?_
 refine WL.nil (WE.then_normal (WC.sub (fr' := [(0, _), (1, _)]) ?_ ⟨rfl, rfl, trivial⟩))
 refine WC.seq (WC.region ?_)
 refine WL.q (oq_move rfl) rfl rfl rfl ?_
 refine WL.f1 ?_
 refine WL.f1 ?_
 refine WL.callW2 (dec32 _ E kE pE pU hS k r f Rt hR rs X hX hrs) call51 rfl rfl rfl fun v1_1 Hs1_1 hR1_1 => ?_
 obtain ⟨X2, x, rfl, rfl, hX2, hb, hxl⟩ := hR1_1
 refine WL.to2 ?_
 refine WL.q (oq_move rfl) rfl rfl rfl ?_
 refine WL.q (oq_extract rfl rfl) rfl rfl rfl ?_
 refine WL.q (oq_extract rfl rfl) rfl rfl rfl ?_
 refine WL.q (oq_assign rfl) rfl rfl rfl ?_
 refine WL.q (oq_assign rfl) rfl rfl rfl ?_
 refine WL.nil (WE.then_normal (WC.sub (fr' := [(1, _), (5, _), (6, _)]) ?_ ⟨rfl, rfl, rfl, trivial⟩))
 refine WC.seq (WC.seq (WC.region ?_))
 refine WL.q (oq_move rfl) rfl rfl rfl ?_
 refine WL.q (oq_ineq Tryz.underlying41 rfl (erv_or _ _ _ _ _)) rfl rfl rfl ?_
 refine WL.nil (WE.then_normal (WC.sub (fr' := [(1, _), (5, _), (6, _), (13, _)]) ?_ ⟨rfl, rfl, rfl, rfl, trivial⟩))
 refine WC.cond rfl (fun q2 => ?_) (fun q2 => ?_)
 ·
  try simp only [Z1, Z2, Z3, Z4, Z5, Z6, Z7, Z8, Z9, Z0] at q2
  refine WC.seq (WC.region ?_)
  refine WL.q (oq_move rfl) rfl rfl rfl ?_
  refine WL.q (oq_assign rfl) rfl rfl rfl ?_
  refine WL.nil (WE.then_normal (WC.sub (fr' := [(4, _)]) ?_ ⟨rfl, trivial⟩))
  refine WC.ret (WE.then_ret ?_)
  refine WE.endW2 (.inl rfl) (res1 Tryz.results46 rfl) ?_
  have hne := rdcN (ervN q2)
  rw [vcC_s hne.1]
  exact ⟨X2, rfl, rfl, hX2⟩
 ·
  try simp only [Z1, Z2, Z3, Z4, Z5, Z6, Z7, Z8, Z9, Z0] at q2
  refine WC.skip (WE.then_normal (WC.sub (fr' := [(1, _), (5, _)]) ?_ ⟨rfl, rfl, trivial⟩))
  refine WC.seq (WC.seq (WC.region ?_))
  refine WL.q (oq_move rfl) rfl rfl rfl ?_
  refine WL.q (oq_move rfl) rfl rfl rfl ?_
  refine WL.q (oq_neq rfl rfl) rfl rfl rfl ?_
  refine WL.nil (WE.then_normal (WC.sub (fr' := [(17, _)]) ?_ ⟨rfl, trivial⟩))
  refine WC.cond rfl (fun q4 => ?_) (fun q4 => ?_)
  ·
   try simp only [Z1, Z2, Z3, Z4, Z5, Z6, Z7, Z8, Z9, Z0] at q4
   refine WC.seq (WC.region ?_)
   refine WL.q (oq_build (#[]) str65 ty65 rfl (by kernel_rfl)) rfl rfl rfl ?_
   refine WL.q (oq_makeI conc65 rfl) rfl rfl rfl ?_
   refine WL.q (oq_assign rfl) rfl rfl rfl ?_
   refine WL.nil (WE.then_normal (WC.sub (fr' := [(4, _)]) ?_ ⟨rfl, trivial⟩))
   refine WC.ret (WE.then_ret ?_)
   refine WE.endW2 (.inl rfl) (res1 Tryz.results46 rfl) ?_
   have hle := rdc0 (erv0 q2)
   rw [vcC_3 hle (by rw [← hb hle]; omega)]
   exact ⟨X2, rfl, rfl, hX2⟩
  ·
   try simp only [Z1, Z2, Z3, Z4, Z5, Z6, Z7, Z8, Z9, Z0] at q4
   refine WC.skip (WE.then_normal (WC.sub (fr' := []) ?_ trivial))
   refine WC.seq (WC.region ?_)
   refine WL.q (oq_assign rfl) rfl rfl rfl ?_
   refine WL.nil (WE.then_normal (WC.sub (fr' := [(4, _)]) ?_ ⟨rfl, trivial⟩))
   refine WC.ret ?_
   refine WE.endW2 (.inl rfl) (res1 Tryz.results46 rfl) ?_
   have hle := rdc0 (erv0 q2)
   rw [vcC_0 hle (by rw [← hb hle]; omega)]
   exact ⟨X2, rfl, rfl, hX2⟩
theorem validLens2 (n : Nat) (hn : n < 4294967296) (a b : Value) (kE : TypeId) (pE pU : Addr) : Fn0 Tryz.prog 37 [.agg #[.int .u32 (n : Int), a, b]] (erv kE pE pU 0 (if n = 0 then 4 else 0)) := by
 refine Fn0.enter (n := 11) Tryz.func37 rfl rfl fun w0 => ?_
 refine WC.sub (fr' := [(0, _)]) ?_ ⟨rfl, trivial⟩
 refine WC.seq (WC.region ?_)
 refine WL.box rfl rfl rfl fun b0_0 hb0_0 => ?_
 refine WL.q (oq_assign rfl) rfl rfl rfl ?_
 refine WL.nil (WE.then_normal (WC.sub (fr' := [(1, _)]) ?_ ⟨rfl, trivial⟩))
 refine WC.seq (WC.seq (WC.region ?_))
 refine WL.q (oq_fieldAddr fld108_0 rfl) rfl rfl rfl ?_
 refine WL.q (oq_load flat75 rfl (.head _) (List.mem_singleton.2 rfl) rfl) rfl rfl rfl ?_
 refine WL.q (oq_eql rfl rfl) rfl rfl rfl ?_
 refine WL.nil (WE.then_normal (WC.sub (fr' := [(1, _), (5, _)]) ?_ ⟨rfl, rfl, trivial⟩))
 refine WC.cond rfl (fun q1 => ?_) (fun q1 => ?_)
 ·
  try simp only [Z1, Z2, Z3, Z4, Z5, Z6, Z7, Z8, Z9, Z0] at q1
  refine WC.seq (WC.region ?_)
  refine WL.q (oq_fieldAddr fld108_0 rfl) rfl rfl rfl ?_
  refine WL.q (oq_load flat75 rfl (.head _) (List.mem_singleton.2 rfl) rfl) rfl rfl rfl ?_
  refine WL.q (oq_conv Tryz.underlying75 Tryz.underlying3 rfl (by rw [i64_lo, i64_hi]; (first | omega | (simp only [List.length_cons, List.length_nil, List.length_append, List.length_drop, List.length_take]; omega)))) rfl rfl rfl ?_
  refine WL.q (oq_build (#[S [109, 101, 115, 115, 97, 103, 101, 32, 112, 114, 101, 108, 117, 100, 101], I 16, I (n : Int), .nilIface]) str67 ty67 rfl (by kernel_rfl)) rfl rfl rfl ?_
  refine WL.q (oq_makeI conc67 rfl) rfl rfl rfl ?_
  refine WL.q (oq_assign rfl) rfl rfl rfl ?_
  refine WL.nil (WE.then_normal (WC.sub (fr' := [(2, _)]) ?_ ⟨rfl, trivial⟩))
  refine WC.ret (WE.then_ret ?_)
  refine WE.lose hb0_0 ?_
  refine WE.end0 (.inl rfl) (res1 Tryz.results37 rfl) ?_
  obtain rfl : n = 0 := by omega
  rfl
 ·
  try simp only [Z1, Z2, Z3, Z4, Z5, Z6, Z7, Z8, Z9, Z0] at q1
  refine WC.skip (WE.then_normal (WC.sub (fr' := []) ?_ trivial))
  refine WC.seq (WC.region ?_)
  refine WL.q (oq_assign rfl) rfl rfl rfl ?_
  refine WL.nil (WE.then_normal (WC.sub (fr' := [(2, _)]) ?_ ⟨rfl, trivial⟩))
  refine WC.ret ?_
  refine WE.lose hb0_0 ?_
  refine WE.end0 (.inl rfl) (res1 Tryz.results37 rfl) ?_
  rw [if_neg (by omega)]; rfl
theorem payloadLen (a b : Nat) (c : Value) (h : 16 + b ≤ a) (ha : a < 4294967296) : Fn0 Tryz.prog 44 [.agg #[.int .u32 (a : Int), .int .u32 (b : Int), c]] (.int .u32 ((a - 16 - b : Nat) : Int)) := by
 refine Fn0.enter (n := 9) Tryz.func44 rfl rfl fun w0 => ?_
 refine WC.sub (fr' := [(0, _)]) ?_ ⟨rfl, trivial⟩
 refine WC.seq (WC.region ?_)
 refine WL.box rfl rfl rfl fun b0_0 hb0_0 => ?_
 refine WL.q (oq_assign rfl) rfl rfl rfl ?_
 refine WL.nil (WE.then_normal (WC.sub (fr' := [(1, _)]) ?_ ⟨rfl, trivial⟩))
 refine WC.seq (WC.region ?_)
 refine WL.q (oq_fieldAddr fld108_0 rfl) rfl rfl rfl ?_
 refine WL.q (oq_load flat75 rfl (.head _) (List.mem_singleton.2 rfl) rfl) rfl rfl rfl ?_
 refine WL.q (oq_fieldAddr fld108_1 rfl) rfl rfl rfl ?_
 refine WL.q (oq_load flat75 rfl (.head _) (List.mem_singleton.2 rfl) rfl) rfl rfl rfl ?_
 refine WL.q (oq_sub rfl rfl (by rw [u32_lo, u32_hi]; (first | omega | (simp only [List.length_cons, List.length_nil, List.length_append, List.length_drop, List.length_take]; omega)))) rfl rfl rfl ?_
 refine WL.q (oq_sub rfl rfl (by rw [u32_lo, u32_hi]; (first | omega | (simp only [List.length_cons, List.length_nil, List.length_append, List.length_drop, List.length_take]; omega)))) rfl rfl rfl ?_
 refine WL.q (oq_assign rfl) rfl rfl rfl ?_
 refine WL.nil (WE.then_normal (WC.sub (fr' := [(2, _)]) ?_ ⟨rfl, trivial⟩))
 refine WC.ret ?_
 refine WE.lose hb0_0 ?_
 refine WE.end0 (.inl rfl) (res1 Tryz.results44 rfl) ?_
 congr 1; omega
theorem teeReader (k : TypeId) (r : Value) (hb : Nat) : FnA Tryz.prog 40 [.iface k r, .iface 74 (Pt hb 0)] [] (fun w N => ∃ tb, w = .iface 153 (Pt tb 0) ∧ N = TB tb k r hb) := by
 refine FnA.enter0 (n := 10) Tryz.func40 rfl rfl fun w0 => ?_
 refine WC.sub (fr' := [(0, _), (1, _)]) ?_ ⟨rfl, rfl, trivial⟩
 refine WC.seq (WC.region ?_)
 refine WL.q (oq_assign rfl) rfl rfl rfl ?_
 refine WL.nil (WE.then_normal (WC.sub (fr' := [(0, _), (1, _)]) ?_ ⟨rfl, rfl, trivial⟩))
 refine WC.seq (WC.region ?_)
 refine WL.q (oq_move rfl) rfl rfl rfl ?_
 refine WL.q (oq_move rfl) rfl rfl rfl ?_
 refine WL.q (oq_build #[_, _] str155 ty155 rfl rfl) rfl rfl rfl ?_
 refine WL.box rfl rfl rfl fun tb htb => ?_
 refine WL.q (oq_makeI conc153 rfl) rfl rfl rfl ?_
 refine WL.q (oq_assign rfl) rfl rfl rfl ?_
 refine WL.nil (WE.then_normal (WC.sub (fr' := [(4, _)]) ?_ ⟨rfl, trivial⟩))
 refine WC.ret ?_
 refine WE.endA0 (.inl rfl) (res1 Tryz.results40 rfl) ?_ (fresh1 htb)
 exact ⟨_, rfl, rfl⟩
theorem limitReader (k : TypeId) (r : Value) (n : Int) : FnA Tryz.prog 42 [.iface k r, I n] [] (fun w N => ∃ lb, w = .iface 148 (Pt lb 0) ∧ N = LB lb k r n) := by
 refine FnA.enter0 (n := 10) Tryz.func42 rfl rfl fun w0 => ?_
 refine WC.sub (fr' := [(0, _), (1, _)]) ?_ ⟨rfl, rfl, trivial⟩
 refine WC.seq (WC.region ?_)
 refine WL.q (oq_assign rfl) rfl rfl rfl ?_
 refine WL.nil (WE.then_normal (WC.sub (fr' := [(0, _), (1, _)]) ?_ ⟨rfl, rfl, trivial⟩))
 refine WC.seq (WC.region ?_)
 refine WL.q (oq_move rfl) rfl rfl rfl ?_
 refine WL.q (oq_move rfl) rfl rfl rfl ?_
 refine WL.q (oq_build #[_, _] str151 ty151 rfl rfl) rfl rfl rfl ?_
 refine WL.box rfl rfl rfl fun lb hlb => ?_
 refine WL.q (oq_makeI conc148 rfl) rfl rfl rfl ?_
 refine WL.q (oq_assign rfl) rfl rfl rfl ?_
 refine WL.nil (WE.then_normal (WC.sub (fr' := [(4, _)]) ?_ ⟨rfl, trivial⟩))
 refine WC.ret ?_
 refine WE.endA0 (.inl rfl) (res1 Tryz.results42 rfl) ?_ (fresh1 hlb)
 exact ⟨_, rfl, rfl⟩
theorem decPrelude (base hb : Nat) (E : Hp) (kE : TypeId) (pE pU : Addr) (hS : Sn E kE pE pU) (k : TypeId) (r : Value) (f : FuncId) (Rt : List UInt8 → Hp → Prop) (hR : Rr base k r f E kE pE pU Rt) (all : List UInt8) (hsum : SumR hb all Rt) (X : Hp) (hX : Rt all X) (hrs : all.length ≤ 1000000) : FnW Tryz.prog 41 [.iface k r, Pt hb 0] base [X, E] (PreR kE pE pU E Rt all) := by
 refine FnW.enter (n := 49) Tryz.func41 rfl rfl fun w0 R0 hbase => ?_
 subst hbase
 show WC _ _ _ _ _ _ _ ([X, E, R0])
 refine WC.sub (fr' := [(0, _), (1, _)]) ?_ ⟨rfl, rfl, trivial⟩
 refine WC.seq (WC.region ?_)
 refine WL.alloc ty108 rfl rfl fun res hres => ?_
 refine WL.q (oq_assign rfl) rfl rfl rfl ?_
 refine WL.nil (WE.then_normal (WC.sub (fr' := [(0, _), (1, _), (4, _)]) ?_ ⟨rfl, rfl, rfl, trivial⟩))
 refine WC.seq (WC.region ?_)
 refine WL.alloc ty108 rfl rfl fun pb hpb => ?_
 refine WL.nil (WE.then_normal (WC.sub (fr' := [(0, _), (1, _), (4, _), (6, _)]) ?_ ⟨rfl, rfl, rfl, rfl, trivial⟩))
 refine WC.seq (WC.region ?_)
 refine WL.q (oq_assign rfl) rfl rfl rfl ?_
 refine WL.nil (WE.then_normal (WC.sub (fr' := [(0, _), (1, _), (4, _), (6, _)]) ?_ ⟨rfl, rfl, rfl, rfl, trivial⟩))
 refine WC.seq (WC.region ?_)
 refine WL.q (oq_move rfl) rfl rfl rfl ?_
 refine WL.f3 ?_
 refine WL.f3 ?_
 refine WL.callW2 (dec32 _ E kE pE pU hS k r f Rt hR all X hX (by first | omega | (rw [List.length_drop]; omega))) call51 rfl rfl rfl fun v3_1 Hs3_1 hR3_1 => ?_
 obtain ⟨X2, x1, rfl, rfl, hX2, hb1, hx1⟩ := hR3_1
 refine WL.to2 ?_
 refine WL.q (oq_move rfl) rfl rfl rfl ?_
 refine WL.q (oq_extract rfl rfl) rfl rfl rfl ?_
 refine WL.q (oq_extract rfl rfl) rfl rfl rfl ?_
 refine WL.q (oq_fieldAddr fld108_0 rfl) rfl rfl rfl ?_
 refine WL.f2 ?_
 refine WL.store1 #[_, _, _] ty75 rfl rfl (by first | rfl | exact OwS.one rfl) (Nat.lt_of_lt_of_le (Nat.lt_succ_self _) (Nat.le_of_ble_eq_true rfl)) rfl rfl ?_
 refine WL.q (oq_assign rfl) rfl rfl rfl ?_
 refine WL.nil (WE.then_normal (WC.sub (fr' := [(0, _), (1, _), (4, _), (6, _), (7, _)]) ?_ ⟨rfl, rfl, rfl, rfl, rfl, trivial⟩))
 refine WC.seq (WC.seq (WC.region ?_))
 refine WL.q (oq_move rfl) rfl rfl rfl ?_
 refine WL.q (oq_ineq Tryz.underlying41 rfl (erv_or _ _ _ _ _)) rfl rfl rfl ?_
 refine WL.nil (WE.then_normal (WC.sub (fr' := [(0, _), (1, _), (4, _), (6, _), (7, _), (18, _)]) ?_ ⟨rfl, rfl, rfl, rfl, rfl, rfl, trivial⟩))
 refine WC.cond rfl (fun q4 => ?_) (fun q4 => ?_)
 ·
  try simp only [Z1, Z2, Z3, Z4, Z5, Z6, Z7, Z8, Z9, Z0] at q4
  refine WC.seq (WC.region ?_)
  refine WL.q (oq_build #[_, _, _] str108 ty108 rfl rfl) rfl rfl rfl ?_
  refine WL.q (oq_move rfl) rfl rfl rfl ?_
  refine WL.f3 ?_
  refine WL.storeS #[_, _, _] ty108 rfl rfl rfl rfl (Nat.le_of_ble_eq_true rfl) rfl rfl ?_
  refine WL.q (oq_assign rfl) rfl rfl rfl ?_
  refine WL.nil (WE.then_normal (WC.sub (fr' := [(4, _), (5, _)]) ?_ ⟨rfl, rfl, trivial⟩))
  refine WC.ret (WE.then_ret ?_)
  refine WE.endDW [_, _] (.inl rfl) (rs2 Tryz.results41 (rv_cellS [_, _, _] agg108 ty108 rfl (.head _) (List.mem_singleton.2 rfl) rfl rfl) (rv_tmp rfl)) (dr_lose hres (dr_lose hpb dr_refl)) ?_
  have hne := rdcN (ervN q4)
  refine ⟨X2, _, _, _, rfl, rfl, by unfold preC; rw [if_pos hne.1], hX2, fun h => by rw [List.length_drop]; omega, ⟨_, _, _, rfl, rfl, rfl, rfl⟩, fun h => absurd h (ervN q4)⟩
 ·
  try simp only [Z1, Z2, Z3, Z4, Z5, Z6, Z7, Z8, Z9, Z0] at q4
  refine WC.skip (WE.then_normal (WC.sub (fr' := [(0, _), (1, _), (4, _), (6, _)]) ?_ ⟨rfl, rfl, rfl, rfl, trivial⟩))
  refine WC.seq ?_
  have hl4 := rdc0 (erv0 q4)
  have hx1e := hb1 hl4
  refine WC.region ?_
  refine WL.q (oq_move rfl) rfl rfl rfl ?_
  refine WL.f2 ?_
  refine WL.f2 ?_
  refine WL.callW2 (dec32 _ E kE pE pU hS k r f Rt hR (all.drop 4) X2 hX2 (by first | omega | (rw [List.length_drop]; omega))) call51 rfl rfl rfl fun v6_1 Hs6_1 hR6_1 => ?_
  obtain ⟨X3, x2, rfl, rfl, hX3, hb2, hx2⟩ := hR6_1
  rw [List.drop_drop] at hX3
  refine WL.to2 ?_
  refine WL.q (oq_move rfl) rfl rfl rfl ?_
  refine WL.q (oq_extract rfl rfl) rfl rfl rfl ?_
  refine WL.q (oq_extract rfl rfl) rfl rfl rfl ?_
  refine WL.q (oq_fieldAddr fld108_1 rfl) rfl rfl rfl ?_
  refine WL.f2 ?_
  refine WL.store1 #[_, _, _] ty75 rfl rfl (by first | rfl | exact OwS.one rfl) (Nat.lt_of_lt_of_le (Nat.lt_succ_self _) (Nat.le_of_ble_eq_true rfl)) rfl rfl ?_
  refine WL.q (oq_assign rfl) rfl rfl rfl ?_
  refine WL.nil (WE.then_normal (WC.sub (fr' := [(0, _), (1, _), (4, _), (6, _), (7, _)]) ?_ ⟨rfl, rfl, rfl, rfl, rfl, trivial⟩))
  refine WC.seq (WC.seq (WC.region ?_))
  refine WL.q (oq_move rfl) rfl rfl rfl ?_
  refine WL.q (oq_ineq Tryz.underlying41 rfl (erv_or _ _ _ _ _)) rfl rfl rfl ?_
  refine WL.nil (WE.then_normal (WC.sub (fr' := [(0, _), (1, _), (4, _), (6, _), (7, _), (28, _)]) ?_ ⟨rfl, rfl, rfl, rfl, rfl, rfl, trivial⟩))
  refine WC.cond rfl (fun q7 => ?_) (fun q7 => ?_)
  ·
   try simp only [Z1, Z2, Z3, Z4, Z5, Z6, Z7, Z8, Z9, Z0] at q7
   refine WC.seq (WC.region ?_)
   refine WL.q (oq_build #[_, _, _] str108 ty108 rfl rfl) rfl rfl rfl ?_
   refine WL.q (oq_move rfl) rfl rfl rfl ?_
   refine WL.f3 ?_
   refine WL.storeS #[_, _, _] ty108 rfl rfl rfl rfl (Nat.le_of_ble_eq_true rfl) rfl rfl ?_
   refine WL.q (oq_assign rfl) rfl rfl rfl ?_
   refine WL.nil (WE.then_normal (WC.sub (fr' := [(4, _), (5, _)]) ?_ ⟨rfl, rfl, trivial⟩))
   refine WC.ret (WE.then_ret ?_)
   refine WE.endDW [_, _] (.inl rfl) (rs2 Tryz.results41 (rv_cellS [_, _, _] agg108 ty108 rfl (.head _) (List.mem_singleton.2 rfl) rfl rfl) (rv_tmp rfl)) (dr_lose hres (dr_lose hpb dr_refl)) ?_
   have hne := rdcN (ervN q7)
   rw [List.length_drop] at hne
   refine ⟨X3, _, _, _, rfl, rfl, by unfold preC; rw [if_neg (by omega), if_pos (by omega)], hX3, fun h => by rw [List.length_drop]; omega, ⟨_, _, _, rfl, rfl, rfl, rfl⟩, fun h => absurd h (ervN q7)⟩
  ·
   try simp only [Z1, Z2, Z3, Z4, Z5, Z6, Z7, Z8, Z9, Z0] at q7
   refine WC.skip (WE.then_normal (WC.sub (fr' := [(0, _), (1, _), (4, _), (6, _)]) ?_ ⟨rfl, rfl, rfl, rfl, trivial⟩))
   refine WC.seq (WC.seq ?_)
   have hl8 := rdc0 (erv0 q7)
   rw [List.length_drop] at hl8
   have hx2e := hb2 (by rw [List.length_drop]; omega)
   have ht : totl all = x1 := hx1e.symm
   have hh : head all = x2 := hx2e.symm
   refine WC.region ?_
   refine WL.q (oq_loadS [_, _, _] agg108 ty108 rfl (.head _) (List.mem_singleton.2 rfl) rfl rfl) rfl rfl rfl ?_
   refine WL.qc (oq_call (validLens2 x1 hx1 _ _ kE pE pU) call37 rfl) rfl rfl rfl ?_
   refine WL.q (oq_assign rfl) rfl rfl rfl ?_
   refine WL.nil (WE.then_normal (WC.sub (fr' := [(0, _), (1, _), (4, _), (6, _), (8, _)]) ?_ ⟨rfl, rfl, rfl, rfl, rfl, trivial⟩))
   refine WC.seq (WC.region ?_)
   refine WL.q (oq_move rfl) rfl rfl rfl ?_
   refine WL.q (oq_ineq Tryz.underlying41 rfl (erv_or _ _ _ _ _)) rfl rfl rfl ?_
   refine WL.nil (WE.then_normal (WC.sub (fr' := [(0, _), (1, _), (4, _), (6, _), (8, _), (34, _)]) ?_ ⟨rfl, rfl, rfl, rfl, rfl, rfl, trivial⟩))
   refine WC.cond rfl (fun q10 => ?_) (fun q10 => ?_)
   ·
    try simp only [Z1, Z2, Z3, Z4, Z5, Z6, Z7, Z8, Z9, Z0] at q10
    refine WC.seq (WC.region ?_)
    refine WL.q (oq_build #[_, _, _] str108 ty108 rfl rfl) rfl rfl rfl ?_
    refine WL.q (oq_move rfl) rfl rfl rfl ?_
    refine WL.f3 ?_
    refine WL.storeS #[_, _, _] ty108 rfl rfl rfl rfl (Nat.le_of_ble_eq_true rfl) rfl rfl ?_
    refine WL.q (oq_assign rfl) rfl rfl rfl ?_
    refine WL.nil (WE.then_normal (WC.sub (fr' := [(4, _), (5, _)]) ?_ ⟨rfl, rfl, trivial⟩))
    refine WC.ret (WE.then_ret ?_)
    refine WE.endDW [_, _] (.inl rfl) (rs2 Tryz.results41 (rv_cellS [_, _, _] agg108 ty108 rfl (.head _) (List.mem_singleton.2 rfl) rfl rfl) (rv_tmp rfl)) (dr_lose hres (dr_lose hpb dr_refl)) ?_
    have hz : x1 = 0 := by by_cases h : x1 = 0; exact h; rw [if_neg h] at q10; cases q10
    rw [if_pos hz]
    refine ⟨X3, _, _, _, rfl, rfl, by unfold preC; rw [if_neg (by omega), if_neg (by omega), if_pos (by omega)], hX3, fun h => by rw [List.length_drop]; omega, ⟨_, _, _, rfl, rfl, rfl, rfl⟩, fun h => by cases h⟩
   ·
    try simp only [Z1, Z2, Z3, Z4, Z5, Z6, Z7, Z8, Z9, Z0] at q10
    refine WC.skip (WE.then_normal (WC.sub (fr' := [(0, _), (1, _), (4, _), (6, _)]) ?_ ⟨rfl, rfl, rfl, rfl, trivial⟩))
    refine WC.seq ?_
    have hz : x1 ≠ 0 := fun h => by rw [if_pos h] at q10; cases q10
    have h8l : all.length - (all.drop 8).length = 8 := by rw [List.length_drop]; omega
    refine WC.region ?_
    refine WL.q (oq_move rfl) rfl rfl rfl ?_
    refine WL.qc (oq_callRm (hsum _ X3 hX3) (.tail _ (.head _)) call30 rfl) rfl rfl rfl ?_
    refine WL.q (oq_assign rfl) rfl rfl rfl ?_
    refine WL.nil (WE.then_normal (WC.sub (fr' := [(0, _), (4, _), (6, _), (9, _)]) ?_ ⟨rfl, rfl, rfl, rfl, trivial⟩))
    refine WC.seq (WC.seq ?_)
    rw [h8l]
    refine WC.region ?_
    refine WL.q (oq_move rfl) rfl rfl rfl ?_
    refine WL.q (oq_move rfl) rfl rfl rfl ?_
    refine WL.f2 ?_
    refine WL.f2 ?_
    refine WL.callW2 (validCRC _ E kE pE pU hS k r f Rt hR (all.drop 8) X3 hX3 (by rw [List.length_drop]; omega) (crc (all.take 8)).toNat) call46 rfl rfl rfl fun v13_2 Hs13_2 hR13_2 => ?_
    obtain ⟨X4, rfl, rfl, hX4⟩ := hR13_2
    rw [List.drop_drop] at hX4
    refine WL.to2 ?_
    refine WL.q (oq_assign rfl) rfl rfl rfl ?_
    refine WL.nil (WE.then_normal (WC.sub (fr' := [(4, _), (6, _), (9, _), (10, _)]) ?_ ⟨rfl, rfl, rfl, rfl, trivial⟩))
    refine WC.seq (WC.region ?_)
    refine WL.q (oq_move rfl) rfl rfl rfl ?_
    refine WL.q (oq_ineq Tryz.underlying41 rfl (erv_or _ _ _ _ _)) rfl rfl rfl ?_
    refine WL.nil (WE.then_normal (WC.sub (fr' := [(4, _), (6, _), (9, _), (10, _), (43, _)]) ?_ ⟨rfl, rfl, rfl, rfl, rfl, trivial⟩))
    refine WC.cond rfl (fun q14 => ?_) (fun q14 => ?_)
    ·
     try simp only [Z1, Z2, Z3, Z4, Z5, Z6, Z7, Z8, Z9, Z0] at q14
     refine WC.seq (WC.region ?_)
     refine WL.q (oq_build #[_, _, _] str108 ty108 rfl rfl) rfl rfl rfl ?_
     refine WL.q (oq_move rfl) rfl rfl rfl ?_
     refine WL.f3 ?_
     refine WL.storeS #[_, _, _] ty108 rfl rfl rfl rfl (Nat.le_of_ble_eq_true rfl) rfl rfl ?_
     refine WL.q (oq_assign rfl) rfl rfl rfl ?_
     refine WL.nil (WE.then_normal (WC.sub (fr' := [(4, _), (5, _)]) ?_ ⟨rfl, rfl, trivial⟩))
     refine WC.ret (WE.then_ret ?_)
     refine WE.endDW [_, _] (.inl rfl) (rs2 Tryz.results41 (rv_cellS [_, _, _] agg108 ty108 rfl (.head _) (List.mem_singleton.2 rfl) rfl rfl) (rv_tmp rfl)) (dr_lose hres (dr_f2 (dr_lose hpb dr_refl))) ?_
     have hne := ervN q14
     refine ⟨X4, _, _, _, rfl, rfl, ?_, hX4, fun h => by rw [List.length_drop]; omega, ⟨_, _, _, rfl, rfl, rfl, rfl⟩, fun h => absurd h hne⟩
     exact pre_tail hl4 (by omega) (by rw [ht]; exact hz) rfl
    ·
     try simp only [Z1, Z2, Z3, Z4, Z5, Z6, Z7, Z8, Z9, Z0] at q14
     refine WC.skip (WE.then_normal (WC.sub (fr' := [(4, _), (6, _), (9, _)]) ?_ ⟨rfl, rfl, rfl, trivial⟩))
     refine WC.seq (WC.region ?_)
     refine WL.q (oq_move rfl) rfl rfl rfl ?_
     refine WL.q (oq_fieldAddr fld108_2 rfl) rfl rfl rfl ?_
     refine WL.f2 ?_
     refine WL.store1 #[_, _, _] ty75 rfl rfl (by first | rfl | exact OwS.one rfl) (Nat.lt_of_lt_of_le (Nat.lt_succ_self _) (Nat.le_of_ble_eq_true rfl)) rfl rfl ?_
     refine WL.nil (WE.then_normal (WC.sub (fr' := [(4, _), (6, _)]) ?_ ⟨rfl, rfl, trivial⟩))
     refine WC.seq (WC.region ?_)
     refine WL.q (oq_loadS [_, _, _] agg108 ty108 rfl (.head _) (List.mem_singleton.2 rfl) rfl rfl) rfl rfl rfl ?_
     refine WL.f3 ?_
     refine WL.storeS #[_, _, _] ty108 rfl rfl rfl rfl (Nat.le_of_ble_eq_true rfl) rfl rfl ?_
     refine WL.q (oq_assign rfl) rfl rfl rfl ?_
     refine WL.nil (WE.then_normal (WC.sub (fr' := [(4, _), (5, _)]) ?_ ⟨rfl, rfl, trivial⟩))
     refine WC.ret ?_
     refine WE.endDW [_, _] (.inl rfl) (rs2 Tryz.results41 (rv_cellS [_, _, _] agg108 ty108 rfl (.head _) (List.mem_singleton.2 rfl) rfl rfl) (rv_tmp rfl)) (dr_lose hres (dr_lose hpb dr_refl)) ?_
     have h0 := erv0 q14
     refine ⟨X4, _, 0, _, rfl, rfl, ?_, hX4, fun h => by rw [List.length_drop]; omega, ⟨_, _, _, rfl, rfl, rfl, rfl⟩, fun _ => ⟨rfl, _, by rw [ht, hh]⟩⟩
     rw [← h0]
     exact pre_tail hl4 (by omega) (by rw [ht]; exact hz) rfl
end DJ
end Go.Proofs.YtpjeiimlglgklaaGreatDoor
/- A message read. -/
namespace Go.Proofs.YtpjeiimlglgklaaGreatDoor
open Go Go.RowKit V EA EB EC ED EL DC DD DA DE EE EH EI EJ DF DG DH DI EM DJ
set_option linter.unusedSimpArgs false
set_option linter.unusedVariables false
set_option maxRecDepth 10000
namespace DK
theorem call30 : Callable Tryz.prog 30 := ⟨_, Tryz.func30, rfl, by kernel_rfl⟩
theorem call33 : Callable Tryz.prog 33 := ⟨_, Tryz.func33, rfl, by kernel_rfl⟩
theorem call40 : Callable Tryz.prog 40 := ⟨_, Tryz.func40, rfl, by kernel_rfl⟩
theorem call41 : Callable Tryz.prog 41 := ⟨_, Tryz.func41, rfl, by kernel_rfl⟩
theorem call42 : Callable Tryz.prog 42 := ⟨_, Tryz.func42, rfl, by kernel_rfl⟩
theorem call43 : Callable Tryz.prog 43 := ⟨_, Tryz.func43, rfl, by kernel_rfl⟩
theorem call44 : Callable Tryz.prog 44 := ⟨_, Tryz.func44, rfl, by kernel_rfl⟩
theorem call45 : Callable Tryz.prog 45 := ⟨_, Tryz.func45, rfl, by kernel_rfl⟩
theorem call46 : Callable Tryz.prog 46 := ⟨_, Tryz.func46, rfl, by kernel_rfl⟩
theorem flat75 : Flat Tryz.prog 75 := ⟨_, Tryz.underlying75, by simp⟩
theorem ty25 : Ty Tryz.prog 25 (.slice none 0 0) 1 24 := ty_of (by kernel_rfl)
theorem ty47 : Ty Tryz.prog 47 (.slice none 0 0) 1 24 := ty_of (by kernel_rfl)
theorem ty50 : Ty Tryz.prog 50 (.agg #[(.slice none 0 0), (.slice none 0 0)]) 2 48 := ty_of (by kernel_rfl)
theorem ty75 : Ty Tryz.prog 75 (.int .u32 0) 1 4 := ty_of (by kernel_rfl)
theorem ty77 : Ty Tryz.prog 77 (.agg #[(.int .u32 0)]) 1 4 := ty_of (by kernel_rfl)
theorem ty108 : Ty Tryz.prog 108 (.agg #[(.int .u32 0), (.int .u32 0), (.int .u32 0)]) 3 12 := ty_of (by kernel_rfl)
theorem conc74 : Conc Tryz.prog 74 := ⟨_, Tryz.underlying74, by simp⟩
theorem agg50 : Agg Tryz.prog 50 := agg_of Tryz.underlying50
theorem agg108 : Agg Tryz.prog 108 := agg_of Tryz.underlying108
theorem str50 : Str Tryz.prog 50 #[(0, 1), (1, 1)] := ⟨_, Tryz.underlying50, fun w => by kernel_rfl⟩
theorem str77 : Str Tryz.prog 77 #[(0, 1)] := ⟨_, Tryz.underlying77, fun w => by kernel_rfl⟩
theorem fld50_0 : Fld Tryz.prog 50 0 0 47 := fld_of Tryz.underlying50 rfl rfl rfl ty47 (by decide)
theorem fld50_1 : Fld Tryz.prog 50 1 1 25 := fld_of Tryz.underlying50 rfl rfl rfl ty25 (by decide)
theorem fld108_1 : Fld Tryz.prog 108 1 1 75 := fld_of Tryz.underlying108 rfl rfl rfl ty75 (by decide)
def codeOf (all : List UInt8) (c : Nat) : Nat := if c = 1 ∨ c = 2 then (if all = [] then 1 else 2) else c
theorem codeOf_o {all : List UInt8} {c : Nat} (h1 : c ≠ 1) (h2 : c ≠ 2) : codeOf all c = c := by unfold codeOf; rw [if_neg (by omega)]
theorem codeOf_s {all : List UInt8} {c : Nat} (h : c = 1 ∨ c = 2) (h0 : 0 < all.length) : codeOf all c = 2 := by
 unfold codeOf; rw [if_pos h, if_neg (fun e => by rw [e] at h0; simp at h0)]
theorem dec_pre {all : List UInt8} (h : preC all ≠ 0) : (dec all).1 = codeOf all (preC all) := by
 unfold preC at h ⊢
 unfold dec
 by_cases h0 : all = []
 ·subst h0; rfl
 ·have hl : 0 < all.length := by rcases Nat.eq_zero_or_pos all.length with e | e; exact absurd (len_nil.1 e) h0; exact e
  rw [if_neg h0]
  by_cases h4 : all.length < 4
  ·rw [if_pos (show all.length < 8 by omega), if_pos h4, codeOf_s (rdcN (fun e => by have := rdc0 e; omega)).2 hl]; rfl
  ·rw [if_neg h4] at h ⊢
   by_cases h8 : all.length < 8
   ·rw [if_pos h8, if_pos h8, codeOf_s (rdcN (fun e => by have := rdc0 e; rw [List.length_drop] at this; omega)).2 hl]; rfl
   ·rw [if_neg h8] at h ⊢
    rw [if_neg h8]
    by_cases hz : totl all = 0
    ·rw [if_pos hz, if_pos hz]; rfl
    ·rw [if_neg hz] at h ⊢
     rw [if_neg hz]
     by_cases h12 : all.length < 12
     ·rw [if_pos h12, if_pos h12, codeOf_s (rdcN (fun e => by have := rdc0 e; rw [List.length_drop] at this; omega)).2 hl]; rfl
     ·rw [if_neg h12] at h ⊢
      rw [if_neg h12]
      by_cases hs : sumOk all = false
      ·rw [if_pos hs, if_pos hs]; rfl
      ·rw [if_neg hs] at h; exact absurd rfl h
theorem pre_0 {all : List UInt8} (h : preC all = 0) : 12 ≤ all.length ∧ dec all = match tk ((all.drop 12).take (head all)) [] with
  | .short => err 2
  | .other => err 5
  | .ok l => tailR all l
  | .opn l => tailR all l := by
 unfold preC at h
 by_cases h4 : all.length < 4
 ·rw [if_pos h4] at h; have := rdc0 h; omega
 rw [if_neg h4] at h
 by_cases h8 : all.length < 8
 ·rw [if_pos h8] at h; have := rdc0 h; rw [List.length_drop] at this; omega
 rw [if_neg h8] at h
 by_cases hz : totl all = 0
 ·rw [if_pos hz] at h; cases h
 rw [if_neg hz] at h
 by_cases h12 : all.length < 12
 ·rw [if_pos h12] at h; have := rdc0 h; rw [List.length_drop] at this; omega
 rw [if_neg h12] at h
 by_cases hs : sumOk all = false
 ·rw [if_pos hs] at h; cases h
 refine ⟨by omega, ?_⟩
 unfold dec
 rw [if_neg (fun e => by rw [e] at h4; simp at h4), if_neg h8, if_neg hz, if_neg h12, if_neg hs]
 cases tk ((all.drop 12).take (head all)) [] <;> rfl
theorem tail_c {all : List UInt8} {l : List HV} (h12 : 12 ≤ all.length) (hw : 16 + head all ≤ totl all) : (tailR all l).1 = codeOf all (vcC (crc (all.take (all.length - (all.drop (totl all - 4)).length))).toNat (all.drop (totl all - 4))) := by
 have hdl : (all.drop (totl all - 4)).length = all.length - (totl all - 4) := List.length_drop
 unfold tailR
 by_cases h : all.length < totl all
 ·rw [if_pos h, vcC_s (by omega), codeOf_s (rdcN (fun e => by have := rdc0 e; omega)).2 (by omega)]; rfl
 ·rw [if_neg h, hdl, show all.length - (all.length - (totl all - 4)) = totl all - 4 by omega]
  by_cases hs : (crc (all.take (totl all - 4))).toNat = nm ((all.drop (totl all - 4)).take 4)
  ·rw [if_neg (by simp [hs]), vcC_0 (by omega) hs.symm]; rfl
  ·rw [if_pos hs, vcC_3 (by omega) (fun e => hs e.symm)]; rfl
theorem tail_0 {all : List UInt8} {l : List HV} (hw : 16 + head all ≤ totl all) (h : vcC (crc (all.take (all.length - (all.drop (totl all - 4)).length))).toNat (all.drop (totl all - 4)) = 0) : tailR all l = (0, l, (all.drop (12 + head all)).take (totl all - 16 - head all), totl all) ∧ totl all ≤ all.length := by
 have hdl : (all.drop (totl all - 4)).length = all.length - (totl all - 4) := List.length_drop
 unfold vcC at h
 by_cases h4 : (all.drop (totl all - 4)).length < 4
 ·rw [if_pos h4] at h; have := rdc0 h; omega
 ·rw [if_neg h4, hdl, show all.length - (all.length - (totl all - 4)) = totl all - 4 by omega] at h
  by_cases hs : nm ((all.drop (totl all - 4)).take 4) = (crc (all.take (totl all - 4))).toNat
  ·unfold tailR
   rw [if_neg (by omega), if_neg (by simp [hs])]
   exact ⟨rfl, by omega⟩
  ·rw [if_neg hs] at h; cases h
def MsgDR (base : Nat) (kE : TypeId) (pE pU : Addr) (E : Hp) (Rt : List UInt8 → Hp → Prop) (all : List UInt8) (w : Value) (Hs : List Hp) : Prop :=
 ∃ X2 N mv c ob rs', w = .tuple #[mv, erv kE pE pU ob c] ∧ Hs = [X2, N, E] ∧ (∀ b o, (b, o) ∈ N → base ≤ b) ∧ Rt rs' X2 ∧ (0 < all.length → rs'.length < all.length) ∧ (dec all).1 = codeOf all c ∧ (c = 5 → ∃ cs t, (ob, .cells cs t (0, 0)) ∈ N) ∧ (c = 2 → 0 < all.length) ∧ c ≤ 5 ∧
  ∃ hv pv, mv = .agg #[hv, pv] ∧ hv.oneCell' = true ∧ pv.oneCell' = true ∧ (c = 0 → (∃ ps, RdS 2 hv N ps.length (recsV PV.row ps) ∧ PB (dec all).2.1 ps N) ∧ RdS 1 pv N (dec all).2.2.1.length (bytesV (dec all).2.2.1) ∧ rs' = all.drop (dec all).2.2.2 ∧ (dec all).2.2.2 ≤ all.length)
theorem trip_inj {a b c x y z : Value} (h : Value.agg #[a, b, c] = .agg #[x, y, z]) : a = x ∧ b = y ∧ c = z := by simpa using h
abbrev HcR (Rt : List UInt8 → Hp → Prop) (R : TR) (hv : Value) (X2 N : Hp) (c ob : Nat) : Prop := match R with
  | .ok l => c = 0 ∧ (∃ ps, RdS 2 hv N ps.length (recsV PV.row ps) ∧ PB l ps N) ∧ Rt [] X2
  | .opn l => c = 0 ∧ (∃ ps, RdS 2 hv N ps.length (recsV PV.row ps) ∧ PB l ps N) ∧ Rt [] X2
  | .short => (c = 1 ∨ c = 2) ∧ ∃ rs', Rt rs' X2
  | .other => c = 5 ∧ (∃ cs t, (ob, .cells cs t (0, 0)) ∈ N) ∧ ∃ rs', Rt rs' X2
theorem hdrs_good {Rt : List UInt8 → Hp → Prop} {R : TR} {hv : Value} {X2 N : Hp} {c ob : Nat} (h : HcR Rt R hv X2 N c ob) (hc : c = 0) : ∃ l, (R = .ok l ∨ R = .opn l) ∧ (∃ ps, RdS 2 hv N ps.length (recsV PV.row ps) ∧ PB l ps N) ∧ Rt [] X2 := by
 cases R with
 | ok l => exact ⟨l, .inl rfl, h.2⟩
 | opn l => exact ⟨l, .inr rfl, h.2⟩
 | short => have := h.1; omega
 | other => have := h.1; omega
theorem hdrs_bad {Rt : List UInt8 → Hp → Prop} {R : TR} {hv : Value} {X2 N : Hp} {c ob : Nat} (h : HcR Rt R hv X2 N c ob) (hc : c ≠ 0) : (∃ rs', Rt rs' X2) ∧ ((R = .short ∧ (c = 1 ∨ c = 2)) ∨ (R = .other ∧ c = 5 ∧ ∃ cs t, (ob, .cells cs t (0, 0)) ∈ N)) := by
 cases R with
 | ok l => exact absurd h.1 hc
 | opn l => exact absurd h.1 hc
 | short => exact ⟨h.2, .inl ⟨rfl, h.1⟩⟩
 | other => exact ⟨h.2.2, .inr ⟨rfl, h.1, h.2.1⟩⟩
theorem mid3 (L W G F : Hp) : (L ++ ((W ++ G) ++ F)).Perm (G ++ (L ++ (W ++ F))) := by
 have h1 : (L ++ ((W ++ G) ++ F)).Perm (L ++ (G ++ (W ++ F))) := List.Perm.append_left _ (mid2 W G F)
 refine h1.trans ?_
 rw [← List.append_assoc, ← List.append_assoc G L]
 exact (List.perm_append_comm).append_right _
theorem nm4_lt (l : List UInt8) : nm (l.take 4) < 4294967296 := nm_lt' (n := 4) (by rw [List.length_take]; omega)
theorem preC_le4 (all : List UInt8) : preC all ≤ 4 := by
 unfold preC
 have h1 := rdc_small 4 all
 have h2 := rdc_small 4 (all.drop 4)
 have h3 := rdc_small 4 (all.drop 8)
 repeat (first | omega | split)
theorem preC_le (all : List UInt8) : preC all ≤ 5 := by have := preC_le4 all; omega
theorem pre_2 {all : List UInt8} (h : preC all = 2) : 0 < all.length := by
 rcases Nat.eq_zero_or_pos all.length with e | e
 ·rw [len_nil.1 e] at h; cases h
 ·exact e
theorem dec_l {all : List UInt8} {R : TR} {l : List HV} (h : dec all = match R with
  | .short => err 2
  | .other => err 5
  | .ok l => tailR all l
  | .opn l => tailR all l) (hl : R = .ok l ∨ R = .opn l) : dec all = tailR all l := by
 rcases hl with rfl | rfl <;> exact h
theorem decMessage (base : Nat) (E : Hp) (kE : TypeId) (pE pU : Addr) (hS : Sn E kE pE pU) (k : TypeId) (r : Value) (f : FuncId) (Rt : List UInt8 → Hp → Prop) (hR : Rr base k r f E kE pE pU Rt) (all : List UInt8) (X : Hp) (hX : Rt all X) (hrs : all.length ≤ 900000) (hwf : preC all = 0 → 16 + head all ≤ totl all) : FnW Tryz.prog 33 [.iface k r, .slice none 0 0] base [X, E] (MsgDR base kE pE pU E Rt all) := by
 refine FnW.enter (n := 78) Tryz.func33 rfl rfl fun w0 R0 hbase => ?_
 subst hbase
 show WC _ _ _ _ _ _ _ ([X, E, R0])
 refine WC.sub (fr' := [(0, _), (1, _)]) ?_ ⟨rfl, rfl, trivial⟩
 refine WC.seq (WC.region ?_)
 refine WL.alloc ty50 rfl rfl fun m hm => ?_
 refine WL.q (oq_assign rfl) rfl rfl rfl ?_
 refine WL.nil (WE.then_normal (WC.sub (fr' := [(0, _), (1, _), (4, _)]) ?_ ⟨rfl, rfl, rfl, trivial⟩))
 refine WC.seq (WC.region ?_)
 refine WL.q (oq_build #[_] str77 ty77 rfl rfl) rfl rfl rfl ?_
 refine WL.box rfl rfl rfl fun hb hhb => ?_
 refine WL.q (oq_assign rfl) rfl rfl rfl ?_
 refine WL.nil (WE.then_normal (WC.sub (fr' := [(0, _), (1, _), (4, _), (6, _)]) ?_ ⟨rfl, rfl, rfl, rfl, trivial⟩))
 refine WC.seq (WC.region ?_)
 refine WL.q (oq_move rfl) rfl rfl rfl ?_
 refine WL.q (oq_move rfl) rfl rfl rfl ?_
 refine WL.q (oq_makeI conc74 rfl) rfl rfl rfl ?_
 refine WL.callA0 (teeReader k r hb) call40 rfl rfl rfl fun v2_3 N2_3 hR2_3 hN2_3 => ?_
 obtain ⟨tb, rfl, rfl⟩ := hR2_3
 have htb := hN2_3 _ _ (List.mem_singleton.2 rfl)
 refine WL.q (oq_assign rfl) rfl rfl rfl ?_
 refine WL.nil (WE.then_normal (WC.sub (fr' := [(0, _), (1, _), (4, _), (6, _), (7, _)]) ?_ ⟨rfl, rfl, rfl, rfl, rfl, trivial⟩))
 refine WC.seq ?_
 refine WC.f1 ?_
 refine WC.f3 ?_
 refine WC.f2 ?_
 have hT : TeeG tb k r hb Rt all all ((TB tb k r hb ++ X) ++ [(hb, .cells #[U32 (crc [])] 77 (0, 0))]) := ⟨[], X, rfl, rfl, hX⟩
 refine WC.cat (WC.cat ?_)
 refine WC.region ?_
 refine WL.q (oq_move rfl) rfl rfl rfl ?_
 refine WL.q (oq_move rfl) rfl rfl rfl ?_
 refine WL.f2 ?_
 refine WL.f1 ?_
 refine WL.callW2 (decPrelude _ hb E kE pE pU hS _ _ _ _ (teeRr _ tb hb E kE pE pU hS k r f Rt hR all) all (teeSum tb k r hb Rt all) _ hT (by omega)) call41 rfl rfl rfl fun v3_2 Hs3_2 hR3_2 => ?_
 obtain ⟨T2, pv, c, rs1, rfl, rfl, hc, hT2, hlt, ⟨a1, b1, d1, rfl, o1, o2, o3⟩, hok⟩ := hR3_2
 refine WL.to2 ?_
 refine WL.q (oq_move rfl) rfl rfl rfl ?_
 refine WL.q (oq_extract rfl rfl) rfl rfl rfl ?_
 refine WL.q (oq_extract rfl rfl) rfl rfl rfl ?_
 refine WL.alloc ty108 rfl rfl fun pb hpb => ?_
 refine WL.storeS (#[a1, b1, d1]) ty108 rfl rfl rfl (by simp [Value.cells, o1, o2, o3]) (Nat.le_of_ble_eq_true rfl) rfl rfl ?_
 refine WL.q (oq_assign rfl) rfl rfl rfl ?_
 refine WL.nil (WE.then_normal (WC.sub (fr' := [(0, _), (1, _), (4, _), (5, _), (6, _), (7, _), (8, _)]) ?_ ⟨rfl, rfl, rfl, rfl, rfl, rfl, rfl, trivial⟩))
 refine WC.seq (WC.seq (WC.region ?_))
 refine WL.q (oq_move rfl) rfl rfl rfl ?_
 refine WL.q (oq_ineq Tryz.underlying41 rfl (erv_or _ _ _ _ _)) rfl rfl rfl ?_
 refine WL.nil (WE.then_normal (WC.sub (fr' := [(0, _), (1, _), (4, _), (5, _), (6, _), (7, _), (8, _), (28, _)]) ?_ ⟨rfl, rfl, rfl, rfl, rfl, rfl, rfl, rfl, trivial⟩))
 refine WC.cond rfl (fun q4 => ?_) (fun q4 => ?_)
 ·
  try simp only [Z1, Z2, Z3, Z4, Z5, Z6, Z7, Z8, Z9, Z0] at q4
  refine WC.seq ?_
  refine WC.add0 ?_
  refine WC.f2 ?_
  obtain ⟨ac, X3, hac, rfl, hX3⟩ := hT2
  refine WC.reg (reg_out (mid2 _ X3 _)) ?_
  refine WC.region ?_
  refine WL.q (oq_build #[_, _] str50 ty50 rfl rfl) rfl rfl rfl ?_
  refine WL.q (oq_move rfl) rfl rfl rfl ?_
  refine WL.f5 ?_
  refine WL.storeS #[_, _] ty50 rfl rfl rfl rfl (Nat.le_of_ble_eq_true rfl) rfl rfl ?_
  refine WL.q (oq_assign rfl) rfl rfl rfl ?_
  refine WL.nil (WE.then_normal (WC.sub (fr' := [(4, _), (5, _)]) ?_ ⟨rfl, rfl, trivial⟩))
  refine WC.ret (WE.then_ret ?_)
  refine WE.endDW [_, _, _] (.inl rfl) (rs2 Tryz.results33 (rv_cellS [_, _] agg50 ty50 rfl (.head _) (List.mem_singleton.2 rfl) rfl rfl) (rv_tmp rfl)) (dr_lose hm (dr_f1 (dr_forget (fresh_cat (fresh1 htb) (fresh1 hhb)) (dr_f2 (dr_lose hpb dr_refl))))) ?_
  have hcn : preC all ≠ 0 := by rw [← hc]; exact ervN q4
  have hcl : preC all ≤ 5 := preC_le all
  exact ⟨X3, _, _, c, 0, rs1, rfl, rfl, (fun _ _ h => nomatch h), hX3, hlt, by rw [hc]; exact dec_pre hcn, (fun h => absurd h (by have := preC_le4 all; omega)), (fun h => pre_2 (hc ▸ h)), by omega, _, _, rfl, rfl, rfl, fun h => absurd h (ervN q4)⟩
 ·
  try simp only [Z1, Z2, Z3, Z4, Z5, Z6, Z7, Z8, Z9, Z0] at q4
  refine WC.skip (WE.then_normal (WC.sub (fr' := [(0, _), (1, _), (4, _), (6, _), (7, _), (8, _)]) ?_ ⟨rfl, rfl, rfl, rfl, rfl, rfl, trivial⟩))
  refine WC.cut (ι := Hp × Hp × Value × Value × (List HV)) (fun i_ => (fun (T : Hp) (N : Hp) (hv : Value) (d2 : Value) (l : List HV) => [(0, .iface k r), (1, .slice none 0 0), (4, Pt m 0), (6, Pt hb 0), (7, .iface 153 (Pt tb 0)), (8, Pt pb 0)]) i_.1 i_.2.1 i_.2.2.1 i_.2.2.2.1 i_.2.2.2.2) (fun i_ => (fun (T : Hp) (N : Hp) (hv : Value) (d2 : Value) (l : List HV) => [T, N, [(m, .cells #[hv, .slice none 0 0] 50 (0, 0))], [(pb, .cells #[.int .u32 (totl all : Nat), .int .u32 (head all : Nat), d2] 108 (0, 0))], E, R0]) i_.1 i_.2.1 i_.2.2.1 i_.2.2.2.1 i_.2.2.2.2) (fun i_ => (fun (T : Hp) (N : Hp) (hv : Value) (d2 : Value) (l : List HV) => preC all = 0 ∧ (tk ((all.drop 12).take (head all)) [] = .ok l ∨ tk ((all.drop 12).take (head all)) [] = .opn l) ∧ (∃ ps, RdS 2 hv N ps.length (recsV PV.row ps) ∧ PB l ps N) ∧ (∀ b o, (b, o) ∈ N → w0.heap.size ≤ b) ∧ (∃ D T2, T = D ++ T2 ∧ (∀ b o, (b, o) ∈ D → w0.heap.size ≤ b) ∧ TeeG tb k r hb Rt all (all.drop (12 + head all)) T2)) i_.1 i_.2.1 i_.2.2.1 i_.2.2.2.1 i_.2.2.2.2) ?_ ?_
  ·
   refine WC.seq ?_
   have hc0 := erv0 q4
   obtain ⟨rfl, d2, hpv⟩ := hok hc0
   obtain ⟨rfl, rfl, rfl⟩ := trip_inj hpv
   have hp0 : preC all = 0 := by rw [← hc]; exact hc0
   have hw := hwf hp0
   obtain ⟨h12, hdec⟩ := pre_0 hp0
   have hh32 : head all < 4294967296 := nm4_lt _
   have ht32 : totl all < 4294967296 := nm4_lt _
   refine WC.add0 ?_
   refine WC.region ?_
   refine WL.q (oq_fieldAddr fld108_1 rfl) rfl rfl rfl ?_
   refine WL.q (oq_load flat75 rfl (.tail _ (.head _)) (List.mem_singleton.2 rfl) rfl) rfl rfl rfl ?_
   refine WL.q (oq_gtr rfl rfl) rfl rfl rfl ?_
   refine WL.nil (WE.then_normal (WC.sub (fr' := [(0, _), (1, _), (4, _), (6, _), (7, _), (8, _), (33, _)]) ?_ ⟨rfl, rfl, rfl, rfl, rfl, rfl, rfl, trivial⟩))
   refine WC.cond rfl (fun q6 => ?_) (fun q6 => ?_)
   ·
    try simp only [Z1, Z2, Z3, Z4, Z5, Z6, Z7, Z8, Z9, Z0] at q6
    refine WC.seq (WC.region ?_)
    refine WL.q (oq_move rfl) rfl rfl rfl ?_
    refine WL.q (oq_fieldAddr fld108_1 rfl) rfl rfl rfl ?_
    refine WL.q (oq_load flat75 rfl (.tail _ (.head _)) (List.mem_singleton.2 rfl) rfl) rfl rfl rfl ?_
    refine WL.q (oq_conv Tryz.underlying75 Tryz.underlying2 rfl (by rw [i64_lo, i64_hi]; (first | omega | (simp only [List.length_cons, List.length_nil, List.length_append, List.length_drop, List.length_take]; omega)))) rfl rfl rfl ?_
    refine WL.callA0 (limitReader 153 (Pt tb 0) (head all : Int)) call42 rfl rfl rfl fun v7_4 N7_4 hR7_4 hN7_4 => ?_
    obtain ⟨lb, rfl, rfl⟩ := hR7_4
    have hlb := hN7_4 _ _ (List.mem_singleton.2 rfl)
    refine WL.q (oq_assign rfl) rfl rfl rfl ?_
    refine WL.nil (WE.then_normal (WC.sub (fr' := [(0, _), (1, _), (4, _), (6, _), (7, _), (8, _), (9, _)]) ?_ ⟨rfl, rfl, rfl, rfl, rfl, rfl, rfl, trivial⟩))
    refine WC.seq ?_
    refine WC.f3 ?_
    refine WC.f1 ?_
    have hL := LimG.start (lb := lb) (k := 153) (r := Pt tb 0) (N := head all) hT2
    refine WC.cat ?_
    refine WC.region ?_
    refine WL.q (oq_move rfl) rfl rfl rfl ?_
    refine WL.f3 ?_
    refine WL.f1 ?_
    refine WL.callW2 (decHeaders _ E kE pE pU hS _ _ _ _ (limRr _ lb E kE pE pU hS _ _ _ _ (teeRr _ tb hb E kE pE pU hS k r f Rt hR all) (all.drop 12) (head all) (by omega) (by rw [List.length_drop]; omega)) _ _ hL (by rw [List.length_take, List.length_drop]; omega) (noBR _ (.inl rfl))) call43 rfl rfl rfl fun v8_1 Hs8_1 hR8_1 => ?_
    obtain ⟨L2, N1, hv, c2, ob, rfl, rfl, hv1, hN1, hcs⟩ := hR8_1
    have hcs : HcR _ _ _ _ _ _ _ := hcs
    refine WL.to3 ?_
    refine WL.q (oq_move rfl) rfl rfl rfl ?_
    refine WL.q (oq_extract rfl rfl) rfl rfl rfl ?_
    refine WL.q (oq_extract rfl rfl) rfl rfl rfl ?_
    refine WL.q (oq_fieldAddr fld50_0 rfl) rfl rfl rfl ?_
    refine WL.f5 ?_
    refine WL.store1 #[_, _] ty47 rfl rfl (by exact hv1) (Nat.lt_of_lt_of_le (Nat.lt_succ_self _) (Nat.le_of_ble_eq_true rfl)) rfl rfl ?_
    refine WL.q (oq_assign rfl) rfl rfl rfl ?_
    refine WL.nil (WE.then_normal (WC.sub (fr' := [(0, _), (1, _), (4, _), (5, _), (6, _), (7, _), (8, _)]) ?_ ⟨rfl, rfl, rfl, rfl, rfl, rfl, rfl, trivial⟩))
    refine WC.seq ?_
    refine WC.f4 ?_
    refine WC.f3 ?_
    refine WC.cat ?_
    refine WC.region ?_
    refine WL.q (oq_move rfl) rfl rfl rfl ?_
    refine WL.q (oq_ineq Tryz.underlying41 rfl (erv_or _ _ _ _ _)) rfl rfl rfl ?_
    refine WL.nil (WE.then_normal (WC.sub (fr' := [(0, _), (1, _), (4, _), (5, _), (6, _), (7, _), (8, _), (46, _)]) ?_ ⟨rfl, rfl, rfl, rfl, rfl, rfl, rfl, rfl, trivial⟩))
    refine WC.cond rfl (fun q9 => ?_) (fun q9 => ?_)
    ·
     try simp only [Z1, Z2, Z3, Z4, Z5, Z6, Z7, Z8, Z9, Z0] at q9
     refine WC.seq ?_
     refine WC.f2 ?_
     obtain ⟨⟨rz, hL2⟩, hbad⟩ := hdrs_bad hcs (ervN q9)
     obtain ⟨i9, j9, T3, rfl, hT3⟩ := hL2.out
     obtain ⟨ac, X3, hac, rfl, hX3⟩ := hT3
     refine WC.reg (reg_out (mid3 _ _ X3 _)) ?_
     refine WC.region ?_
     refine WL.q (oq_build #[_, _] str50 ty50 rfl rfl) rfl rfl rfl ?_
     refine WL.q (oq_move rfl) rfl rfl rfl ?_
     refine WL.f3 ?_
     refine WL.storeS #[_, _] ty50 rfl rfl rfl rfl (Nat.le_of_ble_eq_true rfl) rfl rfl ?_
     refine WL.q (oq_assign rfl) rfl rfl rfl ?_
     refine WL.nil (WE.then_normal (WC.sub (fr' := [(4, _), (5, _)]) ?_ ⟨rfl, rfl, trivial⟩))
     refine WC.ret (WE.then_ret ?_)
     refine WE.endDW [_, _, _] (.inl rfl) (rs2 Tryz.results33 (rv_cellS [_, _] agg50 ty50 rfl (.head _) (List.mem_singleton.2 rfl) rfl rfl) (rv_tmp rfl)) (dr_lose hm (dr_f1 (dr_forget (fresh_cat (fresh1 hlb) (fresh_cat (fresh1 htb) (fresh1 hhb))) (dr_f3 (dr_lose hpb dr_refl))))) ?_
     have hcn : c2 ≠ 0 := ervN q9
     have hlt3 : ((all.drop 12).drop j9).length < all.length := by rw [List.length_drop, List.length_drop]; omega
     rcases hbad with ⟨hR1, hc12⟩ | ⟨hR1, hc5, cs, t, hob⟩
     ·refine ⟨X3, _, _, c2, ob, _, rfl, rfl, fresh_cat hN1 (fun _ _ h => nomatch h), hX3, fun _ => hlt3, by rw [hdec, hR1, codeOf_s hc12 (by omega)]; rfl, (fun h => (by omega)), (fun _ => (by omega)), by omega, _, _, rfl, rfl, rfl, fun h => absurd h hcn⟩
     ·refine ⟨X3, _, _, c2, ob, _, rfl, rfl, fresh_cat hN1 (fun _ _ h => nomatch h), hX3, fun _ => hlt3, by rw [hdec, hR1, codeOf_o (by omega) (by omega), hc5]; rfl, (fun _ => ⟨cs, t, List.mem_append_left _ hob⟩), (fun h => (by omega)), by omega, _, _, rfl, rfl, rfl, fun h => absurd h hcn⟩
    ·
     try simp only [Z1, Z2, Z3, Z4, Z5, Z6, Z7, Z8, Z9, Z0] at q9
     refine WC.skip ?_
     obtain ⟨l, hl, ⟨ps, hps, hpb2⟩, hdn⟩ := hdrs_good hcs (erv0 q9)
     obtain ⟨i9, T3, rfl, hT3⟩ := hdn.done
     rw [List.drop_drop] at hT3
     refine WE.f5 ?_
     refine WE.f4 ?_
     refine WE.f5 ?_
     refine WE.f4 ?_
     refine WE.f4 ?_
     refine WE.f5 ?_
     refine WE.meet (_, _, _, _, l) ?_ ⟨rfl, rfl, rfl, rfl, rfl, rfl, trivial⟩ (List.Perm.refl _)
     try dsimp only
     exact ⟨hp0, hl, ⟨ps, hps.weaken (fun x hx => List.mem_append_left _ hx), hpb2.weaken (fun x hx => List.mem_append_left _ hx)⟩, fresh_cat hN1 (fun _ _ h => nomatch h), _, T3, rfl, fresh1 hlb, hT3⟩
   ·
    try simp only [Z1, Z2, Z3, Z4, Z5, Z6, Z7, Z8, Z9, Z0] at q6
    refine WC.skip ?_
    have hz : head all = 0 := by omega
    refine WE.f5 ?_
    refine WE.f4 ?_
    refine WE.f3 ?_
    refine WE.f5 ?_
    refine WE.f4 ?_
    refine WE.f5 ?_
    refine WE.meet (_, _, _, _, []) ?_ ⟨rfl, rfl, rfl, rfl, rfl, rfl, trivial⟩ (List.Perm.refl _)
    try dsimp only
    exact ⟨hp0, .inl (by rw [hz]; rfl), ⟨[], ⟨rfl, .inl ⟨rfl, _, _, rfl⟩⟩, trivial⟩, (fun _ _ h => nomatch h), [], _, rfl, (fun _ _ h => nomatch h), by rw [hz]; exact hT2⟩
  ·rintro ⟨T, N, hv, d2, l⟩ hp
   try dsimp only at hp
   obtain ⟨hp0, hl, hps, hN, hTT⟩ := hp
   show WC _ _ _ _ _ _ ([(0, .iface k r), (1, .slice none 0 0), (4, Pt m 0), (6, Pt hb 0), (7, .iface 153 (Pt tb 0)), (8, Pt pb 0)]) ([T, N, [(m, .cells #[hv, .slice none 0 0] 50 (0, 0))], [(pb, .cells #[.int .u32 (totl all : Nat), .int .u32 (head all : Nat), d2] 108 (0, 0))], E, R0])
   have hw := hwf hp0
   obtain ⟨h12, hdec⟩ := pre_0 hp0
   have hh32 : head all < 4294967296 := nm4_lt _
   have ht32 : totl all < 4294967296 := nm4_lt _
   refine WC.cut (ι := Hp × Hp × Value) (fun i_ => (fun (T : Hp) (N : Hp) (pv : Value) => [(0, .iface k r), (4, Pt m 0), (6, Pt hb 0)]) i_.1 i_.2.1 i_.2.2) (fun i_ => (fun (T : Hp) (N : Hp) (pv : Value) => [T, N, [(m, .cells #[hv, pv] 50 (0, 0))], E, R0]) i_.1 i_.2.1 i_.2.2) (fun i_ => (fun (T : Hp) (N : Hp) (pv : Value) => (∃ ps, RdS 2 hv N ps.length (recsV PV.row ps) ∧ PB l ps N) ∧ RdS 1 pv N ((all.drop (12 + head all)).take (totl all - 16 - head all)).length (bytesV ((all.drop (12 + head all)).take (totl all - 16 - head all))) ∧ (∀ b o, (b, o) ∈ N → w0.heap.size ≤ b) ∧ (∃ D T2, T = D ++ T2 ∧ (∀ b o, (b, o) ∈ D → w0.heap.size ≤ b) ∧ TeeG tb k r hb Rt all (all.drop (totl all - 4)) T2)) i_.1 i_.2.1 i_.2.2) ?_ ?_
   ·
    refine WC.seq ?_
    obtain ⟨D, T2, rfl, hD, hT2⟩ := hTT
    refine WC.reg (reg_out List.perm_append_comm) ?_
    refine WC.region ?_
    refine WL.q (oq_loadS [_, _, _] agg108 ty108 rfl (.tail _ (.tail _ (.tail _ (.tail _ (.head _))))) (List.mem_singleton.2 rfl) rfl rfl) rfl rfl rfl ?_
    refine WL.qc (oq_call (payloadLen (totl all) (head all) _ hw ht32) call44 rfl) rfl rfl rfl ?_
    refine WL.q (oq_assign rfl) rfl rfl rfl ?_
    refine WL.nil (WE.then_normal (WC.sub (fr' := [(0, _), (1, _), (4, _), (6, _), (7, _), (10, _)]) ?_ ⟨rfl, rfl, rfl, rfl, rfl, rfl, trivial⟩))
    refine WC.seq (WC.region ?_)
    refine WL.q (oq_move rfl) rfl rfl rfl ?_
    refine WL.q (oq_gtr rfl rfl) rfl rfl rfl ?_
    refine WL.nil (WE.then_normal (WC.sub (fr' := [(0, _), (1, _), (4, _), (6, _), (7, _), (10, _), (52, _)]) ?_ ⟨rfl, rfl, rfl, rfl, rfl, rfl, rfl, trivial⟩))
    refine WC.cond rfl (fun q12 => ?_) (fun q12 => ?_)
    ·
     try simp only [Z1, Z2, Z3, Z4, Z5, Z6, Z7, Z8, Z9, Z0] at q12
     refine WC.seq (WC.region ?_)
     refine WL.q (oq_move rfl) rfl rfl rfl ?_
     refine WL.q (oq_move rfl) rfl rfl rfl ?_
     refine WL.q (oq_move rfl) rfl rfl rfl ?_
     refine WL.q (oq_conv Tryz.underlying75 Tryz.underlying2 rfl (by rw [i64_lo, i64_hi]; (first | omega | (simp only [List.length_cons, List.length_nil, List.length_append, List.length_drop, List.length_take]; omega)))) rfl rfl rfl ?_
     refine WL.callA0 (limitReader 153 (Pt tb 0) ((totl all - 16 - head all : Nat) : Int)) call42 rfl rfl rfl fun v13_4 N13_4 hR13_4 hN13_4 => ?_
     obtain ⟨lb, rfl, rfl⟩ := hR13_4
     have hlb := hN13_4 _ _ (List.mem_singleton.2 rfl)
     refine WL.f6 ?_
     refine WL.f2 ?_
     refine WL.f2 ?_
     have hL2 := LimG.start (lb := lb) (k := 153) (r := Pt tb 0) (N := totl all - 16 - head all) hT2
     refine WL.cat ?_
     refine WL.callW2 (decPayload _ E kE pE pU hS _ _ _ _ (limRr _ lb E kE pE pU hS _ _ _ _ (teeRr _ tb hb E kE pE pU hS k r f Rt hR all) (all.drop (12 + head all)) (totl all - 16 - head all) (by omega) (by rw [List.length_drop]; omega)) _ _ hL2 (by rw [List.length_take, List.length_drop]; omega) noWT) call45 rfl rfl rfl fun v13_5 Hs13_5 hR13_5 => ?_
     obtain ⟨L3, N2, pv, rfl, rfl, hN2, hpv, hL3⟩ := hR13_5
     refine WL.to3 ?_
     refine WL.q (oq_move rfl) rfl rfl rfl ?_
     refine WL.q (oq_extract rfl rfl) rfl rfl rfl ?_
     refine WL.q (oq_extract rfl rfl) rfl rfl rfl ?_
     refine WL.q (oq_assign rfl) rfl rfl rfl ?_
     refine WL.q (oq_assign rfl) rfl rfl rfl ?_
     refine WL.nil (WE.then_normal (WC.sub (fr' := [(0, _), (4, _), (6, _), (11, _), (12, _)]) ?_ ⟨rfl, rfl, rfl, rfl, rfl, trivial⟩))
     refine WC.seq (WC.seq (WC.region ?_))
     refine WL.q (oq_move rfl) rfl rfl rfl ?_
     refine WL.q (oq_ineq Tryz.underlying41 rfl (.inl rfl)) rfl rfl rfl ?_
     refine WL.nil (WE.then_normal (WC.sub (fr' := [(0, _), (4, _), (6, _), (11, _), (12, _), (63, _)]) ?_ ⟨rfl, rfl, rfl, rfl, rfl, rfl, trivial⟩))
     refine WC.cond rfl (fun q14 => ?_) (fun q14 => ?_)
     ·
      try simp only [Z1, Z2, Z3, Z4, Z5, Z6, Z7, Z8, Z9, Z0] at q14
      first | contradiction | (exfalso; omega) | (exfalso; simp_all; done)
     ·
      try simp only [Z1, Z2, Z3, Z4, Z5, Z6, Z7, Z8, Z9, Z0] at q14
      refine WC.skip (WE.then_normal (WC.sub (fr' := [(0, _), (4, _), (6, _), (11, _)]) ?_ ⟨rfl, rfl, rfl, rfl, trivial⟩))
      refine WC.f4 ?_
      refine WC.f2 ?_
      refine WC.cat ?_
      refine WC.region ?_
      refine WL.q (oq_move rfl) rfl rfl rfl ?_
      refine WL.q (oq_fieldAddr fld50_1 rfl) rfl rfl rfl ?_
      refine WL.f4 ?_
      refine WL.store1 #[_, _] ty25 rfl rfl (by exact rd_one hpv) (Nat.lt_of_lt_of_le (Nat.lt_succ_self _) (Nat.le_of_ble_eq_true rfl)) rfl rfl ?_
      refine WL.nil ?_
      obtain ⟨i9, T4, rfl, hT4⟩ := hL3.done
      rw [List.drop_drop, show 12 + head all + (totl all - 16 - head all) = totl all - 4 by omega] at hT4
      obtain ⟨ps, hps1, hps2⟩ := hps
      refine WE.f4 ?_
      refine WE.forget hD ?_
      refine WE.f4 ?_
      refine WE.lose hpb ?_
      refine WE.f4 ?_
      refine WE.f4 ?_
      refine WE.f2 ?_
      refine WE.f3 ?_
      refine WE.f4 ?_
      refine WE.meet (_, _, _) ?_ ⟨rfl, rfl, rfl, trivial⟩ (List.Perm.refl _)
      try dsimp only
      exact ⟨⟨ps, hps1.weaken (fun x hx => List.mem_append_right _ hx), hps2.weaken (fun x hx => List.mem_append_right _ hx)⟩, hpv.weaken (fun x hx => List.mem_append_left _ hx), fresh_cat hN2 hN, _, T4, rfl, fresh1 hlb, hT4⟩
    ·
     try simp only [Z1, Z2, Z3, Z4, Z5, Z6, Z7, Z8, Z9, Z0] at q12
     refine WC.skip ?_
     have hz : totl all - 16 - head all = 0 := by omega
     rw [show 12 + head all = totl all - 4 by omega] at hT2
     refine WE.f1 ?_
     refine WE.forget hD ?_
     refine WE.f3 ?_
     refine WE.lose hpb ?_
     refine WE.meet (_, _, _) ?_ ⟨rfl, rfl, rfl, trivial⟩ (List.Perm.refl _)
     try dsimp only
     exact ⟨hps, by rw [hz]; exact ⟨rfl, .inl ⟨rfl, _, _, rfl⟩⟩, hN, [], _, rfl, (fun _ _ h => nomatch h), hT2⟩
   ·rintro ⟨T, N, pv⟩ hp
    try dsimp only at hp
    obtain ⟨hps, hpv, hN, hTT2⟩ := hp
    show WC _ _ _ _ _ _ ([(0, .iface k r), (4, Pt m 0), (6, Pt hb 0)]) ([T, N, [(m, .cells #[hv, pv] 50 (0, 0))], E, R0])
    refine WC.seq ?_
    obtain ⟨D3, T3, rfl, hD3, hT3⟩ := hTT2
    refine WC.reg (reg_out List.perm_append_comm) ?_
    refine WC.region ?_
    refine WL.q (oq_move rfl) rfl rfl rfl ?_
    refine WL.qc (oq_callRm (teeSum tb k r hb Rt all _ _ hT3) (.head _) call30 rfl) rfl rfl rfl ?_
    refine WL.q (oq_assign rfl) rfl rfl rfl ?_
    refine WL.nil (WE.then_normal (WC.sub (fr' := [(0, _), (4, _), (13, _)]) ?_ ⟨rfl, rfl, rfl, trivial⟩))
    refine WC.seq (WC.seq ?_)
    obtain ⟨ac, X3, hac, rfl, hX3⟩ := hT3
    refine WC.reg (reg_out (mid2 _ X3 _)) ?_
    refine WC.region ?_
    refine WL.q (oq_move rfl) rfl rfl rfl ?_
    refine WL.q (oq_move rfl) rfl rfl rfl ?_
    refine WL.f5 ?_
    refine WL.f1 ?_
    refine WL.callW2 (validCRC _ E kE pE pU hS k r f Rt hR (all.drop (totl all - 4)) X3 hX3 (by rw [List.length_drop]; omega) (crc (all.take (all.length - (all.drop (totl all - 4)).length))).toNat) call46 rfl rfl rfl fun v18_2 Hs18_2 hR18_2 => ?_
    obtain ⟨X4, rfl, rfl, hX4⟩ := hR18_2
    rw [List.drop_drop] at hX4
    refine WL.to2 ?_
    refine WL.q (oq_assign rfl) rfl rfl rfl ?_
    refine WL.nil (WE.then_normal (WC.sub (fr' := [(4, _), (14, _)]) ?_ ⟨rfl, rfl, trivial⟩))
    refine WC.seq (WC.region ?_)
    refine WL.q (oq_move rfl) rfl rfl rfl ?_
    refine WL.q (oq_ineq Tryz.underlying41 rfl (erv_or _ _ _ _ _)) rfl rfl rfl ?_
    refine WL.nil (WE.then_normal (WC.sub (fr' := [(4, _), (14, _), (74, _)]) ?_ ⟨rfl, rfl, rfl, trivial⟩))
    refine WC.cond rfl (fun q19 => ?_) (fun q19 => ?_)
    ·
     try simp only [Z1, Z2, Z3, Z4, Z5, Z6, Z7, Z8, Z9, Z0] at q19
     refine WC.seq (WC.region ?_)
     refine WL.q (oq_build #[_, _] str50 ty50 rfl rfl) rfl rfl rfl ?_
     refine WL.q (oq_move rfl) rfl rfl rfl ?_
     refine WL.f5 ?_
     refine WL.storeS #[_, _] ty50 rfl rfl rfl rfl (Nat.le_of_ble_eq_true rfl) rfl rfl ?_
     refine WL.q (oq_assign rfl) rfl rfl rfl ?_
     refine WL.nil (WE.then_normal (WC.sub (fr' := [(4, _), (5, _)]) ?_ ⟨rfl, rfl, trivial⟩))
     refine WC.ret (WE.then_ret ?_)
     refine WE.endDW [_, _, _] (.inl rfl) (rs2 Tryz.results33 (rv_cellS [_, _] agg50 ty50 rfl (.head _) (List.mem_singleton.2 rfl) rfl rfl) (rv_tmp rfl)) (dr_lose hm (dr_f2 (dr_forget (fresh_cat (fresh1 htb) (fresh1 hhb)) (dr_f2 (dr_forget hD3 (dr_f3 (dr_f2 (dr_f3 (dr_f3 dr_refl))))))))) ?_
     have hcn := ervN q19
     have hd2 := dec_l hdec hl
     have hv3 := vcC_le (crc (all.take (all.length - (all.drop (totl all - 4)).length))).toNat (all.drop (totl all - 4))
     refine ⟨X4, _, _, _, 0, _, rfl, rfl, hN, hX4, fun _ => by rw [List.length_drop]; omega, by rw [hd2]; exact tail_c h12 hw, (fun h => (by omega)), (fun _ => (by omega)), by omega, _, _, rfl, rfl, rfl, fun h => absurd h hcn⟩
    ·
     try simp only [Z1, Z2, Z3, Z4, Z5, Z6, Z7, Z8, Z9, Z0] at q19
     refine WC.skip (WE.then_normal (WC.sub (fr' := [(4, _)]) ?_ ⟨rfl, trivial⟩))
     refine WC.seq ?_
     obtain ⟨ps, hps1, hps2⟩ := hps
     have o1h := rd_one hps1
     have o2h := rd_one hpv
     refine WC.region ?_
     refine WL.q (oq_loadS [_, _] agg50 ty50 rfl (.tail _ (.tail _ (.tail _ (.tail _ (.tail _ (.head _)))))) (List.mem_singleton.2 rfl) rfl rfl) rfl rfl rfl ?_
     refine WL.f5 ?_
     refine WL.storeS (#[hv, pv]) ty50 rfl rfl rfl (by simp [Value.cells, o1h, o2h]) (Nat.le_of_ble_eq_true rfl) rfl rfl ?_
     refine WL.q (oq_assign rfl) rfl rfl rfl ?_
     refine WL.nil (WE.then_normal (WC.sub (fr' := [(4, _), (5, _)]) ?_ ⟨rfl, rfl, trivial⟩))
     refine WC.ret ?_
     refine WE.endDW [_, _, _] (.inl rfl) (rs2 Tryz.results33 (rv_cellS [_, _] agg50 ty50 rfl (.head _) (List.mem_singleton.2 rfl) rfl rfl) (rv_tmp rfl)) (dr_lose hm (dr_f2 (dr_forget (fresh_cat (fresh1 htb) (fresh1 hhb)) (dr_f2 (dr_forget hD3 (dr_f3 (dr_f2 (dr_f3 (dr_f3 dr_refl))))))))) ?_
     have hc0 := erv0 q19
     have hd2 := dec_l hdec hl
     obtain ⟨ht0, htl⟩ := tail_0 (l := l) hw hc0
     have hd3 : dec all = (0, l, ((all.drop (12 + head all)).take (totl all - 16 - head all)), totl all) := by rw [hd2, ht0]
     refine ⟨X4, _, _, 0, 0, _, rfl, rfl, hN, hX4, fun _ => by rw [List.length_drop]; omega, by rw [hd3]; rfl, (fun h => (by omega)), (fun h => (by omega)), by omega, _, _, rfl, rd_one hps1, rd_one hpv, fun _ => ?_⟩
     rw [hd3]
     exact ⟨⟨ps, hps1, hps2⟩, hpv, by rw [show totl all - 4 + 4 = totl all by omega], htl⟩
theorem decodeM (base : Nat) (E : Hp) (kE : TypeId) (pE pU : Addr) (hS : Sn E kE pE pU) (k : TypeId) (r : Value) (f : FuncId) (Rt : List UInt8 → Hp → Prop) (hR : Rr base k r f E kE pE pU Rt) (all : List UInt8) (X : Hp) (hX : Rt all X) (hrs : all.length ≤ 900000) (hwf : preC all = 0 → 16 + head all ≤ totl all) (d : Value) : FnW Tryz.prog 19 [d, .iface k r, .slice none 0 0] base [X, E] (MsgDR base kE pE pU E Rt all) := by
 refine FnW.enter (n := 16) Tryz.func19 rfl rfl fun w0 R0 hbase => ?_
 subst hbase
 show WC _ _ _ _ _ _ _ ([X, E, R0])
 refine WC.sub (fr' := [(1, _), (2, _)]) ?_ ⟨rfl, rfl, trivial⟩
 refine WC.seq (WC.region ?_)
 refine WL.alloc ty50 rfl rfl fun m hm => ?_
 refine WL.q (oq_assign rfl) rfl rfl rfl ?_
 refine WL.nil (WE.then_normal (WC.sub (fr' := [(1, _), (2, _), (6, _)]) ?_ ⟨rfl, rfl, rfl, trivial⟩))
 refine WC.seq (WC.region ?_)
 refine WL.q (oq_move rfl) rfl rfl rfl ?_
 refine WL.q (oq_move rfl) rfl rfl rfl ?_
 refine WL.f2 ?_
 refine WL.f2 ?_
 refine WL.callW2 (decMessage _ E kE pE pU hS k r f Rt hR all X hX hrs hwf) call33 rfl rfl rfl fun v1_2 Hs1_2 hR1_2 => ?_
 obtain ⟨X2, N, mv, c, ob, rz, rfl, rfl, hN, hX2, hlt, hdc, h5, h2a, hc5, hv, pv, rfl, o1, o2, hok⟩ := hR1_2
 refine WL.to3 ?_
 refine WL.q (oq_move rfl) rfl rfl rfl ?_
 refine WL.q (oq_extract rfl rfl) rfl rfl rfl ?_
 refine WL.q (oq_extract rfl rfl) rfl rfl rfl ?_
 refine WL.f3 ?_
 refine WL.storeS (#[hv, pv]) ty50 rfl rfl rfl (by simp [Value.cells, o1, o2]) (Nat.le_of_ble_eq_true rfl) rfl rfl ?_
 refine WL.q (oq_assign rfl) rfl rfl rfl ?_
 refine WL.nil (WE.then_normal (WC.sub (fr' := [(6, _), (7, _)]) ?_ ⟨rfl, rfl, trivial⟩))
 refine WC.seq (WC.region ?_)
 refine WL.q (oq_loadS [_, _] agg50 ty50 rfl (.head _) (List.mem_singleton.2 rfl) rfl rfl) rfl rfl rfl ?_
 refine WL.q (oq_move rfl) rfl rfl rfl ?_
 refine WL.storeS (#[hv, pv]) ty50 rfl rfl rfl (by simp [Value.cells, o1, o2]) (Nat.le_of_ble_eq_true rfl) rfl rfl ?_
 refine WL.q (oq_assign rfl) rfl rfl rfl ?_
 refine WL.nil (WE.then_normal (WC.sub (fr' := [(6, _), (7, _)]) ?_ ⟨rfl, rfl, trivial⟩))
 refine WC.ret ?_
 refine WE.endDW [_, _, _] (.inl rfl) (rs2 Tryz.results19 (rv_cellS [_, _] agg50 ty50 rfl (.head _) (List.mem_singleton.2 rfl) rfl rfl) (rv_tmp rfl)) (dr_lose hm dr_refl) ?_
 exact ⟨X2, N, _, c, ob, rz, rfl, rfl, hN, hX2, hlt, hdc, h5, h2a, hc5, hv, pv, rfl, o1, o2, hok⟩
end DK
end Go.Proofs.YtpjeiimlglgklaaGreatDoor
/- Values back, headers back. -/
namespace Go.Proofs.YtpjeiimlglgklaaGreatDoor
open Go Go.RowKit V EA EB EC ED EL DC DD DA DE EE EH EI EJ DF DG DH DI EM DJ DK
set_option linter.unusedSimpArgs false
set_option linter.unusedVariables false
set_option maxRecDepth 10000
namespace DL
theorem call34 : Callable Tryz.prog 34 := ⟨_, Tryz.func34, rfl, by kernel_rfl⟩
theorem call47 : Callable Tryz.prog 47 := ⟨_, Tryz.func47, rfl, by kernel_rfl⟩
theorem call48 : Callable Tryz.prog 48 := ⟨_, Tryz.func48, rfl, by kernel_rfl⟩
theorem call55 : Callable Tryz.prog 55 := ⟨_, Tryz.func55, rfl, by kernel_rfl⟩
theorem call56 : Callable Tryz.prog 56 := ⟨_, Tryz.func56, rfl, by kernel_rfl⟩
theorem call69 : Callable Tryz.prog 69 := ⟨_, Tryz.func69, rfl, by kernel_rfl⟩
theorem flat9 : Flat Tryz.prog 9 := ⟨_, Tryz.underlying9, by simp⟩
theorem flat87 : Flat Tryz.prog 87 := ⟨_, Tryz.underlying87, by simp⟩
theorem ty5 : Ty Tryz.prog 5 (.int .u8 0) 1 1 := ty_of (by kernel_rfl)
theorem ty9 : Ty Tryz.prog 9 (S []) 1 16 := ty_of (by kernel_rfl)
theorem ty53 : Ty Tryz.prog 53 (.agg #[(.int .i64 0), (.int .i64 0), (.int .i64 0), (S [])]) 4 40 := ty_of (by kernel_rfl)
theorem ty55 : Ty Tryz.prog 55 (.agg #[(S []), (.int .i64 0), (.int .i64 0), (.int .i64 0), (S [])]) 5 56 := ty_of (by kernel_rfl)
theorem ty87 : Ty Tryz.prog 87 .nilIface 1 16 := ty_of (by kernel_rfl)
theorem ty90 : Ty Tryz.prog 90 (.agg #[(S []), .nilIface]) 2 32 := ty_of (by kernel_rfl)
theorem ty114 : Ty Tryz.prog 114 (.int .i8 0) 1 1 := ty_of (by kernel_rfl)
theorem ty117 : Ty Tryz.prog 117 (.int .i16 0) 1 2 := ty_of (by kernel_rfl)
theorem ty118 : Ty Tryz.prog 118 (.int .i32 0) 1 4 := ty_of (by kernel_rfl)
theorem ty119 : Ty Tryz.prog 119 (.int .i64 0) 1 8 := ty_of (by kernel_rfl)
theorem ty120 : Ty Tryz.prog 120 (.slice none 0 0) 1 24 := ty_of (by kernel_rfl)
theorem ty121 : Ty Tryz.prog 121 (S []) 1 16 := ty_of (by kernel_rfl)
theorem ty123 : Ty Tryz.prog 123 (.agg #[(.int .i64 0), (.int .i32 0), (S []), (.int .i64 0)]) 4 40 := ty_of (by kernel_rfl)
theorem ty124 : Ty Tryz.prog 124 (.agg #[(.int .i64 0), (.int .i32 0), (S []), (.int .i64 0)]) 4 40 := ty_of (by kernel_rfl)
theorem ty127 : Ty Tryz.prog 127 (.agg #[(.int .u8 0), (.int .u8 0), (.int .u8 0), (.int .u8 0), (.int .u8 0), (.int .u8 0), (.int .u8 0), (.int .u8 0), (.int .u8 0), (.int .u8 0), (.int .u8 0), (.int .u8 0), (.int .u8 0), (.int .u8 0), (.int .u8 0), (.int .u8 0)]) 16 16 := ty_of (by kernel_rfl)
theorem ty128 : Ty Tryz.prog 128 (.bool false) 1 1 := ty_of (by kernel_rfl)
theorem conc114 : Conc Tryz.prog 114 := ⟨_, Tryz.underlying114, by simp⟩
theorem conc117 : Conc Tryz.prog 117 := ⟨_, Tryz.underlying117, by simp⟩
theorem conc118 : Conc Tryz.prog 118 := ⟨_, Tryz.underlying118, by simp⟩
theorem conc119 : Conc Tryz.prog 119 := ⟨_, Tryz.underlying119, by simp⟩
theorem conc120 : Conc Tryz.prog 120 := ⟨_, Tryz.underlying120, by simp⟩
theorem conc121 : Conc Tryz.prog 121 := ⟨_, Tryz.underlying121, by simp⟩
theorem conc123 : Conc Tryz.prog 123 := ⟨_, Tryz.underlying123, by simp⟩
theorem conc127 : Conc Tryz.prog 127 := ⟨_, Tryz.underlying127, by simp⟩
theorem conc128 : Conc Tryz.prog 128 := ⟨_, Tryz.underlying128, by simp⟩
theorem agg53 : Agg Tryz.prog 53 := agg_of Tryz.underlying53
theorem agg90 : Agg Tryz.prog 90 := agg_of Tryz.underlying90
theorem agg123 : Agg Tryz.prog 123 := agg_of Tryz.underlying123
theorem agg124 : Agg Tryz.prog 124 := agg_of Tryz.underlying124
theorem str53 : Str Tryz.prog 53 #[(0, 1), (1, 1), (2, 1), (3, 1)] := ⟨_, Tryz.underlying53, fun w => by kernel_rfl⟩
theorem str55 : Str Tryz.prog 55 #[(0, 1), (1, 4)] := ⟨_, Tryz.underlying55, fun w => by kernel_rfl⟩
theorem fld90_0 : Fld Tryz.prog 90 0 0 9 := fld_of Tryz.underlying90 rfl rfl rfl ty9 (by decide)
theorem fld90_1 : Fld Tryz.prog 90 1 1 87 := fld_of Tryz.underlying90 rfl rfl rfl ty87 (by decide)
section
variable {n : Nat} {w0 : World} {ds : List Deferred} {fr : Fr} {H : List Hp} {dst : Option Tmp} {ty : TypeId} {pos : String} {aft : Array Edge} {g : Option (Nat × Bool)} {k t u : TypeId} {x : Operand} {v z : Value} {size bytes : Nat}
theorem oq_askN (hc : Conc Tryz.prog t) (hty : Ty Tryz.prog t z size bytes) (hne : k ≠ t) (hx : ev fr x = some (.iface k v)) : OV Tryz.prog n w0 ⟨dst, .typeAssert x u t true, ty, pos, aft, g⟩ (.tuple #[z, .bool false]) ds fr H :=
 (oq_askG hc hty hx).to (by rw [if_neg hne, decide_eq_false hne])
theorem oq_askC3 {kE : TypeId} {pE pU : Addr} {ob c : Nat} (hk : kE = 196) (hc : Conc Tryz.prog 65) (hty : Ty Tryz.prog 65 (.agg #[]) size bytes) (hx : ev fr x = some (erv kE pE pU ob c)) : OV Tryz.prog n w0 ⟨dst, .typeAssert x u 65 true, ty, pos, aft, g⟩ (.tuple #[.agg #[], .bool (decide (c = 3))]) ds fr H := by
 match c, hx with
 | 0, hx => exact oq_askNil hc hty hx
 | 1, hx => exact oq_askN hc hty (by rw [hk]; decide) hx
 | 2, hx => exact oq_askN hc hty (by rw [hk]; decide) hx
 | 3, hx => exact oq_askC hc hx
 | 4, hx => exact oq_askN hc hty (by decide) hx
 | m + 5, hx => exact oq_askN hc hty (by rw [hk]; decide) hx
theorem oq_askC4 {kE : TypeId} {pE pU : Addr} {ob c : Nat} (hk : kE = 196) (hc : Conc Tryz.prog 67) (hty : Ty Tryz.prog 67 z size bytes) (hx : ev fr x = some (erv kE pE pU ob c)) : OV Tryz.prog n w0 ⟨dst, .typeAssert x u 67 true, ty, pos, aft, g⟩ (.tuple #[if c = 4 then lenE else z, .bool (decide (c = 4))]) ds fr H := by
 match c, hx with
 | 0, hx => exact oq_askNil hc hty hx
 | 1, hx => exact oq_askN hc hty (by rw [hk]; decide) hx
 | 2, hx => exact oq_askN hc hty (by rw [hk]; decide) hx
 | 3, hx => exact oq_askN hc hty (by decide) hx
 | 4, hx => exact oq_askC hc hx
 | m + 5, hx => exact oq_askN hc hty (by rw [hk]; decide) hx
end
theorem ms_back {ms : Int} (h1 : -9223372036854775808 ≤ ms) (h2 : ms ≤ 9223372036854775807) : IntKind.i64.wrap (IntKind.i64.wrap ((ms / 1000 + 62135596800 + -62135596800) * 1000) + ms % 1000 * 1000000 / 1000000) = ms := by
 have e1 : ms % 1000 * 1000000 / 1000000 = ms % 1000 := by omega
 rw [e1, show ms / 1000 + 62135596800 + -62135596800 = ms / 1000 by omega]
 simp only [IntKind.wrap, IntKind.signed, IntKind.bits, Bool.true_and, decide_eq_true_eq]
 split <;> split <;> omega
theorem own_rd5 {base : Nat} {v : Value} {A : Hp} {l : List HV} {m : Nat} {xs : List Value} (h : OwS base 55 5 v A m xs) (hm : m = l.length) (hx : xs = recsV HV.row l) : RdS 5 v A l.length (recsV HV.row l) := by subst hm hx; exact h.rd
theorem hv_snoc {l : List HV} {i : Nat} (hi : i < l.length) : recsV HV.row (l.take i) ++ [S (l.getD i HV0).name, I (l.getD i HV0).kind, I (l.getD i HV0).width, I (l.getD i HV0).int, S (l.getD i HV0).text] = recsV HV.row (l.take (i + 1)) := by
 rw [take_snoc hi]; unfold recsV; rw [List.flatMap_append]; simp [HV.row]
theorem oneHV (h : HV) : ∀ u ∈ [S h.name, I h.kind, I h.width, I h.int, S h.text], u.oneCell' = true := fun u hu => by
 simp only [List.mem_cons, List.not_mem_nil, or_false] at hu
 rcases hu with rfl | rfl | rfl | rfl | rfl <;> rfl
theorem unixSec2 (s n : Int) (h : -10000000000000000 ≤ s ∧ s ≤ 10000000000000000) : Fn0 Tryz.prog 55 [tmV s n] (I (s + -62135596800)) := by
 refine Fn0.enter (n := 6) Tryz.func55 rfl rfl fun w0 => ?_
 refine WC.sub (fr' := [(0, _)]) ?_ ⟨rfl, trivial⟩
 refine WC.seq (WC.region ?_)
 refine WL.box rfl rfl rfl fun b0_0 hb0_0 => ?_
 refine WL.q (oq_assign rfl) rfl rfl rfl ?_
 refine WL.nil (WE.then_normal (WC.sub (fr' := [(1, _)]) ?_ ⟨rfl, trivial⟩))
 refine WC.seq (WC.region ?_)
 refine WL.q (oq_loadS [_, _, _, _] agg124 ty124 rfl (.head _) (List.mem_singleton.2 rfl) rfl rfl) rfl rfl rfl ?_
 refine WL.qc (oq_call (sec _ _) call69 rfl) rfl rfl rfl ?_
 refine WL.q (oq_add rfl rfl (by rw [i64_lo, i64_hi]; (first | omega | (simp only [List.length_cons, List.length_nil, List.length_append, List.length_drop, List.length_take]; omega)))) rfl rfl rfl ?_
 refine WL.q (oq_assign rfl) rfl rfl rfl ?_
 refine WL.nil (WE.then_normal (WC.sub (fr' := [(2, _)]) ?_ ⟨rfl, trivial⟩))
 refine WC.ret ?_
 refine WE.lose hb0_0 ?_
 refine WE.end0 (.inl rfl) (res1 Tryz.results55 rfl) ?_
 rfl
theorem unixT (s n : Int) (h : -10000000000000000 ≤ s ∧ s ≤ 10000000000000000) : Fn0 Tryz.prog 47 [tmV s n] (I (s + -62135596800)) := by
 refine Fn0.enter (n := 5) Tryz.func47 rfl rfl fun w0 => ?_
 refine WC.sub (fr' := [(0, _)]) ?_ ⟨rfl, trivial⟩
 refine WC.seq (WC.region ?_)
 refine WL.box rfl rfl rfl fun b0_0 hb0_0 => ?_
 refine WL.q (oq_assign rfl) rfl rfl rfl ?_
 refine WL.nil (WE.then_normal (WC.sub (fr' := [(1, _)]) ?_ ⟨rfl, trivial⟩))
 refine WC.seq (WC.region ?_)
 refine WL.q (oq_loadS [_, _, _, _] agg124 ty124 rfl (.head _) (List.mem_singleton.2 rfl) rfl rfl) rfl rfl rfl ?_
 refine WL.qc (oq_call (unixSec2 s n h) call55 rfl) rfl rfl rfl ?_
 refine WL.q (oq_assign rfl) rfl rfl rfl ?_
 refine WL.nil (WE.then_normal (WC.sub (fr' := [(2, _)]) ?_ ⟨rfl, trivial⟩))
 refine WC.ret ?_
 refine WE.lose hb0_0 ?_
 refine WE.end0 (.inl rfl) (res1 Tryz.results47 rfl) ?_
 rfl
theorem nanoT (s n : Int) (h : 0 ≤ n ∧ n ≤ 999999999) : Fn0 Tryz.prog 48 [tmV s n] (I n) := by
 refine Fn0.enter (n := 6) Tryz.func48 rfl rfl fun w0 => ?_
 refine WC.sub (fr' := [(0, _)]) ?_ ⟨rfl, trivial⟩
 refine WC.seq (WC.region ?_)
 refine WL.box rfl rfl rfl fun b0_0 hb0_0 => ?_
 refine WL.q (oq_assign rfl) rfl rfl rfl ?_
 refine WL.nil (WE.then_normal (WC.sub (fr' := [(1, _)]) ?_ ⟨rfl, trivial⟩))
 refine WC.seq (WC.region ?_)
 refine WL.q (oq_loadS [_, _, _, _] agg124 ty124 rfl (.head _) (List.mem_singleton.2 rfl) rfl rfl) rfl rfl rfl ?_
 refine WL.qc (oq_call (nsec s n) call56 rfl) rfl rfl rfl ?_
 refine WL.q (oq_conv Tryz.underlying21 Tryz.underlying3 rfl (by rw [i64_lo, i64_hi]; (first | omega | (simp only [List.length_cons, List.length_nil, List.length_append, List.length_drop, List.length_take]; omega)))) rfl rfl rfl ?_
 refine WL.q (oq_assign rfl) rfl rfl rfl ?_
 refine WL.nil (WE.then_normal (WC.sub (fr' := [(2, _)]) ?_ ⟨rfl, trivial⟩))
 refine WC.ret ?_
 refine WE.lose hb0_0 ?_
 refine WE.end0 (.inl rfl) (res1 Tryz.results48 rfl) ?_
 rfl
theorem backBoolValue (b : Bool) : Fn0 Tryz.prog 34 [.iface 128 (.bool b)] (.agg #[I 0, I 0, I (if b then 1 else 0), S []]) := by
 refine Fn0.enter (n := 72) Tryz.func34 rfl rfl fun w0 => ?_
 refine WC.sub (fr' := [(0, _)]) ?_ ⟨rfl, trivial⟩
 refine WC.seq (WC.region ?_)
 refine WL.alloc ty53 rfl rfl fun res hres => ?_
 refine WL.nil (WE.then_normal (WC.sub (fr' := [(0, _), (2, _)]) ?_ ⟨rfl, rfl, trivial⟩))
 refine WC.seq (WC.seq (WC.region ?_))
 refine WL.q (oq_move rfl) rfl rfl rfl ?_
 refine WL.nil (WE.then_normal (WC.sub (fr' := [(2, _), (13, _)]) ?_ ⟨rfl, rfl, trivial⟩))
 refine WC.block (WC.seq (WC.region ?_))
 refine WL.q (oq_askC conc128 rfl) rfl rfl rfl ?_
 refine WL.q (oq_extract rfl rfl) rfl rfl rfl ?_
 refine WL.q (oq_extract rfl rfl) rfl rfl rfl ?_
 refine WL.nil (WE.then_normal (WC.sub (fr' := [(2, _), (13, _), (15, _), (16, _)]) ?_ ⟨rfl, rfl, rfl, rfl, trivial⟩))
 refine WC.cond_t rfl ?_
 refine WC.seq (WC.region ?_)
 refine WL.q (oq_assign rfl) rfl rfl rfl ?_
 refine WL.nil (WE.then_normal (WC.sub (fr' := [(2, _), (3, _)]) ?_ ⟨rfl, rfl, trivial⟩))
 refine WC.seq (WC.region ?_)
 refine WL.q (oq_move rfl) rfl rfl rfl ?_
 refine WL.nil (WE.then_normal (WC.sub (fr' := [(2, _), (17, _)]) ?_ ⟨rfl, rfl, trivial⟩))
 refine WC.cond rfl (fun q4 => ?_) (fun q4 => ?_)
 ·
  try simp only [Z1, Z2, Z3, Z4, Z5, Z6, Z7, Z8, Z9, Z0] at q4
  refine WC.seq (WC.region ?_)
  refine WL.q (oq_build #[_, _, _, _] str53 ty53 rfl rfl) rfl rfl rfl ?_
  refine WL.storeS #[_, _, _, _] ty53 rfl rfl rfl rfl (Nat.le_of_ble_eq_true rfl) rfl rfl ?_
  refine WL.nil (WE.then_normal (WC.sub (fr' := [(2, _)]) ?_ ⟨rfl, trivial⟩))
  refine WC.ret (WE.block_ret (WE.then_ret ?_))
  refine WE.endD0 (.inl rfl) (rs1 Tryz.results34 (rv_cellS [_, _, _, _] agg53 ty53 rfl (.head _) (List.mem_singleton.2 rfl) rfl rfl)) (dr_lose hres dr_refl) ?_
  rw [q4]; rfl
 ·
  try simp only [Z1, Z2, Z3, Z4, Z5, Z6, Z7, Z8, Z9, Z0] at q4
  refine WC.skip (WE.block_normal (WE.then_normal (WC.sub (fr' := [(2, _)]) ?_ ⟨rfl, trivial⟩)))
  refine WC.seq (WC.region ?_)
  refine WL.q (oq_build #[_, _, _, _] str53 ty53 rfl rfl) rfl rfl rfl ?_
  refine WL.storeS #[_, _, _, _] ty53 rfl rfl rfl rfl (Nat.le_of_ble_eq_true rfl) rfl rfl ?_
  refine WL.nil (WE.then_normal (WC.sub (fr' := [(2, _)]) ?_ ⟨rfl, trivial⟩))
  refine WC.ret ?_
  refine WE.endD0 (.inl rfl) (rs1 Tryz.results34 (rv_cellS [_, _, _, _] agg53 ty53 rfl (.head _) (List.mem_singleton.2 rfl) rfl rfl)) (dr_lose hres dr_refl) ?_
  rw [q4]; rfl
theorem backInt8Value (x : Int) (hx : -128 ≤ x ∧ x ≤ 127) : Fn0 Tryz.prog 34 [.iface 114 (.int .i8 x)] (.agg #[I 1, I 8, I x, S []]) := by
 refine Fn0.enter (n := 72) Tryz.func34 rfl rfl fun w0 => ?_
 refine WC.sub (fr' := [(0, _)]) ?_ ⟨rfl, trivial⟩
 refine WC.seq (WC.region ?_)
 refine WL.alloc ty53 rfl rfl fun res hres => ?_
 refine WL.nil (WE.then_normal (WC.sub (fr' := [(0, _), (2, _)]) ?_ ⟨rfl, rfl, trivial⟩))
 refine WC.seq (WC.seq (WC.region ?_))
 refine WL.q (oq_move rfl) rfl rfl rfl ?_
 refine WL.nil (WE.then_normal (WC.sub (fr' := [(2, _), (13, _)]) ?_ ⟨rfl, rfl, trivial⟩))
 refine WC.block (WC.seq (WC.region ?_))
 refine WL.q (oq_askN conc128 ty128 (by decide) rfl) rfl rfl rfl ?_
 refine WL.q (oq_extract rfl rfl) rfl rfl rfl ?_
 refine WL.q (oq_extract rfl rfl) rfl rfl rfl ?_
 refine WL.nil (WE.then_normal (WC.sub (fr' := [(2, _), (13, _), (15, _), (16, _)]) ?_ ⟨rfl, rfl, rfl, rfl, trivial⟩))
 refine WC.cond_f rfl ?_
 refine WC.seq (WC.region ?_)
 refine WL.q (oq_askC conc114 rfl) rfl rfl rfl ?_
 refine WL.q (oq_extract rfl rfl) rfl rfl rfl ?_
 refine WL.q (oq_extract rfl rfl) rfl rfl rfl ?_
 refine WL.nil (WE.then_normal (WC.sub (fr' := [(2, _), (13, _), (20, _), (21, _)]) ?_ ⟨rfl, rfl, rfl, rfl, trivial⟩))
 refine WC.cond_t rfl ?_
 refine WC.seq (WC.region ?_)
 refine WL.q (oq_assign rfl) rfl rfl rfl ?_
 refine WL.nil (WE.then_normal (WC.sub (fr' := [(2, _), (4, _)]) ?_ ⟨rfl, rfl, trivial⟩))
 refine WC.seq (WC.region ?_)
 refine WL.q (oq_move rfl) rfl rfl rfl ?_
 refine WL.q (oq_conv Tryz.underlying114 Tryz.underlying2 rfl (by rw [i64_lo, i64_hi]; (first | omega | (simp only [List.length_cons, List.length_nil, List.length_append, List.length_drop, List.length_take]; omega)))) rfl rfl rfl ?_
 refine WL.q (oq_build #[_, _, _, _] str53 ty53 rfl rfl) rfl rfl rfl ?_
 refine WL.storeS #[_, _, _, _] ty53 rfl rfl rfl rfl (Nat.le_of_ble_eq_true rfl) rfl rfl ?_
 refine WL.nil (WE.then_normal (WC.sub (fr' := [(2, _)]) ?_ ⟨rfl, trivial⟩))
 refine WC.ret (WE.block_ret (WE.then_ret ?_))
 refine WE.endD0 (.inl rfl) (rs1 Tryz.results34 (rv_cellS [_, _, _, _] agg53 ty53 rfl (.head _) (List.mem_singleton.2 rfl) rfl rfl)) (dr_lose hres dr_refl) ?_
 rfl
theorem backInt16Value (x : Int) (hx : -32768 ≤ x ∧ x ≤ 32767) : Fn0 Tryz.prog 34 [.iface 117 (.int .i16 x)] (.agg #[I 1, I 16, I x, S []]) := by
 refine Fn0.enter (n := 72) Tryz.func34 rfl rfl fun w0 => ?_
 refine WC.sub (fr' := [(0, _)]) ?_ ⟨rfl, trivial⟩
 refine WC.seq (WC.region ?_)
 refine WL.alloc ty53 rfl rfl fun res hres => ?_
 refine WL.nil (WE.then_normal (WC.sub (fr' := [(0, _), (2, _)]) ?_ ⟨rfl, rfl, trivial⟩))
 refine WC.seq (WC.seq (WC.region ?_))
 refine WL.q (oq_move rfl) rfl rfl rfl ?_
 refine WL.nil (WE.then_normal (WC.sub (fr' := [(2, _), (13, _)]) ?_ ⟨rfl, rfl, trivial⟩))
 refine WC.block (WC.seq (WC.region ?_))
 refine WL.q (oq_askN conc128 ty128 (by decide) rfl) rfl rfl rfl ?_
 refine WL.q (oq_extract rfl rfl) rfl rfl rfl ?_
 refine WL.q (oq_extract rfl rfl) rfl rfl rfl ?_
 refine WL.nil (WE.then_normal (WC.sub (fr' := [(2, _), (13, _), (15, _), (16, _)]) ?_ ⟨rfl, rfl, rfl, rfl, trivial⟩))
 refine WC.cond_f rfl ?_
 refine WC.seq (WC.region ?_)
 refine WL.q (oq_askN conc114 ty114 (by decide) rfl) rfl rfl rfl ?_
 refine WL.q (oq_extract rfl rfl) rfl rfl rfl ?_
 refine WL.q (oq_extract rfl rfl) rfl rfl rfl ?_
 refine WL.nil (WE.then_normal (WC.sub (fr' := [(2, _), (13, _), (20, _), (21, _)]) ?_ ⟨rfl, rfl, rfl, rfl, trivial⟩))
 refine WC.cond_f rfl ?_
 refine WC.seq (WC.region ?_)
 refine WL.q (oq_askC conc117 rfl) rfl rfl rfl ?_
 refine WL.q (oq_extract rfl rfl) rfl rfl rfl ?_
 refine WL.q (oq_extract rfl rfl) rfl rfl rfl ?_
 refine WL.nil (WE.then_normal (WC.sub (fr' := [(2, _), (13, _), (26, _), (27, _)]) ?_ ⟨rfl, rfl, rfl, rfl, trivial⟩))
 refine WC.cond_t rfl ?_
 refine WC.seq (WC.region ?_)
 refine WL.q (oq_assign rfl) rfl rfl rfl ?_
 refine WL.nil (WE.then_normal (WC.sub (fr' := [(2, _), (5, _)]) ?_ ⟨rfl, rfl, trivial⟩))
 refine WC.seq (WC.region ?_)
 refine WL.q (oq_move rfl) rfl rfl rfl ?_
 refine WL.q (oq_conv Tryz.underlying117 Tryz.underlying2 rfl (by rw [i64_lo, i64_hi]; (first | omega | (simp only [List.length_cons, List.length_nil, List.length_append, List.length_drop, List.length_take]; omega)))) rfl rfl rfl ?_
 refine WL.q (oq_build #[_, _, _, _] str53 ty53 rfl rfl) rfl rfl rfl ?_
 refine WL.storeS #[_, _, _, _] ty53 rfl rfl rfl rfl (Nat.le_of_ble_eq_true rfl) rfl rfl ?_
 refine WL.nil (WE.then_normal (WC.sub (fr' := [(2, _)]) ?_ ⟨rfl, trivial⟩))
 refine WC.ret (WE.block_ret (WE.then_ret ?_))
 refine WE.endD0 (.inl rfl) (rs1 Tryz.results34 (rv_cellS [_, _, _, _] agg53 ty53 rfl (.head _) (List.mem_singleton.2 rfl) rfl rfl)) (dr_lose hres dr_refl) ?_
 rfl
theorem backInt32Value (x : Int) (hx : -2147483648 ≤ x ∧ x ≤ 2147483647) : Fn0 Tryz.prog 34 [.iface 118 (.int .i32 x)] (.agg #[I 1, I 32, I x, S []]) := by
 refine Fn0.enter (n := 72) Tryz.func34 rfl rfl fun w0 => ?_
 refine WC.sub (fr' := [(0, _)]) ?_ ⟨rfl, trivial⟩
 refine WC.seq (WC.region ?_)
 refine WL.alloc ty53 rfl rfl fun res hres => ?_
 refine WL.nil (WE.then_normal (WC.sub (fr' := [(0, _), (2, _)]) ?_ ⟨rfl, rfl, trivial⟩))
 refine WC.seq (WC.seq (WC.region ?_))
 refine WL.q (oq_move rfl) rfl rfl rfl ?_
 refine WL.nil (WE.then_normal (WC.sub (fr' := [(2, _), (13, _)]) ?_ ⟨rfl, rfl, trivial⟩))
 refine WC.block (WC.seq (WC.region ?_))
 refine WL.q (oq_askN conc128 ty128 (by decide) rfl) rfl rfl rfl ?_
 refine WL.q (oq_extract rfl rfl) rfl rfl rfl ?_
 refine WL.q (oq_extract rfl rfl) rfl rfl rfl ?_
 refine WL.nil (WE.then_normal (WC.sub (fr' := [(2, _), (13, _), (15, _), (16, _)]) ?_ ⟨rfl, rfl, rfl, rfl, trivial⟩))
 refine WC.cond_f rfl ?_
 refine WC.seq (WC.region ?_)
 refine WL.q (oq_askN conc114 ty114 (by decide) rfl) rfl rfl rfl ?_
 refine WL.q (oq_extract rfl rfl) rfl rfl rfl ?_
 refine WL.q (oq_extract rfl rfl) rfl rfl rfl ?_
 refine WL.nil (WE.then_normal (WC.sub (fr' := [(2, _), (13, _), (20, _), (21, _)]) ?_ ⟨rfl, rfl, rfl, rfl, trivial⟩))
 refine WC.cond_f rfl ?_
 refine WC.seq (WC.region ?_)
 refine WL.q (oq_askN conc117 ty117 (by decide) rfl) rfl rfl rfl ?_
 refine WL.q (oq_extract rfl rfl) rfl rfl rfl ?_
 refine WL.q (oq_extract rfl rfl) rfl rfl rfl ?_
 refine WL.nil (WE.then_normal (WC.sub (fr' := [(2, _), (13, _), (26, _), (27, _)]) ?_ ⟨rfl, rfl, rfl, rfl, trivial⟩))
 refine WC.cond_f rfl ?_
 refine WC.seq (WC.region ?_)
 refine WL.q (oq_askC conc118 rfl) rfl rfl rfl ?_
 refine WL.q (oq_extract rfl rfl) rfl rfl rfl ?_
 refine WL.q (oq_extract rfl rfl) rfl rfl rfl ?_
 refine WL.nil (WE.then_normal (WC.sub (fr' := [(2, _), (13, _), (32, _), (33, _)]) ?_ ⟨rfl, rfl, rfl, rfl, trivial⟩))
 refine WC.cond_t rfl ?_
 refine WC.seq (WC.region ?_)
 refine WL.q (oq_assign rfl) rfl rfl rfl ?_
 refine WL.nil (WE.then_normal (WC.sub (fr' := [(2, _), (6, _)]) ?_ ⟨rfl, rfl, trivial⟩))
 refine WC.seq (WC.region ?_)
 refine WL.q (oq_move rfl) rfl rfl rfl ?_
 refine WL.q (oq_conv Tryz.underlying118 Tryz.underlying2 rfl (by rw [i64_lo, i64_hi]; (first | omega | (simp only [List.length_cons, List.length_nil, List.length_append, List.length_drop, List.length_take]; omega)))) rfl rfl rfl ?_
 refine WL.q (oq_build #[_, _, _, _] str53 ty53 rfl rfl) rfl rfl rfl ?_
 refine WL.storeS #[_, _, _, _] ty53 rfl rfl rfl rfl (Nat.le_of_ble_eq_true rfl) rfl rfl ?_
 refine WL.nil (WE.then_normal (WC.sub (fr' := [(2, _)]) ?_ ⟨rfl, trivial⟩))
 refine WC.ret (WE.block_ret (WE.then_ret ?_))
 refine WE.endD0 (.inl rfl) (rs1 Tryz.results34 (rv_cellS [_, _, _, _] agg53 ty53 rfl (.head _) (List.mem_singleton.2 rfl) rfl rfl)) (dr_lose hres dr_refl) ?_
 rfl
theorem backInt64Value (x : Int) (hx : -9223372036854775808 ≤ x ∧ x ≤ 9223372036854775807) : Fn0 Tryz.prog 34 [.iface 119 (.int .i64 x)] (.agg #[I 1, I 64, I x, S []]) := by
 refine Fn0.enter (n := 72) Tryz.func34 rfl rfl fun w0 => ?_
 refine WC.sub (fr' := [(0, _)]) ?_ ⟨rfl, trivial⟩
 refine WC.seq (WC.region ?_)
 refine WL.alloc ty53 rfl rfl fun res hres => ?_
 refine WL.nil (WE.then_normal (WC.sub (fr' := [(0, _), (2, _)]) ?_ ⟨rfl, rfl, trivial⟩))
 refine WC.seq (WC.seq (WC.region ?_))
 refine WL.q (oq_move rfl) rfl rfl rfl ?_
 refine WL.nil (WE.then_normal (WC.sub (fr' := [(2, _), (13, _)]) ?_ ⟨rfl, rfl, trivial⟩))
 refine WC.block (WC.seq (WC.region ?_))
 refine WL.q (oq_askN conc128 ty128 (by decide) rfl) rfl rfl rfl ?_
 refine WL.q (oq_extract rfl rfl) rfl rfl rfl ?_
 refine WL.q (oq_extract rfl rfl) rfl rfl rfl ?_
 refine WL.nil (WE.then_normal (WC.sub (fr' := [(2, _), (13, _), (15, _), (16, _)]) ?_ ⟨rfl, rfl, rfl, rfl, trivial⟩))
 refine WC.cond_f rfl ?_
 refine WC.seq (WC.region ?_)
 refine WL.q (oq_askN conc114 ty114 (by decide) rfl) rfl rfl rfl ?_
 refine WL.q (oq_extract rfl rfl) rfl rfl rfl ?_
 refine WL.q (oq_extract rfl rfl) rfl rfl rfl ?_
 refine WL.nil (WE.then_normal (WC.sub (fr' := [(2, _), (13, _), (20, _), (21, _)]) ?_ ⟨rfl, rfl, rfl, rfl, trivial⟩))
 refine WC.cond_f rfl ?_
 refine WC.seq (WC.region ?_)
 refine WL.q (oq_askN conc117 ty117 (by decide) rfl) rfl rfl rfl ?_
 refine WL.q (oq_extract rfl rfl) rfl rfl rfl ?_
 refine WL.q (oq_extract rfl rfl) rfl rfl rfl ?_
 refine WL.nil (WE.then_normal (WC.sub (fr' := [(2, _), (13, _), (26, _), (27, _)]) ?_ ⟨rfl, rfl, rfl, rfl, trivial⟩))
 refine WC.cond_f rfl ?_
 refine WC.seq (WC.region ?_)
 refine WL.q (oq_askN conc118 ty118 (by decide) rfl) rfl rfl rfl ?_
 refine WL.q (oq_extract rfl rfl) rfl rfl rfl ?_
 refine WL.q (oq_extract rfl rfl) rfl rfl rfl ?_
 refine WL.nil (WE.then_normal (WC.sub (fr' := [(2, _), (13, _), (32, _), (33, _)]) ?_ ⟨rfl, rfl, rfl, rfl, trivial⟩))
 refine WC.cond_f rfl ?_
 refine WC.seq (WC.region ?_)
 refine WL.q (oq_askC conc119 rfl) rfl rfl rfl ?_
 refine WL.q (oq_extract rfl rfl) rfl rfl rfl ?_
 refine WL.q (oq_extract rfl rfl) rfl rfl rfl ?_
 refine WL.nil (WE.then_normal (WC.sub (fr' := [(2, _), (13, _), (38, _), (39, _)]) ?_ ⟨rfl, rfl, rfl, rfl, trivial⟩))
 refine WC.cond_t rfl ?_
 refine WC.seq (WC.region ?_)
 refine WL.q (oq_assign rfl) rfl rfl rfl ?_
 refine WL.nil (WE.then_normal (WC.sub (fr' := [(2, _), (7, _)]) ?_ ⟨rfl, rfl, trivial⟩))
 refine WC.seq (WC.region ?_)
 refine WL.q (oq_move rfl) rfl rfl rfl ?_
 refine WL.q (oq_build #[_, _, _, _] str53 ty53 rfl rfl) rfl rfl rfl ?_
 refine WL.storeS #[_, _, _, _] ty53 rfl rfl rfl rfl (Nat.le_of_ble_eq_true rfl) rfl rfl ?_
 refine WL.nil (WE.then_normal (WC.sub (fr' := [(2, _)]) ?_ ⟨rfl, trivial⟩))
 refine WC.ret (WE.block_ret (WE.then_ret ?_))
 refine WE.endD0 (.inl rfl) (rs1 Tryz.results34 (rv_cellS [_, _, _, _] agg53 ty53 rfl (.head _) (List.mem_singleton.2 rfl) rfl rfl)) (dr_lose hres dr_refl) ?_
 rfl
theorem backBytesValue (s : Value) (N : Hp) (t : List UInt8) (hr : RdS 1 s N t.length (bytesV t)) : FnR Tryz.prog 34 [.iface 120 s] N (.agg #[I 2, I 0, I 0, S t]) := by
 refine FnR.enter (n := 72) Tryz.func34 rfl rfl fun w0 => ?_
 refine WC.sub (fr' := [(0, _)]) ?_ ⟨rfl, trivial⟩
 refine WC.seq (WC.region ?_)
 refine WL.alloc ty53 rfl rfl fun res hres => ?_
 refine WL.nil (WE.then_normal (WC.sub (fr' := [(0, _), (2, _)]) ?_ ⟨rfl, rfl, trivial⟩))
 refine WC.seq (WC.seq (WC.region ?_))
 refine WL.q (oq_move rfl) rfl rfl rfl ?_
 refine WL.nil (WE.then_normal (WC.sub (fr' := [(2, _), (13, _)]) ?_ ⟨rfl, rfl, trivial⟩))
 refine WC.block (WC.seq (WC.region ?_))
 refine WL.q (oq_askN conc128 ty128 (by decide) rfl) rfl rfl rfl ?_
 refine WL.q (oq_extract rfl rfl) rfl rfl rfl ?_
 refine WL.q (oq_extract rfl rfl) rfl rfl rfl ?_
 refine WL.nil (WE.then_normal (WC.sub (fr' := [(2, _), (13, _), (15, _), (16, _)]) ?_ ⟨rfl, rfl, rfl, rfl, trivial⟩))
 refine WC.cond_f rfl ?_
 refine WC.seq (WC.region ?_)
 refine WL.q (oq_askN conc114 ty114 (by decide) rfl) rfl rfl rfl ?_
 refine WL.q (oq_extract rfl rfl) rfl rfl rfl ?_
 refine WL.q (oq_extract rfl rfl) rfl rfl rfl ?_
 refine WL.nil (WE.then_normal (WC.sub (fr' := [(2, _), (13, _), (20, _), (21, _)]) ?_ ⟨rfl, rfl, rfl, rfl, trivial⟩))
 refine WC.cond_f rfl ?_
 refine WC.seq (WC.region ?_)
 refine WL.q (oq_askN conc117 ty117 (by decide) rfl) rfl rfl rfl ?_
 refine WL.q (oq_extract rfl rfl) rfl rfl rfl ?_
 refine WL.q (oq_extract rfl rfl) rfl rfl rfl ?_
 refine WL.nil (WE.then_normal (WC.sub (fr' := [(2, _), (13, _), (26, _), (27, _)]) ?_ ⟨rfl, rfl, rfl, rfl, trivial⟩))
 refine WC.cond_f rfl ?_
 refine WC.seq (WC.region ?_)
 refine WL.q (oq_askN conc118 ty118 (by decide) rfl) rfl rfl rfl ?_
 refine WL.q (oq_extract rfl rfl) rfl rfl rfl ?_
 refine WL.q (oq_extract rfl rfl) rfl rfl rfl ?_
 refine WL.nil (WE.then_normal (WC.sub (fr' := [(2, _), (13, _), (32, _), (33, _)]) ?_ ⟨rfl, rfl, rfl, rfl, trivial⟩))
 refine WC.cond_f rfl ?_
 refine WC.seq (WC.region ?_)
 refine WL.q (oq_askN conc119 ty119 (by decide) rfl) rfl rfl rfl ?_
 refine WL.q (oq_extract rfl rfl) rfl rfl rfl ?_
 refine WL.q (oq_extract rfl rfl) rfl rfl rfl ?_
 refine WL.nil (WE.then_normal (WC.sub (fr' := [(2, _), (13, _), (38, _), (39, _)]) ?_ ⟨rfl, rfl, rfl, rfl, trivial⟩))
 refine WC.cond_f rfl ?_
 refine WC.seq (WC.region ?_)
 refine WL.q (oq_askC conc120 rfl) rfl rfl rfl ?_
 refine WL.q (oq_extract rfl rfl) rfl rfl rfl ?_
 refine WL.q (oq_extract rfl rfl) rfl rfl rfl ?_
 refine WL.nil (WE.then_normal (WC.sub (fr' := [(2, _), (13, _), (43, _), (44, _)]) ?_ ⟨rfl, rfl, rfl, rfl, trivial⟩))
 refine WC.cond_t rfl ?_
 refine WC.seq (WC.region ?_)
 refine WL.q (oq_assign rfl) rfl rfl rfl ?_
 refine WL.nil (WE.then_normal (WC.sub (fr' := [(2, _), (8, _)]) ?_ ⟨rfl, rfl, trivial⟩))
 refine WC.seq (WC.region ?_)
 refine WL.q (oq_move rfl) rfl rfl rfl ?_
 refine WL.q (oq_bytesStr hr (.tail _ (.head _)) Tryz.underlying9 Tryz.underlying120 Tryz.underlying5 rfl) rfl rfl rfl ?_
 refine WL.q (oq_build #[_, _, _, _] str53 ty53 rfl rfl) rfl rfl rfl ?_
 refine WL.storeS #[_, _, _, _] ty53 rfl rfl rfl rfl (Nat.le_of_ble_eq_true rfl) rfl rfl ?_
 refine WL.nil (WE.then_normal (WC.sub (fr' := [(2, _)]) ?_ ⟨rfl, trivial⟩))
 refine WC.ret (WE.block_ret (WE.then_ret ?_))
 refine WE.endDR (.inl rfl) (rs1 Tryz.results34 (rv_cellS [_, _, _, _] agg53 ty53 rfl (.head _) (List.mem_singleton.2 rfl) rfl rfl)) (dr_lose hres dr_refl) ?_
 rfl
theorem backStringValue (t : List UInt8) : Fn0 Tryz.prog 34 [.iface 121 (S t)] (.agg #[I 3, I 0, I 0, S t]) := by
 refine Fn0.enter (n := 72) Tryz.func34 rfl rfl fun w0 => ?_
 refine WC.sub (fr' := [(0, _)]) ?_ ⟨rfl, trivial⟩
 refine WC.seq (WC.region ?_)
 refine WL.alloc ty53 rfl rfl fun res hres => ?_
 refine WL.nil (WE.then_normal (WC.sub (fr' := [(0, _), (2, _)]) ?_ ⟨rfl, rfl, trivial⟩))
 refine WC.seq (WC.seq (WC.region ?_))
 refine WL.q (oq_move rfl) rfl rfl rfl ?_
 refine WL.nil (WE.then_normal (WC.sub (fr' := [(2, _), (13, _)]) ?_ ⟨rfl, rfl, trivial⟩))
 refine WC.block (WC.seq (WC.region ?_))
 refine WL.q (oq_askN conc128 ty128 (by decide) rfl) rfl rfl rfl ?_
 refine WL.q (oq_extract rfl rfl) rfl rfl rfl ?_
 refine WL.q (oq_extract rfl rfl) rfl rfl rfl ?_
 refine WL.nil (WE.then_normal (WC.sub (fr' := [(2, _), (13, _), (15, _), (16, _)]) ?_ ⟨rfl, rfl, rfl, rfl, trivial⟩))
 refine WC.cond_f rfl ?_
 refine WC.seq (WC.region ?_)
 refine WL.q (oq_askN conc114 ty114 (by decide) rfl) rfl rfl rfl ?_
 refine WL.q (oq_extract rfl rfl) rfl rfl rfl ?_
 refine WL.q (oq_extract rfl rfl) rfl rfl rfl ?_
 refine WL.nil (WE.then_normal (WC.sub (fr' := [(2, _), (13, _), (20, _), (21, _)]) ?_ ⟨rfl, rfl, rfl, rfl, trivial⟩))
 refine WC.cond_f rfl ?_
 refine WC.seq (WC.region ?_)
 refine WL.q (oq_askN conc117 ty117 (by decide) rfl) rfl rfl rfl ?_
 refine WL.q (oq_extract rfl rfl) rfl rfl rfl ?_
 refine WL.q (oq_extract rfl rfl) rfl rfl rfl ?_
 refine WL.nil (WE.then_normal (WC.sub (fr' := [(2, _), (13, _), (26, _), (27, _)]) ?_ ⟨rfl, rfl, rfl, rfl, trivial⟩))
 refine WC.cond_f rfl ?_
 refine WC.seq (WC.region ?_)
 refine WL.q (oq_askN conc118 ty118 (by decide) rfl) rfl rfl rfl ?_
 refine WL.q (oq_extract rfl rfl) rfl rfl rfl ?_
 refine WL.q (oq_extract rfl rfl) rfl rfl rfl ?_
 refine WL.nil (WE.then_normal (WC.sub (fr' := [(2, _), (13, _), (32, _), (33, _)]) ?_ ⟨rfl, rfl, rfl, rfl, trivial⟩))
 refine WC.cond_f rfl ?_
 refine WC.seq (WC.region ?_)
 refine WL.q (oq_askN conc119 ty119 (by decide) rfl) rfl rfl rfl ?_
 refine WL.q (oq_extract rfl rfl) rfl rfl rfl ?_
 refine WL.q (oq_extract rfl rfl) rfl rfl rfl ?_
 refine WL.nil (WE.then_normal (WC.sub (fr' := [(2, _), (13, _), (38, _), (39, _)]) ?_ ⟨rfl, rfl, rfl, rfl, trivial⟩))
 refine WC.cond_f rfl ?_
 refine WC.seq (WC.region ?_)
 refine WL.q (oq_askN conc120 ty120 (by decide) rfl) rfl rfl rfl ?_
 refine WL.q (oq_extract rfl rfl) rfl rfl rfl ?_
 refine WL.q (oq_extract rfl rfl) rfl rfl rfl ?_
 refine WL.nil (WE.then_normal (WC.sub (fr' := [(2, _), (13, _), (43, _), (44, _)]) ?_ ⟨rfl, rfl, rfl, rfl, trivial⟩))
 refine WC.cond_f rfl ?_
 refine WC.seq (WC.region ?_)
 refine WL.q (oq_askC conc121 rfl) rfl rfl rfl ?_
 refine WL.q (oq_extract rfl rfl) rfl rfl rfl ?_
 refine WL.q (oq_extract rfl rfl) rfl rfl rfl ?_
 refine WL.nil (WE.then_normal (WC.sub (fr' := [(2, _), (13, _), (49, _), (50, _)]) ?_ ⟨rfl, rfl, rfl, rfl, trivial⟩))
 refine WC.cond_t rfl ?_
 refine WC.seq (WC.region ?_)
 refine WL.q (oq_assign rfl) rfl rfl rfl ?_
 refine WL.nil (WE.then_normal (WC.sub (fr' := [(2, _), (9, _)]) ?_ ⟨rfl, rfl, trivial⟩))
 refine WC.seq (WC.region ?_)
 refine WL.q (oq_move rfl) rfl rfl rfl ?_
 refine WL.q (oq_build #[_, _, _, _] str53 ty53 rfl rfl) rfl rfl rfl ?_
 refine WL.storeS #[_, _, _, _] ty53 rfl rfl rfl rfl (Nat.le_of_ble_eq_true rfl) rfl rfl ?_
 refine WL.nil (WE.then_normal (WC.sub (fr' := [(2, _)]) ?_ ⟨rfl, trivial⟩))
 refine WC.ret (WE.block_ret (WE.then_ret ?_))
 refine WE.endD0 (.inl rfl) (rs1 Tryz.results34 (rv_cellS [_, _, _, _] agg53 ty53 rfl (.head _) (List.mem_singleton.2 rfl) rfl rfl)) (dr_lose hres dr_refl) ?_
 rfl
theorem backTimestampValue (ms : Int) (h1 : -9223372036854775808 ≤ ms) (h2 : ms ≤ 9223372036854775807) : Fn0 Tryz.prog 34 [.iface 123 (msV ms)] (.agg #[I 4, I 0, I ms, S []]) := by
 refine Fn0.enter (n := 72) Tryz.func34 rfl rfl fun w0 => ?_
 refine WC.sub (fr' := [(0, _)]) ?_ ⟨rfl, trivial⟩
 refine WC.seq (WC.region ?_)
 refine WL.alloc ty53 rfl rfl fun res hres => ?_
 refine WL.nil (WE.then_normal (WC.sub (fr' := [(0, _), (2, _)]) ?_ ⟨rfl, rfl, trivial⟩))
 refine WC.seq (WC.seq (WC.region ?_))
 refine WL.q (oq_move rfl) rfl rfl rfl ?_
 refine WL.nil (WE.then_normal (WC.sub (fr' := [(2, _), (13, _)]) ?_ ⟨rfl, rfl, trivial⟩))
 refine WC.block (WC.seq (WC.region ?_))
 refine WL.q (oq_askN conc128 ty128 (by decide) rfl) rfl rfl rfl ?_
 refine WL.q (oq_extract rfl rfl) rfl rfl rfl ?_
 refine WL.q (oq_extract rfl rfl) rfl rfl rfl ?_
 refine WL.nil (WE.then_normal (WC.sub (fr' := [(2, _), (13, _), (15, _), (16, _)]) ?_ ⟨rfl, rfl, rfl, rfl, trivial⟩))
 refine WC.cond_f rfl ?_
 refine WC.seq (WC.region ?_)
 refine WL.q (oq_askN conc114 ty114 (by decide) rfl) rfl rfl rfl ?_
 refine WL.q (oq_extract rfl rfl) rfl rfl rfl ?_
 refine WL.q (oq_extract rfl rfl) rfl rfl rfl ?_
 refine WL.nil (WE.then_normal (WC.sub (fr' := [(2, _), (13, _), (20, _), (21, _)]) ?_ ⟨rfl, rfl, rfl, rfl, trivial⟩))
 refine WC.cond_f rfl ?_
 refine WC.seq (WC.region ?_)
 refine WL.q (oq_askN conc117 ty117 (by decide) rfl) rfl rfl rfl ?_
 refine WL.q (oq_extract rfl rfl) rfl rfl rfl ?_
 refine WL.q (oq_extract rfl rfl) rfl rfl rfl ?_
 refine WL.nil (WE.then_normal (WC.sub (fr' := [(2, _), (13, _), (26, _), (27, _)]) ?_ ⟨rfl, rfl, rfl, rfl, trivial⟩))
 refine WC.cond_f rfl ?_
 refine WC.seq (WC.region ?_)
 refine WL.q (oq_askN conc118 ty118 (by decide) rfl) rfl rfl rfl ?_
 refine WL.q (oq_extract rfl rfl) rfl rfl rfl ?_
 refine WL.q (oq_extract rfl rfl) rfl rfl rfl ?_
 refine WL.nil (WE.then_normal (WC.sub (fr' := [(2, _), (13, _), (32, _), (33, _)]) ?_ ⟨rfl, rfl, rfl, rfl, trivial⟩))
 refine WC.cond_f rfl ?_
 refine WC.seq (WC.region ?_)
 refine WL.q (oq_askN conc119 ty119 (by decide) rfl) rfl rfl rfl ?_
 refine WL.q (oq_extract rfl rfl) rfl rfl rfl ?_
 refine WL.q (oq_extract rfl rfl) rfl rfl rfl ?_
 refine WL.nil (WE.then_normal (WC.sub (fr' := [(2, _), (13, _), (38, _), (39, _)]) ?_ ⟨rfl, rfl, rfl, rfl, trivial⟩))
 refine WC.cond_f rfl ?_
 refine WC.seq (WC.region ?_)
 refine WL.q (oq_askN conc120 ty120 (by decide) rfl) rfl rfl rfl ?_
 refine WL.q (oq_extract rfl rfl) rfl rfl rfl ?_
 refine WL.q (oq_extract rfl rfl) rfl rfl rfl ?_
 refine WL.nil (WE.then_normal (WC.sub (fr' := [(2, _), (13, _), (43, _), (44, _)]) ?_ ⟨rfl, rfl, rfl, rfl, trivial⟩))
 refine WC.cond_f rfl ?_
 refine WC.seq (WC.region ?_)
 refine WL.q (oq_askN conc121 ty121 (by decide) rfl) rfl rfl rfl ?_
 refine WL.q (oq_extract rfl rfl) rfl rfl rfl ?_
 refine WL.q (oq_extract rfl rfl) rfl rfl rfl ?_
 refine WL.nil (WE.then_normal (WC.sub (fr' := [(2, _), (13, _), (49, _), (50, _)]) ?_ ⟨rfl, rfl, rfl, rfl, trivial⟩))
 refine WC.cond_f rfl ?_
 refine WC.seq (WC.region ?_)
 refine WL.q (oq_askC conc123 rfl) rfl rfl rfl ?_
 refine WL.q (oq_extract rfl rfl) rfl rfl rfl ?_
 refine WL.q (oq_extract rfl rfl) rfl rfl rfl ?_
 refine WL.nil (WE.then_normal (WC.sub (fr' := [(2, _), (13, _), (54, _), (55, _)]) ?_ ⟨rfl, rfl, rfl, rfl, trivial⟩))
 refine WC.cond_t rfl ?_
 refine WC.seq (WC.region ?_)
 refine WL.alloc ty123 rfl rfl fun tq htq => ?_
 refine WL.storeS #[_, _, _, _] ty123 rfl rfl rfl rfl (Nat.le_of_ble_eq_true rfl) rfl rfl ?_
 refine WL.nil (WE.then_normal (WC.sub (fr' := [(2, _), (10, _)]) ?_ ⟨rfl, rfl, trivial⟩))
 refine WC.seq (WC.region ?_)
 refine WL.q (oq_loadS [_, _, _, _] agg123 ty123 rfl (.head _) (List.mem_singleton.2 rfl) rfl rfl) rfl rfl rfl ?_
 refine WL.alloc ty124 rfl rfl fun tr htr => ?_
 refine WL.storeS #[_, _, _, _] ty124 rfl rfl rfl rfl (Nat.le_of_ble_eq_true rfl) rfl rfl ?_
 refine WL.nil (WE.then_normal (WC.sub (fr' := [(2, _), (11, _)]) ?_ ⟨rfl, rfl, trivial⟩))
 refine WC.seq ?_
 refine WC.gate 8 ([(tr, .cells #[I (ms / 1000 + 62135596800), .int .i32 (ms % 1000 * 1000000), S [85, 84, 67], I 0] 124 (0, 0))]) (by kernel_rfl) ?_
 refine WG.q 0 [] rfl (.head _) (fun w0 => oq_loadS [_, _, _, _] agg124 ty124 rfl (.head _) (List.mem_singleton.2 rfl) rfl rfl) rfl rfl rfl ?_
 refine WG.q 3 [] rfl (.head _) (fun w0 => oq_loadS [_, _, _, _] agg124 ty124 rfl (.head _) (List.mem_singleton.2 rfl) rfl rfl) rfl rfl rfl ?_
 refine WG.step (i := 1) (by kernel_rfl) rfl ?_
 refine WL.qc (oq_call (unixT (ms / 1000 + 62135596800) (ms % 1000 * 1000000) (by omega)) call47 rfl) rfl rfl rfl ?_
 refine WL.nil ?_
 refine WE.toG (.head _) ?_
 refine WG.q 2 [] rfl (.head _) (fun w0 => oq_mulw rfl rfl) rfl rfl rfl ?_
 refine WG.step (i := 4) (by kernel_rfl) rfl ?_
 refine WL.qc (oq_call (nanoT (ms / 1000 + 62135596800) (ms % 1000 * 1000000) (by omega)) call48 rfl) rfl rfl rfl ?_
 refine WL.nil ?_
 refine WE.toG (.head _) ?_
 refine WG.q 5 [] rfl (.head _) (fun w0 => oq_quo rfl rfl (by rw [i64_hi]; omega)) rfl rfl rfl ?_
 refine WG.q 6 [] rfl (.head _) (fun w0 => oq_addw rfl rfl) rfl rfl rfl ?_
 refine WG.q 7 [] rfl (.head _) (fun w0 => oq_build #[_, _, _, _] str53 ty53 rfl rfl) rfl rfl rfl ?_
 refine WG.step (i := 8) (by kernel_rfl) rfl ?_
 refine WL.f2 ?_
 refine WL.storeS #[_, _, _, _] ty53 rfl rfl rfl rfl (Nat.le_of_ble_eq_true rfl) rfl rfl ?_
 refine WL.nil ?_
 refine WE.toG0 (by kernel_rfl) ?_
 refine WG.done (by kernel_rfl) ?_
 refine WE.then_normal (WC.sub (fr' := [(2, _)]) ?_ ⟨rfl, trivial⟩)
 refine WC.ret (WE.block_ret (WE.then_ret ?_))
 refine WE.endD0 (.inl rfl) (rs1 Tryz.results34 (rv_cellS [_, _, _, _] agg53 ty53 rfl (.head _) (List.mem_singleton.2 rfl) rfl rfl)) (dr_lose hres (dr_lose htr (dr_lose htq dr_refl))) ?_
 rw [ms_back h1 h2]; rfl
theorem backUUIDValue (a0 a1 a2 a3 a4 a5 a6 a7 a8 a9 a10 a11 a12 a13 a14 a15 : UInt8) : Fn0 Tryz.prog 34 [.iface 127 (.agg #[.int .u8 (a0.toNat : Int), .int .u8 (a1.toNat : Int), .int .u8 (a2.toNat : Int), .int .u8 (a3.toNat : Int), .int .u8 (a4.toNat : Int), .int .u8 (a5.toNat : Int), .int .u8 (a6.toNat : Int), .int .u8 (a7.toNat : Int), .int .u8 (a8.toNat : Int), .int .u8 (a9.toNat : Int), .int .u8 (a10.toNat : Int), .int .u8 (a11.toNat : Int), .int .u8 (a12.toNat : Int), .int .u8 (a13.toNat : Int), .int .u8 (a14.toNat : Int), .int .u8 (a15.toNat : Int)])] (.agg #[I 5, I 0, I 0, S [a0, a1, a2, a3, a4, a5, a6, a7, a8, a9, a10, a11, a12, a13, a14, a15]]) := by
 refine Fn0.enter (n := 72) Tryz.func34 rfl rfl fun w0 => ?_
 refine WC.sub (fr' := [(0, _)]) ?_ ⟨rfl, trivial⟩
 refine WC.seq (WC.region ?_)
 refine WL.alloc ty53 rfl rfl fun res hres => ?_
 refine WL.nil (WE.then_normal (WC.sub (fr' := [(0, _), (2, _)]) ?_ ⟨rfl, rfl, trivial⟩))
 refine WC.seq (WC.seq (WC.region ?_))
 refine WL.q (oq_move rfl) rfl rfl rfl ?_
 refine WL.nil (WE.then_normal (WC.sub (fr' := [(2, _), (13, _)]) ?_ ⟨rfl, rfl, trivial⟩))
 refine WC.block (WC.seq (WC.region ?_))
 refine WL.q (oq_askN conc128 ty128 (by decide) rfl) rfl rfl rfl ?_
 refine WL.q (oq_extract rfl rfl) rfl rfl rfl ?_
 refine WL.q (oq_extract rfl rfl) rfl rfl rfl ?_
 refine WL.nil (WE.then_normal (WC.sub (fr' := [(2, _), (13, _), (15, _), (16, _)]) ?_ ⟨rfl, rfl, rfl, rfl, trivial⟩))
 refine WC.cond_f rfl ?_
 refine WC.seq (WC.region ?_)
 refine WL.q (oq_askN conc114 ty114 (by decide) rfl) rfl rfl rfl ?_
 refine WL.q (oq_extract rfl rfl) rfl rfl rfl ?_
 refine WL.q (oq_extract rfl rfl) rfl rfl rfl ?_
 refine WL.nil (WE.then_normal (WC.sub (fr' := [(2, _), (13, _), (20, _), (21, _)]) ?_ ⟨rfl, rfl, rfl, rfl, trivial⟩))
 refine WC.cond_f rfl ?_
 refine WC.seq (WC.region ?_)
 refine WL.q (oq_askN conc117 ty117 (by decide) rfl) rfl rfl rfl ?_
 refine WL.q (oq_extract rfl rfl) rfl rfl rfl ?_
 refine WL.q (oq_extract rfl rfl) rfl rfl rfl ?_
 refine WL.nil (WE.then_normal (WC.sub (fr' := [(2, _), (13, _), (26, _), (27, _)]) ?_ ⟨rfl, rfl, rfl, rfl, trivial⟩))
 refine WC.cond_f rfl ?_
 refine WC.seq (WC.region ?_)
 refine WL.q (oq_askN conc118 ty118 (by decide) rfl) rfl rfl rfl ?_
 refine WL.q (oq_extract rfl rfl) rfl rfl rfl ?_
 refine WL.q (oq_extract rfl rfl) rfl rfl rfl ?_
 refine WL.nil (WE.then_normal (WC.sub (fr' := [(2, _), (13, _), (32, _), (33, _)]) ?_ ⟨rfl, rfl, rfl, rfl, trivial⟩))
 refine WC.cond_f rfl ?_
 refine WC.seq (WC.region ?_)
 refine WL.q (oq_askN conc119 ty119 (by decide) rfl) rfl rfl rfl ?_
 refine WL.q (oq_extract rfl rfl) rfl rfl rfl ?_
 refine WL.q (oq_extract rfl rfl) rfl rfl rfl ?_
 refine WL.nil (WE.then_normal (WC.sub (fr' := [(2, _), (13, _), (38, _), (39, _)]) ?_ ⟨rfl, rfl, rfl, rfl, trivial⟩))
 refine WC.cond_f rfl ?_
 refine WC.seq (WC.region ?_)
 refine WL.q (oq_askN conc120 ty120 (by decide) rfl) rfl rfl rfl ?_
 refine WL.q (oq_extract rfl rfl) rfl rfl rfl ?_
 refine WL.q (oq_extract rfl rfl) rfl rfl rfl ?_
 refine WL.nil (WE.then_normal (WC.sub (fr' := [(2, _), (13, _), (43, _), (44, _)]) ?_ ⟨rfl, rfl, rfl, rfl, trivial⟩))
 refine WC.cond_f rfl ?_
 refine WC.seq (WC.region ?_)
 refine WL.q (oq_askN conc121 ty121 (by decide) rfl) rfl rfl rfl ?_
 refine WL.q (oq_extract rfl rfl) rfl rfl rfl ?_
 refine WL.q (oq_extract rfl rfl) rfl rfl rfl ?_
 refine WL.nil (WE.then_normal (WC.sub (fr' := [(2, _), (13, _), (49, _), (50, _)]) ?_ ⟨rfl, rfl, rfl, rfl, trivial⟩))
 refine WC.cond_f rfl ?_
 refine WC.seq (WC.region ?_)
 refine WL.q (oq_askN conc123 ty123 (by decide) rfl) rfl rfl rfl ?_
 refine WL.q (oq_extract rfl rfl) rfl rfl rfl ?_
 refine WL.q (oq_extract rfl rfl) rfl rfl rfl ?_
 refine WL.nil (WE.then_normal (WC.sub (fr' := [(2, _), (13, _), (54, _), (55, _)]) ?_ ⟨rfl, rfl, rfl, rfl, trivial⟩))
 refine WC.cond_f rfl ?_
 refine WC.seq (WC.region ?_)
 refine WL.q (oq_askC conc127 rfl) rfl rfl rfl ?_
 refine WL.q (oq_extract rfl rfl) rfl rfl rfl ?_
 refine WL.q (oq_extract rfl rfl) rfl rfl rfl ?_
 refine WL.nil (WE.then_normal (WC.sub (fr' := [(2, _), (66, _), (67, _)]) ?_ ⟨rfl, rfl, rfl, trivial⟩))
 refine WC.cond_t rfl ?_
 refine WC.seq (WC.region ?_)
 refine WL.alloc ty127 rfl rfl fun ub hub => ?_
 refine WL.storeS (#[.int .u8 (a0.toNat : Int), .int .u8 (a1.toNat : Int), .int .u8 (a2.toNat : Int), .int .u8 (a3.toNat : Int), .int .u8 (a4.toNat : Int), .int .u8 (a5.toNat : Int), .int .u8 (a6.toNat : Int), .int .u8 (a7.toNat : Int), .int .u8 (a8.toNat : Int), .int .u8 (a9.toNat : Int), .int .u8 (a10.toNat : Int), .int .u8 (a11.toNat : Int), .int .u8 (a12.toNat : Int), .int .u8 (a13.toNat : Int), .int .u8 (a14.toNat : Int), .int .u8 (a15.toNat : Int)]) ty127 rfl rfl (by kernel_rfl) (by kernel_rfl) (Nat.le_of_ble_eq_true rfl) (by kernel_rfl) rfl ?_
 refine WL.nil (WE.then_normal (WC.sub (fr' := [(2, _), (12, _)]) ?_ ⟨rfl, rfl, trivial⟩))
 refine WC.seq (WC.region ?_)
 refine WL.asB [a0, a1, a2, a3, a4, a5, a6, a7, a8, a9, a10, a11, a12, a13, a14, a15] rfl ?_
 refine WL.q (oq_sliceArr Tryz.underlying127 ty5 rfl rfl rfl (by (first | omega | (simp; done))) (by (first | omega | (simp; done)))) rfl rfl rfl ?_
 refine WL.q (oq_bytesStr (Sl.rd (by (first | omega | (simp; done))) (by (first | omega | (simp; done)))) (.head _) Tryz.underlying9 Tryz.underlying25 Tryz.underlying5 rfl) rfl rfl rfl ?_
 refine WL.q (oq_build #[_, _, _, _] str53 ty53 rfl rfl) rfl rfl rfl ?_
 refine WL.f1 ?_
 refine WL.storeS #[_, _, _, _] ty53 rfl rfl rfl rfl (Nat.le_of_ble_eq_true rfl) rfl rfl ?_
 refine WL.nil (WE.then_normal (WC.sub (fr' := [(2, _)]) ?_ ⟨rfl, trivial⟩))
 refine WC.ret (WE.block_ret (WE.then_ret ?_))
 refine WE.endD0 (.inl rfl) (rs1 Tryz.results34 (rv_cellS [_, _, _, _] agg53 ty53 rfl (.head _) (List.mem_singleton.2 rfl) rfl rfl)) (dr_lose hres (dr_lose hub dr_refl)) ?_
 rfl
theorem l16 {l : List UInt8} (h : l.length = 16) : ∃ a0 a1 a2 a3 a4 a5 a6 a7 a8 a9 a10 a11 a12 a13 a14 a15, l = [a0, a1, a2, a3, a4, a5, a6, a7, a8, a9, a10, a11, a12, a13, a14, a15] := by
 match l, h with
 | [a0, a1, a2, a3, a4, a5, a6, a7, a8, a9, a10, a11, a12, a13, a14, a15], _ => exact ⟨a0, a1, a2, a3, a4, a5, a6, a7, a8, a9, a10, a11, a12, a13, a14, a15, rfl⟩
theorem valueBack {h : HV} {v : Value} {N : Hp} (hv : VBk h v N) : FnR Tryz.prog 34 [v] N (.agg #[I h.kind, I h.width, I h.int, S h.text]) := by
 have z : ∀ {a : Value}, Fn0 Tryz.prog 34 [v] a → FnR Tryz.prog 34 [v] N a := fun hf w hw => by
  refine (hf w).mono ?_
  rintro e w' ⟨he, hst⟩
  exact ⟨he, by have := St.pure (R := N) hw.st hst; simpa using this⟩
 rcases hv with ⟨k, a, b, c, rfl⟩ | ⟨k, a, b, c, rfl⟩ | ⟨k, a, b, c, rfl⟩ | ⟨k, a, b, c, rfl⟩ | ⟨k, a, b, c, rfl⟩ | ⟨k, a, b, s, rfl, c⟩ | ⟨k, a, b, rfl⟩ | ⟨k, a, b, c, rfl⟩ | ⟨k, a, b, c, rfl⟩
 ·have hb := backBoolValue (decide (h.int = 1))
  rw [k, a, b]
  refine z ?_
  rcases c with c | c
  ·rw [c] at hb ⊢; exact hb
  ·rw [c] at hb ⊢; exact hb
 ·rw [k, a, b]; exact z (backInt8Value h.int c)
 ·rw [k, a, b]; exact z (backInt16Value h.int c)
 ·rw [k, a, b]; exact z (backInt32Value h.int c)
 ·rw [k, a, b]; exact z (backInt64Value h.int c)
 ·rw [k, a, b]; exact backBytesValue s N h.text c
 ·rw [k, a, b]; exact z (backStringValue h.text)
 ·rw [k, a, b]; exact z (backTimestampValue h.int c.1 c.2)
 ·rw [k, a, b]
  obtain ⟨a0, a1, a2, a3, a4, a5, a6, a7, a8, a9, a10, a11, a12, a13, a14, a15, hl⟩ := l16 c
  have hb := backUUIDValue a0 a1 a2 a3 a4 a5 a6 a7 a8 a9 a10 a11 a12 a13 a14 a15
  have e : (bytesV h.text).toArray = #[.int .u8 (a0.toNat : Int), .int .u8 (a1.toNat : Int), .int .u8 (a2.toNat : Int), .int .u8 (a3.toNat : Int), .int .u8 (a4.toNat : Int), .int .u8 (a5.toNat : Int), .int .u8 (a6.toNat : Int), .int .u8 (a7.toNat : Int), .int .u8 (a8.toNat : Int), .int .u8 (a9.toNat : Int), .int .u8 (a10.toNat : Int), .int .u8 (a11.toNat : Int), .int .u8 (a12.toNat : Int), .int .u8 (a13.toNat : Int), .int .u8 (a14.toNat : Int), .int .u8 (a15.toNat : Int)] := by rw [hl]; rfl
  rw [e] at z ⊢
  rw [hl]
  exact z hb
theorem headersBack (v : Value) (Z : Hp) (ps : List PV) (l : List HV) (hr : RdS 2 v Z ps.length (recsV PV.row ps)) (hpb : PB l ps Z) (hn : ps.length ≤ 1000000) : FnA Tryz.prog 21 [v] Z (fun w N => RdS 5 w N l.length (recsV HV.row l)) := by
 have hpl := hpb.len
 refine FnA.enter (n := 23) Tryz.func21 rfl rfl fun w0 => ?_
 refine WC.sub (fr' := [(0, _)]) ?_ ⟨rfl, trivial⟩
 refine WC.seq (WC.region ?_)
 refine WL.q (oq_assign rfl) rfl rfl rfl ?_
 refine WL.nil (WE.then_normal (WC.sub (fr' := [(0, _)]) ?_ ⟨rfl, trivial⟩))
 refine WC.seq ?_
 refine WC.add0 ?_
 refine WC.region ?_
 refine WL.q (oq_assign rfl) rfl rfl rfl ?_
 refine WL.nil (WE.then_normal (WC.sub (fr' := [(0, _), (3, _)]) ?_ ⟨rfl, rfl, trivial⟩))
 refine WC.seq (WC.seq (WC.region ?_))
 refine WL.q (oq_move rfl) rfl rfl rfl ?_
 refine WL.q (oq_len_rd hr Tryz.underlying47 rfl) rfl rfl rfl ?_
 refine WL.q (oq_move rfl) rfl rfl rfl ?_
 refine WL.nil (WE.then_normal (WC.sub (fr' := [(3, _), (6, _), (7, _), (8, _)]) ?_ ⟨rfl, rfl, rfl, rfl, trivial⟩))
 refine WC.block ?_
 refine WC.loop (ι := Nat × Value × Hp) (fun i_ => (fun (i : Nat) (u : Value) (B : Hp) => [(3, u), (6, v), (7, I (ps.length : Int)), (8, I (i : Int))]) i_.1 i_.2.1 i_.2.2) (fun i_ => (fun (i : Nat) (u : Value) (B : Hp) => [B, Z]) i_.1 i_.2.1 i_.2.2) (fun i_ => (fun (i : Nat) (u : Value) (B : Hp) => i ≤ l.length ∧ OwS w0.heap.size 55 5 u B i (recsV HV.row (l.take i))) i_.1 i_.2.1 i_.2.2) (fun i_ => (fun (i : Nat) (u : Value) (B : Hp) => l.length - i) i_.1 i_.2.1 i_.2.2) ((0, _, _)) ?_ ⟨rfl, rfl, rfl, rfl, trivial⟩ (List.Perm.refl _) ?_
 ·try dsimp only
  exact ⟨by omega, OwS.nil _ _ _⟩
 ·rintro ⟨i, u, B⟩ hp
  try dsimp only at hp
  obtain ⟨hi, ho⟩ := hp
  show WC _ _ _ _ _ _ ([(3, u), (6, v), (7, I (ps.length : Int)), (8, I (i : Int))]) ([B, Z])
  refine WC.seq (WC.region ?_)
  refine WL.q (oq_lss rfl rfl) rfl rfl rfl ?_
  refine WL.nil (WE.then_normal (WC.sub (fr' := [(3, _), (6, _), (7, _), (8, _), (9, _)]) ?_ ⟨rfl, rfl, rfl, rfl, rfl, trivial⟩))
  refine WC.seq ?_
  refine WC.cond rfl (fun q3 => ?_) (fun q3 => ?_)
  ·
   try simp only [Z1, Z2, Z3, Z4, Z5, Z6, Z7, Z8, Z9, Z0] at q3
   refine WC.skip (WE.then_normal (WC.sub (fr' := [(3, _), (6, _), (7, _), (8, _)]) ?_ ⟨rfl, rfl, rfl, rfl, trivial⟩))
   refine WC.seq (WC.block (WC.seq ?_))
   have hlt : i < l.length := by omega
   obtain ⟨hnm, hvb⟩ := hpb.get i hlt
   refine WC.region ?_
   refine WL.q (oq_ixaddr hr Tryz.underlying47 ty90 rfl rfl (by (first | omega | (simp only [List.length_cons, List.length_nil, List.length_append, List.length_drop, List.length_take]; omega)))) rfl rfl rfl ?_
   refine WL.q (oq_loadEl (f := PV.row) PV0 [_, _] (fun _ => rfl) agg90 ty90 hr (.tail _ (.head _)) rfl (by (first | omega | (simp only [List.length_cons, List.length_nil, List.length_append, List.length_drop, List.length_take]; omega))) (by first | exact Int.toNat_natCast _ | exact rfl) rfl) rfl rfl rfl ?_
   refine WL.alloc ty90 rfl rfl fun pq hpq => ?_
   refine WL.storeS #[_, _] ty90 rfl rfl rfl rfl (Nat.le_of_ble_eq_true rfl) rfl rfl ?_
   refine WL.nil (WE.then_normal (WC.sub (fr' := [(3, _), (5, _), (6, _), (7, _), (8, _)]) ?_ ⟨rfl, rfl, rfl, rfl, rfl, trivial⟩))
   rw [hnm]
   refine WC.gate 7 ([(pq, .cells #[S (l.getD i HV0).name, .iface (ps.getD i PV0).k (ps.getD i PV0).r] 90 (0, 0))]) (by kernel_rfl) ?_
   refine WG.p 0 rfl (.inr (.head _)) (fun w0 => oq_move rfl) rfl rfl rfl ?_
   refine WG.q 1 [6, 2] rfl (.head _) (fun w0 => oq_fieldAddr fld90_0 rfl) rfl rfl rfl ?_
   refine WG.q 2 [6] rfl (.head _) (fun w0 => oq_load flat9 rfl (.head _) (List.mem_singleton.2 rfl) rfl) rfl rfl rfl ?_
   refine WG.q 3 [6, 5, 4] rfl (.head _) (fun w0 => oq_fieldAddr fld90_1 rfl) rfl rfl rfl ?_
   refine WG.q 4 [6, 5] rfl (.head _) (fun w0 => oq_load flat87 rfl (.head _) (List.mem_singleton.2 rfl) rfl) rfl rfl rfl ?_
   refine WG.step (i := 5) (by kernel_rfl) rfl ?_
   refine WL.qc (oq_callRm (valueBack hvb) (.tail _ (.tail _ (.head _))) call34 rfl) rfl rfl rfl ?_
   refine WL.nil ?_
   refine WE.toG (.head _) ?_
   refine WG.q 6 [] rfl (.head _) (fun w0 => oq_build (#[S (l.getD i HV0).name, I (l.getD i HV0).kind, I (l.getD i HV0).width, I (l.getD i HV0).int, S (l.getD i HV0).text]) str55 ty55 rfl (by kernel_rfl)) rfl rfl rfl ?_
   refine WG.step (i := 7) (by kernel_rfl) rfl ?_
   refine WL.buildSS (#[S (l.getD i HV0).name, I (l.getD i HV0).kind, I (l.getD i HV0).width, I (l.getD i HV0).int, S (l.getD i HV0).text]) Tryz.underlying28 ty55 rfl (by decide) (by decide) (by kernel_rfl) (by kernel_rfl) rfl rfl fun v5_7 A5_7 ho5_7 hne5_7 => ?_
   refine WL.nil ?_
   refine WE.toG0 (by kernel_rfl) ?_
   refine WG.step (i := 8) (by kernel_rfl) rfl ?_
   refine WL.f2 ?_
   refine WL.appendS ho Tryz.underlying28 ty55 rfl (by decide) rfl rfl ho5_7.rd (.head _) (oneHV _) (by unfold maxLen; omega) (by omega) rfl rfl fun v5b A5b ho5b hne5b => ?_
   refine WL.nil ?_
   refine WE.toG0 (by kernel_rfl) ?_
   refine WG.p 9 rfl (.inl (by kernel_rfl)) (fun w0 => oq_assign rfl) rfl rfl rfl ?_
   refine WG.done (by kernel_rfl) ?_
   refine WE.block_normal (WE.then_normal (WC.sub (fr' := [(3, _), (6, _), (7, _), (8, _)]) ?_ ⟨rfl, rfl, rfl, rfl, trivial⟩))
   refine WC.region ?_
   refine WL.q (oq_add rfl rfl (by rw [i64_lo, i64_hi]; (first | omega | (simp only [List.length_cons, List.length_nil, List.length_append, List.length_drop, List.length_take]; omega)))) rfl rfl rfl ?_
   refine WL.q (oq_move rfl) rfl rfl rfl ?_
   refine WL.nil ?_
   refine WE.f1 ?_
   refine WE.forget ho5_7.fresh ?_
   refine WE.f1 ?_
   refine WE.lose hpq ?_
   refine WE.again (i + 1, _, _) ?_ ?_ ⟨rfl, rfl, rfl, rfl, trivial⟩ (List.Perm.refl _)
   ·try dsimp only
    exact ⟨by omega, by rw [hv_snoc hlt] at ho5b; exact ho5b⟩
   ·(try dsimp only); omega
  ·
   try simp only [Z1, Z2, Z3, Z4, Z5, Z6, Z7, Z8, Z9, Z0] at q3
   refine WC.exit (WE.then_exit (WE.then_exit (WE.block_same (WE.then_normal (WC.sub (fr' := [(3, _)]) ?_ ⟨rfl, trivial⟩)))))
   refine WC.seq (WC.region ?_)
   refine WL.q (oq_move rfl) rfl rfl rfl ?_
   refine WL.q (oq_assign rfl) rfl rfl rfl ?_
   refine WL.nil (WE.then_normal (WC.sub (fr' := [(2, _)]) ?_ ⟨rfl, trivial⟩))
   refine WC.ret ?_
   refine WE.endA (.inl rfl) (res1 Tryz.results21 rfl) ?_ (ho.fresh)
   obtain rfl : i = l.length := by omega
   exact own_rd5 ho rfl (by rw [List.take_length])
end DL
end Go.Proofs.YtpjeiimlglgklaaGreatDoor
/- A message as the caller has it. -/
namespace Go.Proofs.YtpjeiimlglgklaaGreatDoor
open Go Go.RowKit V EA EB EC ED EL DC DD DA DE EE EH EI EJ DF DG DH DI EM DJ DK DL
set_option linter.unusedSimpArgs false
set_option linter.unusedVariables false
set_option maxRecDepth 10000
namespace DM
theorem call17 : Callable Tryz.prog 17 := ⟨_, Tryz.func17, rfl, by kernel_rfl⟩
theorem call18 : Callable Tryz.prog 18 := ⟨_, Tryz.func18, rfl, by kernel_rfl⟩
theorem call19 : Callable Tryz.prog 19 := ⟨_, Tryz.func19, rfl, by kernel_rfl⟩
theorem call20 : Callable Tryz.prog 20 := ⟨_, Tryz.func20, rfl, by kernel_rfl⟩
theorem call21 : Callable Tryz.prog 21 := ⟨_, Tryz.func21, rfl, by kernel_rfl⟩
theorem flat2 : Flat Tryz.prog 2 := ⟨_, Tryz.underlying2, by simp⟩
theorem flat25 : Flat Tryz.prog 25 := ⟨_, Tryz.underlying25, by simp⟩
theorem flat41 : Flat Tryz.prog 41 := ⟨_, Tryz.underlying41, by simp⟩
theorem flat47 : Flat Tryz.prog 47 := ⟨_, Tryz.underlying47, by simp⟩
theorem ty2 : Ty Tryz.prog 2 (.int .i64 0) 1 8 := ty_of (by kernel_rfl)
theorem ty25 : Ty Tryz.prog 25 (.slice none 0 0) 1 24 := ty_of (by kernel_rfl)
theorem ty30 : Ty Tryz.prog 30 (.agg #[(.slice none 0 0), (.slice none 0 0)]) 2 48 := ty_of (by kernel_rfl)
theorem ty47 : Ty Tryz.prog 47 (.slice none 0 0) 1 24 := ty_of (by kernel_rfl)
theorem ty50 : Ty Tryz.prog 50 (.agg #[(.slice none 0 0), (.slice none 0 0)]) 2 48 := ty_of (by kernel_rfl)
theorem ty65 : Ty Tryz.prog 65 (.agg #[]) 0 0 := ty_of (by kernel_rfl)
theorem ty67 : Ty Tryz.prog 67 (.agg #[(S []), (.int .i64 0), (.int .i64 0), .nilIface]) 4 48 := ty_of (by kernel_rfl)
theorem ty92 : Ty Tryz.prog 92 (.agg #[(.slice none 0 0), (.int .i64 0), (.int .i64 0)]) 3 40 := ty_of (by kernel_rfl)
theorem ty93 : Ty Tryz.prog 93 (.agg #[]) 0 0 := ty_of (by kernel_rfl)
theorem conc56 : Conc Tryz.prog 56 := ⟨_, Tryz.underlying56, by simp⟩
theorem conc65 : Conc Tryz.prog 65 := ⟨_, Tryz.underlying65, by simp⟩
theorem conc67 : Conc Tryz.prog 67 := ⟨_, Tryz.underlying67, by simp⟩
theorem agg30 : Agg Tryz.prog 30 := agg_of Tryz.underlying30
theorem str30 : Str Tryz.prog 30 #[(0, 1), (1, 1)] := ⟨_, Tryz.underlying30, fun w => by kernel_rfl⟩
theorem str92 : Str Tryz.prog 92 #[(0, 1), (1, 1), (2, 1)] := ⟨_, Tryz.underlying92, fun w => by kernel_rfl⟩
theorem str93 : Str Tryz.prog 93 #[] := ⟨_, Tryz.underlying93, fun w => by kernel_rfl⟩
theorem fld50_0 : Fld Tryz.prog 50 0 0 47 := fld_of Tryz.underlying50 rfl rfl rfl ty47 (by decide)
theorem fld50_1 : Fld Tryz.prog 50 1 1 25 := fld_of Tryz.underlying50 rfl rfl rfl ty25 (by decide)
theorem fld92_0 : Fld Tryz.prog 92 0 0 25 := fld_of Tryz.underlying92 rfl rfl rfl ty25 (by decide)
theorem fld92_1 : Fld Tryz.prog 92 1 1 2 := fld_of Tryz.underlying92 rfl rfl rfl ty2 (by decide)
theorem hob_of {c ob : Nat} {N : Hp} {B : Nat} {H : List Hp} (hN : N ∈ H) (h5 : c = 5 → ∃ cs t, (ob, Obj.cells cs t (0, 0)) ∈ N) (hc : c ≤ 5) (hB : ∀ b o, (b, o) ∈ N → B < b) : c < 5 ∨ ∃ X ∈ H, ∃ cs u, (ob, Obj.cells cs u (0, 0)) ∈ X ∧ ob ≠ B := by
 rcases (show c < 5 ∨ c = 5 by omega) with h | h
 ·exact .inl h
 ·obtain ⟨cs, t, hm⟩ := h5 h
  exact .inr ⟨N, hN, cs, t, hm, by have := hB _ _ hm; omega⟩
theorem put_len : ∀ (l : List HV) (h : HV), (put l h).length ≤ l.length + 1
 | [], _ => Nat.le_refl _
 | x :: l, h => by
  have := put_len l h
  unfold put; split
  ·simp
  ·rw [List.length_cons, List.length_cons]; omega
theorem tk_len : ∀ (f : Nat) (r : List UInt8) (acc l : List HV), (tkF f r acc = .ok l ∨ tkF f r acc = .opn l) → l.length ≤ acc.length + r.length
 | 0, _, _, _, h => by rcases h with h | h <;> cases h
 | f + 1, [], acc, l, h => by
  rcases h with h | h
  ·injection h with h; subst h; simp
  ·cases h
 | f + 1, n :: r, acc, l, h => by
  unfold tkF at h
  split at h
  ·rcases h with h | h
   ·cases h
   ·injection h with h; subst h; simp
  ·split at h
   ·rcases h with h | h <;> cases h
   ·cases hv : val (r.getD n.toNat 0) (r.drop (n.toNat + 1)) with
    | short => rw [hv] at h; rcases h with h | h <;> cases h
    | other => rw [hv] at h; rcases h with h | h <;> cases h
    | ok kd w i t r' =>
     rw [hv] at h
     have h1 := tk_len f r' _ l h
     have h2 := val_len hv
     have h3 := put_len acc ⟨r.take n.toNat, kd, w, i, t⟩
     rw [List.length_drop] at h2
     rw [List.length_cons]; omega
theorem dec_hn (all : List UInt8) : (dec all).2.1.length ≤ all.length := by
 have key : ∀ l, (tk ((all.drop 12).take (head all)) [] = .ok l ∨ tk ((all.drop 12).take (head all)) [] = .opn l) → (tailR all l).2.1.length ≤ all.length := fun l hl => by
  have h1 := tk_len _ _ _ _ hl
  rw [List.length_take, List.length_drop, List.length_nil] at h1
  unfold tailR
  split
  ·exact Nat.zero_le _
  ·split
   ·exact Nat.zero_le _
   ·show l.length ≤ _
    omega
 unfold dec
 split
 ·exact Nat.zero_le _
 split
 ·exact Nat.zero_le _
 split
 ·exact Nat.zero_le _
 split
 ·exact Nat.zero_le _
 split
 ·exact Nat.zero_le _
 cases ht : tk ((all.drop 12).take (head all)) [] with
 | short => exact Nat.zero_le _
 | other => exact Nat.zero_le _
 | ok l => exact key l (.inl ht)
 | opn l => exact key l (.inr ht)
theorem code_end {all : List UInt8} {c : Nat} (hdc : (dec all).1 = codeOf all c) (hc : c = 1) (h0 : all.length = 0) : (dec all).1 = 1 := by
 rw [hdc, hc]; unfold codeOf; rw [if_pos (.inl rfl), if_pos (len_nil.1 h0)]
theorem code_short {all : List UInt8} {c : Nat} (hdc : (dec all).1 = codeOf all c) (hc : c = 1 ∨ c = 2) (h0 : 0 < all.length) : (dec all).1 = 2 := by
 rw [hdc, codeOf_s hc h0]
theorem code_at {all : List UInt8} {c : Nat} (k : Nat) (hdc : (dec all).1 = codeOf all c) (hc : c = k) (h1 : k ≠ 1) (h2 : k ≠ 2) : (dec all).1 = k := by
 rw [hdc, codeOf_o (by omega) (by omega), hc]
def DecR (all : List UInt8) (w : Value) (N : Hp) : Prop := ∃ mv n, w = .tuple #[mv, I ((dec all).1 : Nat), I n] ∧ (∃ hv pv, mv = .agg #[hv, pv] ∧ hv.oneCell' = true ∧ pv.oneCell' = true ∧ ((dec all).1 = 0 → RdS 5 hv N (dec all).2.1.length (recsV HV.row (dec all).2.1) ∧ RdS 1 pv N (dec all).2.2.1.length (bytesV (dec all).2.2.1) ∧ n = ((dec all).2.2.2 : Nat) ∧ (dec all).2.2.2 ≤ all.length))
theorem decR_err {all : List UInt8} {n : Int} {c : Nat} (h : (dec all).1 = c) (h0 : c ≠ 0) : DecR all (.tuple #[.agg #[.slice none 0 0, .slice none 0 0], I (c : Int), I n]) [] := by
 subst h
 exact ⟨_, _, rfl, _, _, rfl, rfl, rfl, fun h => absurd h h0⟩
theorem newReader (p : Option Addr) (n c : Nat) : FnA Tryz.prog 17 [.slice p n c] [] (fun w N => ∃ rb, w = Pt rb 0 ∧ N = RB rb (.slice p n c) 0 (-1)) := by
 refine FnA.enter0 (n := 6) Tryz.func17 rfl rfl fun w0 => ?_
 refine WC.sub (fr' := [(0, _)]) ?_ ⟨rfl, trivial⟩
 refine WC.seq (WC.region ?_)
 refine WL.q (oq_assign rfl) rfl rfl rfl ?_
 refine WL.nil (WE.then_normal (WC.sub (fr' := [(0, _)]) ?_ ⟨rfl, trivial⟩))
 refine WC.seq (WC.region ?_)
 refine WL.q (oq_move rfl) rfl rfl rfl ?_
 refine WL.q (oq_build #[_, _, _] str92 ty92 rfl rfl) rfl rfl rfl ?_
 refine WL.box rfl rfl rfl fun rb hrb => ?_
 refine WL.q (oq_assign rfl) rfl rfl rfl ?_
 refine WL.nil (WE.then_normal (WC.sub (fr' := [(2, _)]) ?_ ⟨rfl, trivial⟩))
 refine WC.ret ?_
 refine WE.endA0 (.inl rfl) (res1 Tryz.results17 rfl) ?_ (fresh1 hrb)
 exact ⟨_, rfl, rfl⟩
theorem newDecoder  : FnA Tryz.prog 18 [] [] (fun w N => ∃ db, w = Pt db 0) := by
 refine FnA.enter0 (n := 3) Tryz.func18 rfl rfl fun w0 => ?_
 refine WC.sub (fr' := []) ?_ trivial
 refine WC.seq (WC.region ?_)
 refine WL.q (oq_assign rfl) rfl rfl rfl ?_
 refine WL.nil (WE.then_normal (WC.sub (fr' := []) ?_ trivial))
 refine WC.seq (WC.region ?_)
 refine WL.q (oq_build (#[]) str93 ty93 rfl (by kernel_rfl)) rfl rfl rfl ?_
 refine WL.box rfl rfl rfl fun db hdb => ?_
 refine WL.q (oq_assign rfl) rfl rfl rfl ?_
 refine WL.nil (WE.then_normal (WC.sub (fr' := [(0, _)]) ?_ ⟨rfl, trivial⟩))
 refine WC.ret ?_
 refine WE.endA0 (.inl rfl) (res1 Tryz.results18 rfl) ?_ (fresh1 hdb)
 exact ⟨_, rfl⟩
theorem rdLen (rb n c i : Nat) (p : Option Addr) (pr : Int) (hi : i ≤ n) (hn : n ≤ 1000000) : FnR Tryz.prog 20 [Pt rb 0] (RB rb (.slice p n c) (i : Nat) pr) (I ((n - i : Nat) : Int)) := by
 refine FnR.enter (n := 23) Tryz.func20 rfl rfl fun w0 => ?_
 refine WC.sub (fr' := [(0, _)]) ?_ ⟨rfl, trivial⟩
 refine WC.seq (WC.region ?_)
 refine WL.q (oq_assign rfl) rfl rfl rfl ?_
 refine WL.nil (WE.then_normal (WC.sub (fr' := [(0, _)]) ?_ ⟨rfl, trivial⟩))
 refine WC.seq (WC.seq (WC.quiet (by kernel_rfl) (by kernel_rfl) ?_))
 refine WQ.q (oq_move rfl) rfl rfl rfl ?_
 refine WQ.q (oq_nilCheck rfl) rfl rfl rfl ?_
 refine WQ.q (oq_fieldAddr fld92_1 rfl) rfl rfl rfl ?_
 refine WQ.q (oq_load flat2 rfl (.head _) (List.mem_singleton.2 rfl) rfl) rfl rfl rfl ?_
 refine WQ.q (oq_move rfl) rfl rfl rfl ?_
 refine WQ.q (oq_nilCheck rfl) rfl rfl rfl ?_
 refine WQ.q (oq_fieldAddr fld92_0 rfl) rfl rfl rfl ?_
 refine WQ.q (oq_load flat25 rfl (.head _) (List.mem_singleton.2 rfl) rfl) rfl rfl rfl ?_
 refine WQ.q (oq_len_sl Tryz.underlying25 rfl) rfl rfl rfl ?_
 refine WQ.q (oq_geq rfl rfl) rfl rfl rfl ?_
 refine WQ.nil (WE.then_normal (WC.sub (fr' := [(0, _), (12, _)]) ?_ ⟨rfl, rfl, trivial⟩))
 refine WC.cond rfl (fun q1 => ?_) (fun q1 => ?_)
 ·
  try simp only [Z1, Z2, Z3, Z4, Z5, Z6, Z7, Z8, Z9, Z0] at q1
  refine WC.seq (WC.region ?_)
  refine WL.q (oq_assign rfl) rfl rfl rfl ?_
  refine WL.nil (WE.then_normal (WC.sub (fr' := [(2, _)]) ?_ ⟨rfl, trivial⟩))
  refine WC.ret (WE.then_ret ?_)
  refine WE.endR (.inl rfl) (res1 Tryz.results20 rfl) ?_
  congr 1; omega
 ·
  try simp only [Z1, Z2, Z3, Z4, Z5, Z6, Z7, Z8, Z9, Z0] at q1
  refine WC.skip (WE.then_normal (WC.sub (fr' := [(0, _)]) ?_ ⟨rfl, trivial⟩))
  refine WC.seq (WC.quiet (by kernel_rfl) (by kernel_rfl) ?_)
  refine WQ.q (oq_move rfl) rfl rfl rfl ?_
  refine WQ.q (oq_nilCheck rfl) rfl rfl rfl ?_
  refine WQ.q (oq_fieldAddr fld92_0 rfl) rfl rfl rfl ?_
  refine WQ.q (oq_load flat25 rfl (.head _) (List.mem_singleton.2 rfl) rfl) rfl rfl rfl ?_
  refine WQ.q (oq_len_sl Tryz.underlying25 rfl) rfl rfl rfl ?_
  refine WQ.q (oq_move rfl) rfl rfl rfl ?_
  refine WQ.q (oq_nilCheck rfl) rfl rfl rfl ?_
  refine WQ.q (oq_fieldAddr fld92_1 rfl) rfl rfl rfl ?_
  refine WQ.q (oq_load flat2 rfl (.head _) (List.mem_singleton.2 rfl) rfl) rfl rfl rfl ?_
  refine WQ.q (oq_sub rfl rfl (by rw [i64_lo, i64_hi]; (first | omega | (simp only [List.length_cons, List.length_nil, List.length_append, List.length_drop, List.length_take]; omega)))) rfl rfl rfl ?_
  refine WQ.q (oq_assign rfl) rfl rfl rfl ?_
  refine WQ.nil (WE.then_normal (WC.sub (fr' := [(2, _)]) ?_ ⟨rfl, trivial⟩))
  refine WC.ret ?_
  refine WE.endR (.inl rfl) (res1 Tryz.results20 rfl) ?_
  congr 1; omega
theorem vDecode (A : Hp) (kE : TypeId) (pE pU : Addr) (hS : Sn A kE pE pU) (pp : Option Addr) (pc : Nat) (all : List UInt8) (hrd : RdS 1 (.slice pp all.length pc) A all.length (bytesV all)) (hrs : all.length ≤ 900000) (hwf : preC all = 0 → 16 + head all ≤ totl all) : FnA Tryz.prog 10 [.slice pp all.length pc] A (DecR all) := by
 refine FnA.enterH (n := 64) Tryz.func10 rfl rfl fun w0 hw0 => ?_
 obtain ⟨tE, fE, hEm⟩ := hS.eof
 obtain ⟨tU, fU, hUm⟩ := hS.uex
 obtain ⟨cE, uE, hbE⟩ := hS.bE
 obtain ⟨cU, uU, hbU⟩ := hS.bU
 have hpE := hw0.lt hbE
 have hpU := hw0.lt hbU
 refine WC.sub (fr' := [(0, _)]) ?_ ⟨rfl, trivial⟩
 refine WC.seq (WC.region ?_)
 refine WL.alloc ty30 rfl rfl fun res hres => ?_
 refine WL.q (oq_assign rfl) rfl rfl rfl ?_
 refine WL.q (oq_assign rfl) rfl rfl rfl ?_
 refine WL.nil (WE.then_normal (WC.sub (fr' := [(0, _), (2, _)]) ?_ ⟨rfl, rfl, trivial⟩))
 refine WC.seq (WC.region ?_)
 refine WL.q (oq_move rfl) rfl rfl rfl ?_
 refine WL.callA0 (newReader _ _ _) call17 rfl rfl rfl fun v1_1 N1_1 hR1_1 hN1_1 => ?_
 obtain ⟨rb, rfl, rfl⟩ := hR1_1
 have hrb := hN1_1 _ _ (List.mem_singleton.2 rfl)
 refine WL.q (oq_assign rfl) rfl rfl rfl ?_
 refine WL.nil (WE.then_normal (WC.sub (fr' := [(0, _), (2, _), (5, _)]) ?_ ⟨rfl, rfl, rfl, trivial⟩))
 refine WC.seq (WC.region ?_)
 refine WL.callA0 (newDecoder) call18 rfl rfl rfl fun v2_0 N2_0 hR2_0 hN2_0 => ?_
 obtain ⟨db, rfl⟩ := hR2_0
 refine WL.q (oq_move rfl) rfl rfl rfl ?_
 refine WL.q (oq_makeI conc56 rfl) rfl rfl rfl ?_
 refine WL.f3 ?_
 refine WL.f2 ?_
 refine WL.callW2 (decodeM _ A kE pE pU hS _ _ _ _ (brRr _ rb (.slice pp all.length pc) A all hrd (by omega) kE pE pU hS) all _ ⟨[], -1, rfl, rfl⟩ hrs hwf (Pt db 0)) call19 rfl rfl rfl fun v2_3 Hs2_3 hR2_3 => ?_
 obtain ⟨X2, N2_3, mv, c, ob, rz, rfl, rfl, hN, hX2, hlt, hdc, h5, h2a, hc5, hv, pv, rfl, o1, o2, hok⟩ := hR2_3
 obtain ⟨dn, pr2, hall, rfl⟩ := hX2
 have hlen : all.length = dn.length + rz.length := by rw [hall, List.length_append]
 have hNE : ∀ b o, (b, o) ∈ N2_3 → pE.block < b := fun b o hb => by have := hN b o hb; omega
 have hNU : ∀ b o, (b, o) ∈ N2_3 → pU.block < b := fun b o hb => by have := hN b o hb; omega
 refine WL.to3 ?_
 refine WL.q (oq_move rfl) rfl rfl rfl ?_
 refine WL.q (oq_extract rfl rfl) rfl rfl rfl ?_
 refine WL.q (oq_extract rfl rfl) rfl rfl rfl ?_
 refine WL.alloc ty50 rfl rfl fun m2 hm2 => ?_
 refine WL.storeS (#[hv, pv]) ty50 rfl rfl rfl (by simp [Value.cells, o1, o2]) (Nat.le_of_ble_eq_true rfl) rfl rfl ?_
 refine WL.q (oq_assign rfl) rfl rfl rfl ?_
 refine WL.nil (WE.then_normal (WC.sub (fr' := [(0, _), (2, _), (5, _), (6, _), (7, _)]) ?_ ⟨rfl, rfl, rfl, rfl, rfl, trivial⟩))
 refine WC.seq (WC.region ?_)
 refine WL.q (oq_move rfl) rfl rfl rfl ?_
 refine WL.q (oq_len_sl Tryz.underlying25 rfl) rfl rfl rfl ?_
 refine WL.q (oq_move rfl) rfl rfl rfl ?_
 refine WL.qc (oq_callRm (rdLen rb all.length pc dn.length pp pr2 (by omega) (by omega)) (.tail _ (.head _)) call20 rfl) rfl rfl rfl ?_
 refine WL.q (oq_sub rfl rfl (by rw [i64_lo, i64_hi]; (first | omega | (simp only [List.length_cons, List.length_nil, List.length_append, List.length_drop, List.length_take]; omega)))) rfl rfl rfl ?_
 refine WL.q (oq_assign rfl) rfl rfl rfl ?_
 refine WL.nil (WE.then_normal (WC.sub (fr' := [(2, _), (6, _), (7, _), (8, _)]) ?_ ⟨rfl, rfl, rfl, rfl, trivial⟩))
 refine WC.seq (WC.seq (WC.region ?_))
 refine WL.q (oq_move rfl) rfl rfl rfl ?_
 refine WL.q (oq_ieql Tryz.underlying41 rfl (erv_or _ _ _ _ _)) rfl rfl rfl ?_
 refine WL.nil (WE.then_normal (WC.sub (fr' := [(2, _), (6, _), (7, _), (8, _), (24, _)]) ?_ ⟨rfl, rfl, rfl, rfl, rfl, trivial⟩))
 refine WC.cond rfl (fun q4 => ?_) (fun q4 => ?_)
 ·
  try simp only [Z1, Z2, Z3, Z4, Z5, Z6, Z7, Z8, Z9, Z0] at q4
  refine WC.seq ?_
  have hc0 := erv0 q4
  obtain ⟨⟨ps, hrp, hpb⟩, hpl, hrz, hnl⟩ := hok hc0
  have hpn : ps.length ≤ 1000000 := by rw [hpb.len]; have := dec_hn all; omega
  obtain ⟨pp5, pc5, rfl⟩ := hpl.shape
  refine WC.gate 7 ([(m2, .cells #[hv, .slice pp5 (dec all).2.2.1.length pc5] 50 (0, 0))]) (by kernel_rfl) ?_
  refine WG.q 0 [] rfl (.head _) (fun w0 => oq_fieldAddr fld50_0 rfl) rfl rfl rfl ?_
  refine WG.q 1 [] rfl (.head _) (fun w0 => oq_load flat47 rfl (.head _) (List.mem_singleton.2 rfl) rfl) rfl rfl rfl ?_
  refine WG.q 3 [] rfl (.head _) (fun w0 => oq_fieldAddr fld50_1 rfl) rfl rfl rfl ?_
  refine WG.q 4 [] rfl (.head _) (fun w0 => oq_load flat25 rfl (.head _) (List.mem_singleton.2 rfl) rfl) rfl rfl rfl ?_
  refine WG.p 6 rfl (.inr (.head _)) (fun w0 => oq_move rfl) rfl rfl rfl ?_
  refine WG.step (i := 2) (by kernel_rfl) rfl ?_
  refine WL.f2 ?_
  refine WL.callA (headersBack hv N2_3 ps (dec all).2.1 hrp hpb hpn) call21 rfl rfl rfl fun v5_2 N5_2 hR5_2 hN5_2 => ?_
  obtain ⟨hp5, hcc5, rfl⟩ := hR5_2.shape
  refine WL.nil ?_
  refine WE.toG (.tail _ (.tail _ (.head _))) ?_
  refine WG.q 5 [] rfl (.tail _ (.tail _ (.head _))) (fun w0 => oq_build #[_, _] str30 ty30 rfl rfl) rfl rfl rfl ?_
  refine WG.step (i := 7) (by kernel_rfl) rfl ?_
  refine WL.f6 ?_
  refine WL.storeS #[_, _] ty30 rfl rfl rfl rfl (Nat.le_of_ble_eq_true rfl) rfl rfl ?_
  refine WL.nil ?_
  refine WE.toG0 (by kernel_rfl) ?_
  refine WG.p 8 rfl (.inl (by kernel_rfl)) (fun w0 => oq_assign rfl) rfl rfl rfl ?_
  refine WG.p 9 rfl (.inl (by kernel_rfl)) (fun w0 => oq_assign rfl) rfl rfl rfl ?_
  refine WG.done (by kernel_rfl) ?_
  refine WE.then_normal (WC.sub (fr' := [(2, _), (3, _), (4, _)]) ?_ ⟨rfl, rfl, rfl, trivial⟩)
  refine WC.ret (WE.then_ret ?_)
  refine WE.endDA (.inl rfl) (rs3 Tryz.results10 (rv_cellS [_, _] agg30 ty30 rfl (.head _) (List.mem_singleton.2 rfl) rfl rfl) (rv_tmp rfl) (rv_tmp rfl)) (dr_lose hres (dr_f2 (dr_lose hm2 (dr_f2 (dr_lose hrb (dr_f3 (dr_forget hN2_0 (dr_cat dr_refl)))))))) (fresh_cat (hN5_2) (hN)) ?_
  have hd0 : (dec all).1 = 0 := code_at 0 hdc hc0 (by decide) (by decide)
  refine ⟨_, _, by rw [hd0]; rfl, _, _, rfl, rfl, rfl, fun _ => ⟨hR5_2.weaken (fun x hx => List.mem_append_left _ hx), hpl.weaken (fun x hx => List.mem_append_right _ hx), ?_, hnl⟩⟩
  rw [hrz, List.length_drop] at hlen
  congr 1; omega
 ·
  try simp only [Z1, Z2, Z3, Z4, Z5, Z6, Z7, Z8, Z9, Z0] at q4
  refine WC.skip (WE.then_normal (WC.sub (fr' := [(2, _), (7, _), (8, _)]) ?_ ⟨rfl, rfl, rfl, trivial⟩))
  refine WC.seq (WC.seq ?_)
  have hcn := ervN q4
  refine WC.region ?_
  refine WL.q (oq_move rfl) rfl rfl rfl ?_
  refine WL.q (oq_load flat41 rfl (.tail _ (.tail _ (.tail _ (.head _)))) hEm rfl) rfl rfl rfl ?_
  refine WL.q (oq_erE hS (by repeat (first | exact .head _ | apply List.Mem.tail)) (hob_of (N := N2_3) (by repeat (first | exact .head _ | apply List.Mem.tail)) h5 hc5 hNE) Tryz.underlying41 rfl rfl) rfl rfl rfl ?_
  refine WL.q (oq_move rfl) rfl rfl rfl ?_
  refine WL.split 35 rfl (fun s6_3 => ?_) (fun s6_3 => ?_)
  ·
   try simp only [Z1, Z2, Z3, Z4, Z5, Z6, Z7, Z8, Z9, Z0] at s6_3
   refine WL.q (oq_move rfl) rfl rfl rfl ?_
   refine WL.q (oq_eql rfl rfl) rfl rfl rfl ?_
   refine WL.q (oq_pick_t rfl rfl) rfl rfl rfl ?_
   refine WL.nil (WE.then_normal (WC.sub (fr' := [(2, _), (7, _), (8, _), (38, _)]) ?_ ⟨rfl, rfl, rfl, rfl, trivial⟩))
   refine WC.cond rfl (fun q6 => ?_) (fun q6 => ?_)
   ·
    try simp only [Z1, Z2, Z3, Z4, Z5, Z6, Z7, Z8, Z9, Z0] at q6
    refine WC.seq (WC.region ?_)
    refine WL.q (oq_build #[_, _] str30 ty30 rfl rfl) rfl rfl rfl ?_
    refine WL.q (oq_move rfl) rfl rfl rfl ?_
    refine WL.f5 ?_
    refine WL.storeS #[_, _] ty30 rfl rfl rfl rfl (Nat.le_of_ble_eq_true rfl) rfl rfl ?_
    refine WL.q (oq_assign rfl) rfl rfl rfl ?_
    refine WL.q (oq_assign rfl) rfl rfl rfl ?_
    refine WL.nil (WE.then_normal (WC.sub (fr' := [(2, _), (3, _), (4, _)]) ?_ ⟨rfl, rfl, rfl, trivial⟩))
    refine WC.ret (WE.then_ret ?_)
    refine WE.endDA (.inl rfl) (rs3 Tryz.results10 (rv_cellS [_, _] agg30 ty30 rfl (.head _) (List.mem_singleton.2 rfl) rfl rfl) (rv_tmp rfl) (rv_tmp rfl)) (dr_lose hres (dr_lose hm2 (dr_lose hrb (dr_forget hN (dr_f1 (dr_forget hN2_0 (dr_add0 dr_refl))))))) fresh0 ?_
    first | (exact decR_err (c := 1) (code_end hdc (by omega) (by omega)) (by decide)) | (exact decR_err (c := 2) (code_short hdc (by omega) (by first | omega | exact h2a (by omega))) (by decide)) | (exact decR_err (c := 3) (code_at 3 hdc (by omega) (by decide) (by decide)) (by decide)) | (exact decR_err (c := 4) (code_at 4 hdc (by omega) (by decide) (by decide)) (by decide)) | (exact decR_err (c := 5) (code_at 5 hdc (by omega) (by decide) (by decide)) (by decide)) | (exfalso; omega) | (exfalso; simp_all; done)
   ·
    try simp only [Z1, Z2, Z3, Z4, Z5, Z6, Z7, Z8, Z9, Z0] at q6
    refine WC.skip (WE.then_normal (WC.sub (fr' := [(2, _), (7, _), (8, _)]) ?_ ⟨rfl, rfl, rfl, trivial⟩))
    refine WC.seq (WC.seq (WC.region ?_))
    refine WL.q (oq_move rfl) rfl rfl rfl ?_
    refine WL.q (oq_load flat41 rfl (.tail _ (.tail _ (.tail _ (.head _)))) hEm rfl) rfl rfl rfl ?_
    refine WL.q (oq_erE hS (by repeat (first | exact .head _ | apply List.Mem.tail)) (hob_of (N := N2_3) (by repeat (first | exact .head _ | apply List.Mem.tail)) h5 hc5 hNE) Tryz.underlying41 rfl rfl) rfl rfl rfl ?_
    refine WL.q (oq_move rfl) rfl rfl rfl ?_
    refine WL.split 44 rfl (fun s8_3 => ?_) (fun s8_3 => ?_)
    ·
     try simp only [Z1, Z2, Z3, Z4, Z5, Z6, Z7, Z8, Z9, Z0] at s8_3
     refine WL.skip rfl rfl rfl ?_
     refine WL.skip rfl rfl rfl ?_
     refine WL.skip rfl rfl rfl ?_
     refine WL.q (oq_pick_t rfl rfl) rfl rfl rfl ?_
     refine WL.nil (WE.then_normal (WC.sub (fr' := [(2, _), (7, _), (8, _), (48, _)]) ?_ ⟨rfl, rfl, rfl, rfl, trivial⟩))
     refine WC.cond_t rfl ?_
     refine WC.seq (WC.region ?_)
     refine WL.q (oq_build #[_, _] str30 ty30 rfl rfl) rfl rfl rfl ?_
     refine WL.q (oq_move rfl) rfl rfl rfl ?_
     refine WL.f5 ?_
     refine WL.storeS #[_, _] ty30 rfl rfl rfl rfl (Nat.le_of_ble_eq_true rfl) rfl rfl ?_
     refine WL.q (oq_assign rfl) rfl rfl rfl ?_
     refine WL.q (oq_assign rfl) rfl rfl rfl ?_
     refine WL.nil (WE.then_normal (WC.sub (fr' := [(2, _), (3, _), (4, _)]) ?_ ⟨rfl, rfl, rfl, trivial⟩))
     refine WC.ret (WE.then_ret ?_)
     refine WE.endDA (.inl rfl) (rs3 Tryz.results10 (rv_cellS [_, _] agg30 ty30 rfl (.head _) (List.mem_singleton.2 rfl) rfl rfl) (rv_tmp rfl) (rv_tmp rfl)) (dr_lose hres (dr_lose hm2 (dr_lose hrb (dr_forget hN (dr_f1 (dr_forget hN2_0 (dr_add0 dr_refl))))))) fresh0 ?_
     first | (exact decR_err (c := 1) (code_end hdc (by omega) (by omega)) (by decide)) | (exact decR_err (c := 2) (code_short hdc (by omega) (by first | omega | exact h2a (by omega))) (by decide)) | (exact decR_err (c := 3) (code_at 3 hdc (by omega) (by decide) (by decide)) (by decide)) | (exact decR_err (c := 4) (code_at 4 hdc (by omega) (by decide) (by decide)) (by decide)) | (exact decR_err (c := 5) (code_at 5 hdc (by omega) (by decide) (by decide)) (by decide)) | (exfalso; omega) | (exfalso; simp_all; done)
    ·
     try simp only [Z1, Z2, Z3, Z4, Z5, Z6, Z7, Z8, Z9, Z0] at s8_3
     refine WL.q (oq_move rfl) rfl rfl rfl ?_
     refine WL.q (oq_load flat41 rfl (.tail _ (.tail _ (.tail _ (.head _)))) hUm rfl) rfl rfl rfl ?_
     refine WL.q (oq_erU hS (by repeat (first | exact .head _ | apply List.Mem.tail)) (hob_of (N := N2_3) (by repeat (first | exact .head _ | apply List.Mem.tail)) h5 hc5 hNU) Tryz.underlying41 rfl rfl) rfl rfl rfl ?_
     refine WL.q (oq_pick_f rfl rfl) rfl rfl rfl ?_
     refine WL.nil (WE.then_normal (WC.sub (fr' := [(2, _), (7, _), (8, _), (48, _)]) ?_ ⟨rfl, rfl, rfl, rfl, trivial⟩))
     refine WC.cond rfl (fun q8 => ?_) (fun q8 => ?_)
     ·
      try simp only [Z1, Z2, Z3, Z4, Z5, Z6, Z7, Z8, Z9, Z0] at q8
      refine WC.seq (WC.region ?_)
      refine WL.q (oq_build #[_, _] str30 ty30 rfl rfl) rfl rfl rfl ?_
      refine WL.q (oq_move rfl) rfl rfl rfl ?_
      refine WL.f5 ?_
      refine WL.storeS #[_, _] ty30 rfl rfl rfl rfl (Nat.le_of_ble_eq_true rfl) rfl rfl ?_
      refine WL.q (oq_assign rfl) rfl rfl rfl ?_
      refine WL.q (oq_assign rfl) rfl rfl rfl ?_
      refine WL.nil (WE.then_normal (WC.sub (fr' := [(2, _), (3, _), (4, _)]) ?_ ⟨rfl, rfl, rfl, trivial⟩))
      refine WC.ret (WE.then_ret ?_)
      refine WE.endDA (.inl rfl) (rs3 Tryz.results10 (rv_cellS [_, _] agg30 ty30 rfl (.head _) (List.mem_singleton.2 rfl) rfl rfl) (rv_tmp rfl) (rv_tmp rfl)) (dr_lose hres (dr_lose hm2 (dr_lose hrb (dr_forget hN (dr_f1 (dr_forget hN2_0 (dr_add0 dr_refl))))))) fresh0 ?_
      first | (exact decR_err (c := 1) (code_end hdc (by omega) (by omega)) (by decide)) | (exact decR_err (c := 2) (code_short hdc (by omega) (by first | omega | exact h2a (by omega))) (by decide)) | (exact decR_err (c := 3) (code_at 3 hdc (by omega) (by decide) (by decide)) (by decide)) | (exact decR_err (c := 4) (code_at 4 hdc (by omega) (by decide) (by decide)) (by decide)) | (exact decR_err (c := 5) (code_at 5 hdc (by omega) (by decide) (by decide)) (by decide)) | (exfalso; omega) | (exfalso; simp_all; done)
     ·
      try simp only [Z1, Z2, Z3, Z4, Z5, Z6, Z7, Z8, Z9, Z0] at q8
      refine WC.skip (WE.then_normal (WC.sub (fr' := [(2, _), (7, _), (8, _)]) ?_ ⟨rfl, rfl, rfl, trivial⟩))
      refine WC.seq (WC.seq (WC.region ?_))
      refine WL.q (oq_move rfl) rfl rfl rfl ?_
      refine WL.nil (WE.then_normal (WC.sub (fr' := [(2, _), (8, _), (51, _)]) ?_ ⟨rfl, rfl, rfl, trivial⟩))
      refine WC.block (WC.seq (WC.region ?_))
      refine WL.q (oq_askC3 hS.kd conc65 ty65 rfl) rfl rfl rfl ?_
      refine WL.q (oq_extract rfl rfl) rfl rfl rfl ?_
      refine WL.q (oq_extract rfl rfl) rfl rfl rfl ?_
      refine WL.nil (WE.then_normal (WC.sub (fr' := [(2, _), (8, _), (51, _), (53, _)]) ?_ ⟨rfl, rfl, rfl, rfl, trivial⟩))
      refine WC.cond rfl (fun q11 => ?_) (fun q11 => ?_)
      ·
       try simp only [Z1, Z2, Z3, Z4, Z5, Z6, Z7, Z8, Z9, Z0] at q11
       refine WC.seq (WC.region ?_)
       refine WL.q (oq_build #[_, _] str30 ty30 rfl rfl) rfl rfl rfl ?_
       refine WL.q (oq_move rfl) rfl rfl rfl ?_
       refine WL.f5 ?_
       refine WL.storeS #[_, _] ty30 rfl rfl rfl rfl (Nat.le_of_ble_eq_true rfl) rfl rfl ?_
       refine WL.q (oq_assign rfl) rfl rfl rfl ?_
       refine WL.q (oq_assign rfl) rfl rfl rfl ?_
       refine WL.nil (WE.then_normal (WC.sub (fr' := [(2, _), (3, _), (4, _)]) ?_ ⟨rfl, rfl, rfl, trivial⟩))
       refine WC.ret (WE.block_ret (WE.then_ret ?_))
       refine WE.endDA (.inl rfl) (rs3 Tryz.results10 (rv_cellS [_, _] agg30 ty30 rfl (.head _) (List.mem_singleton.2 rfl) rfl rfl) (rv_tmp rfl) (rv_tmp rfl)) (dr_lose hres (dr_lose hm2 (dr_lose hrb (dr_forget hN (dr_f1 (dr_forget hN2_0 (dr_add0 dr_refl))))))) fresh0 ?_
       first | (exact decR_err (c := 1) (code_end hdc (by omega) (by omega)) (by decide)) | (exact decR_err (c := 2) (code_short hdc (by omega) (by first | omega | exact h2a (by omega))) (by decide)) | (exact decR_err (c := 3) (code_at 3 hdc (by omega) (by decide) (by decide)) (by decide)) | (exact decR_err (c := 4) (code_at 4 hdc (by omega) (by decide) (by decide)) (by decide)) | (exact decR_err (c := 5) (code_at 5 hdc (by omega) (by decide) (by decide)) (by decide)) | (exfalso; omega) | (exfalso; simp_all; done)
      ·
       try simp only [Z1, Z2, Z3, Z4, Z5, Z6, Z7, Z8, Z9, Z0] at q11
       refine WC.seq (WC.region ?_)
       refine WL.q (oq_askC4 hS.kd conc67 ty67 rfl) rfl rfl rfl ?_
       refine WL.q (oq_extract rfl rfl) rfl rfl rfl ?_
       refine WL.q (oq_extract rfl rfl) rfl rfl rfl ?_
       refine WL.nil (WE.then_normal (WC.sub (fr' := [(2, _), (8, _), (58, _)]) ?_ ⟨rfl, rfl, rfl, trivial⟩))
       refine WC.cond rfl (fun q13 => ?_) (fun q13 => ?_)
       ·
        try simp only [Z1, Z2, Z3, Z4, Z5, Z6, Z7, Z8, Z9, Z0] at q13
        refine WC.seq (WC.region ?_)
        refine WL.q (oq_build #[_, _] str30 ty30 rfl rfl) rfl rfl rfl ?_
        refine WL.q (oq_move rfl) rfl rfl rfl ?_
        refine WL.f5 ?_
        refine WL.storeS #[_, _] ty30 rfl rfl rfl rfl (Nat.le_of_ble_eq_true rfl) rfl rfl ?_
        refine WL.q (oq_assign rfl) rfl rfl rfl ?_
        refine WL.q (oq_assign rfl) rfl rfl rfl ?_
        refine WL.nil (WE.then_normal (WC.sub (fr' := [(2, _), (3, _), (4, _)]) ?_ ⟨rfl, rfl, rfl, trivial⟩))
        refine WC.ret (WE.block_ret (WE.then_ret ?_))
        refine WE.endDA (.inl rfl) (rs3 Tryz.results10 (rv_cellS [_, _] agg30 ty30 rfl (.head _) (List.mem_singleton.2 rfl) rfl rfl) (rv_tmp rfl) (rv_tmp rfl)) (dr_lose hres (dr_lose hm2 (dr_lose hrb (dr_forget hN (dr_f1 (dr_forget hN2_0 (dr_add0 dr_refl))))))) fresh0 ?_
        first | (exact decR_err (c := 1) (code_end hdc (by omega) (by omega)) (by decide)) | (exact decR_err (c := 2) (code_short hdc (by omega) (by first | omega | exact h2a (by omega))) (by decide)) | (exact decR_err (c := 3) (code_at 3 hdc (by omega) (by decide) (by decide)) (by decide)) | (exact decR_err (c := 4) (code_at 4 hdc (by omega) (by decide) (by decide)) (by decide)) | (exact decR_err (c := 5) (code_at 5 hdc (by omega) (by decide) (by decide)) (by decide)) | (exfalso; omega) | (exfalso; simp_all; done)
       ·
        try simp only [Z1, Z2, Z3, Z4, Z5, Z6, Z7, Z8, Z9, Z0] at q13
        refine WC.skip (WE.block_normal (WE.then_normal (WC.sub (fr' := [(2, _), (8, _)]) ?_ ⟨rfl, rfl, trivial⟩)))
        refine WC.seq (WC.region ?_)
        refine WL.q (oq_build #[_, _] str30 ty30 rfl rfl) rfl rfl rfl ?_
        refine WL.q (oq_move rfl) rfl rfl rfl ?_
        refine WL.f5 ?_
        refine WL.storeS #[_, _] ty30 rfl rfl rfl rfl (Nat.le_of_ble_eq_true rfl) rfl rfl ?_
        refine WL.q (oq_assign rfl) rfl rfl rfl ?_
        refine WL.q (oq_assign rfl) rfl rfl rfl ?_
        refine WL.nil (WE.then_normal (WC.sub (fr' := [(2, _), (3, _), (4, _)]) ?_ ⟨rfl, rfl, rfl, trivial⟩))
        refine WC.ret ?_
        refine WE.endDA (.inl rfl) (rs3 Tryz.results10 (rv_cellS [_, _] agg30 ty30 rfl (.head _) (List.mem_singleton.2 rfl) rfl rfl) (rv_tmp rfl) (rv_tmp rfl)) (dr_lose hres (dr_lose hm2 (dr_lose hrb (dr_forget hN (dr_f1 (dr_forget hN2_0 (dr_add0 dr_refl))))))) fresh0 ?_
        first | (exact decR_err (c := 1) (code_end hdc (by omega) (by omega)) (by decide)) | (exact decR_err (c := 2) (code_short hdc (by omega) (by first | omega | exact h2a (by omega))) (by decide)) | (exact decR_err (c := 3) (code_at 3 hdc (by omega) (by decide) (by decide)) (by decide)) | (exact decR_err (c := 4) (code_at 4 hdc (by omega) (by decide) (by decide)) (by decide)) | (exact decR_err (c := 5) (code_at 5 hdc (by omega) (by decide) (by decide)) (by decide)) | (exfalso; omega) | (exfalso; simp_all; done)
  ·
   try simp only [Z1, Z2, Z3, Z4, Z5, Z6, Z7, Z8, Z9, Z0] at s6_3
   refine WL.skip rfl rfl rfl ?_
   refine WL.skip rfl rfl rfl ?_
   refine WL.q (oq_pick_f rfl rfl) rfl rfl rfl ?_
   refine WL.nil (WE.then_normal (WC.sub (fr' := [(2, _), (7, _), (8, _), (38, _)]) ?_ ⟨rfl, rfl, rfl, rfl, trivial⟩))
   refine WC.cond_f rfl ?_
   refine WC.skip (WE.then_normal (WC.sub (fr' := [(2, _), (7, _), (8, _)]) ?_ ⟨rfl, rfl, rfl, trivial⟩))
   refine WC.seq (WC.seq (WC.region ?_))
   refine WL.q (oq_move rfl) rfl rfl rfl ?_
   refine WL.q (oq_load flat41 rfl (.tail _ (.tail _ (.tail _ (.head _)))) hEm rfl) rfl rfl rfl ?_
   refine WL.q (oq_erE hS (by repeat (first | exact .head _ | apply List.Mem.tail)) (hob_of (N := N2_3) (by repeat (first | exact .head _ | apply List.Mem.tail)) h5 hc5 hNE) Tryz.underlying41 rfl rfl) rfl rfl rfl ?_
   refine WL.q (oq_move rfl) rfl rfl rfl ?_
   refine WL.split 44 rfl (fun s8_3 => ?_) (fun s8_3 => ?_)
   ·
    try simp only [Z1, Z2, Z3, Z4, Z5, Z6, Z7, Z8, Z9, Z0] at s8_3
    refine WL.skip rfl rfl rfl ?_
    refine WL.skip rfl rfl rfl ?_
    refine WL.skip rfl rfl rfl ?_
    refine WL.q (oq_pick_t rfl rfl) rfl rfl rfl ?_
    refine WL.nil (WE.then_normal (WC.sub (fr' := [(2, _), (7, _), (8, _), (48, _)]) ?_ ⟨rfl, rfl, rfl, rfl, trivial⟩))
    refine WC.cond_t rfl ?_
    refine WC.seq (WC.region ?_)
    refine WL.q (oq_build #[_, _] str30 ty30 rfl rfl) rfl rfl rfl ?_
    refine WL.q (oq_move rfl) rfl rfl rfl ?_
    refine WL.f5 ?_
    refine WL.storeS #[_, _] ty30 rfl rfl rfl rfl (Nat.le_of_ble_eq_true rfl) rfl rfl ?_
    refine WL.q (oq_assign rfl) rfl rfl rfl ?_
    refine WL.q (oq_assign rfl) rfl rfl rfl ?_
    refine WL.nil (WE.then_normal (WC.sub (fr' := [(2, _), (3, _), (4, _)]) ?_ ⟨rfl, rfl, rfl, trivial⟩))
    refine WC.ret (WE.then_ret ?_)
    refine WE.endDA (.inl rfl) (rs3 Tryz.results10 (rv_cellS [_, _] agg30 ty30 rfl (.head _) (List.mem_singleton.2 rfl) rfl rfl) (rv_tmp rfl) (rv_tmp rfl)) (dr_lose hres (dr_lose hm2 (dr_lose hrb (dr_forget hN (dr_f1 (dr_forget hN2_0 (dr_add0 dr_refl))))))) fresh0 ?_
    first | (exact decR_err (c := 1) (code_end hdc (by omega) (by omega)) (by decide)) | (exact decR_err (c := 2) (code_short hdc (by omega) (by first | omega | exact h2a (by omega))) (by decide)) | (exact decR_err (c := 3) (code_at 3 hdc (by omega) (by decide) (by decide)) (by decide)) | (exact decR_err (c := 4) (code_at 4 hdc (by omega) (by decide) (by decide)) (by decide)) | (exact decR_err (c := 5) (code_at 5 hdc (by omega) (by decide) (by decide)) (by decide)) | (exfalso; omega) | (exfalso; simp_all; done)
   ·
    try simp only [Z1, Z2, Z3, Z4, Z5, Z6, Z7, Z8, Z9, Z0] at s8_3
    refine WL.q (oq_move rfl) rfl rfl rfl ?_
    refine WL.q (oq_load flat41 rfl (.tail _ (.tail _ (.tail _ (.head _)))) hUm rfl) rfl rfl rfl ?_
    refine WL.q (oq_erU hS (by repeat (first | exact .head _ | apply List.Mem.tail)) (hob_of (N := N2_3) (by repeat (first | exact .head _ | apply List.Mem.tail)) h5 hc5 hNU) Tryz.underlying41 rfl rfl) rfl rfl rfl ?_
    refine WL.q (oq_pick_f rfl rfl) rfl rfl rfl ?_
    refine WL.nil (WE.then_normal (WC.sub (fr' := [(2, _), (7, _), (8, _), (48, _)]) ?_ ⟨rfl, rfl, rfl, rfl, trivial⟩))
    refine WC.cond rfl (fun q8 => ?_) (fun q8 => ?_)
    ·
     try simp only [Z1, Z2, Z3, Z4, Z5, Z6, Z7, Z8, Z9, Z0] at q8
     refine WC.seq (WC.region ?_)
     refine WL.q (oq_build #[_, _] str30 ty30 rfl rfl) rfl rfl rfl ?_
     refine WL.q (oq_move rfl) rfl rfl rfl ?_
     refine WL.f5 ?_
     refine WL.storeS #[_, _] ty30 rfl rfl rfl rfl (Nat.le_of_ble_eq_true rfl) rfl rfl ?_
     refine WL.q (oq_assign rfl) rfl rfl rfl ?_
     refine WL.q (oq_assign rfl) rfl rfl rfl ?_
     refine WL.nil (WE.then_normal (WC.sub (fr' := [(2, _), (3, _), (4, _)]) ?_ ⟨rfl, rfl, rfl, trivial⟩))
     refine WC.ret (WE.then_ret ?_)
     refine WE.endDA (.inl rfl) (rs3 Tryz.results10 (rv_cellS [_, _] agg30 ty30 rfl (.head _) (List.mem_singleton.2 rfl) rfl rfl) (rv_tmp rfl) (rv_tmp rfl)) (dr_lose hres (dr_lose hm2 (dr_lose hrb (dr_forget hN (dr_f1 (dr_forget hN2_0 (dr_add0 dr_refl))))))) fresh0 ?_
     first | (exact decR_err (c := 1) (code_end hdc (by omega) (by omega)) (by decide)) | (exact decR_err (c := 2) (code_short hdc (by omega) (by first | omega | exact h2a (by omega))) (by decide)) | (exact decR_err (c := 3) (code_at 3 hdc (by omega) (by decide) (by decide)) (by decide)) | (exact decR_err (c := 4) (code_at 4 hdc (by omega) (by decide) (by decide)) (by decide)) | (exact decR_err (c := 5) (code_at 5 hdc (by omega) (by decide) (by decide)) (by decide)) | (exfalso; omega) | (exfalso; simp_all; done)
    ·
     try simp only [Z1, Z2, Z3, Z4, Z5, Z6, Z7, Z8, Z9, Z0] at q8
     refine WC.skip (WE.then_normal (WC.sub (fr' := [(2, _), (7, _), (8, _)]) ?_ ⟨rfl, rfl, rfl, trivial⟩))
     refine WC.seq (WC.seq (WC.region ?_))
     refine WL.q (oq_move rfl) rfl rfl rfl ?_
     refine WL.nil (WE.then_normal (WC.sub (fr' := [(2, _), (8, _), (51, _)]) ?_ ⟨rfl, rfl, rfl, trivial⟩))
     refine WC.block (WC.seq (WC.region ?_))
     refine WL.q (oq_askC3 hS.kd conc65 ty65 rfl) rfl rfl rfl ?_
     refine WL.q (oq_extract rfl rfl) rfl rfl rfl ?_
     refine WL.q (oq_extract rfl rfl) rfl rfl rfl ?_
     refine WL.nil (WE.then_normal (WC.sub (fr' := [(2, _), (8, _), (51, _), (53, _)]) ?_ ⟨rfl, rfl, rfl, rfl, trivial⟩))
     refine WC.cond rfl (fun q11 => ?_) (fun q11 => ?_)
     ·
      try simp only [Z1, Z2, Z3, Z4, Z5, Z6, Z7, Z8, Z9, Z0] at q11
      refine WC.seq (WC.region ?_)
      refine WL.q (oq_build #[_, _] str30 ty30 rfl rfl) rfl rfl rfl ?_
      refine WL.q (oq_move rfl) rfl rfl rfl ?_
      refine WL.f5 ?_
      refine WL.storeS #[_, _] ty30 rfl rfl rfl rfl (Nat.le_of_ble_eq_true rfl) rfl rfl ?_
      refine WL.q (oq_assign rfl) rfl rfl rfl ?_
      refine WL.q (oq_assign rfl) rfl rfl rfl ?_
      refine WL.nil (WE.then_normal (WC.sub (fr' := [(2, _), (3, _), (4, _)]) ?_ ⟨rfl, rfl, rfl, trivial⟩))
      refine WC.ret (WE.block_ret (WE.then_ret ?_))
      refine WE.endDA (.inl rfl) (rs3 Tryz.results10 (rv_cellS [_, _] agg30 ty30 rfl (.head _) (List.mem_singleton.2 rfl) rfl rfl) (rv_tmp rfl) (rv_tmp rfl)) (dr_lose hres (dr_lose hm2 (dr_lose hrb (dr_forget hN (dr_f1 (dr_forget hN2_0 (dr_add0 dr_refl))))))) fresh0 ?_
      first | (exact decR_err (c := 1) (code_end hdc (by omega) (by omega)) (by decide)) | (exact decR_err (c := 2) (code_short hdc (by omega) (by first | omega | exact h2a (by omega))) (by decide)) | (exact decR_err (c := 3) (code_at 3 hdc (by omega) (by decide) (by decide)) (by decide)) | (exact decR_err (c := 4) (code_at 4 hdc (by omega) (by decide) (by decide)) (by decide)) | (exact decR_err (c := 5) (code_at 5 hdc (by omega) (by decide) (by decide)) (by decide)) | (exfalso; omega) | (exfalso; simp_all; done)
     ·
      try simp only [Z1, Z2, Z3, Z4, Z5, Z6, Z7, Z8, Z9, Z0] at q11
      refine WC.seq (WC.region ?_)
      refine WL.q (oq_askC4 hS.kd conc67 ty67 rfl) rfl rfl rfl ?_
      refine WL.q (oq_extract rfl rfl) rfl rfl rfl ?_
      refine WL.q (oq_extract rfl rfl) rfl rfl rfl ?_
      refine WL.nil (WE.then_normal (WC.sub (fr' := [(2, _), (8, _), (58, _)]) ?_ ⟨rfl, rfl, rfl, trivial⟩))
      refine WC.cond rfl (fun q13 => ?_) (fun q13 => ?_)
      ·
       try simp only [Z1, Z2, Z3, Z4, Z5, Z6, Z7, Z8, Z9, Z0] at q13
       refine WC.seq (WC.region ?_)
       refine WL.q (oq_build #[_, _] str30 ty30 rfl rfl) rfl rfl rfl ?_
       refine WL.q (oq_move rfl) rfl rfl rfl ?_
       refine WL.f5 ?_
       refine WL.storeS #[_, _] ty30 rfl rfl rfl rfl (Nat.le_of_ble_eq_true rfl) rfl rfl ?_
       refine WL.q (oq_assign rfl) rfl rfl rfl ?_
       refine WL.q (oq_assign rfl) rfl rfl rfl ?_
       refine WL.nil (WE.then_normal (WC.sub (fr' := [(2, _), (3, _), (4, _)]) ?_ ⟨rfl, rfl, rfl, trivial⟩))
       refine WC.ret (WE.block_ret (WE.then_ret ?_))
       refine WE.endDA (.inl rfl) (rs3 Tryz.results10 (rv_cellS [_, _] agg30 ty30 rfl (.head _) (List.mem_singleton.2 rfl) rfl rfl) (rv_tmp rfl) (rv_tmp rfl)) (dr_lose hres (dr_lose hm2 (dr_lose hrb (dr_forget hN (dr_f1 (dr_forget hN2_0 (dr_add0 dr_refl))))))) fresh0 ?_
       first | (exact decR_err (c := 1) (code_end hdc (by omega) (by omega)) (by decide)) | (exact decR_err (c := 2) (code_short hdc (by omega) (by first | omega | exact h2a (by omega))) (by decide)) | (exact decR_err (c := 3) (code_at 3 hdc (by omega) (by decide) (by decide)) (by decide)) | (exact decR_err (c := 4) (code_at 4 hdc (by omega) (by decide) (by decide)) (by decide)) | (exact decR_err (c := 5) (code_at 5 hdc (by omega) (by decide) (by decide)) (by decide)) | (exfalso; omega) | (exfalso; simp_all; done)
      ·
       try simp only [Z1, Z2, Z3, Z4, Z5, Z6, Z7, Z8, Z9, Z0] at q13
       refine WC.skip (WE.block_normal (WE.then_normal (WC.sub (fr' := [(2, _), (8, _)]) ?_ ⟨rfl, rfl, trivial⟩)))
       refine WC.seq (WC.region ?_)
       refine WL.q (oq_build #[_, _] str30 ty30 rfl rfl) rfl rfl rfl ?_
       refine WL.q (oq_move rfl) rfl rfl rfl ?_
       refine WL.f5 ?_
       refine WL.storeS #[_, _] ty30 rfl rfl rfl rfl (Nat.le_of_ble_eq_true rfl) rfl rfl ?_
       refine WL.q (oq_assign rfl) rfl rfl rfl ?_
       refine WL.q (oq_assign rfl) rfl rfl rfl ?_
       refine WL.nil (WE.then_normal (WC.sub (fr' := [(2, _), (3, _), (4, _)]) ?_ ⟨rfl, rfl, rfl, trivial⟩))
       refine WC.ret ?_
       refine WE.endDA (.inl rfl) (rs3 Tryz.results10 (rv_cellS [_, _] agg30 ty30 rfl (.head _) (List.mem_singleton.2 rfl) rfl rfl) (rv_tmp rfl) (rv_tmp rfl)) (dr_lose hres (dr_lose hm2 (dr_lose hrb (dr_forget hN (dr_f1 (dr_forget hN2_0 (dr_add0 dr_refl))))))) fresh0 ?_
       first | (exact decR_err (c := 1) (code_end hdc (by omega) (by omega)) (by decide)) | (exact decR_err (c := 2) (code_short hdc (by omega) (by first | omega | exact h2a (by omega))) (by decide)) | (exact decR_err (c := 3) (code_at 3 hdc (by omega) (by decide) (by decide)) (by decide)) | (exact decR_err (c := 4) (code_at 4 hdc (by omega) (by decide) (by decide)) (by decide)) | (exact decR_err (c := 5) (code_at 5 hdc (by omega) (by decide) (by decide)) (by decide)) | (exfalso; omega) | (exfalso; simp_all; done)
end DM
end Go.Proofs.YtpjeiimlglgklaaGreatDoor
/- A message, headers: as bytes. -/
namespace Go.Proofs.YtpjeiimlglgklaaGreatDoor
open Go Go.RowKit V EA EB EC ED EE EF EG EH EI EJ EK EL EM
set_option linter.unusedSimpArgs false
set_option linter.unusedVariables false
set_option maxRecDepth 10000
namespace EN
theorem call13 : Callable Tryz.prog 13 := ⟨_, Tryz.func13, rfl, by kernel_rfl⟩
theorem call14 : Callable Tryz.prog 14 := ⟨_, Tryz.func14, rfl, by kernel_rfl⟩
theorem call15 : Callable Tryz.prog 15 := ⟨_, Tryz.func15, rfl, by kernel_rfl⟩
theorem call16 : Callable Tryz.prog 16 := ⟨_, Tryz.func16, rfl, by kernel_rfl⟩
theorem flat25 : Flat Tryz.prog 25 := ⟨_, Tryz.underlying25, by simp⟩
theorem flat28 : Flat Tryz.prog 28 := ⟨_, Tryz.underlying28, by simp⟩
theorem ty25 : Ty Tryz.prog 25 (.slice none 0 0) 1 24 := ty_of (by kernel_rfl)
theorem ty28 : Ty Tryz.prog 28 (.slice none 0 0) 1 24 := ty_of (by kernel_rfl)
theorem ty39 : Ty Tryz.prog 39 (.agg #[(.slice none 0 0), (.int .i64 0), (.int .i8 0)]) 3 40 := ty_of (by kernel_rfl)
theorem ty50 : Ty Tryz.prog 50 (.agg #[(.slice none 0 0), (.slice none 0 0)]) 2 48 := ty_of (by kernel_rfl)
theorem conc45 : Conc Tryz.prog 45 := ⟨_, Tryz.underlying45, by simp⟩
theorem str50 : Str Tryz.prog 50 #[(0, 1), (1, 1)] := ⟨_, Tryz.underlying50, fun w => by kernel_rfl⟩
theorem fld30_0 : Fld Tryz.prog 30 0 0 28 := fld_of Tryz.underlying30 rfl rfl rfl ty28 (by decide)
theorem fld30_1 : Fld Tryz.prog 30 1 1 25 := fld_of Tryz.underlying30 rfl rfl rfl ty25 (by decide)
def EncG (base eb : Nat) (X : Hp) : Prop := ∃ b1 b2 B1 B2 a1 a2, X = (EncB eb b1 b2 ++ B1) ++ B2 ∧ BufG base b1 a1 B1 ∧ BufG base b2 a2 B2 ∧ base ≤ b1 ∧ base ≤ b2
theorem bufG_fresh {base bb : Nat} {acc : List UInt8} {G : Hp} (h : BufG base bb acc G) (hb : base ≤ bb) : ∀ b o, (b, o) ∈ G → base ≤ b := by
 obtain ⟨v, lr, A, rfl, h⟩ := h
 exact fresh_cat (fresh1 hb) h.fresh
theorem EncG.fresh {base eb : Nat} {X : Hp} (h : EncG base eb X) (he : base ≤ eb) : ∀ b o, (b, o) ∈ X → base ≤ b := by
 obtain ⟨b1, b2, B1, B2, a1, a2, rfl, h1, h2, g1, g2⟩ := h
 exact fresh_cat (fresh_cat (fresh1 he) (bufG_fresh h1 g1)) (bufG_fresh h2 g2)
theorem bufG_nil (base bb : Nat) (lr : Int) : BufG base bb [] (BB bb (.slice none 0 0) lr) := ⟨_, lr, [], rfl, .inl ⟨rfl, rfl, rfl⟩⟩
theorem encodeG (base eb ob : Nat) (acc0 : List UInt8) (EG O : Hp) (hE : EncG base eb EG) (hO : BufG base ob acc0 O) (vh : Value) (HZ : Hp) (l : List HV) (hh : HsOk l vh HZ) (hok : okH l) (hn : l.length ≤ 1000) (hsz : szL l ≤ 100000) (vp : Value) (Pg : Hp) (data : List UInt8) (hrp : RdS 1 vp Pg data.length (bytesV data)) (hpl : data.length ≤ 50000) (hal : acc0.length ≤ 100000) :
  FnW Tryz.prog 14 [Pt eb 0, .iface 45 (Pt ob 0), .agg #[vh, vp]] base [EG, O, HZ, Pg] (fun w Hs => ∃ EG2 O2 c, Hs = [EG2, O2, HZ, Pg] ∧ EncG base eb EG2 ∧ BufG base ob c O2 ∧ (w = .nilIface ∨ ∃ k u, w = .iface k u) ∧ (nilI w = true → l.any badH = false ∧ BufG base ob (acc0 ++ msgB l data) O2) ∧ (nilI w = false → l.any badH = true)) := by
 obtain ⟨b1, b2, B1, B2, a1, a2, rfl, h1, h2, g1, g2⟩ := hE
 obtain ⟨ps, M, Z, rfl, hr, hp⟩ := hh
 refine fw_perm (F := []) (encode base eb b1 b2 ob a1 a2 acc0 B1 B2 O h1 h2 hO vh M Z l ps hr hp hok hn hsz vp Pg data hrp hpl hal) (by simp) ?_
 rintro w Hs ⟨B1', B2', O', c1, c2, c3, rfl, hb1, hb2, hO2, h⟩
 cases hb : l.any badH with
 | true =>
  rw [hb] at h
  obtain ⟨k, e, rfl⟩ := h
  exact ⟨_, ⟨(EncB eb b1 b2 ++ B1') ++ B2', O', c3, rfl, ⟨_, _, _, _, _, _, rfl, hb1, hb2, g1, g2⟩, hO2, (.inr ⟨_, _, rfl⟩), (fun h => nomatch h), (fun _ => rfl)⟩, by simp⟩
 | false =>
  rw [hb] at h
  obtain ⟨rfl, rfl⟩ := h
  exact ⟨_, ⟨(EncB eb b1 b2 ++ B1') ++ B2', O', _, rfl, ⟨_, _, _, _, _, _, rfl, hb1, hb2, g1, g2⟩, hO2, (.inl rfl), (fun _ => ⟨rfl, hO2⟩), (fun h => nomatch h)⟩, by simp⟩
def BytesR (bad : Bool) (l : List UInt8) (w : Value) (N : Hp) : Prop := ∃ sv, w = .tuple #[sv, .bool (!bad)] ∧ RdS 1 sv N (if bad then [] else l).length (bytesV (if bad then [] else l))
theorem bytesR_bad {l : List UInt8} {b : Bool} (h : b = true) : BytesR b l (.tuple #[.slice none 0 0, .bool false]) [] := by subst h; exact ⟨_, rfl, rfl, .inl ⟨rfl, _, _, rfl⟩⟩
theorem vEncode (vh : Value) (A : Hp) (l : List HV) (hr : RdS 5 vh A l.length (recsV HV.row l)) (hok : okH l) (hn : l.length ≤ 1000) (hsz : szL l ≤ 100000) (pp : Option Addr) (pc : Nat) (data : List UInt8) (hrp : RdS 1 (.slice pp data.length pc) A data.length (bytesV data)) (hpl : data.length ≤ 50000) : FnA Tryz.prog 6 [.agg #[vh, .slice pp data.length pc]] A (BytesR (l.any badH) (msgB l data)) := by
 refine FnA.enter (n := 16) Tryz.func6 rfl rfl fun w0 => ?_
 refine WC.sub (fr' := [(0, _)]) ?_ ⟨rfl, trivial⟩
 refine WC.seq (WC.region ?_)
 refine WL.box rfl rfl rfl fun xb hxb => ?_
 refine WL.q (oq_assign rfl) rfl rfl rfl ?_
 refine WL.q (oq_assign rfl) rfl rfl rfl ?_
 refine WL.nil (WE.then_normal (WC.sub (fr' := [(1, _)]) ?_ ⟨rfl, trivial⟩))
 refine WC.seq (WC.region ?_)
 refine WL.alloc ty39 rfl rfl fun ob hob => ?_
 refine WL.nil (WE.then_normal (WC.sub (fr' := [(1, _), (4, _)]) ?_ ⟨rfl, rfl, trivial⟩))
 refine WC.seq (WC.seq ?_)
 refine WC.gate 8 ([(xb, .cells #[vh, .slice pp data.length pc] 30 (0, 0))]) (by kernel_rfl) ?_
 refine WG.q 1 [] rfl (.tail _ (.head _)) (fun w0 => oq_makeI conc45 rfl) rfl rfl rfl ?_
 refine WG.q 2 [4, 3] rfl (.tail _ (.head _)) (fun w0 => oq_fieldAddr fld30_0 rfl) rfl rfl rfl ?_
 refine WG.q 3 [4] rfl (.tail _ (.head _)) (fun w0 => oq_load flat28 rfl (.head _) (List.mem_singleton.2 rfl) rfl) rfl rfl rfl ?_
 refine WG.q 5 [7, 6] rfl (.tail _ (.head _)) (fun w0 => oq_fieldAddr fld30_1 rfl) rfl rfl rfl ?_
 refine WG.q 6 [7] rfl (.tail _ (.head _)) (fun w0 => oq_load flat25 rfl (.head _) (List.mem_singleton.2 rfl) rfl) rfl rfl rfl ?_
 refine WG.step (i := 0) (by kernel_rfl) rfl ?_
 refine WL.callA0 (newEncoder) call13 rfl rfl rfl fun v2_0 N2_0 hR2_0 hN2_0 => ?_
 obtain ⟨eb, b1, b2, rfl, rfl⟩ := hR2_0
 have heb := hN2_0 eb _ (List.mem_append_left _ (List.mem_append_left _ (List.mem_singleton.2 rfl)))
 have hb1 := hN2_0 b1 _ (List.mem_append_left _ (List.mem_append_right _ (List.mem_singleton.2 rfl)))
 have hb2 := hN2_0 b2 _ (List.mem_append_right _ (List.mem_singleton.2 rfl))
 refine WL.nil ?_
 refine WE.toG (.tail _ (.tail _ (.head _))) ?_
 refine WG.step (i := 4) (by kernel_rfl) rfl ?_
 refine WL.f3 ?_
 refine WL.callA (headersFor vh A l hr hok (by omega)) call15 rfl rfl rfl fun v2_4 N2_4 hR2_4 hN2_4 => ?_
 obtain ⟨ps0, M0, Z0, hN0, hr0, hp0⟩ := hR2_4
 obtain ⟨pv, cv, rfl⟩ := hr0.shape
 have hR2_4 : HsOk l (.slice pv ps0.length cv) N2_4 := ⟨ps0, M0, Z0, hN0, hr0, hp0⟩
 refine WL.nil ?_
 refine WE.toG (.tail _ (.tail _ (.tail _ (.tail _ (.head _))))) ?_
 refine WG.q 7 [] rfl (.tail _ (.tail _ (.tail _ (.tail _ (.head _))))) (fun w0 => oq_build #[_, _] str50 ty50 rfl rfl) rfl rfl rfl ?_
 refine WG.step (i := 8) (by kernel_rfl) rfl ?_
 refine WL.f1 ?_
 refine WL.f1 ?_
 refine WL.f3 ?_
 refine WL.f3 ?_
 refine WL.callW4 (encodeG _ eb ob [] _ _ ⟨b1, b2, _, _, [], [], rfl, bufG_nil _ b1 0, bufG_nil _ b2 0, hb1, hb2⟩ (bufG_nil _ ob 0) _ _ l hR2_4 hok hn hsz (.slice pp data.length pc) A data hrp hpl (by simp)) call14 rfl rfl rfl fun v2_8 Hs2_8 hR2_8 => ?_
 obtain ⟨EG2, O2, c, rfl, hEG, hOc, hei, he0, he1⟩ := hR2_8
 refine WL.to4 ?_
 refine WL.nil ?_
 refine WE.toG0 (by kernel_rfl) ?_
 refine WG.p 9 rfl (.inl (by kernel_rfl)) (fun w0 => oq_ineq Tryz.underlying41 rfl (hei)) rfl rfl rfl ?_
 refine WG.done (by kernel_rfl) ?_
 refine WE.then_normal (WC.sub (fr' := [(4, _), (14, _)]) ?_ ⟨rfl, rfl, trivial⟩)
 refine WC.cond rfl (fun q2 => ?_) (fun q2 => ?_)
 ·
  try simp only [Z1, Z2, Z3, Z4, Z5, Z6, Z7, Z8, Z9, Z0] at q2
  refine WC.seq (WC.region ?_)
  refine WL.q (oq_assign rfl) rfl rfl rfl ?_
  refine WL.q (oq_assign rfl) rfl rfl rfl ?_
  refine WL.nil (WE.then_normal (WC.sub (fr' := [(2, _), (3, _)]) ?_ ⟨rfl, rfl, trivial⟩))
  refine WC.ret (WE.then_ret ?_)
  refine WE.forget (hEG.fresh heb) ?_
  refine WE.forget (bufG_fresh hOc hob) ?_
  refine WE.forget hN2_4 ?_
  refine WE.f1 ?_
  refine WE.lose hxb ?_
  refine WE.add0 ?_
  refine WE.endA (.inl rfl) (res2 Tryz.results6 rfl rfl) ?_ fresh0
  exact bytesR_bad (he1 (by simpa using q2))
 ·
  try simp only [Z1, Z2, Z3, Z4, Z5, Z6, Z7, Z8, Z9, Z0] at q2
  refine WC.skip (WE.then_normal (WC.sub (fr' := [(4, _)]) ?_ ⟨rfl, trivial⟩))
  refine WC.seq ?_
  obtain ⟨hnb, hO2⟩ := he0 (by simpa using q2)
  rw [List.nil_append] at hO2
  obtain ⟨bv, hbf, hbr⟩ := bytesG _ ob _ O2 hO2
  refine WC.region ?_
  refine WL.qc (oq_callRm (hbf) (.tail _ (.head _)) call16 rfl) rfl rfl rfl ?_
  refine WL.q (oq_assign rfl) rfl rfl rfl ?_
  refine WL.q (oq_assign rfl) rfl rfl rfl ?_
  refine WL.nil (WE.then_normal (WC.sub (fr' := [(2, _), (3, _)]) ?_ ⟨rfl, rfl, trivial⟩))
  refine WC.ret ?_
  refine WE.forget (hEG.fresh heb) ?_
  refine WE.f1 ?_
  refine WE.forget hN2_4 ?_
  refine WE.f2 ?_
  refine WE.lose hxb ?_
  refine WE.endA (.inl rfl) (res2 Tryz.results6 rfl rfl) ?_ ((bufG_fresh hOc hob))
  exact ⟨_, by rw [hnb]; rfl, by rw [hnb]; exact hbr⟩
end EN
end Go.Proofs.YtpjeiimlglgklaaGreatDoor
/- What the guards of the law ask. -/
namespace Go.Proofs.YtpjeiimlglgklaaGreatDoor
open Go Go.RowKit V EA EB EC ED EE EF EG EH EI EJ EK EL EM EN
set_option linter.unusedSimpArgs false
set_option linter.unusedVariables false
set_option maxRecDepth 10000
namespace EO
theorem call22 : Callable Tryz.prog 22 := ⟨_, Tryz.func22, rfl, by kernel_rfl⟩
theorem call35 : Callable Tryz.prog 35 := ⟨_, Tryz.func35, rfl, by kernel_rfl⟩
theorem call49 : Callable Tryz.prog 49 := ⟨_, Tryz.func49, rfl, by kernel_rfl⟩
theorem flat9 : Flat Tryz.prog 9 := ⟨_, Tryz.underlying9, by simp⟩
theorem flat25 : Flat Tryz.prog 25 := ⟨_, Tryz.underlying25, by simp⟩
theorem flat28 : Flat Tryz.prog 28 := ⟨_, Tryz.underlying28, by simp⟩
theorem ty9 : Ty Tryz.prog 9 (S []) 1 16 := ty_of (by kernel_rfl)
theorem ty25 : Ty Tryz.prog 25 (.slice none 0 0) 1 24 := ty_of (by kernel_rfl)
theorem ty28 : Ty Tryz.prog 28 (.slice none 0 0) 1 24 := ty_of (by kernel_rfl)
theorem ty53 : Ty Tryz.prog 53 (.agg #[(.int .i64 0), (.int .i64 0), (.int .i64 0), (S [])]) 4 40 := ty_of (by kernel_rfl)
theorem ty55 : Ty Tryz.prog 55 (.agg #[(S []), (.int .i64 0), (.int .i64 0), (.int .i64 0), (S [])]) 5 56 := ty_of (by kernel_rfl)
theorem agg53 : Agg Tryz.prog 53 := agg_of Tryz.underlying53
theorem agg55 : Agg Tryz.prog 55 := agg_of Tryz.underlying55
theorem fld30_0 : Fld Tryz.prog 30 0 0 28 := fld_of Tryz.underlying30 rfl rfl rfl ty28 (by decide)
theorem fld30_1 : Fld Tryz.prog 30 1 1 25 := fld_of Tryz.underlying30 rfl rfl rfl ty25 (by decide)
theorem fld53_3 : Fld Tryz.prog 53 3 3 9 := fld_of Tryz.underlying53 rfl rfl rfl ty9 (by decide)
theorem fld55_0 : Fld Tryz.prog 55 0 0 9 := fld_of Tryz.underlying55 rfl rfl rfl ty9 (by decide)
theorem fld55_1 : Fld Tryz.prog 55 1 1 53 := fld_of Tryz.underlying55 rfl rfl rfl ty53 (by decide)
def fitH (h : HV) : Bool := decide (h.name.length ≤ 2147483647) && decide (h.text.length ≤ 2147483647)
def fitL (l : List HV) : Bool := decide (l.length ≤ 2147483647) && l.all fitH
def sumH (l : List HV) : Nat := (l.map fun h => h.name.length + h.text.length).sum
theorem sumH_snoc {l : List HV} {i : Nat} (hi : i < l.length) : sumH (l.take (i + 1)) = sumH (l.take i) + ((l.getD i HV0).name.length + (l.getD i HV0).text.length) := by
 rw [take_snoc hi]; simp [sumH]
theorem all_get {l : List HV} {f : HV → Bool} (h : l.all f = true) {i : Nat} (hi : i < l.length) : f (l.getD i HV0) = true := by
 rw [List.all_eq_true] at h
 refine h _ ?_
 rw [List.getD_eq_getElem?_getD, List.getElem?_eq_getElem hi]; exact List.getElem_mem hi
theorem all_not {l : List HV} {f : HV → Bool} {i : Nat} (hi : i < l.length) (h : f (l.getD i HV0) = false) : l.all f = false := by
 cases hb : l.all f with
 | false => rfl
 | true => rw [all_get hb hi] at h; cases h
theorem all_snoc {l : List HV} {f : HV → Bool} {i : Nat} (hi : i < l.length) (h : (l.take i).all f = true) (hb : f (l.getD i HV0) = true) : (l.take (i + 1)).all f = true := by
 rw [take_snoc hi, List.all_append, h, List.all_cons, hb]; rfl
theorem fitL_len {l : List HV} (h : fitL l = true) : l.length ≤ 2147483647 := by
 unfold fitL at h; rw [Bool.and_eq_true, decide_eq_true_eq] at h; exact h.1
theorem fitL_get {l : List HV} (h : fitL l = true) {i : Nat} (hi : i < l.length) : (l.getD i HV0).name.length ≤ 2147483647 ∧ (l.getD i HV0).text.length ≤ 2147483647 := by
 unfold fitL at h; rw [Bool.and_eq_true] at h
 have h2 := all_get h.2 hi
 unfold fitH at h2; rw [Bool.and_eq_true, decide_eq_true_eq, decide_eq_true_eq] at h2; exact h2
theorem sumH_le {l : List HV} (h : fitL l = true) : ∀ i, i ≤ l.length → sumH (l.take i) ≤ i * 4294967294
 | 0, _ => by simp [sumH]
 | i + 1, hi => by
  rw [sumH_snoc (by omega)]
  have h1 := sumH_le h i (by omega)
  have h2 := fitL_get h (show i < l.length by omega)
  omega
theorem fits6 (h : HV) : Fn0 Tryz.prog 49 [.agg #[I h.kind, I h.width, I h.int, S h.text]] (.bool (decide (h.text.length ≤ 2147483647))) := by
 refine Fn0.enter (n := 7) Tryz.func49 rfl rfl fun w0 => ?_
 refine WC.sub (fr' := [(0, _)]) ?_ ⟨rfl, trivial⟩
 refine WC.seq (WC.region ?_)
 refine WL.box rfl rfl rfl fun b0_0 hb0_0 => ?_
 refine WL.q (oq_assign rfl) rfl rfl rfl ?_
 refine WL.nil (WE.then_normal (WC.sub (fr' := [(1, _)]) ?_ ⟨rfl, trivial⟩))
 refine WC.seq (WC.seq (WC.region ?_))
 refine WL.q (oq_fieldAddr fld53_3 rfl) rfl rfl rfl ?_
 refine WL.q (oq_load flat9 rfl (.head _) (List.mem_singleton.2 rfl) rfl) rfl rfl rfl ?_
 refine WL.q (oq_len_s Tryz.underlying9 rfl) rfl rfl rfl ?_
 refine WL.q (oq_gtr rfl rfl) rfl rfl rfl ?_
 refine WL.nil (WE.then_normal (WC.sub (fr' := [(6, _)]) ?_ ⟨rfl, trivial⟩))
 refine WC.cond rfl (fun q1 => ?_) (fun q1 => ?_)
 ·
  try simp only [Z1, Z2, Z3, Z4, Z5, Z6, Z7, Z8, Z9, Z0] at q1
  refine WC.seq (WC.region ?_)
  refine WL.q (oq_assign rfl) rfl rfl rfl ?_
  refine WL.nil (WE.then_normal (WC.sub (fr' := [(2, _)]) ?_ ⟨rfl, trivial⟩))
  refine WC.ret (WE.then_ret ?_)
  refine WE.lose hb0_0 ?_
  refine WE.end0 (.inl rfl) (res1 Tryz.results49 rfl) ?_
  rw [decide_eq_false (by omega)]
 ·
  try simp only [Z1, Z2, Z3, Z4, Z5, Z6, Z7, Z8, Z9, Z0] at q1
  refine WC.skip (WE.then_normal (WC.sub (fr' := []) ?_ trivial))
  refine WC.seq (WC.region ?_)
  refine WL.q (oq_assign rfl) rfl rfl rfl ?_
  refine WL.nil (WE.then_normal (WC.sub (fr' := [(2, _)]) ?_ ⟨rfl, trivial⟩))
  refine WC.ret ?_
  refine WE.lose hb0_0 ?_
  refine WE.end0 (.inl rfl) (res1 Tryz.results49 rfl) ?_
  rw [decide_eq_true (by omega)]
theorem fits5 (h : HV) : Fn0 Tryz.prog 35 [.agg #[S h.name, I h.kind, I h.width, I h.int, S h.text]] (.bool (fitH h)) := by
 refine Fn0.enter (n := 11) Tryz.func35 rfl rfl fun w0 => ?_
 refine WC.sub (fr' := [(0, _)]) ?_ ⟨rfl, trivial⟩
 refine WC.seq (WC.region ?_)
 refine WL.box rfl rfl rfl fun b0_0 hb0_0 => ?_
 refine WL.q (oq_assign rfl) rfl rfl rfl ?_
 refine WL.nil (WE.then_normal (WC.sub (fr' := [(1, _)]) ?_ ⟨rfl, trivial⟩))
 refine WC.seq (WC.seq (WC.region ?_))
 refine WL.q (oq_fieldAddr fld55_0 rfl) rfl rfl rfl ?_
 refine WL.q (oq_load flat9 rfl (.head _) (List.mem_singleton.2 rfl) rfl) rfl rfl rfl ?_
 refine WL.q (oq_len_s Tryz.underlying9 rfl) rfl rfl rfl ?_
 refine WL.q (oq_gtr rfl rfl) rfl rfl rfl ?_
 refine WL.nil (WE.then_normal (WC.sub (fr' := [(1, _), (6, _)]) ?_ ⟨rfl, rfl, trivial⟩))
 refine WC.cond rfl (fun q1 => ?_) (fun q1 => ?_)
 ·
  try simp only [Z1, Z2, Z3, Z4, Z5, Z6, Z7, Z8, Z9, Z0] at q1
  refine WC.seq (WC.region ?_)
  refine WL.q (oq_assign rfl) rfl rfl rfl ?_
  refine WL.nil (WE.then_normal (WC.sub (fr' := [(2, _)]) ?_ ⟨rfl, trivial⟩))
  refine WC.ret (WE.then_ret ?_)
  refine WE.lose hb0_0 ?_
  refine WE.end0 (.inl rfl) (res1 Tryz.results35 rfl) ?_
  unfold fitH; rw [decide_eq_false (by omega)]; rfl
 ·
  try simp only [Z1, Z2, Z3, Z4, Z5, Z6, Z7, Z8, Z9, Z0] at q1
  refine WC.skip (WE.then_normal (WC.sub (fr' := [(1, _)]) ?_ ⟨rfl, trivial⟩))
  refine WC.seq (WC.seq (WC.region ?_))
  refine WL.q (oq_fieldAddr fld55_1 rfl) rfl rfl rfl ?_
  refine WL.q (oq_loadS [_, _, _, _] agg53 ty53 rfl (.head _) (List.mem_singleton.2 rfl) rfl rfl) rfl rfl rfl ?_
  refine WL.qc (oq_call (fits6 h) call49 rfl) rfl rfl rfl ?_
  refine WL.q (oq_not rfl) rfl rfl rfl ?_
  refine WL.nil (WE.then_normal (WC.sub (fr' := [(10, _)]) ?_ ⟨rfl, trivial⟩))
  refine WC.cond rfl (fun q3 => ?_) (fun q3 => ?_)
  ·
   try simp only [Z1, Z2, Z3, Z4, Z5, Z6, Z7, Z8, Z9, Z0] at q3
   refine WC.seq (WC.region ?_)
   refine WL.q (oq_assign rfl) rfl rfl rfl ?_
   refine WL.nil (WE.then_normal (WC.sub (fr' := [(2, _)]) ?_ ⟨rfl, trivial⟩))
   refine WC.ret (WE.then_ret ?_)
   refine WE.lose hb0_0 ?_
   refine WE.end0 (.inl rfl) (res1 Tryz.results35 rfl) ?_
   unfold fitH; rw [show decide (h.text.length ≤ 2147483647) = false by simpa using q3, Bool.and_false]
  ·
   try simp only [Z1, Z2, Z3, Z4, Z5, Z6, Z7, Z8, Z9, Z0] at q3
   refine WC.skip (WE.then_normal (WC.sub (fr' := []) ?_ trivial))
   refine WC.seq (WC.region ?_)
   refine WL.q (oq_assign rfl) rfl rfl rfl ?_
   refine WL.nil (WE.then_normal (WC.sub (fr' := [(2, _)]) ?_ ⟨rfl, trivial⟩))
   refine WC.ret ?_
   refine WE.lose hb0_0 ?_
   refine WE.end0 (.inl rfl) (res1 Tryz.results35 rfl) ?_
   unfold fitH; rw [show decide (h.text.length ≤ 2147483647) = true by simpa using q3, decide_eq_true (by omega)]; rfl
theorem fits4 (v : Value) (A : Hp) (l : List HV) (hr : RdS 5 v A l.length (recsV HV.row l)) : FnR Tryz.prog 22 [v] A (.bool (fitL l)) := by
 refine FnR.enter (n := 18) Tryz.func22 rfl rfl fun w0 => ?_
 refine WC.sub (fr' := [(0, _)]) ?_ ⟨rfl, trivial⟩
 refine WC.seq (WC.region ?_)
 refine WL.q (oq_assign rfl) rfl rfl rfl ?_
 refine WL.nil (WE.then_normal (WC.sub (fr' := [(0, _)]) ?_ ⟨rfl, trivial⟩))
 refine WC.seq (WC.seq (WC.region ?_))
 refine WL.q (oq_move rfl) rfl rfl rfl ?_
 refine WL.q (oq_len_rd hr Tryz.underlying28 rfl) rfl rfl rfl ?_
 refine WL.q (oq_gtr rfl rfl) rfl rfl rfl ?_
 refine WL.nil (WE.then_normal (WC.sub (fr' := [(0, _), (7, _)]) ?_ ⟨rfl, rfl, trivial⟩))
 refine WC.cond rfl (fun q1 => ?_) (fun q1 => ?_)
 ·
  try simp only [Z1, Z2, Z3, Z4, Z5, Z6, Z7, Z8, Z9, Z0] at q1
  refine WC.seq (WC.region ?_)
  refine WL.q (oq_assign rfl) rfl rfl rfl ?_
  refine WL.nil (WE.then_normal (WC.sub (fr' := [(2, _)]) ?_ ⟨rfl, trivial⟩))
  refine WC.ret (WE.then_ret ?_)
  refine WE.endR (.inl rfl) (res1 Tryz.results22 rfl) ?_
  unfold fitL; rw [decide_eq_false (by omega)]; rfl
 ·
  try simp only [Z1, Z2, Z3, Z4, Z5, Z6, Z7, Z8, Z9, Z0] at q1
  refine WC.skip (WE.then_normal (WC.sub (fr' := [(0, _)]) ?_ ⟨rfl, trivial⟩))
  refine WC.seq (WC.seq (WC.region ?_))
  refine WL.q (oq_move rfl) rfl rfl rfl ?_
  refine WL.q (oq_len_rd hr Tryz.underlying28 rfl) rfl rfl rfl ?_
  refine WL.q (oq_move rfl) rfl rfl rfl ?_
  refine WL.nil (WE.then_normal (WC.sub (fr' := [(8, _), (9, _), (10, _)]) ?_ ⟨rfl, rfl, rfl, trivial⟩))
  refine WC.block ?_
  refine WC.loop (ι := Nat) (fun (i : Nat) => [(8, v), (9, I (l.length : Int)), (10, I (i : Int))]) (fun (i : Nat) => [A]) (fun (i : Nat) => i ≤ l.length ∧ (l.take i).all fitH = true) (fun (i : Nat) => l.length - i) (0) ?_ ⟨rfl, rfl, rfl, trivial⟩ (List.Perm.refl _) ?_
  ·try dsimp only
   exact ⟨by omega, rfl⟩
  ·rintro i hp
   try dsimp only at hp
   obtain ⟨hi, hall⟩ := hp
   show WC _ _ _ _ _ _ ([(8, v), (9, I (l.length : Int)), (10, I (i : Int))]) ([A])
   refine WC.seq (WC.region ?_)
   refine WL.q (oq_lss rfl rfl) rfl rfl rfl ?_
   refine WL.nil (WE.then_normal (WC.sub (fr' := [(8, _), (9, _), (10, _), (11, _)]) ?_ ⟨rfl, rfl, rfl, rfl, trivial⟩))
   refine WC.seq ?_
   refine WC.cond rfl (fun q4 => ?_) (fun q4 => ?_)
   ·
    try simp only [Z1, Z2, Z3, Z4, Z5, Z6, Z7, Z8, Z9, Z0] at q4
    refine WC.skip (WE.then_normal (WC.sub (fr' := [(8, _), (9, _), (10, _)]) ?_ ⟨rfl, rfl, rfl, trivial⟩))
    refine WC.seq (WC.block (WC.seq (WC.region ?_)))
    refine WL.q (oq_ixaddr hr Tryz.underlying28 ty55 rfl rfl (by (first | omega | (simp only [List.length_cons, List.length_nil, List.length_append, List.length_drop, List.length_take]; omega)))) rfl rfl rfl ?_
    refine WL.q (oq_loadEl (f := HV.row) HV0 [_, _, _, _, _] (fun _ => rfl) agg55 ty55 hr (.head _) rfl (by (first | omega | (simp only [List.length_cons, List.length_nil, List.length_append, List.length_drop, List.length_take]; omega))) (by first | exact Int.toNat_natCast _ | exact rfl) rfl) rfl rfl rfl ?_
    refine WL.alloc ty55 rfl rfl fun b5_2 hb5_2 => ?_
    refine WL.storeS #[_, _, _, _, _] ty55 rfl rfl rfl rfl (Nat.le_of_ble_eq_true rfl) rfl rfl ?_
    refine WL.nil (WE.then_normal (WC.sub (fr' := [(4, _), (8, _), (9, _), (10, _)]) ?_ ⟨rfl, rfl, rfl, rfl, trivial⟩))
    refine WC.seq (WC.region ?_)
    refine WL.q (oq_loadS [_, _, _, _, _] agg55 ty55 rfl (.head _) (List.mem_singleton.2 rfl) rfl rfl) rfl rfl rfl ?_
    refine WL.qc (oq_call (fits5 (l.getD i HV0)) call35 rfl) rfl rfl rfl ?_
    refine WL.q (oq_not rfl) rfl rfl rfl ?_
    refine WL.nil (WE.then_normal (WC.sub (fr' := [(8, _), (9, _), (10, _), (16, _)]) ?_ ⟨rfl, rfl, rfl, rfl, trivial⟩))
    refine WC.cond rfl (fun q6 => ?_) (fun q6 => ?_)
    ·
     try simp only [Z1, Z2, Z3, Z4, Z5, Z6, Z7, Z8, Z9, Z0] at q6
     refine WC.seq (WC.region ?_)
     refine WL.q (oq_assign rfl) rfl rfl rfl ?_
     refine WL.nil (WE.then_normal (WC.sub (fr' := [(2, _)]) ?_ ⟨rfl, trivial⟩))
     refine WC.ret (WE.block_ret (WE.then_ret (WE.then_ret (WE.block_ret (WE.then_ret ?_)))))
     refine WE.lose hb5_2 ?_
     refine WE.endR (.inl rfl) (res1 Tryz.results22 rfl) ?_
     unfold fitL; rw [all_not (show i < l.length by omega) (by simpa using q6), Bool.and_false]
    ·
     try simp only [Z1, Z2, Z3, Z4, Z5, Z6, Z7, Z8, Z9, Z0] at q6
     refine WC.skip (WE.block_normal (WE.then_normal (WC.sub (fr' := [(8, _), (9, _), (10, _)]) ?_ ⟨rfl, rfl, rfl, trivial⟩)))
     refine WC.region ?_
     refine WL.q (oq_add rfl rfl (by rw [i64_lo, i64_hi]; (first | omega | (simp only [List.length_cons, List.length_nil, List.length_append, List.length_drop, List.length_take]; omega)))) rfl rfl rfl ?_
     refine WL.q (oq_move rfl) rfl rfl rfl ?_
     refine WL.nil ?_
     refine WE.lose hb5_2 ?_
     refine WE.again (i + 1) ?_ ?_ ⟨rfl, rfl, rfl, trivial⟩ (List.Perm.refl _)
     ·try dsimp only
      exact ⟨by omega, all_snoc (by omega) hall (by simpa using q6)⟩
     ·(try dsimp only); omega
   ·
    try simp only [Z1, Z2, Z3, Z4, Z5, Z6, Z7, Z8, Z9, Z0] at q4
    refine WC.exit (WE.then_exit (WE.then_exit (WE.block_same (WE.then_normal (WC.sub (fr' := []) ?_ trivial)))))
    refine WC.seq (WC.region ?_)
    refine WL.q (oq_assign rfl) rfl rfl rfl ?_
    refine WL.nil (WE.then_normal (WC.sub (fr' := [(2, _)]) ?_ ⟨rfl, trivial⟩))
    refine WC.ret ?_
    refine WE.endR (.inl rfl) (res1 Tryz.results22 rfl) ?_
    obtain rfl : i = l.length := by omega
    rw [List.take_length] at hall
    unfold fitL; rw [hall, decide_eq_true (by omega)]; rfl
theorem fits3 (vh : Value) (A : Hp) (l : List HV) (hr : RdS 5 vh A l.length (recsV HV.row l)) (pp : Option Addr) (pc n : Nat) : FnR Tryz.prog 12 [.agg #[vh, .slice pp n pc]] A (.bool (fitL l && decide (n ≤ 2147483647))) := by
 refine FnR.enter (n := 11) Tryz.func12 rfl rfl fun w0 => ?_
 refine WC.sub (fr' := [(0, _)]) ?_ ⟨rfl, trivial⟩
 refine WC.seq (WC.region ?_)
 refine WL.box rfl rfl rfl fun b0_0 hb0_0 => ?_
 refine WL.q (oq_assign rfl) rfl rfl rfl ?_
 refine WL.nil (WE.then_normal (WC.sub (fr' := [(1, _)]) ?_ ⟨rfl, trivial⟩))
 refine WC.seq (WC.seq (WC.region ?_))
 refine WL.q (oq_fieldAddr fld30_0 rfl) rfl rfl rfl ?_
 refine WL.q (oq_load flat28 rfl (.head _) (List.mem_singleton.2 rfl) rfl) rfl rfl rfl ?_
 refine WL.qc (oq_callRm (fits4 vh A l hr) (.tail _ (.head _)) call22 rfl) rfl rfl rfl ?_
 refine WL.q (oq_not rfl) rfl rfl rfl ?_
 refine WL.nil (WE.then_normal (WC.sub (fr' := [(1, _), (6, _)]) ?_ ⟨rfl, rfl, trivial⟩))
 refine WC.cond rfl (fun q1 => ?_) (fun q1 => ?_)
 ·
  try simp only [Z1, Z2, Z3, Z4, Z5, Z6, Z7, Z8, Z9, Z0] at q1
  refine WC.seq (WC.region ?_)
  refine WL.q (oq_assign rfl) rfl rfl rfl ?_
  refine WL.nil (WE.then_normal (WC.sub (fr' := [(2, _)]) ?_ ⟨rfl, trivial⟩))
  refine WC.ret (WE.then_ret ?_)
  refine WE.lose hb0_0 ?_
  refine WE.endR (.inl rfl) (res1 Tryz.results12 rfl) ?_
  rw [show fitL l = false by simpa using q1]; rfl
 ·
  try simp only [Z1, Z2, Z3, Z4, Z5, Z6, Z7, Z8, Z9, Z0] at q1
  refine WC.skip (WE.then_normal (WC.sub (fr' := [(1, _)]) ?_ ⟨rfl, trivial⟩))
  refine WC.seq (WC.seq (WC.region ?_))
  refine WL.q (oq_fieldAddr fld30_1 rfl) rfl rfl rfl ?_
  refine WL.q (oq_load flat25 rfl (.head _) (List.mem_singleton.2 rfl) rfl) rfl rfl rfl ?_
  refine WL.q (oq_len_sl Tryz.underlying25 rfl) rfl rfl rfl ?_
  refine WL.q (oq_gtr rfl rfl) rfl rfl rfl ?_
  refine WL.nil (WE.then_normal (WC.sub (fr' := [(10, _)]) ?_ ⟨rfl, trivial⟩))
  refine WC.cond rfl (fun q3 => ?_) (fun q3 => ?_)
  ·
   try simp only [Z1, Z2, Z3, Z4, Z5, Z6, Z7, Z8, Z9, Z0] at q3
   refine WC.seq (WC.region ?_)
   refine WL.q (oq_assign rfl) rfl rfl rfl ?_
   refine WL.nil (WE.then_normal (WC.sub (fr' := [(2, _)]) ?_ ⟨rfl, trivial⟩))
   refine WC.ret (WE.then_ret ?_)
   refine WE.lose hb0_0 ?_
   refine WE.endR (.inl rfl) (res1 Tryz.results12 rfl) ?_
   rw [decide_eq_false (by omega), Bool.and_false]
  ·
   try simp only [Z1, Z2, Z3, Z4, Z5, Z6, Z7, Z8, Z9, Z0] at q3
   refine WC.skip (WE.then_normal (WC.sub (fr' := []) ?_ trivial))
   refine WC.seq (WC.region ?_)
   refine WL.q (oq_assign rfl) rfl rfl rfl ?_
   refine WL.nil (WE.then_normal (WC.sub (fr' := [(2, _)]) ?_ ⟨rfl, trivial⟩))
   refine WC.ret ?_
   refine WE.lose hb0_0 ?_
   refine WE.endR (.inl rfl) (res1 Tryz.results12 rfl) ?_
   rw [show fitL l = true by simpa using q1, decide_eq_true (by omega)]; rfl
theorem sized (vh : Value) (A : Hp) (l : List HV) (hr : RdS 5 vh A l.length (recsV HV.row l)) (pp : Option Addr) (pc n : Nat) (hf : fitL l = true) : FnR Tryz.prog 7 [.agg #[vh, .slice pp n pc]] A (.bool (decide (l.length ≤ 100) && decide (sumH l ≤ 70000) && decide (n ≤ 5000))) := by
 have hln := fitL_len hf
 refine FnR.enter (n := 44) Tryz.func7 rfl rfl fun w0 => ?_
 refine WC.sub (fr' := [(0, _)]) ?_ ⟨rfl, trivial⟩
 refine WC.seq (WC.region ?_)
 refine WL.box rfl rfl rfl fun xb hxb => ?_
 refine WL.q (oq_assign rfl) rfl rfl rfl ?_
 refine WL.nil (WE.then_normal (WC.sub (fr' := [(1, _)]) ?_ ⟨rfl, trivial⟩))
 refine WC.seq (WC.region ?_)
 refine WL.q (oq_assign rfl) rfl rfl rfl ?_
 refine WL.nil (WE.then_normal (WC.sub (fr' := [(1, _), (3, _)]) ?_ ⟨rfl, rfl, trivial⟩))
 refine WC.seq (WC.seq (WC.region ?_))
 refine WL.q (oq_assign rfl) rfl rfl rfl ?_
 refine WL.nil (WE.then_normal (WC.sub (fr' := [(1, _), (3, _), (4, _)]) ?_ ⟨rfl, rfl, rfl, trivial⟩))
 refine WC.block ?_
 refine WC.loop (ι := Nat) (fun (i : Nat) => [(1, Pt xb 0), (3, I (sumH (l.take i) : Int)), (4, I (i : Int))]) (fun (i : Nat) => [[(xb, .cells #[vh, .slice pp n pc] 30 (0, 0))], A]) (fun (i : Nat) => i ≤ l.length) (fun (i : Nat) => l.length - i) (0) ?_ ⟨rfl, rfl, rfl, trivial⟩ (List.Perm.refl _) ?_
 ·try dsimp only
  omega
 ·rintro i hp
  try dsimp only at hp
  obtain hi := hp
  show WC _ _ _ _ _ _ ([(1, Pt xb 0), (3, I (sumH (l.take i) : Int)), (4, I (i : Int))]) ([[(xb, .cells #[vh, .slice pp n pc] 30 (0, 0))], A])
  refine WC.seq (WC.seq (WC.region ?_))
  refine WL.q (oq_move rfl) rfl rfl rfl ?_
  refine WL.q (oq_fieldAddr fld30_0 rfl) rfl rfl rfl ?_
  refine WL.q (oq_load flat28 rfl (.head _) (List.mem_singleton.2 rfl) rfl) rfl rfl rfl ?_
  refine WL.q (oq_len_rd hr Tryz.underlying28 rfl) rfl rfl rfl ?_
  refine WL.q (oq_lss rfl rfl) rfl rfl rfl ?_
  refine WL.nil (WE.then_normal (WC.sub (fr' := [(1, _), (3, _), (4, _), (9, _)]) ?_ ⟨rfl, rfl, rfl, rfl, trivial⟩))
  refine WC.cond rfl (fun q3 => ?_) (fun q3 => ?_)
  ·
   try simp only [Z1, Z2, Z3, Z4, Z5, Z6, Z7, Z8, Z9, Z0] at q3
   refine WC.skip (WE.then_normal (WC.sub (fr' := [(1, _), (3, _), (4, _)]) ?_ ⟨rfl, rfl, rfl, trivial⟩))
   refine WC.seq (WC.block ?_)
   have hlt : i < l.length := by omega
   have hfg := fitL_get hf hlt
   have hsm := sumH_le hf i (by omega)
   refine WC.quiet (by kernel_rfl) (by kernel_rfl) ?_
   refine WQ.q (oq_move rfl) rfl rfl rfl ?_
   refine WQ.q (oq_fieldAddr fld30_0 rfl) rfl rfl rfl ?_
   refine WQ.q (oq_load flat28 rfl (.head _) (List.mem_singleton.2 rfl) rfl) rfl rfl rfl ?_
   refine WQ.q (oq_move rfl) rfl rfl rfl ?_
   refine WQ.q (oq_ixaddr hr Tryz.underlying28 ty55 rfl rfl (by (first | omega | (simp only [List.length_cons, List.length_nil, List.length_append, List.length_drop, List.length_take]; omega)))) rfl rfl rfl ?_
   refine WQ.q (oq_fldEl fld55_0 hr rfl (by (first | omega | (simp only [List.length_cons, List.length_nil, List.length_append, List.length_drop, List.length_take]; omega)))) rfl rfl rfl ?_
   refine WQ.q (oq_loadF (f := HV.row) HV0 (fun _ => rfl) flat9 hr (.tail _ (.head _)) rfl (by (first | omega | (simp only [List.length_cons, List.length_nil, List.length_append, List.length_drop, List.length_take]; omega))) (by first | exact Int.toNat_natCast _ | exact rfl) (by decide) rfl) rfl rfl rfl ?_
   refine WQ.q (oq_len_s Tryz.underlying9 rfl) rfl rfl rfl ?_
   refine WQ.q (oq_add rfl rfl (by rw [i64_lo, i64_hi]; (first | omega | (simp only [List.length_cons, List.length_nil, List.length_append, List.length_drop, List.length_take]; omega)))) rfl rfl rfl ?_
   refine WQ.q (oq_fieldAddr fld30_0 rfl) rfl rfl rfl ?_
   refine WQ.q (oq_load flat28 rfl (.head _) (List.mem_singleton.2 rfl) rfl) rfl rfl rfl ?_
   refine WQ.q (oq_move rfl) rfl rfl rfl ?_
   refine WQ.q (oq_ixaddr hr Tryz.underlying28 ty55 rfl rfl (by (first | omega | (simp only [List.length_cons, List.length_nil, List.length_append, List.length_drop, List.length_take]; omega)))) rfl rfl rfl ?_
   refine WQ.q (oq_fldEl fld55_1 hr rfl (by (first | omega | (simp only [List.length_cons, List.length_nil, List.length_append, List.length_drop, List.length_take]; omega)))) rfl rfl rfl ?_
   refine WQ.q (oq_fldElF fld53_3 hr rfl (by (first | omega | (simp only [List.length_cons, List.length_nil, List.length_append, List.length_drop, List.length_take]; omega)))) rfl rfl rfl ?_
   refine WQ.q (oq_loadF (f := HV.row) HV0 (fun _ => rfl) flat9 hr (.tail _ (.head _)) rfl (by (first | omega | (simp only [List.length_cons, List.length_nil, List.length_append, List.length_drop, List.length_take]; omega))) (by first | exact Int.toNat_natCast _ | exact rfl) (by decide) rfl) rfl rfl rfl ?_
   refine WQ.q (oq_len_s Tryz.underlying9 rfl) rfl rfl rfl ?_
   refine WQ.q (oq_add rfl rfl (by rw [i64_lo, i64_hi]; (first | omega | (simp only [List.length_cons, List.length_nil, List.length_append, List.length_drop, List.length_take]; omega)))) rfl rfl rfl ?_
   refine WQ.q (oq_assign rfl) rfl rfl rfl ?_
   refine WQ.nil (WE.block_normal (WE.then_normal (WC.sub (fr' := [(1, _), (3, _), (4, _)]) ?_ ⟨rfl, rfl, rfl, trivial⟩)))
   refine WC.region ?_
   refine WL.q (oq_move rfl) rfl rfl rfl ?_
   refine WL.q (oq_add rfl rfl (by rw [i64_lo, i64_hi]; (first | omega | (simp only [List.length_cons, List.length_nil, List.length_append, List.length_drop, List.length_take]; omega)))) rfl rfl rfl ?_
   refine WL.q (oq_assign rfl) rfl rfl rfl ?_
   refine WL.nil ?_
   refine WE.again (i + 1) ?_ ?_ ⟨rfl, (gti rfl (by (try dsimp only); rw [sumH_snoc hlt]; omega)), rfl, trivial⟩ (List.Perm.refl _)
   ·try dsimp only
    omega
   ·(try dsimp only); omega
  ·
   try simp only [Z1, Z2, Z3, Z4, Z5, Z6, Z7, Z8, Z9, Z0] at q3
   refine WC.exit (WE.then_exit (WE.then_exit (WE.block_same (WE.then_normal (WC.sub (fr' := [(1, _), (3, _)]) ?_ ⟨rfl, rfl, trivial⟩)))))
   refine WC.seq ?_
   obtain rfl : i = l.length := by omega
   rw [List.take_length]
   refine WC.region ?_
   refine WL.q (oq_fieldAddr fld30_0 rfl) rfl rfl rfl ?_
   refine WL.q (oq_load flat28 rfl (.head _) (List.mem_singleton.2 rfl) rfl) rfl rfl rfl ?_
   refine WL.q (oq_len_rd hr Tryz.underlying28 rfl) rfl rfl rfl ?_
   refine WL.q (oq_leq rfl rfl) rfl rfl rfl ?_
   refine WL.q (oq_move rfl) rfl rfl rfl ?_
   refine WL.split 34 rfl (fun s6_4 => ?_) (fun s6_4 => ?_)
   ·
    try simp only [Z1, Z2, Z3, Z4, Z5, Z6, Z7, Z8, Z9, Z0] at s6_4
    refine WL.q (oq_move rfl) rfl rfl rfl ?_
    refine WL.q (oq_leq rfl rfl) rfl rfl rfl ?_
    refine WL.q (oq_pick_t rfl rfl) rfl rfl rfl ?_
    refine WL.q (oq_move rfl) rfl rfl rfl ?_
    refine WL.split 38 rfl (fun s6_8 => ?_) (fun s6_8 => ?_)
    ·
     try simp only [Z1, Z2, Z3, Z4, Z5, Z6, Z7, Z8, Z9, Z0] at s6_8
     refine WL.q (oq_fieldAddr fld30_1 rfl) rfl rfl rfl ?_
     refine WL.q (oq_load flat25 rfl (.head _) (List.mem_singleton.2 rfl) rfl) rfl rfl rfl ?_
     refine WL.q (oq_len_sl Tryz.underlying25 rfl) rfl rfl rfl ?_
     refine WL.q (oq_leq rfl rfl) rfl rfl rfl ?_
     refine WL.q (oq_pick_t rfl rfl) rfl rfl rfl ?_
     refine WL.q (oq_assign rfl) rfl rfl rfl ?_
     refine WL.nil (WE.then_normal (WC.sub (fr' := [(2, _)]) ?_ ⟨rfl, trivial⟩))
     refine WC.ret ?_
     refine WE.lose hxb ?_
     refine WE.endR (.inl rfl) (res1 Tryz.results7 rfl) ?_
     congr 1; rw [Bool.eq_iff_iff]; simp; omega
    ·
     try simp only [Z1, Z2, Z3, Z4, Z5, Z6, Z7, Z8, Z9, Z0] at s6_8
     refine WL.skip rfl rfl rfl ?_
     refine WL.skip rfl rfl rfl ?_
     refine WL.skip rfl rfl rfl ?_
     refine WL.skip rfl rfl rfl ?_
     refine WL.q (oq_pick_f rfl rfl) rfl rfl rfl ?_
     refine WL.q (oq_assign rfl) rfl rfl rfl ?_
     refine WL.nil (WE.then_normal (WC.sub (fr' := [(2, _)]) ?_ ⟨rfl, trivial⟩))
     refine WC.ret ?_
     refine WE.lose hxb ?_
     refine WE.endR (.inl rfl) (res1 Tryz.results7 rfl) ?_
     congr 1; rw [Bool.eq_iff_iff]; simp; omega
   ·
    try simp only [Z1, Z2, Z3, Z4, Z5, Z6, Z7, Z8, Z9, Z0] at s6_4
    refine WL.skip rfl rfl rfl ?_
    refine WL.skip rfl rfl rfl ?_
    refine WL.q (oq_pick_f rfl rfl) rfl rfl rfl ?_
    refine WL.q (oq_move rfl) rfl rfl rfl ?_
    refine WL.skip rfl rfl rfl ?_
    refine WL.skip rfl rfl rfl ?_
    refine WL.skip rfl rfl rfl ?_
    refine WL.skip rfl rfl rfl ?_
    refine WL.q (oq_pick_f rfl rfl) rfl rfl rfl ?_
    refine WL.q (oq_assign rfl) rfl rfl rfl ?_
    refine WL.nil (WE.then_normal (WC.sub (fr' := [(2, _)]) ?_ ⟨rfl, trivial⟩))
    refine WC.ret ?_
    refine WE.lose hxb ?_
    refine WE.endR (.inl rfl) (res1 Tryz.results7 rfl) ?_
    congr 1; rw [Bool.eq_iff_iff]; simp; omega
end EO
end Go.Proofs.YtpjeiimlglgklaaGreatDoor
/- The bytes of headers, as the reference tells them. -/
namespace Go.Proofs.YtpjeiimlglgklaaGreatDoor
open Go Go.RowKit V EA EB EC ED EE EF EG EH EI EJ EK EL EM EN EO
set_option linter.unusedSimpArgs false
set_option linter.unusedVariables false
set_option maxRecDepth 10000
namespace EP
theorem bytesV_app (xs ys : List UInt8) : bytesV xs ++ bytesV ys = bytesV (xs ++ ys) := by simp [bytesV]
end EP
end Go.Proofs.YtpjeiimlglgklaaGreatDoor
