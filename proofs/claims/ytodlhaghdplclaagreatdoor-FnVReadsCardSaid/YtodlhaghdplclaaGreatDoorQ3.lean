/- Readers with a sum, limited ones, reading in full. -/
import Derived.Test.YtodlhaghdplclaaGreatDoorQ2
namespace Go.Proofs.YtodlhaghdplclaaGreatDoor
open Go Go.RowKit V EA EB EC ED EL DC
set_option linter.unusedSimpArgs false
set_option linter.unusedVariables false
set_option maxRecDepth 10000
namespace DD
theorem call104 : Callable Tryz.prog 104 := ⟨_, Tryz.func104, rfl, by kernel_rfl⟩
theorem flat2 : Flat Tryz.prog 2 := ⟨_, Tryz.underlying2, by simp⟩
theorem flat99 : Flat Tryz.prog 99 := ⟨_, Tryz.underlying99, by simp⟩
theorem flat151 : Flat Tryz.prog 151 := ⟨_, Tryz.underlying151, by simp⟩
theorem flat166 : Flat Tryz.prog 166 := ⟨_, Tryz.underlying166, by simp⟩
theorem ty2 : Ty Tryz.prog 2 (.int .i64 0) 1 8 := ty_of (by kernel_rfl)
theorem ty5 : Ty Tryz.prog 5 (.int .u8 0) 1 1 := ty_of (by kernel_rfl)
theorem ty151 : Ty Tryz.prog 151 .nilIface 1 16 := ty_of (by kernel_rfl)
theorem ty166 : Ty Tryz.prog 166 .nilIface 1 16 := ty_of (by kernel_rfl)
theorem fld208_0 : Fld Tryz.prog 208 0 0 166 := fld_of Tryz.underlying208 rfl rfl rfl ty166 (by decide)
theorem fld208_1 : Fld Tryz.prog 208 1 1 2 := fld_of Tryz.underlying208 rfl rfl rfl ty2 (by decide)
theorem fld211_0 : Fld Tryz.prog 211 0 0 166 := fld_of Tryz.underlying211 rfl rfl rfl ty166 (by decide)
theorem fld211_1 : Fld Tryz.prog 211 1 1 151 := fld_of Tryz.underlying211 rfl rfl rfl ty151 (by decide)
def rdc (m : Nat) (rs : List UInt8) : Nat := if m ≤ rs.length then 0 else if rs = [] then 1 else 2
abbrev TB (tb : Nat) (k : TypeId) (r : Value) (hb : Nat) : Hp := [(tb, .cells #[.iface k r, .iface 153 (Pt hb 0)] 211 (0, 0))]
abbrev LB (lb : Nat) (k : TypeId) (r : Value) (N : Int) : Hp := [(lb, .cells #[.iface k r, I N] 208 (0, 0))]
theorem rd_put {bb off m c : Nat} {e : TypeId} {L x : List UInt8} (h : off + m ≤ L.length) (hx : x.length = m) (hmc : m ≤ c) : RdS 1 (Sl bb off m c) (Bf bb e (putB L off x)) x.length (bytesV x) := by
 have h1 := Sl.rd (b := bb) (off := off) (n := m) (c := c) (e := e) (l := putB L off x) (by rw [putB_len (by omega)]; exact h) hmc
 have h2 : (putB L off x).drop off = x ++ L.drop (off + x.length) := by
  unfold putB; rw [List.append_assoc, List.drop_left' (by rw [List.length_take]; omega)]
 rw [h2, List.take_left' hx] at h1
 rw [hx]; exact h1
theorem len_nil {l : List UInt8} : l.length = 0 ↔ l = [] := List.length_eq_zero_iff
theorem teeRead (base tb hb : Nat) (E : Hp) (kE : TypeId) (pE pU : Addr) (hS : Sn E kE pE pU) (k : TypeId) (r : Value) (f : FuncId) (Rt : List UInt8 → Hp → Prop) (hR : Rr base k r f E kE pE pU Rt) (bb off m c : Nat) (e : TypeId) (L : List UInt8) (hm0 : 0 < m) (hm : off + m ≤ L.length) (hmc : m ≤ c) (hl : L.length ≤ 9223372036854775807) (acc rs : List UInt8) (X : Hp) (hX : Rt rs X) (hrs : rs.length ≤ 1000000) : FnW Tryz.prog 201 [Pt tb 0, Sl bb off m c] base [[(tb, .cells #[.iface k r, .iface 153 (Pt hb 0)] 211 (0, 0))], X, [(hb, .cells #[U32 (crc acc)] 155 (0, 0))], Bf bb e L, E] (fun v Hs => ∃ X2, v = .tuple #[I ((min m rs.length : Nat) : Int), erv kE pE pU 0 (if rs = [] then 1 else 0)] ∧ Hs = [TB tb k r hb, X2, [(hb, .cells #[U32 (crc (acc ++ rs.take m))] 155 (0, 0))], Bf bb e (putB L off (rs.take m)), E] ∧ Rt (rs.drop m) X2) := by
 have htl : (rs.take m).length = min m rs.length := List.length_take
 refine FnW.enter (n := 36) Tryz.func201 rfl rfl fun w0 R0 hbase => ?_
 subst hbase
 show WC _ _ _ _ _ _ _ ([[(tb, .cells #[.iface k r, .iface 153 (Pt hb 0)] 211 (0, 0))], X, [(hb, .cells #[U32 (crc acc)] 155 (0, 0))], Bf bb e L, E, R0])
 refine WC.sub (fr' := [(0, _), (1, _)]) ?_ ⟨rfl, rfl, trivial⟩
 refine WC.seq (WC.region ?_)
 refine WL.q (oq_assign rfl) rfl rfl rfl ?_
 refine WL.q (oq_assign rfl) rfl rfl rfl ?_
 refine WL.nil (WE.then_normal (WC.sub (fr' := [(0, _), (1, _)]) ?_ ⟨rfl, rfl, trivial⟩))
 refine WC.seq (WC.region ?_)
 refine WL.q (oq_move rfl) rfl rfl rfl ?_
 refine WL.q (oq_nilCheck rfl) rfl rfl rfl ?_
 refine WL.q (oq_fieldAddr fld211_0 rfl) rfl rfl rfl ?_
 refine WL.q (oq_load flat166 rfl (.head _) (List.mem_singleton.2 rfl) rfl) rfl rfl rfl ?_
 refine WL.q (oq_move rfl) rfl rfl rfl ?_
 refine WL.f4 ?_
 refine WL.f4 ?_
 refine WL.f3 ?_
 refine WL.callWE (fun a w hf => ent_inv1 hR.inv rfl rfl hf w) (hR.run rs X bb e L off m c hX hm0 hm hmc hl hrs) rfl rfl rfl rfl fun v1_5 Hs1_5 hR1_5 => ?_
 obtain ⟨X2, rfl, rfl, hX2⟩ := hR1_5
 refine WL.app3 ?_
 refine WL.q (oq_move rfl) rfl rfl rfl ?_
 refine WL.q (oq_extract rfl rfl) rfl rfl rfl ?_
 refine WL.q (oq_extract rfl rfl) rfl rfl rfl ?_
 refine WL.q (oq_assign rfl) rfl rfl rfl ?_
 refine WL.q (oq_assign rfl) rfl rfl rfl ?_
 refine WL.nil (WE.then_normal (WC.sub (fr' := [(0, _), (1, _), (4, _), (5, _)]) ?_ ⟨rfl, rfl, rfl, rfl, trivial⟩))
 refine WC.seq (WC.seq (WC.region ?_))
 refine WL.q (oq_move rfl) rfl rfl rfl ?_
 refine WL.q (oq_gtr rfl rfl) rfl rfl rfl ?_
 refine WL.nil (WE.then_normal (WC.sub (fr' := [(0, _), (1, _), (4, _), (5, _), (18, _)]) ?_ ⟨rfl, rfl, rfl, rfl, rfl, trivial⟩))
 refine WC.cond rfl (fun q2 => ?_) (fun q2 => ?_)
 ·
  try simp only [Z1, Z2, Z3, Z4, Z5, Z6, Z7, Z8, Z9, Z0] at q2
  refine WC.seq ?_
  refine WC.tailM (pl := []) (ql := [_, _, _, _, _, _, _, _, _]) (tl := [_, _, _, _, _, _]) [] [0, 1, 2, 3, 4, 5, 6, 7, 8] 9 [10, 11, 12, 13, 14] (by kernel_rfl) (by kernel_rfl) (by kernel_rfl) (by kernel_rfl) (by kernel_rfl) (by kernel_rfl) (by decide) rfl rfl rfl (by decide) (by repeat (first | with_reducible exact QOk.body | with_reducible apply QOk.then | with_reducible apply QOk.block | exact QOk.body | apply QOk.then | apply QOk.block)) ?_
  refine WM.nil ?_
  refine WY.q (oq_move rfl) rfl rfl rfl ?_
  refine WY.q (oq_nilCheck rfl) rfl rfl rfl ?_
  refine WY.q (oq_fieldAddr fld211_1 rfl) rfl rfl rfl ?_
  refine WY.q (oq_load flat151 rfl (.tail _ (.tail _ (.tail _ (.head _)))) (List.mem_singleton.2 rfl) rfl) rfl rfl rfl ?_
  refine WY.q (oq_move rfl) rfl rfl rfl ?_
  refine WY.q (oq_move rfl) rfl rfl rfl ?_
  refine WY.q (oq_sliceSl (j := (min m rs.length)) Tryz.underlying28 ty5 rfl (by (first | omega | (rw [putB_len (by rw [List.length_take]; omega)]; omega))) rfl ⟨_, rfl⟩ (by (first | omega | (rw [putB_len (by rw [List.length_take]; omega)]; omega))) (by (first | omega | (rw [putB_len (by rw [List.length_take]; omega)]; omega)))) rfl rfl rfl ?_
  refine WY.q (oq_nilI rfl) rfl rfl rfl ?_
  refine WY.q (oq_move rfl) rfl rfl rfl ?_
  refine WY.nil ?_
  refine WL.f1 ?_
  refine WL.f4 ?_
  refine WL.callWE (fun a w hf => ent_inv1 invCW rfl rfl hf w) (crcWrite _ hb acc _ (Bf bb e (putB L off (rs.take m))) (rs.take m) (rd_put (m := min m rs.length) (by omega) htl (by omega)) (by omega)) rfl rfl rfl rfl fun v3_9 Hs3_9 hR3_9 => ?_
  obtain ⟨rfl, rfl⟩ := hR3_9
  refine WL.app2 ?_
  refine WL.q (oq_move rfl) rfl rfl rfl ?_
  refine WL.q (oq_extract rfl rfl) rfl rfl rfl ?_
  refine WL.q (oq_extract rfl rfl) rfl rfl rfl ?_
  refine WL.q (oq_assign rfl) rfl rfl rfl ?_
  refine WL.q (oq_assign rfl) rfl rfl rfl ?_
  refine WL.nil (WE.then_normal (WC.sub (fr' := [(4, _), (5, _), (6, _), (7, _)]) ?_ ⟨rfl, rfl, rfl, rfl, trivial⟩))
  refine WC.seq (WC.region ?_)
  refine WL.q (oq_move rfl) rfl rfl rfl ?_
  refine WL.q (oq_ineq Tryz.underlying99 rfl (.inl rfl)) rfl rfl rfl ?_
  refine WL.nil (WE.then_normal (WC.sub (fr' := [(4, _), (5, _), (6, _), (7, _), (33, _)]) ?_ ⟨rfl, rfl, rfl, rfl, rfl, trivial⟩))
  refine WC.cond rfl (fun q4 => ?_) (fun q4 => ?_)
  ·
   try simp only [Z1, Z2, Z3, Z4, Z5, Z6, Z7, Z8, Z9, Z0] at q4
   first | contradiction | (exfalso; omega) | (exfalso; simp_all; done)
  ·
   try simp only [Z1, Z2, Z3, Z4, Z5, Z6, Z7, Z8, Z9, Z0] at q4
   refine WC.skip (WE.then_normal (WC.sub (fr' := [(4, _), (5, _)]) ?_ ⟨rfl, rfl, trivial⟩))
   refine WC.ret ?_
   refine WE.f5 ?_
   refine WE.f4 ?_
   refine WE.f3 ?_
   refine WE.f3 ?_
   refine WE.f4 ?_
   refine WE.f5 ?_
   refine WE.endW5 (.inl rfl) (res2 Tryz.results201 rfl rfl) ?_
   exact ⟨X2, rfl, rfl, hX2⟩
 ·
  try simp only [Z1, Z2, Z3, Z4, Z5, Z6, Z7, Z8, Z9, Z0] at q2
  refine WC.skip (WE.then_normal (WC.sub (fr' := [(4, _), (5, _)]) ?_ ⟨rfl, rfl, trivial⟩))
  refine WC.ret ?_
  refine WE.f5 ?_
  refine WE.f3 ?_
  refine WE.f3 ?_
  refine WE.f5 ?_
  refine WE.f4 ?_
  refine WE.f5 ?_
  refine WE.endW5 (.inl rfl) (res2 Tryz.results201 rfl rfl) ?_
  have h0 : rs = [] := len_nil.1 (by omega)
  subst h0
  exact ⟨X2, rfl, by simp, hX2⟩
def TeeG (tb : Nat) (k : TypeId) (r : Value) (hb : Nat) (Rt : List UInt8 → Hp → Prop) (all rs : List UInt8) (G : Hp) : Prop := ∃ acc X, all = acc ++ rs ∧ G = (TB tb k r hb ++ X) ++ [(hb, .cells #[U32 (crc acc)] 155 (0, 0))] ∧ Rt rs X
theorem invTR : Inv1 Tryz.prog 209 "Read" 201 := fun x a w => by kernel_rfl
theorem nokTR (p : Addr) : NilOk Tryz.prog 209 (.pointer (some p)) "Read" := fun w => by kernel_rfl
theorem invLR : Inv1 Tryz.prog 205 "Read" 200 := fun x a w => by kernel_rfl
theorem nokLR (p : Addr) : NilOk Tryz.prog 205 (.pointer (some p)) "Read" := fun w => by kernel_rfl
theorem teeRr (base tb hb : Nat) (E : Hp) (kE : TypeId) (pE pU : Addr) (hS : Sn E kE pE pU) (k : TypeId) (r : Value) (f : FuncId) (Rt : List UInt8 → Hp → Prop) (hR : Rr base k r f E kE pE pU Rt) (all : List UInt8) : Rr base 209 (Pt tb 0) 201 E kE pE pU (TeeG tb k r hb Rt all) := by
 refine ⟨invTR, nokTR _, ?_⟩
 rintro rs G bb e L off m c ⟨acc, X, hal, rfl, hX⟩ h0 hm hmc hL hrs
 refine fw_perm (F := []) (teeRead base tb hb E kE pE pU hS k r f Rt hR bb off m c e L h0 hm hmc hL acc rs X hX hrs) (by simp) ?_
 rintro v Hs ⟨X2, rfl, rfl, hX2⟩
 exact ⟨_, ⟨_, rfl, rfl, acc ++ rs.take m, X2, by rw [List.append_assoc, List.take_append_drop, hal], rfl, hX2⟩, by simp⟩
theorem limRead (base lb N : Nat) (E : Hp) (kE : TypeId) (pE pU : Addr) (hS : Sn E kE pE pU) (k : TypeId) (r : Value) (f : FuncId) (Rt : List UInt8 → Hp → Prop) (hR : Rr base k r f E kE pE pU Rt) (bb off m c : Nat) (e : TypeId) (L : List UInt8) (hm0 : 0 < m) (hm : off + m ≤ L.length) (hmc : m ≤ c) (hl : L.length ≤ 9223372036854775807) (w : List UInt8) (X : Hp) (hX : Rt w X) (hrs : w.length ≤ 1000000) (hN : N ≤ 4294967296) : FnW Tryz.prog 200 [Pt lb 0, Sl bb off m c] base [[(lb, .cells #[.iface k r, I (N : Int)] 208 (0, 0))], X, Bf bb e L, E] (fun v Hs => ∃ X2, v = .tuple #[I ((min m (w.take N).length : Nat) : Int), erv kE pE pU 0 (if w.take N = [] then 1 else 0)] ∧ Hs = [LB lb k r ((N - min m (w.take N).length : Nat) : Int), X2, Bf bb e (putB L off ((w.take N).take m)), E] ∧ Rt (w.drop (min m (w.take N).length)) X2) := by
 obtain ⟨tE, fE, hEm⟩ := hS.eof
 have htl : (w.take N).length = min N w.length := List.length_take
 have hdt : (w.take N).take m = w.take (min m N) := List.take_take
 refine FnW.enter (n := 42) Tryz.func200 rfl rfl fun w0 R0 hbase => ?_
 subst hbase
 show WC _ _ _ _ _ _ _ ([[(lb, .cells #[.iface k r, I (N : Int)] 208 (0, 0))], X, Bf bb e L, E, R0])
 refine WC.sub (fr' := [(0, _), (1, _)]) ?_ ⟨rfl, rfl, trivial⟩
 refine WC.seq (WC.region ?_)
 refine WL.q (oq_assign rfl) rfl rfl rfl ?_
 refine WL.q (oq_assign rfl) rfl rfl rfl ?_
 refine WL.nil (WE.then_normal (WC.sub (fr' := [(0, _), (1, _)]) ?_ ⟨rfl, rfl, trivial⟩))
 refine WC.seq (WC.seq (WC.region ?_))
 refine WL.q (oq_move rfl) rfl rfl rfl ?_
 refine WL.q (oq_nilCheck rfl) rfl rfl rfl ?_
 refine WL.q (oq_fieldAddr fld208_1 rfl) rfl rfl rfl ?_
 refine WL.q (oq_load flat2 rfl (.head _) (List.mem_singleton.2 rfl) rfl) rfl rfl rfl ?_
 refine WL.q (oq_leq rfl rfl) rfl rfl rfl ?_
 refine WL.nil (WE.then_normal (WC.sub (fr' := [(0, _), (1, _), (10, _)]) ?_ ⟨rfl, rfl, rfl, trivial⟩))
 refine WC.cond rfl (fun q1 => ?_) (fun q1 => ?_)
 ·
  try simp only [Z1, Z2, Z3, Z4, Z5, Z6, Z7, Z8, Z9, Z0] at q1
  refine WC.seq (WC.quiet (by kernel_rfl) (by kernel_rfl) ?_)
  refine WQ.q (oq_load flat99 rfl (.tail _ (.tail _ (.tail _ (.head _)))) hEm rfl) rfl rfl rfl ?_
  refine WQ.q (oq_assign rfl) rfl rfl rfl ?_
  refine WQ.q (oq_assign rfl) rfl rfl rfl ?_
  refine WQ.nil (WE.then_normal (WC.sub (fr' := [(4, _), (5, _)]) ?_ ⟨rfl, rfl, trivial⟩))
  refine WC.ret (WE.then_ret ?_)
  refine WE.endW4 (.inl rfl) (res2 Tryz.results200 rfl rfl) ?_
  obtain rfl : N = 0 := by omega
  exact ⟨X, by simp; rfl, by simp [putB_nil], by simpa using hX⟩
 ·
  try simp only [Z1, Z2, Z3, Z4, Z5, Z6, Z7, Z8, Z9, Z0] at q1
  refine WC.skip (WE.then_normal (WC.sub (fr' := [(0, _), (1, _)]) ?_ ⟨rfl, rfl, trivial⟩))
  refine WC.seq (WC.seq (WC.region ?_))
  refine WL.q (oq_move rfl) rfl rfl rfl ?_
  refine WL.q (oq_len_sl Tryz.underlying28 rfl) rfl rfl rfl ?_
  refine WL.q (oq_move rfl) rfl rfl rfl ?_
  refine WL.q (oq_nilCheck rfl) rfl rfl rfl ?_
  refine WL.q (oq_fieldAddr fld208_1 rfl) rfl rfl rfl ?_
  refine WL.q (oq_load flat2 rfl (.head _) (List.mem_singleton.2 rfl) rfl) rfl rfl rfl ?_
  refine WL.q (oq_gtr rfl rfl) rfl rfl rfl ?_
  refine WL.nil (WE.then_normal (WC.sub (fr' := [(0, _), (1, _), (18, _)]) ?_ ⟨rfl, rfl, rfl, trivial⟩))
  refine WC.cond rfl (fun q3 => ?_) (fun q3 => ?_)
  ·
   try simp only [Z1, Z2, Z3, Z4, Z5, Z6, Z7, Z8, Z9, Z0] at q3
   refine WC.region ?_
   refine WL.q (oq_move rfl) rfl rfl rfl ?_
   refine WL.q (oq_move rfl) rfl rfl rfl ?_
   refine WL.q (oq_nilCheck rfl) rfl rfl rfl ?_
   refine WL.q (oq_fieldAddr fld208_1 rfl) rfl rfl rfl ?_
   refine WL.q (oq_load flat2 rfl (.head _) (List.mem_singleton.2 rfl) rfl) rfl rfl rfl ?_
   refine WL.q (oq_sliceSl (i := 0) (j := N) Tryz.underlying28 ty5 rfl (by omega) ⟨_, rfl⟩ ⟨_, rfl⟩ (by omega) (by omega)) rfl rfl rfl ?_
   refine WL.q (oq_assign rfl) rfl rfl rfl ?_
   refine WL.nil (WE.then_normal (WC.sub (fr' := [(0, _), (1, _)]) ?_ ⟨rfl, rfl, trivial⟩))
   refine WC.seq (WC.region ?_)
   refine WL.q (oq_move rfl) rfl rfl rfl ?_
   refine WL.q (oq_nilCheck rfl) rfl rfl rfl ?_
   refine WL.q (oq_fieldAddr fld208_0 rfl) rfl rfl rfl ?_
   refine WL.q (oq_load flat166 rfl (.head _) (List.mem_singleton.2 rfl) rfl) rfl rfl rfl ?_
   refine WL.q (oq_move rfl) rfl rfl rfl ?_
   refine WL.f3 ?_
   refine WL.f3 ?_
   refine WL.f3 ?_
   refine WL.callWE (fun a w hf => ent_inv1 hR.inv rfl rfl hf w) (hR.run w X bb e L (off + 0) (N - 0) (c - 0) hX (by omega) (by omega) (by omega) hl hrs) rfl rfl rfl rfl fun v5_5 Hs5_5 hR5_5 => ?_
   obtain ⟨X2, rfl, rfl, hX2⟩ := hR5_5
   refine WL.app3 ?_
   refine WL.q (oq_move rfl) rfl rfl rfl ?_
   refine WL.q (oq_extract rfl rfl) rfl rfl rfl ?_
   refine WL.q (oq_extract rfl rfl) rfl rfl rfl ?_
   refine WL.q (oq_assign rfl) rfl rfl rfl ?_
   refine WL.q (oq_assign rfl) rfl rfl rfl ?_
   refine WL.nil (WE.then_normal (WC.sub (fr' := [(0, _), (4, _), (5, _)]) ?_ ⟨rfl, rfl, rfl, trivial⟩))
   refine WC.seq (WC.region ?_)
   refine WL.q (oq_move rfl) rfl rfl rfl ?_
   refine WL.q (oq_nilCheck rfl) rfl rfl rfl ?_
   refine WL.q (oq_fieldAddr fld208_1 rfl) rfl rfl rfl ?_
   refine WL.q (oq_load flat2 rfl (.tail _ (.tail _ (.tail _ (.head _)))) (List.mem_singleton.2 rfl) rfl) rfl rfl rfl ?_
   refine WL.q (oq_move rfl) rfl rfl rfl ?_
   refine WL.q (oq_sub rfl rfl (by rw [i64_lo, i64_hi]; (first | omega | (simp only [List.length_cons, List.length_nil, List.length_append, List.length_drop, List.length_take]; omega)))) rfl rfl rfl ?_
   refine WL.q (oq_nilCheck rfl) rfl rfl rfl ?_
   refine WL.q (oq_fieldAddr fld208_1 rfl) rfl rfl rfl ?_
   refine WL.f3 ?_
   refine WL.store1 #[_, _] ty2 rfl rfl (by first | rfl | exact OwS.one one_) (Nat.lt_of_lt_of_le (Nat.lt_succ_self _) (Nat.le_of_ble_eq_true rfl)) rfl rfl ?_
   refine WL.nil (WE.then_normal (WC.sub (fr' := [(4, _), (5, _)]) ?_ ⟨rfl, rfl, trivial⟩))
   refine WC.ret ?_
   refine WE.endW4 (.inl rfl) (res2 Tryz.results200 rfl rfl) ?_
   have hw : (w = []) ↔ (w.take N = []) := by rw [← len_nil, ← len_nil, htl]; omega
   have e1 : min m (min N w.length) = min N w.length := by omega
   rw [htl, hdt, e1, show min m N = N by omega]
   refine ⟨X2, ?_, ?_, ?_⟩
   ·simp only [hw, Nat.sub_zero]
   ·rw [show ((N - min N w.length : Nat) : Int) = (N : Int) - ((min N w.length : Nat) : Int) by omega]; simp
   ·rw [Nat.sub_zero] at hX2; rcases Nat.le_total N w.length with h | h
    ·rw [Nat.min_eq_left h]; exact hX2
    ·rw [Nat.min_eq_right h, List.drop_length]; rw [List.drop_eq_nil_of_le h] at hX2; exact hX2
  ·
   try simp only [Z1, Z2, Z3, Z4, Z5, Z6, Z7, Z8, Z9, Z0] at q3
   refine WC.skip (WE.then_normal (WC.sub (fr' := [(0, _), (1, _)]) ?_ ⟨rfl, rfl, trivial⟩))
   refine WC.seq (WC.region ?_)
   refine WL.q (oq_move rfl) rfl rfl rfl ?_
   refine WL.q (oq_nilCheck rfl) rfl rfl rfl ?_
   refine WL.q (oq_fieldAddr fld208_0 rfl) rfl rfl rfl ?_
   refine WL.q (oq_load flat166 rfl (.head _) (List.mem_singleton.2 rfl) rfl) rfl rfl rfl ?_
   refine WL.q (oq_move rfl) rfl rfl rfl ?_
   refine WL.f3 ?_
   refine WL.f3 ?_
   refine WL.f3 ?_
   refine WL.callWE (fun a w hf => ent_inv1 hR.inv rfl rfl hf w) (hR.run w X bb e L off m c hX hm0 hm hmc hl hrs) rfl rfl rfl rfl fun v5_5 Hs5_5 hR5_5 => ?_
   obtain ⟨X2, rfl, rfl, hX2⟩ := hR5_5
   refine WL.app3 ?_
   refine WL.q (oq_move rfl) rfl rfl rfl ?_
   refine WL.q (oq_extract rfl rfl) rfl rfl rfl ?_
   refine WL.q (oq_extract rfl rfl) rfl rfl rfl ?_
   refine WL.q (oq_assign rfl) rfl rfl rfl ?_
   refine WL.q (oq_assign rfl) rfl rfl rfl ?_
   refine WL.nil (WE.then_normal (WC.sub (fr' := [(0, _), (4, _), (5, _)]) ?_ ⟨rfl, rfl, rfl, trivial⟩))
   refine WC.seq (WC.region ?_)
   refine WL.q (oq_move rfl) rfl rfl rfl ?_
   refine WL.q (oq_nilCheck rfl) rfl rfl rfl ?_
   refine WL.q (oq_fieldAddr fld208_1 rfl) rfl rfl rfl ?_
   refine WL.q (oq_load flat2 rfl (.tail _ (.tail _ (.tail _ (.head _)))) (List.mem_singleton.2 rfl) rfl) rfl rfl rfl ?_
   refine WL.q (oq_move rfl) rfl rfl rfl ?_
   refine WL.q (oq_sub rfl rfl (by rw [i64_lo, i64_hi]; (first | omega | (simp only [List.length_cons, List.length_nil, List.length_append, List.length_drop, List.length_take]; omega)))) rfl rfl rfl ?_
   refine WL.q (oq_nilCheck rfl) rfl rfl rfl ?_
   refine WL.q (oq_fieldAddr fld208_1 rfl) rfl rfl rfl ?_
   refine WL.f3 ?_
   refine WL.store1 #[_, _] ty2 rfl rfl (by first | rfl | exact OwS.one one_) (Nat.lt_of_lt_of_le (Nat.lt_succ_self _) (Nat.le_of_ble_eq_true rfl)) rfl rfl ?_
   refine WL.nil (WE.then_normal (WC.sub (fr' := [(4, _), (5, _)]) ?_ ⟨rfl, rfl, trivial⟩))
   refine WC.ret ?_
   refine WE.endW4 (.inl rfl) (res2 Tryz.results200 rfl rfl) ?_
   have hw : (w = []) ↔ (w.take N = []) := by rw [← len_nil, ← len_nil, htl]; omega
   have e1 : min m (min N w.length) = min m w.length := by omega
   rw [htl, hdt, e1, show min m N = m by omega]
   refine ⟨X2, ?_, ?_, ?_⟩
   ·simp only [hw]
   ·rw [show ((N - min m w.length : Nat) : Int) = (N : Int) - ((min m w.length : Nat) : Int) by omega]
   ·rcases Nat.le_total m w.length with h | h
    ·rw [Nat.min_eq_left h]; exact hX2
    ·rw [Nat.min_eq_right h, List.drop_length]; rw [List.drop_eq_nil_of_le h] at hX2; exact hX2
def LimG (lb : Nat) (k : TypeId) (r : Value) (Rt : List UInt8 → Hp → Prop) (whole : List UInt8) (N : Nat) (rs : List UInt8) (G : Hp) : Prop := ∃ j X, j ≤ N ∧ j ≤ whole.length ∧ rs = (whole.drop j).take (N - j) ∧ G = LB lb k r ((N - j : Nat) : Int) ++ X ∧ Rt (whole.drop j) X
theorem limRr (base lb : Nat) (E : Hp) (kE : TypeId) (pE pU : Addr) (hS : Sn E kE pE pU) (k : TypeId) (r : Value) (f : FuncId) (Rt : List UInt8 → Hp → Prop) (hR : Rr base k r f E kE pE pU Rt) (whole : List UInt8) (N : Nat) (hN : N ≤ 4294967296) (hwl : whole.length ≤ 1000000) : Rr base 205 (Pt lb 0) 200 E kE pE pU (LimG lb k r Rt whole N) := by
 refine ⟨invLR, nokLR _, ?_⟩
 rintro rs G bb e L off m c ⟨j, X, hj, hjw, rfl, rfl, hX⟩ h0 hm hmc hL hrs
 have hdl : (whole.drop j).length = whole.length - j := List.length_drop
 refine fw_perm (F := []) (limRead base lb (N - j) E kE pE pU hS k r f Rt hR bb off m c e L h0 hm hmc hL (whole.drop j) X hX (by omega) (by omega)) (by simp) ?_
 rintro v Hs ⟨X2, rfl, rfl, hX2⟩
 have htl : ((whole.drop j).take (N - j)).length = min (N - j) (whole.length - j) := by rw [List.length_take, hdl]
 rw [List.drop_drop] at hX2
 refine ⟨_, ⟨_, rfl, rfl, j + min m ((whole.drop j).take (N - j)).length, X2, by omega, by omega, ?_, rfl, hX2⟩, ?_⟩
 ·rw [List.drop_take, List.drop_drop, htl]
  rcases Nat.le_total m (min (N - j) (whole.length - j)) with h | h
  ·rw [Nat.min_eq_left h, show N - j - m = N - (j + m) by omega]
  ·rw [Nat.min_eq_right h]
   rcases Nat.le_total (N - j) (whole.length - j) with h2 | h2
   ·rw [show N - j - m = 0 by omega, show N - (j + min (N - j) (whole.length - j)) = 0 by omega]; rfl
   ·rw [List.drop_eq_nil_of_le (show whole.length ≤ j + m by omega), List.drop_eq_nil_of_le (show whole.length ≤ j + min (N - j) (whole.length - j) by omega)]; simp
 ·rw [show N - (j + min m ((whole.drop j).take (N - j)).length) = N - j - min m ((whole.drop j).take (N - j)).length by omega]; simp
theorem LimG.done {lb : Nat} {k : TypeId} {r : Value} {Rt : List UInt8 → Hp → Prop} {whole : List UInt8} {N : Nat} {G : Hp} (h : LimG lb k r Rt whole N [] G) : ∃ i X, G = LB lb k r i ++ X ∧ Rt (whole.drop N) X := by
 obtain ⟨j, X, hj, hjw, hrs, rfl, hX⟩ := h
 refine ⟨_, X, rfl, ?_⟩
 have h1 := congrArg List.length hrs
 rw [List.length_take, List.length_drop] at h1
 simp at h1
 rcases Nat.lt_or_ge j N with h2 | h2
 ·rw [List.drop_eq_nil_of_le (show whole.length ≤ N by omega)]
  rwa [List.drop_eq_nil_of_le (show whole.length ≤ j by omega)] at hX
 ·rwa [show N = j by omega]
theorem LimG.start {lb : Nat} {k : TypeId} {r : Value} {Rt : List UInt8 → Hp → Prop} {whole : List UInt8} {N : Nat} {X : Hp} (hX : Rt whole X) : LimG lb k r Rt whole N (whole.take N) (LB lb k r (N : Nat) ++ X) := ⟨0, X, by omega, by omega, rfl, rfl, hX⟩
theorem LimG.out {lb : Nat} {k : TypeId} {r : Value} {Rt : List UInt8 → Hp → Prop} {whole : List UInt8} {N : Nat} {rs : List UInt8} {G : Hp} (h : LimG lb k r Rt whole N rs G) : ∃ i j X, G = LB lb k r i ++ X ∧ Rt (whole.drop j) X := by
 obtain ⟨j, X, hj, hjw, hrs, rfl, hX⟩ := h
 exact ⟨_, j, X, rfl, hX⟩
theorem readLeast (base : Nat) (E : Hp) (kE : TypeId) (pE pU : Addr) (hS : Sn E kE pE pU) (k : TypeId) (r : Value) (f : FuncId) (Rt : List UInt8 → Hp → Prop) (hR : Rr base k r f E kE pE pU Rt) (bb off m c : Nat) (e : TypeId) (L : List UInt8) (hm : off + m ≤ L.length) (hmc : m ≤ c) (hl : L.length ≤ 9223372036854775807) (rs : List UInt8) (X : Hp) (hX : Rt rs X) (hrs : rs.length ≤ 1000000) : FnW Tryz.prog 104 [.iface k r, Sl bb off m c, I (m : Int)] base [X, Bf bb e L, E] (fun v Hs => ∃ X2 vn, v = .tuple #[vn, erv kE pE pU 0 (rdc m rs)] ∧ Hs = [X2, Bf bb e (putB L off (rs.take m)), E] ∧ Rt (rs.drop m) X2) := by
 obtain ⟨tE, fE, hEm⟩ := hS.eof
 obtain ⟨tU, fU, hUm⟩ := hS.uex
 obtain ⟨k4, p4, t4, f4, hBm⟩ := hS.shb
 refine FnW.enter (n := 46) Tryz.func104 rfl rfl fun w0 R0 hbase => ?_
 subst hbase
 show WC _ _ _ _ _ _ _ ([X, Bf bb e L, E, R0])
 refine WC.sub (fr' := [(0, _), (1, _), (2, _)]) ?_ ⟨rfl, rfl, rfl, trivial⟩
 refine WC.seq (WC.region ?_)
 refine WL.q (oq_assign rfl) rfl rfl rfl ?_
 refine WL.q (oq_assign rfl) rfl rfl rfl ?_
 refine WL.nil (WE.then_normal (WC.sub (fr' := [(0, _), (1, _), (2, _), (6, _), (7, _)]) ?_ ⟨rfl, rfl, rfl, rfl, rfl, trivial⟩))
 refine WC.seq (WC.seq (WC.region ?_))
 refine WL.q (oq_move rfl) rfl rfl rfl ?_
 refine WL.q (oq_len_sl Tryz.underlying28 rfl) rfl rfl rfl ?_
 refine WL.q (oq_move rfl) rfl rfl rfl ?_
 refine WL.q (oq_lss rfl rfl) rfl rfl rfl ?_
 refine WL.nil (WE.then_normal (WC.sub (fr' := [(0, _), (1, _), (2, _), (6, _), (7, _), (12, _)]) ?_ ⟨rfl, rfl, rfl, rfl, rfl, rfl, trivial⟩))
 refine WC.cond rfl (fun q1 => ?_) (fun q1 => ?_)
 ·
  try simp only [Z1, Z2, Z3, Z4, Z5, Z6, Z7, Z8, Z9, Z0] at q1
  refine WC.seq ?_
  first | contradiction | (exfalso; omega) | (exfalso; simp_all; done)
 ·
  try simp only [Z1, Z2, Z3, Z4, Z5, Z6, Z7, Z8, Z9, Z0] at q1
  refine WC.skip (WE.then_normal (WC.sub (fr' := [(0, _), (1, _), (2, _), (6, _), (7, _)]) ?_ ⟨rfl, rfl, rfl, rfl, rfl, trivial⟩))
  refine WC.seq (WC.block ?_)
  refine WC.loop (ι := Nat × Nat × Hp × (List UInt8)) (fun i_ => (fun (n : Nat) (ce : Nat) (Y : Hp) (L2 : List UInt8) => [(0, .iface k r), (1, Sl bb off m c), (2, I (m : Int)), (6, I (n : Int)), (7, erv kE pE pU 0 ce)]) i_.1 i_.2.1 i_.2.2.1 i_.2.2.2) (fun i_ => (fun (n : Nat) (ce : Nat) (Y : Hp) (L2 : List UInt8) => [Y, Bf bb e L2, E, R0]) i_.1 i_.2.1 i_.2.2.1 i_.2.2.2) (fun i_ => (fun (n : Nat) (ce : Nat) (Y : Hp) (L2 : List UInt8) => n ≤ m ∧ n ≤ rs.length ∧ ce ≤ 1 ∧ Rt (rs.drop n) Y ∧ (ce = 1 → rs.length ≤ n ∧ n < m) ∧ L2 = putB L off (rs.take n)) i_.1 i_.2.1 i_.2.2.1 i_.2.2.2) (fun i_ => (fun (n : Nat) (ce : Nat) (Y : Hp) (L2 : List UInt8) => (m - n) + (if ce = 0 then 1 else 0)) i_.1 i_.2.1 i_.2.2.1 i_.2.2.2) ((0, 0, _, _)) ?_ ⟨rfl, rfl, rfl, rfl, rfl, trivial⟩ (List.Perm.refl _) ?_
  ·try dsimp only
   exact ⟨by omega, by omega, by omega, by simpa using hX, fun h => (by omega), by simp [putB_nil]⟩
  ·rintro ⟨n, ce, Y, L2⟩ hp
   try dsimp only at hp
   obtain ⟨hn, hnl, hce, hY, hc1, hL2⟩ := hp
   show WC _ _ _ _ _ _ ([(0, .iface k r), (1, Sl bb off m c), (2, I (m : Int)), (6, I (n : Int)), (7, erv kE pE pU 0 ce)]) ([Y, Bf bb e L2, E, R0])
   have hll : L2.length = L.length := by rw [hL2]; exact putB_len (by rw [List.length_take]; omega)
   have hdl : (rs.drop n).length = rs.length - n := List.length_drop
   have hdn : rs.drop n = [] ↔ rs.length - n = 0 := by rw [← len_nil, hdl]
   refine WC.seq (WC.seq (WC.region ?_))
   refine WL.q (oq_move rfl) rfl rfl rfl ?_
   refine WL.q (oq_move rfl) rfl rfl rfl ?_
   refine WL.q (oq_lss rfl rfl) rfl rfl rfl ?_
   refine WL.q (oq_move rfl) rfl rfl rfl ?_
   refine WL.split 17 rfl (fun s3_3 => ?_) (fun s3_3 => ?_)
   ·
    try simp only [Z1, Z2, Z3, Z4, Z5, Z6, Z7, Z8, Z9, Z0] at s3_3
    refine WL.q (oq_move rfl) rfl rfl rfl ?_
    refine WL.q (oq_ieql Tryz.underlying99 rfl (erv_or _ _ _ _ _)) rfl rfl rfl ?_
    refine WL.q (oq_pick_t rfl rfl) rfl rfl rfl ?_
    refine WL.nil (WE.then_normal (WC.sub (fr' := [(0, _), (1, _), (2, _), (6, _), (7, _), (20, _)]) ?_ ⟨rfl, rfl, rfl, rfl, rfl, rfl, trivial⟩))
    refine WC.cond rfl (fun q3 => ?_) (fun q3 => ?_)
    ·
     try simp only [Z1, Z2, Z3, Z4, Z5, Z6, Z7, Z8, Z9, Z0] at q3
     refine WC.skip (WE.then_normal (WC.sub (fr' := [(0, _), (1, _), (2, _), (6, _)]) ?_ ⟨rfl, rfl, rfl, rfl, trivial⟩))
     refine WC.block (WC.seq ?_)
     have hc0 : ce = 0 := by simpa [erv_nil] using q3
     subst hc0
     refine WC.region ?_
     refine WL.q (oq_assign rfl) rfl rfl rfl ?_
     refine WL.nil (WE.then_normal (WC.sub (fr' := [(0, _), (1, _), (2, _), (6, _)]) ?_ ⟨rfl, rfl, rfl, rfl, trivial⟩))
     refine WC.seq ?_
     refine WC.tailM (pl := []) (ql := [_, _, _, _, _, _, _]) (tl := [_, _, _, _, _, _]) [] [0, 1, 2, 3, 4, 5, 6] 7 [8, 9, 10, 11, 12] (by kernel_rfl) (by kernel_rfl) (by kernel_rfl) (by kernel_rfl) (by kernel_rfl) (by kernel_rfl) (by decide) rfl rfl rfl (by decide) (by repeat (first | with_reducible exact QOk.body | with_reducible apply QOk.then | with_reducible apply QOk.block | exact QOk.body | apply QOk.then | apply QOk.block)) ?_
     refine WM.nil ?_
     refine WY.q (oq_move rfl) rfl rfl rfl ?_
     refine WY.q (oq_move rfl) rfl rfl rfl ?_
     refine WY.q (oq_move rfl) rfl rfl rfl ?_
     refine WY.q (oq_sliceSl (i := n) Tryz.underlying28 ty5 rfl (by (first | omega | (rw [putB_len (by rw [List.length_take]; omega)]; omega))) ⟨_, rfl⟩ rfl (by (first | omega | (rw [putB_len (by rw [List.length_take]; omega)]; omega))) (by (first | omega | (rw [putB_len (by rw [List.length_take]; omega)]; omega)))) rfl rfl rfl ?_
     refine WY.q (oq_makeMeth rfl) rfl rfl rfl ?_
     refine WY.q (oq_nilMeth rfl (hR.nok)) rfl rfl rfl ?_
     refine WY.q (oq_move rfl) rfl rfl rfl ?_
     refine WY.nil ?_
     refine WL.f2 ?_
     refine WL.f2 ?_
     refine WL.f2 ?_
     refine WL.callWE (fun a w hf => ent_inv1 hR.inv rfl rfl hf w) (hR.run (rs.drop n) Y bb e L2 (off + n) (m - n) (c - n) hY (by omega) (by omega) (by omega) (by omega) (by omega)) rfl rfl rfl rfl fun v5_7 Hs5_7 hR5_7 => ?_
     obtain ⟨Y2, rfl, rfl, hY2⟩ := hR5_7
     refine WL.app3 ?_
     refine WL.q (oq_move rfl) rfl rfl rfl ?_
     refine WL.q (oq_extract rfl rfl) rfl rfl rfl ?_
     refine WL.q (oq_extract rfl rfl) rfl rfl rfl ?_
     refine WL.q (oq_assign rfl) rfl rfl rfl ?_
     refine WL.q (oq_assign rfl) rfl rfl rfl ?_
     refine WL.nil (WE.then_normal (WC.sub (fr' := [(0, _), (1, _), (2, _), (6, _), (7, _), (8, _)]) ?_ ⟨rfl, rfl, rfl, rfl, rfl, rfl, trivial⟩))
     refine WC.region ?_
     refine WL.q (oq_move rfl) rfl rfl rfl ?_
     refine WL.q (oq_move rfl) rfl rfl rfl ?_
     refine WL.q (oq_add rfl rfl (by rw [i64_lo, i64_hi]; (first | omega | (simp only [List.length_cons, List.length_nil, List.length_append, List.length_drop, List.length_take]; omega)))) rfl rfl rfl ?_
     refine WL.q (oq_assign rfl) rfl rfl rfl ?_
     refine WL.nil (WE.block_normal ?_)
     refine WE.again (n + min (m - n) (rs.drop n).length, if rs.drop n = [] then 1 else 0, _, putB L2 (off + n) ((rs.drop n).take (m - n))) ?_ ?_ ⟨rfl, rfl, rfl, rfl, rfl, trivial⟩ (List.Perm.refl _)
     ·try dsimp only
      refine ⟨by omega, by omega, by split <;> omega, ?_, ?_, ?_⟩
      ·rw [List.drop_drop] at hY2
       rcases Nat.le_total (m - n) (rs.length - n) with h | h
       ·rw [hdl, Nat.min_eq_left h]; exact hY2
       ·rw [hdl, Nat.min_eq_right h, List.drop_eq_nil_of_le (by omega)]; rw [List.drop_eq_nil_of_le (by omega)] at hY2; exact hY2
      ·split
       ·rename_i h; have := hdn.1 h; intro _; omega
       ·intro h; omega
      ·have htn : (rs.take n).length = n := by rw [List.length_take]; omega
       rw [hL2]
       have h2 := putB_two (L := L) (off := off) (x := rs.take n) (y := (rs.drop n).take (m - n)) (by rw [htn, List.length_take]; omega)
       rw [htn, ← List.take_add] at h2
       rw [h2, hdl]
       congr 1
       rcases Nat.le_total (m - n) (rs.length - n) with h | h
       ·rw [Nat.min_eq_left h]
       ·rw [Nat.min_eq_right h, List.take_of_length_le (by omega), List.take_of_length_le (by omega)]
     ·(try dsimp only); by_cases h : rs.drop n = [] <;> (have h2 := hdn; simp only [h, if_true, if_false, true_iff, false_iff, reduceIte] at h2 ⊢ <;> first | omega | (simp; done) | (simp; omega))
    ·
     try simp only [Z1, Z2, Z3, Z4, Z5, Z6, Z7, Z8, Z9, Z0] at q3
     refine WC.exit (WE.then_exit (WE.then_exit (WE.block_same (WE.then_normal (WC.sub (fr' := [(2, _), (6, _), (7, _)]) ?_ ⟨rfl, rfl, rfl, trivial⟩)))))
     refine WC.seq (WC.seq (WC.region ?_))
     refine WL.q (oq_move rfl) rfl rfl rfl ?_
     refine WL.q (oq_move rfl) rfl rfl rfl ?_
     refine WL.q (oq_geq rfl rfl) rfl rfl rfl ?_
     refine WL.nil (WE.then_normal (WC.sub (fr' := [(6, _), (7, _), (37, _)]) ?_ ⟨rfl, rfl, rfl, trivial⟩))
     refine WC.cond rfl (fun q7 => ?_) (fun q7 => ?_)
     ·
      try simp only [Z1, Z2, Z3, Z4, Z5, Z6, Z7, Z8, Z9, Z0] at q7
      refine WC.region ?_
      refine WL.q (oq_assign rfl) rfl rfl rfl ?_
      refine WL.nil (WE.then_normal (WC.sub (fr' := [(6, _), (7, _)]) ?_ ⟨rfl, rfl, trivial⟩))
      refine WC.ret ?_
      refine WE.endW3 (.inl rfl) (res2 Tryz.results104 rfl rfl) ?_
      have key : ∀ (d : Nat), (n = m ∧ d = 0) ∨ (n < m ∧ ce = 1 ∧ (0 < n → d = 2) ∧ (n = 0 → d = 1)) → rdc m rs = d ∧ rs.take n = rs.take m ∧ rs.drop n = rs.drop m := by
       rintro d (⟨rfl, rfl⟩ | ⟨hlt, h1, h2, h3⟩)
       ·exact ⟨if_pos hnl, rfl, rfl⟩
       ·have h4 := (hc1 h1).1
        refine ⟨?_, by rw [List.take_of_length_le h4, List.take_of_length_le (by omega)], by rw [List.drop_eq_nil_of_le h4, List.drop_eq_nil_of_le (by omega)]⟩
        unfold rdc; rw [if_neg (by omega)]
        by_cases h0 : rs = []
        ·rw [if_pos h0, h3 (by rw [← len_nil] at h0; omega)]
        ·rw [if_neg h0, h2 (by rw [← len_nil] at h0; omega)]
      rcases (show ce = 0 ∨ ce = 1 by omega) with rfl | rfl
      ·first | (exfalso; omega) | (exfalso; simp [erv_nil] at q3; done) | (exfalso; simp at q9; done) | (obtain ⟨k1, k2, k3⟩ := key 0 (by omega); rw [k1, ← k2, ← k3, ← hL2]; exact ⟨_, _, rfl, rfl, hY⟩) | (obtain ⟨k1, k2, k3⟩ := key 2 (by omega); rw [k1, ← k2, ← k3, ← hL2]; exact ⟨_, _, rfl, rfl, hY⟩) | (obtain ⟨k1, k2, k3⟩ := key 1 (by omega); rw [k1, ← k2, ← k3, ← hL2]; exact ⟨_, _, rfl, rfl, hY⟩)
      ·first | (exfalso; omega) | (exfalso; simp [erv_nil] at q3; done) | (exfalso; simp at q9; done) | (obtain ⟨k1, k2, k3⟩ := key 0 (by omega); rw [k1, ← k2, ← k3, ← hL2]; exact ⟨_, _, rfl, rfl, hY⟩) | (obtain ⟨k1, k2, k3⟩ := key 2 (by omega); rw [k1, ← k2, ← k3, ← hL2]; exact ⟨_, _, rfl, rfl, hY⟩) | (obtain ⟨k1, k2, k3⟩ := key 1 (by omega); rw [k1, ← k2, ← k3, ← hL2]; exact ⟨_, _, rfl, rfl, hY⟩)
     ·
      try simp only [Z1, Z2, Z3, Z4, Z5, Z6, Z7, Z8, Z9, Z0] at q7
      refine WC.seq (WC.region ?_)
      refine WL.q (oq_move rfl) rfl rfl rfl ?_
      refine WL.q (oq_gtr rfl rfl) rfl rfl rfl ?_
      refine WL.q (oq_move rfl) rfl rfl rfl ?_
      refine WL.split 40 rfl (fun s9_2 => ?_) (fun s9_2 => ?_)
      ·
       try simp only [Z1, Z2, Z3, Z4, Z5, Z6, Z7, Z8, Z9, Z0] at s9_2
       refine WL.q (oq_move rfl) rfl rfl rfl ?_
       refine WL.q (oq_load flat99 rfl (.tail _ (.tail _ (.head _))) hEm rfl) rfl rfl rfl ?_
       refine WL.q (oq_erE hS (by repeat (first | exact .head _ | apply List.Mem.tail)) (.inl (by omega)) Tryz.underlying99 rfl rfl) rfl rfl rfl ?_
       refine WL.q (oq_pick_t rfl rfl) rfl rfl rfl ?_
       refine WL.nil (WE.then_normal (WC.sub (fr' := [(6, _), (7, _), (44, _)]) ?_ ⟨rfl, rfl, rfl, trivial⟩))
       refine WC.cond rfl (fun q9 => ?_) (fun q9 => ?_)
       ·
        try simp only [Z1, Z2, Z3, Z4, Z5, Z6, Z7, Z8, Z9, Z0] at q9
        refine WC.region ?_
        refine WL.q (oq_load flat99 rfl (.tail _ (.tail _ (.head _))) hUm rfl) rfl rfl rfl ?_
        refine WL.q (oq_assign rfl) rfl rfl rfl ?_
        refine WL.nil (WE.then_normal (WC.sub (fr' := [(6, _), (7, _)]) ?_ ⟨rfl, rfl, trivial⟩))
        refine WC.ret ?_
        refine WE.endW3 (.inl rfl) (res2 Tryz.results104 rfl rfl) ?_
        have key : ∀ (d : Nat), (n = m ∧ d = 0) ∨ (n < m ∧ ce = 1 ∧ (0 < n → d = 2) ∧ (n = 0 → d = 1)) → rdc m rs = d ∧ rs.take n = rs.take m ∧ rs.drop n = rs.drop m := by
         rintro d (⟨rfl, rfl⟩ | ⟨hlt, h1, h2, h3⟩)
         ·exact ⟨if_pos hnl, rfl, rfl⟩
         ·have h4 := (hc1 h1).1
          refine ⟨?_, by rw [List.take_of_length_le h4, List.take_of_length_le (by omega)], by rw [List.drop_eq_nil_of_le h4, List.drop_eq_nil_of_le (by omega)]⟩
          unfold rdc; rw [if_neg (by omega)]
          by_cases h0 : rs = []
          ·rw [if_pos h0, h3 (by rw [← len_nil] at h0; omega)]
          ·rw [if_neg h0, h2 (by rw [← len_nil] at h0; omega)]
        rcases (show ce = 0 ∨ ce = 1 by omega) with rfl | rfl
        ·first | (exfalso; omega) | (exfalso; simp [erv_nil] at q3; done) | (exfalso; simp at q9; done) | (obtain ⟨k1, k2, k3⟩ := key 0 (by omega); rw [k1, ← k2, ← k3, ← hL2]; exact ⟨_, _, rfl, rfl, hY⟩) | (obtain ⟨k1, k2, k3⟩ := key 2 (by omega); rw [k1, ← k2, ← k3, ← hL2]; exact ⟨_, _, rfl, rfl, hY⟩) | (obtain ⟨k1, k2, k3⟩ := key 1 (by omega); rw [k1, ← k2, ← k3, ← hL2]; exact ⟨_, _, rfl, rfl, hY⟩)
        ·first | (exfalso; omega) | (exfalso; simp [erv_nil] at q3; done) | (exfalso; simp at q9; done) | (obtain ⟨k1, k2, k3⟩ := key 0 (by omega); rw [k1, ← k2, ← k3, ← hL2]; exact ⟨_, _, rfl, rfl, hY⟩) | (obtain ⟨k1, k2, k3⟩ := key 2 (by omega); rw [k1, ← k2, ← k3, ← hL2]; exact ⟨_, _, rfl, rfl, hY⟩) | (obtain ⟨k1, k2, k3⟩ := key 1 (by omega); rw [k1, ← k2, ← k3, ← hL2]; exact ⟨_, _, rfl, rfl, hY⟩)
       ·
        try simp only [Z1, Z2, Z3, Z4, Z5, Z6, Z7, Z8, Z9, Z0] at q9
        refine WC.skip (WE.then_normal (WC.sub (fr' := [(6, _), (7, _)]) ?_ ⟨rfl, rfl, trivial⟩))
        refine WC.ret ?_
        refine WE.endW3 (.inl rfl) (res2 Tryz.results104 rfl rfl) ?_
        have key : ∀ (d : Nat), (n = m ∧ d = 0) ∨ (n < m ∧ ce = 1 ∧ (0 < n → d = 2) ∧ (n = 0 → d = 1)) → rdc m rs = d ∧ rs.take n = rs.take m ∧ rs.drop n = rs.drop m := by
         rintro d (⟨rfl, rfl⟩ | ⟨hlt, h1, h2, h3⟩)
         ·exact ⟨if_pos hnl, rfl, rfl⟩
         ·have h4 := (hc1 h1).1
          refine ⟨?_, by rw [List.take_of_length_le h4, List.take_of_length_le (by omega)], by rw [List.drop_eq_nil_of_le h4, List.drop_eq_nil_of_le (by omega)]⟩
          unfold rdc; rw [if_neg (by omega)]
          by_cases h0 : rs = []
          ·rw [if_pos h0, h3 (by rw [← len_nil] at h0; omega)]
          ·rw [if_neg h0, h2 (by rw [← len_nil] at h0; omega)]
        rcases (show ce = 0 ∨ ce = 1 by omega) with rfl | rfl
        ·first | (exfalso; omega) | (exfalso; simp [erv_nil] at q3; done) | (exfalso; simp at q9; done) | (obtain ⟨k1, k2, k3⟩ := key 0 (by omega); rw [k1, ← k2, ← k3, ← hL2]; exact ⟨_, _, rfl, rfl, hY⟩) | (obtain ⟨k1, k2, k3⟩ := key 2 (by omega); rw [k1, ← k2, ← k3, ← hL2]; exact ⟨_, _, rfl, rfl, hY⟩) | (obtain ⟨k1, k2, k3⟩ := key 1 (by omega); rw [k1, ← k2, ← k3, ← hL2]; exact ⟨_, _, rfl, rfl, hY⟩)
        ·first | (exfalso; omega) | (exfalso; simp [erv_nil] at q3; done) | (exfalso; simp at q9; done) | (obtain ⟨k1, k2, k3⟩ := key 0 (by omega); rw [k1, ← k2, ← k3, ← hL2]; exact ⟨_, _, rfl, rfl, hY⟩) | (obtain ⟨k1, k2, k3⟩ := key 2 (by omega); rw [k1, ← k2, ← k3, ← hL2]; exact ⟨_, _, rfl, rfl, hY⟩) | (obtain ⟨k1, k2, k3⟩ := key 1 (by omega); rw [k1, ← k2, ← k3, ← hL2]; exact ⟨_, _, rfl, rfl, hY⟩)
      ·
       try simp only [Z1, Z2, Z3, Z4, Z5, Z6, Z7, Z8, Z9, Z0] at s9_2
       refine WL.skip rfl rfl rfl ?_
       refine WL.skip rfl rfl rfl ?_
       refine WL.skip rfl rfl rfl ?_
       refine WL.q (oq_pick_f rfl rfl) rfl rfl rfl ?_
       refine WL.nil (WE.then_normal (WC.sub (fr' := [(6, _), (7, _), (44, _)]) ?_ ⟨rfl, rfl, rfl, trivial⟩))
       refine WC.cond_f rfl ?_
       refine WC.skip (WE.then_normal (WC.sub (fr' := [(6, _), (7, _)]) ?_ ⟨rfl, rfl, trivial⟩))
       refine WC.ret ?_
       refine WE.endW3 (.inl rfl) (res2 Tryz.results104 rfl rfl) ?_
       have key : ∀ (d : Nat), (n = m ∧ d = 0) ∨ (n < m ∧ ce = 1 ∧ (0 < n → d = 2) ∧ (n = 0 → d = 1)) → rdc m rs = d ∧ rs.take n = rs.take m ∧ rs.drop n = rs.drop m := by
        rintro d (⟨rfl, rfl⟩ | ⟨hlt, h1, h2, h3⟩)
        ·exact ⟨if_pos hnl, rfl, rfl⟩
        ·have h4 := (hc1 h1).1
         refine ⟨?_, by rw [List.take_of_length_le h4, List.take_of_length_le (by omega)], by rw [List.drop_eq_nil_of_le h4, List.drop_eq_nil_of_le (by omega)]⟩
         unfold rdc; rw [if_neg (by omega)]
         by_cases h0 : rs = []
         ·rw [if_pos h0, h3 (by rw [← len_nil] at h0; omega)]
         ·rw [if_neg h0, h2 (by rw [← len_nil] at h0; omega)]
       rcases (show ce = 0 ∨ ce = 1 by omega) with rfl | rfl
       ·first | (exfalso; omega) | (exfalso; simp [erv_nil] at q3; done) | (exfalso; simp at q9; done) | (obtain ⟨k1, k2, k3⟩ := key 0 (by omega); rw [k1, ← k2, ← k3, ← hL2]; exact ⟨_, _, rfl, rfl, hY⟩) | (obtain ⟨k1, k2, k3⟩ := key 2 (by omega); rw [k1, ← k2, ← k3, ← hL2]; exact ⟨_, _, rfl, rfl, hY⟩) | (obtain ⟨k1, k2, k3⟩ := key 1 (by omega); rw [k1, ← k2, ← k3, ← hL2]; exact ⟨_, _, rfl, rfl, hY⟩)
       ·first | (exfalso; omega) | (exfalso; simp [erv_nil] at q3; done) | (exfalso; simp at q9; done) | (obtain ⟨k1, k2, k3⟩ := key 0 (by omega); rw [k1, ← k2, ← k3, ← hL2]; exact ⟨_, _, rfl, rfl, hY⟩) | (obtain ⟨k1, k2, k3⟩ := key 2 (by omega); rw [k1, ← k2, ← k3, ← hL2]; exact ⟨_, _, rfl, rfl, hY⟩) | (obtain ⟨k1, k2, k3⟩ := key 1 (by omega); rw [k1, ← k2, ← k3, ← hL2]; exact ⟨_, _, rfl, rfl, hY⟩)
   ·
    try simp only [Z1, Z2, Z3, Z4, Z5, Z6, Z7, Z8, Z9, Z0] at s3_3
    refine WL.skip rfl rfl rfl ?_
    refine WL.skip rfl rfl rfl ?_
    refine WL.q (oq_pick_f rfl rfl) rfl rfl rfl ?_
    refine WL.nil (WE.then_normal (WC.sub (fr' := [(0, _), (1, _), (2, _), (6, _), (7, _), (20, _)]) ?_ ⟨rfl, rfl, rfl, rfl, rfl, rfl, trivial⟩))
    refine WC.cond_f rfl ?_
    refine WC.exit (WE.then_exit (WE.then_exit (WE.block_same (WE.then_normal (WC.sub (fr' := [(2, _), (6, _), (7, _)]) ?_ ⟨rfl, rfl, rfl, trivial⟩)))))
    refine WC.seq (WC.seq (WC.region ?_))
    refine WL.q (oq_move rfl) rfl rfl rfl ?_
    refine WL.q (oq_move rfl) rfl rfl rfl ?_
    refine WL.q (oq_geq rfl rfl) rfl rfl rfl ?_
    refine WL.nil (WE.then_normal (WC.sub (fr' := [(6, _), (7, _), (37, _)]) ?_ ⟨rfl, rfl, rfl, trivial⟩))
    refine WC.cond rfl (fun q7 => ?_) (fun q7 => ?_)
    ·
     try simp only [Z1, Z2, Z3, Z4, Z5, Z6, Z7, Z8, Z9, Z0] at q7
     refine WC.region ?_
     refine WL.q (oq_assign rfl) rfl rfl rfl ?_
     refine WL.nil (WE.then_normal (WC.sub (fr' := [(6, _), (7, _)]) ?_ ⟨rfl, rfl, trivial⟩))
     refine WC.ret ?_
     refine WE.endW3 (.inl rfl) (res2 Tryz.results104 rfl rfl) ?_
     have key : ∀ (d : Nat), (n = m ∧ d = 0) ∨ (n < m ∧ ce = 1 ∧ (0 < n → d = 2) ∧ (n = 0 → d = 1)) → rdc m rs = d ∧ rs.take n = rs.take m ∧ rs.drop n = rs.drop m := by
      rintro d (⟨rfl, rfl⟩ | ⟨hlt, h1, h2, h3⟩)
      ·exact ⟨if_pos hnl, rfl, rfl⟩
      ·have h4 := (hc1 h1).1
       refine ⟨?_, by rw [List.take_of_length_le h4, List.take_of_length_le (by omega)], by rw [List.drop_eq_nil_of_le h4, List.drop_eq_nil_of_le (by omega)]⟩
       unfold rdc; rw [if_neg (by omega)]
       by_cases h0 : rs = []
       ·rw [if_pos h0, h3 (by rw [← len_nil] at h0; omega)]
       ·rw [if_neg h0, h2 (by rw [← len_nil] at h0; omega)]
     rcases (show ce = 0 ∨ ce = 1 by omega) with rfl | rfl
     ·first | (exfalso; omega) | (exfalso; simp [erv_nil] at q3; done) | (exfalso; simp at q9; done) | (obtain ⟨k1, k2, k3⟩ := key 0 (by omega); rw [k1, ← k2, ← k3, ← hL2]; exact ⟨_, _, rfl, rfl, hY⟩) | (obtain ⟨k1, k2, k3⟩ := key 2 (by omega); rw [k1, ← k2, ← k3, ← hL2]; exact ⟨_, _, rfl, rfl, hY⟩) | (obtain ⟨k1, k2, k3⟩ := key 1 (by omega); rw [k1, ← k2, ← k3, ← hL2]; exact ⟨_, _, rfl, rfl, hY⟩)
     ·first | (exfalso; omega) | (exfalso; simp [erv_nil] at q3; done) | (exfalso; simp at q9; done) | (obtain ⟨k1, k2, k3⟩ := key 0 (by omega); rw [k1, ← k2, ← k3, ← hL2]; exact ⟨_, _, rfl, rfl, hY⟩) | (obtain ⟨k1, k2, k3⟩ := key 2 (by omega); rw [k1, ← k2, ← k3, ← hL2]; exact ⟨_, _, rfl, rfl, hY⟩) | (obtain ⟨k1, k2, k3⟩ := key 1 (by omega); rw [k1, ← k2, ← k3, ← hL2]; exact ⟨_, _, rfl, rfl, hY⟩)
    ·
     try simp only [Z1, Z2, Z3, Z4, Z5, Z6, Z7, Z8, Z9, Z0] at q7
     refine WC.seq (WC.region ?_)
     refine WL.q (oq_move rfl) rfl rfl rfl ?_
     refine WL.q (oq_gtr rfl rfl) rfl rfl rfl ?_
     refine WL.q (oq_move rfl) rfl rfl rfl ?_
     refine WL.split 40 rfl (fun s9_2 => ?_) (fun s9_2 => ?_)
     ·
      try simp only [Z1, Z2, Z3, Z4, Z5, Z6, Z7, Z8, Z9, Z0] at s9_2
      refine WL.q (oq_move rfl) rfl rfl rfl ?_
      refine WL.q (oq_load flat99 rfl (.tail _ (.tail _ (.head _))) hEm rfl) rfl rfl rfl ?_
      refine WL.q (oq_erE hS (by repeat (first | exact .head _ | apply List.Mem.tail)) (.inl (by omega)) Tryz.underlying99 rfl rfl) rfl rfl rfl ?_
      refine WL.q (oq_pick_t rfl rfl) rfl rfl rfl ?_
      refine WL.nil (WE.then_normal (WC.sub (fr' := [(6, _), (7, _), (44, _)]) ?_ ⟨rfl, rfl, rfl, trivial⟩))
      refine WC.cond rfl (fun q9 => ?_) (fun q9 => ?_)
      ·
       try simp only [Z1, Z2, Z3, Z4, Z5, Z6, Z7, Z8, Z9, Z0] at q9
       refine WC.region ?_
       refine WL.q (oq_load flat99 rfl (.tail _ (.tail _ (.head _))) hUm rfl) rfl rfl rfl ?_
       refine WL.q (oq_assign rfl) rfl rfl rfl ?_
       refine WL.nil (WE.then_normal (WC.sub (fr' := [(6, _), (7, _)]) ?_ ⟨rfl, rfl, trivial⟩))
       refine WC.ret ?_
       refine WE.endW3 (.inl rfl) (res2 Tryz.results104 rfl rfl) ?_
       have key : ∀ (d : Nat), (n = m ∧ d = 0) ∨ (n < m ∧ ce = 1 ∧ (0 < n → d = 2) ∧ (n = 0 → d = 1)) → rdc m rs = d ∧ rs.take n = rs.take m ∧ rs.drop n = rs.drop m := by
        rintro d (⟨rfl, rfl⟩ | ⟨hlt, h1, h2, h3⟩)
        ·exact ⟨if_pos hnl, rfl, rfl⟩
        ·have h4 := (hc1 h1).1
         refine ⟨?_, by rw [List.take_of_length_le h4, List.take_of_length_le (by omega)], by rw [List.drop_eq_nil_of_le h4, List.drop_eq_nil_of_le (by omega)]⟩
         unfold rdc; rw [if_neg (by omega)]
         by_cases h0 : rs = []
         ·rw [if_pos h0, h3 (by rw [← len_nil] at h0; omega)]
         ·rw [if_neg h0, h2 (by rw [← len_nil] at h0; omega)]
       rcases (show ce = 0 ∨ ce = 1 by omega) with rfl | rfl
       ·first | (exfalso; omega) | (exfalso; simp [erv_nil] at q3; done) | (exfalso; simp at q9; done) | (obtain ⟨k1, k2, k3⟩ := key 0 (by omega); rw [k1, ← k2, ← k3, ← hL2]; exact ⟨_, _, rfl, rfl, hY⟩) | (obtain ⟨k1, k2, k3⟩ := key 2 (by omega); rw [k1, ← k2, ← k3, ← hL2]; exact ⟨_, _, rfl, rfl, hY⟩) | (obtain ⟨k1, k2, k3⟩ := key 1 (by omega); rw [k1, ← k2, ← k3, ← hL2]; exact ⟨_, _, rfl, rfl, hY⟩)
       ·first | (exfalso; omega) | (exfalso; simp [erv_nil] at q3; done) | (exfalso; simp at q9; done) | (obtain ⟨k1, k2, k3⟩ := key 0 (by omega); rw [k1, ← k2, ← k3, ← hL2]; exact ⟨_, _, rfl, rfl, hY⟩) | (obtain ⟨k1, k2, k3⟩ := key 2 (by omega); rw [k1, ← k2, ← k3, ← hL2]; exact ⟨_, _, rfl, rfl, hY⟩) | (obtain ⟨k1, k2, k3⟩ := key 1 (by omega); rw [k1, ← k2, ← k3, ← hL2]; exact ⟨_, _, rfl, rfl, hY⟩)
      ·
       try simp only [Z1, Z2, Z3, Z4, Z5, Z6, Z7, Z8, Z9, Z0] at q9
       refine WC.skip (WE.then_normal (WC.sub (fr' := [(6, _), (7, _)]) ?_ ⟨rfl, rfl, trivial⟩))
       refine WC.ret ?_
       refine WE.endW3 (.inl rfl) (res2 Tryz.results104 rfl rfl) ?_
       have key : ∀ (d : Nat), (n = m ∧ d = 0) ∨ (n < m ∧ ce = 1 ∧ (0 < n → d = 2) ∧ (n = 0 → d = 1)) → rdc m rs = d ∧ rs.take n = rs.take m ∧ rs.drop n = rs.drop m := by
        rintro d (⟨rfl, rfl⟩ | ⟨hlt, h1, h2, h3⟩)
        ·exact ⟨if_pos hnl, rfl, rfl⟩
        ·have h4 := (hc1 h1).1
         refine ⟨?_, by rw [List.take_of_length_le h4, List.take_of_length_le (by omega)], by rw [List.drop_eq_nil_of_le h4, List.drop_eq_nil_of_le (by omega)]⟩
         unfold rdc; rw [if_neg (by omega)]
         by_cases h0 : rs = []
         ·rw [if_pos h0, h3 (by rw [← len_nil] at h0; omega)]
         ·rw [if_neg h0, h2 (by rw [← len_nil] at h0; omega)]
       rcases (show ce = 0 ∨ ce = 1 by omega) with rfl | rfl
       ·first | (exfalso; omega) | (exfalso; simp [erv_nil] at q3; done) | (exfalso; simp at q9; done) | (obtain ⟨k1, k2, k3⟩ := key 0 (by omega); rw [k1, ← k2, ← k3, ← hL2]; exact ⟨_, _, rfl, rfl, hY⟩) | (obtain ⟨k1, k2, k3⟩ := key 2 (by omega); rw [k1, ← k2, ← k3, ← hL2]; exact ⟨_, _, rfl, rfl, hY⟩) | (obtain ⟨k1, k2, k3⟩ := key 1 (by omega); rw [k1, ← k2, ← k3, ← hL2]; exact ⟨_, _, rfl, rfl, hY⟩)
       ·first | (exfalso; omega) | (exfalso; simp [erv_nil] at q3; done) | (exfalso; simp at q9; done) | (obtain ⟨k1, k2, k3⟩ := key 0 (by omega); rw [k1, ← k2, ← k3, ← hL2]; exact ⟨_, _, rfl, rfl, hY⟩) | (obtain ⟨k1, k2, k3⟩ := key 2 (by omega); rw [k1, ← k2, ← k3, ← hL2]; exact ⟨_, _, rfl, rfl, hY⟩) | (obtain ⟨k1, k2, k3⟩ := key 1 (by omega); rw [k1, ← k2, ← k3, ← hL2]; exact ⟨_, _, rfl, rfl, hY⟩)
     ·
      try simp only [Z1, Z2, Z3, Z4, Z5, Z6, Z7, Z8, Z9, Z0] at s9_2
      refine WL.skip rfl rfl rfl ?_
      refine WL.skip rfl rfl rfl ?_
      refine WL.skip rfl rfl rfl ?_
      refine WL.q (oq_pick_f rfl rfl) rfl rfl rfl ?_
      refine WL.nil (WE.then_normal (WC.sub (fr' := [(6, _), (7, _), (44, _)]) ?_ ⟨rfl, rfl, rfl, trivial⟩))
      refine WC.cond_f rfl ?_
      refine WC.skip (WE.then_normal (WC.sub (fr' := [(6, _), (7, _)]) ?_ ⟨rfl, rfl, trivial⟩))
      refine WC.ret ?_
      refine WE.endW3 (.inl rfl) (res2 Tryz.results104 rfl rfl) ?_
      have key : ∀ (d : Nat), (n = m ∧ d = 0) ∨ (n < m ∧ ce = 1 ∧ (0 < n → d = 2) ∧ (n = 0 → d = 1)) → rdc m rs = d ∧ rs.take n = rs.take m ∧ rs.drop n = rs.drop m := by
       rintro d (⟨rfl, rfl⟩ | ⟨hlt, h1, h2, h3⟩)
       ·exact ⟨if_pos hnl, rfl, rfl⟩
       ·have h4 := (hc1 h1).1
        refine ⟨?_, by rw [List.take_of_length_le h4, List.take_of_length_le (by omega)], by rw [List.drop_eq_nil_of_le h4, List.drop_eq_nil_of_le (by omega)]⟩
        unfold rdc; rw [if_neg (by omega)]
        by_cases h0 : rs = []
        ·rw [if_pos h0, h3 (by rw [← len_nil] at h0; omega)]
        ·rw [if_neg h0, h2 (by rw [← len_nil] at h0; omega)]
      rcases (show ce = 0 ∨ ce = 1 by omega) with rfl | rfl
      ·first | (exfalso; omega) | (exfalso; simp [erv_nil] at q3; done) | (exfalso; simp at q9; done) | (obtain ⟨k1, k2, k3⟩ := key 0 (by omega); rw [k1, ← k2, ← k3, ← hL2]; exact ⟨_, _, rfl, rfl, hY⟩) | (obtain ⟨k1, k2, k3⟩ := key 2 (by omega); rw [k1, ← k2, ← k3, ← hL2]; exact ⟨_, _, rfl, rfl, hY⟩) | (obtain ⟨k1, k2, k3⟩ := key 1 (by omega); rw [k1, ← k2, ← k3, ← hL2]; exact ⟨_, _, rfl, rfl, hY⟩)
      ·first | (exfalso; omega) | (exfalso; simp [erv_nil] at q3; done) | (exfalso; simp at q9; done) | (obtain ⟨k1, k2, k3⟩ := key 0 (by omega); rw [k1, ← k2, ← k3, ← hL2]; exact ⟨_, _, rfl, rfl, hY⟩) | (obtain ⟨k1, k2, k3⟩ := key 2 (by omega); rw [k1, ← k2, ← k3, ← hL2]; exact ⟨_, _, rfl, rfl, hY⟩) | (obtain ⟨k1, k2, k3⟩ := key 1 (by omega); rw [k1, ← k2, ← k3, ← hL2]; exact ⟨_, _, rfl, rfl, hY⟩)
theorem readFull (base : Nat) (E : Hp) (kE : TypeId) (pE pU : Addr) (hS : Sn E kE pE pU) (k : TypeId) (r : Value) (f : FuncId) (Rt : List UInt8 → Hp → Prop) (hR : Rr base k r f E kE pE pU Rt) (bb off m c : Nat) (e : TypeId) (L : List UInt8) (hm : off + m ≤ L.length) (hmc : m ≤ c) (hl : L.length ≤ 9223372036854775807) (rs : List UInt8) (X : Hp) (hX : Rt rs X) (hrs : rs.length ≤ 1000000) : FnW Tryz.prog 92 [.iface k r, Sl bb off m c] base [X, Bf bb e L, E] (fun v Hs => ∃ X2 vn, v = .tuple #[vn, erv kE pE pU 0 (rdc m rs)] ∧ Hs = [X2, Bf bb e (putB L off (rs.take m)), E] ∧ Rt (rs.drop m) X2) := by
 refine FnW.enter (n := 13) Tryz.func92 rfl rfl fun w0 R0 hbase => ?_
 subst hbase
 show WC _ _ _ _ _ _ _ ([X, Bf bb e L, E, R0])
 refine WC.sub (fr' := [(0, _), (1, _)]) ?_ ⟨rfl, rfl, trivial⟩
 refine WC.seq (WC.region ?_)
 refine WL.q (oq_assign rfl) rfl rfl rfl ?_
 refine WL.q (oq_assign rfl) rfl rfl rfl ?_
 refine WL.nil (WE.then_normal (WC.sub (fr' := [(0, _), (1, _)]) ?_ ⟨rfl, rfl, trivial⟩))
 refine WC.seq (WC.region ?_)
 refine WL.q (oq_move rfl) rfl rfl rfl ?_
 refine WL.q (oq_move rfl) rfl rfl rfl ?_
 refine WL.q (oq_move rfl) rfl rfl rfl ?_
 refine WL.q (oq_len_sl Tryz.underlying28 rfl) rfl rfl rfl ?_
 refine WL.f2 ?_
 refine WL.f2 ?_
 refine WL.f2 ?_
 refine WL.callWE (fun a w hf => ent_fn call104 rfl hf w) (readLeast _ E kE pE pU hS k r f Rt hR bb off m c e L hm hmc hl rs X hX hrs) rfl rfl rfl rfl fun v1_4 Hs1_4 hR1_4 => ?_
 obtain ⟨X2, vn, rfl, rfl, hX2⟩ := hR1_4
 refine WL.app3 ?_
 refine WL.q (oq_extract rfl rfl) rfl rfl rfl ?_
 refine WL.q (oq_extract rfl rfl) rfl rfl rfl ?_
 refine WL.q (oq_assign rfl) rfl rfl rfl ?_
 refine WL.q (oq_assign rfl) rfl rfl rfl ?_
 refine WL.nil (WE.then_normal (WC.sub (fr' := [(4, _), (5, _)]) ?_ ⟨rfl, rfl, trivial⟩))
 refine WC.ret ?_
 refine WE.endW3 (.inl rfl) (res2 Tryz.results92 rfl rfl) ?_
 exact ⟨X2, vn, rfl, rfl, hX2⟩
end DD
end Go.Proofs.YtodlhaghdplclaaGreatDoor
/- The encoder. -/
namespace Go.Proofs.YtodlhaghdplclaaGreatDoor
open Go Go.RowKit V EA EB EC ED EE EF EG EH EI EJ EK EL
set_option linter.unusedSimpArgs false
set_option linter.unusedVariables false
set_option maxRecDepth 10000
namespace EM
theorem call63 : Callable Tryz.prog 63 := ⟨_, Tryz.func63, rfl, by kernel_rfl⟩
theorem call64 : Callable Tryz.prog 64 := ⟨_, Tryz.func64, rfl, by kernel_rfl⟩
theorem call65 : Callable Tryz.prog 65 := ⟨_, Tryz.func65, rfl, by kernel_rfl⟩
theorem call66 : Callable Tryz.prog 66 := ⟨_, Tryz.func66, rfl, by kernel_rfl⟩
theorem call67 : Callable Tryz.prog 67 := ⟨_, Tryz.func67, rfl, by kernel_rfl⟩
theorem call68 : Callable Tryz.prog 68 := ⟨_, Tryz.func68, rfl, by kernel_rfl⟩
theorem call69 : Callable Tryz.prog 69 := ⟨_, Tryz.func69, rfl, by kernel_rfl⟩
theorem call70 : Callable Tryz.prog 70 := ⟨_, Tryz.func70, rfl, by kernel_rfl⟩
theorem flat28 : Flat Tryz.prog 28 := ⟨_, Tryz.underlying28, by simp⟩
theorem flat62 : Flat Tryz.prog 62 := ⟨_, Tryz.underlying62, by simp⟩
theorem flat107 : Flat Tryz.prog 107 := ⟨_, Tryz.underlying107, by simp⟩
theorem ty20 : Ty Tryz.prog 20 .nilIface 1 16 := ty_of (by kernel_rfl)
theorem ty28 : Ty Tryz.prog 28 (.slice none 0 0) 1 24 := ty_of (by kernel_rfl)
theorem ty62 : Ty Tryz.prog 62 (.slice none 0 0) 1 24 := ty_of (by kernel_rfl)
theorem ty107 : Ty Tryz.prog 107 (.pointer none) 1 8 := ty_of (by kernel_rfl)
theorem ty151 : Ty Tryz.prog 151 .nilIface 1 16 := ty_of (by kernel_rfl)
theorem ty155 : Ty Tryz.prog 155 (.agg #[(.int .u32 0)]) 1 4 := ty_of (by kernel_rfl)
theorem conc74 : Conc Tryz.prog 74 := ⟨_, Tryz.underlying74, by simp⟩
theorem conc107 : Conc Tryz.prog 107 := ⟨_, Tryz.underlying107, by simp⟩
theorem conc153 : Conc Tryz.prog 153 := ⟨_, Tryz.underlying153, by simp⟩
theorem str155 : Str Tryz.prog 155 #[(0, 1)] := ⟨_, Tryz.underlying155, fun w => by kernel_rfl⟩
theorem fld109_0 : Fld Tryz.prog 109 0 0 62 := fld_of Tryz.underlying109 rfl rfl rfl ty62 (by decide)
theorem fld109_1 : Fld Tryz.prog 109 1 1 28 := fld_of Tryz.underlying109 rfl rfl rfl ty28 (by decide)
theorem fld149_0 : Fld Tryz.prog 149 0 0 107 := fld_of Tryz.underlying149 rfl rfl rfl ty107 (by decide)
theorem fld149_1 : Fld Tryz.prog 149 1 1 107 := fld_of Tryz.underlying149 rfl rfl rfl ty107 (by decide)
theorem hdR_split {base bb : Nat} {l : List HV} {acc : List UInt8} {M Z : Hp} {w : Value} {Hs : List Hp} (h : HdR base bb l acc M Z w Hs) : ∃ G' acc', Hs = [G', M, Z] ∧ BufG base bb acc' G' ∧ (w = .nilIface ∨ ∃ k u, w = .iface k u) ∧ (nilI w = true → l.any badH = false ∧ BufG base bb (acc ++ hdrs l) G') ∧ (nilI w = false → l.any badH = true ∧ ∃ k e, w = .iface k e) := by
 obtain ⟨G', acc', rfl, hB, h⟩ := h
 refine ⟨G', acc', rfl, hB, ?_⟩
 cases hb : l.any badH with
 | true => rw [hb] at h; obtain ⟨k, e, rfl⟩ := h; exact ⟨(.inr ⟨_, _, rfl⟩), (fun h => nomatch h), (fun _ => ⟨rfl, _, _, rfl⟩)⟩
 | false => rw [hb] at h; obtain ⟨rfl, rfl⟩ := h; exact ⟨(.inl rfl), (fun _ => ⟨rfl, hB⟩), (fun h => nomatch h)⟩
theorem app_nil {a b : List UInt8} (h : b = []) : a ++ b = a := by rw [h, List.append_nil]
theorem mid2 (W G F : Hp) : ((W ++ G) ++ F).Perm (G ++ (W ++ F)) := by simpa using mid1 W G F []
def pre12 (hl pl : Nat) : List UInt8 := pre8 hl pl ++ crcB (pre8 hl pl)
theorem pre12_len (hl pl : Nat) : (pre12 hl pl).length = 12 := by unfold pre12 pre8 crcB; simp [be_len]
def msg0 (l : List HV) (data : List UInt8) : List UInt8 := pre12 (hdrs l).length data.length ++ hdrs l ++ data
def msgB (l : List HV) (data : List UInt8) : List UInt8 := msg0 l data ++ crcB (msg0 l data)
abbrev EncB (eb b1 b2 : Nat) : Hp := [(eb, .cells #[Pt b1 0, Pt b2 0] 149 (0, 0))]
def MsgR (base eb b1 b2 ob : Nat) (l : List HV) (data acc : List UInt8) (M Z Pg : Hp) (w : Value) (Hs : List Hp) : Prop :=
 ∃ B1 B2 O c1 c2 c3, Hs = [EncB eb b1 b2, B1, B2, O, M, Z, Pg] ∧ BufG base b1 c1 B1 ∧ BufG base b2 c2 B2 ∧ BufG base ob c3 O ∧ if l.any badH then ∃ k e, w = .iface k e else w = .nilIface ∧ c3 = acc ++ msgB l data
theorem encode (base eb b1 b2 ob : Nat) (a1 a2 acc0 : List UInt8) (B1 B2 O : Hp) (h1 : BufG base b1 a1 B1) (h2 : BufG base b2 a2 B2) (hO : BufG base ob acc0 O) (vh : Value) (M Z : Hp) (l : List HV) (ps : List PV) (hr : RdS 2 vh M ps.length (recsV PV.row ps)) (hp : Pair l ps Z) (hok : okH l) (hn : l.length ≤ 1000) (hsz : szL l ≤ 100000) (vp : Value) (Pg : Hp) (data : List UInt8) (hrp : RdS 1 vp Pg data.length (bytesV data)) (hpl : data.length ≤ 50000) (hal : acc0.length ≤ 100000) : FnW Tryz.prog 49 [Pt eb 0, .iface 107 (Pt ob 0), .agg #[vh, vp]] base [EncB eb b1 b2, B1, B2, O, M, Z, Pg] (MsgR base eb b1 b2 ob l data acc0 M Z Pg) := by
 have hdl : (hdrs l).length ≤ szL l := by have := hdrs_len hok l.length (Nat.le_refl _); rw [List.take_length] at this; exact this
 have h12 := pre12_len (hdrs l).length data.length
 refine FnW.enter (n := 113) Tryz.func49 rfl rfl fun w0 R0 hbase => ?_
 subst hbase
 show WC _ _ _ _ _ _ _ ([EncB eb b1 b2, B1, B2, O, M, Z, Pg, R0])
 refine WC.sub (fr' := [(0, _), (1, _), (2, _)]) ?_ ⟨rfl, rfl, rfl, trivial⟩
 refine WC.seq (WC.region ?_)
 refine WL.box rfl rfl rfl fun xb hxb => ?_
 refine WL.q (oq_assign rfl) rfl rfl rfl ?_
 refine WL.nil (WE.then_normal (WC.sub (fr' := [(0, _), (1, _), (5, _)]) ?_ ⟨rfl, rfl, rfl, trivial⟩))
 refine WC.seq (WC.region ?_)
 refine WL.q (oq_move rfl) rfl rfl rfl ?_
 refine WL.q (oq_nilCheck rfl) rfl rfl rfl ?_
 refine WL.q (oq_fieldAddr fld149_0 rfl) rfl rfl rfl ?_
 refine WL.q (oq_load flat107 rfl (.tail _ (.head _)) (List.mem_singleton.2 rfl) rfl) rfl rfl rfl ?_
 refine WL.f2 ?_
 refine WL.callW1 (bufReset _ b1 a1 B1 h1) call63 rfl rfl rfl fun v1_4 Hs1_4 hR1_4 => ?_
 obtain ⟨B1_, rfl, rfl, h1_⟩ := hR1_4
 refine WL.to1 ?_
 refine WL.nil (WE.then_normal (WC.sub (fr' := [(0, _), (1, _), (5, _)]) ?_ ⟨rfl, rfl, rfl, trivial⟩))
 refine WC.seq (WC.region ?_)
 refine WL.q (oq_move rfl) rfl rfl rfl ?_
 refine WL.q (oq_nilCheck rfl) rfl rfl rfl ?_
 refine WL.q (oq_fieldAddr fld149_1 rfl) rfl rfl rfl ?_
 refine WL.q (oq_load flat107 rfl (.tail _ (.tail _ (.head _))) (List.mem_singleton.2 rfl) rfl) rfl rfl rfl ?_
 refine WL.f3 ?_
 refine WL.callW1 (bufReset _ b2 a2 B2 h2) call63 rfl rfl rfl fun v2_4 Hs2_4 hR2_4 => ?_
 obtain ⟨B2_, rfl, rfl, h2_⟩ := hR2_4
 refine WL.to1 ?_
 refine WL.nil (WE.then_normal (WC.sub (fr' := [(0, _), (1, _), (5, _)]) ?_ ⟨rfl, rfl, rfl, trivial⟩))
 refine WC.seq (WC.region ?_)
 refine WL.q (oq_move rfl) rfl rfl rfl ?_
 refine WL.q (oq_nilCheck rfl) rfl rfl rfl ?_
 refine WL.q (oq_fieldAddr fld149_1 rfl) rfl rfl rfl ?_
 refine WL.q (oq_load flat107 rfl (.tail _ (.tail _ (.tail _ (.head _)))) (List.mem_singleton.2 rfl) rfl) rfl rfl rfl ?_
 refine WL.q (oq_makeI conc107 rfl) rfl rfl rfl ?_
 refine WL.q (oq_assign rfl) rfl rfl rfl ?_
 refine WL.nil (WE.then_normal (WC.sub (fr' := [(0, _), (1, _), (5, _), (7, _)]) ?_ ⟨rfl, rfl, rfl, rfl, trivial⟩))
 refine WC.seq (WC.seq ?_)
 refine WC.tailM (pl := []) (ql := [_, _, _, _, _, _, _]) (tl := [_, _]) [] [0, 1, 2, 3, 4, 5, 6] 7 [8] (by kernel_rfl) (by kernel_rfl) (by kernel_rfl) (by kernel_rfl) (by kernel_rfl) (by kernel_rfl) (by decide) rfl rfl rfl (by decide) (by repeat (first | with_reducible exact QOk.body | with_reducible apply QOk.then | with_reducible apply QOk.block | exact QOk.body | apply QOk.then | apply QOk.block)) ?_
 refine WM.nil ?_
 refine WY.q (oq_move rfl) rfl rfl rfl ?_
 refine WY.q (oq_nilCheck rfl) rfl rfl rfl ?_
 refine WY.q (oq_fieldAddr fld149_0 rfl) rfl rfl rfl ?_
 refine WY.q (oq_load flat107 rfl (.tail _ (.tail _ (.tail _ (.head _)))) (List.mem_singleton.2 rfl) rfl) rfl rfl rfl ?_
 refine WY.q (oq_makeI conc107 rfl) rfl rfl rfl ?_
 refine WY.q (oq_fieldAddr fld109_0 rfl) rfl rfl rfl ?_
 refine WY.q (oq_load flat62 rfl (.tail _ (.tail _ (.head _))) (List.mem_singleton.2 rfl) rfl) rfl rfl rfl ?_
 refine WY.nil ?_
 refine WL.f6 ?_
 refine WL.f6 ?_
 refine WL.f3 ?_
 refine WL.callW3 (encHeaders _ b1 [] B1_ h1_ vh M Z l ps hr hp hok hn (by rw [List.length_nil]; omega)) call64 rfl rfl rfl fun v4_7 Hs4_7 hR4_7 => ?_
 obtain ⟨X1, c1, rfl, hc1, hei, he0, he1⟩ := hdR_split hR4_7
 refine WL.to3 ?_
 refine WL.q (oq_assign rfl) rfl rfl rfl ?_
 refine WL.nil (WE.then_normal (WC.sub (fr' := [(0, _), (1, _), (5, _), (6, _), (7, _)]) ?_ ⟨rfl, rfl, rfl, rfl, rfl, trivial⟩))
 refine WC.seq (WC.region ?_)
 refine WL.q (oq_move rfl) rfl rfl rfl ?_
 refine WL.q (oq_ineq Tryz.underlying99 rfl (hei)) rfl rfl rfl ?_
 refine WL.nil (WE.then_normal (WC.sub (fr' := [(0, _), (1, _), (5, _), (6, _), (7, _), (38, _)]) ?_ ⟨rfl, rfl, rfl, rfl, rfl, rfl, trivial⟩))
 refine WC.cond rfl (fun q5 => ?_) (fun q5 => ?_)
 ·
  try simp only [Z1, Z2, Z3, Z4, Z5, Z6, Z7, Z8, Z9, Z0] at q5
  refine WC.seq (WC.region ?_)
  refine WL.q (oq_move rfl) rfl rfl rfl ?_
  refine WL.q (oq_assign rfl) rfl rfl rfl ?_
  refine WL.nil (WE.then_normal (WC.sub (fr' := [(6, _)]) ?_ ⟨rfl, trivial⟩))
  refine WC.ret (WE.then_ret ?_)
  refine WE.f4 ?_
  refine WE.lose hxb ?_
  refine WE.f7 ?_
  refine WE.f7 ?_
  refine WE.f4 ?_
  refine WE.f4 ?_
  refine WE.f7 ?_
  refine WE.f6 ?_
  refine WE.f6 ?_
  refine WE.f7 ?_
  refine WE.endW7 (.inl rfl) (res1 Tryz.results49 rfl) ?_
  obtain ⟨hb, k9, e9, hv⟩ := he1 (by simpa using q5)
  exact ⟨_, _, _, _, _, _, rfl, hc1, h2_, hO, by rw [if_pos hb]; exact ⟨_, _, hv⟩⟩
 ·
  try simp only [Z1, Z2, Z3, Z4, Z5, Z6, Z7, Z8, Z9, Z0] at q5
  refine WC.skip (WE.then_normal (WC.sub (fr' := [(0, _), (1, _), (5, _), (7, _)]) ?_ ⟨rfl, rfl, rfl, rfl, trivial⟩))
  refine WC.seq ?_
  obtain ⟨hnb, hX1⟩ := he0 (by simpa using q5)
  rw [List.nil_append] at hX1
  refine WC.region ?_
  refine WL.q (oq_build #[_] str155 ty155 rfl rfl) rfl rfl rfl ?_
  refine WL.box rfl rfl rfl fun hb hhb => ?_
  refine WL.q (oq_assign rfl) rfl rfl rfl ?_
  refine WL.nil (WE.then_normal (WC.sub (fr' := [(0, _), (1, _), (5, _), (7, _), (8, _)]) ?_ ⟨rfl, rfl, rfl, rfl, rfl, trivial⟩))
  refine WC.seq (WC.region ?_)
  refine WL.q (oq_move rfl) rfl rfl rfl ?_
  refine WL.q (oq_move rfl) rfl rfl rfl ?_
  refine WL.q (oq_makeI conc153 rfl) rfl rfl rfl ?_
  refine WL.buildL Tryz.underlying176 ty151 rfl rfl (by decide) (by decide) rfl rfl rfl fun v8 A8 ho8 hne8 => ?_
  refine WL.callA (multiWriter v8 A8 [(107, Pt b2 0), (153, Pt hb 0)] ho8.rd (by simp) (by simp)) call65 rfl rfl rfl fun v8_4 N8_4 hR8_4 hN8_4 => ?_
  obtain ⟨mb, u, Ws, rfl, rfl, hwr⟩ := hR8_4
  refine WL.q (oq_assign rfl) rfl rfl rfl ?_
  refine WL.nil (WE.then_normal (WC.sub (fr' := [(0, _), (1, _), (5, _), (7, _), (8, _), (9, _)]) ?_ ⟨rfl, rfl, rfl, rfl, rfl, rfl, trivial⟩))
  refine WC.seq ?_
  refine WC.f2 ?_
  refine WC.f6 ?_
  refine WC.f2 ?_
  have hMw : MwG w0.heap.size mb u Ws b2 hb [] ((([(mb, .cells #[u] 180 (0, 0))] ++ Ws) ++ B2_) ++ Hash hb (crc [])) := ⟨_, h2_, rfl⟩
  refine WC.cat (WC.cat ?_)
  refine WC.region ?_
  refine WL.q (oq_move rfl) rfl rfl rfl ?_
  refine WL.q (oq_nilCheck rfl) rfl rfl rfl ?_
  refine WL.q (oq_fieldAddr fld149_0 rfl) rfl rfl rfl ?_
  refine WL.q (oq_load flat107 rfl (.tail _ (.tail _ (.tail _ (.tail _ (.tail _ (.tail _ (.head _))))))) (List.mem_singleton.2 rfl) rfl) rfl rfl rfl ?_
  refine WL.qc (oq_callRm (bufLenG _ b1 (hdrs l) X1 hX1 (by omega)) (.tail _ (.tail _ (.head _))) call66 rfl) rfl rfl rfl ?_
  refine WL.q (oq_conv Tryz.underlying3 Tryz.underlying74 rfl (by rw [u32_lo, u32_hi]; (first | omega | (simp only [List.length_cons, List.length_nil, List.length_append, List.length_drop, List.length_take]; omega)))) rfl rfl rfl ?_
  refine WL.q (oq_assign rfl) rfl rfl rfl ?_
  refine WL.nil (WE.then_normal (WC.sub (fr' := [(0, _), (1, _), (5, _), (7, _), (8, _), (9, _), (10, _)]) ?_ ⟨rfl, rfl, rfl, rfl, rfl, rfl, rfl, trivial⟩))
  refine WC.seq (WC.region ?_)
  refine WL.q (oq_fieldAddr fld109_1 rfl) rfl rfl rfl ?_
  refine WL.q (oq_load flat28 rfl (.tail _ (.tail _ (.tail _ (.tail _ (.tail _ (.head _)))))) (List.mem_singleton.2 rfl) rfl) rfl rfl rfl ?_
  refine WL.q (oq_len_rd hrp Tryz.underlying28 rfl) rfl rfl rfl ?_
  refine WL.q (oq_conv Tryz.underlying3 Tryz.underlying74 rfl (by rw [u32_lo, u32_hi]; (first | omega | (simp only [List.length_cons, List.length_nil, List.length_append, List.length_drop, List.length_take]; omega)))) rfl rfl rfl ?_
  refine WL.q (oq_assign rfl) rfl rfl rfl ?_
  refine WL.nil (WE.then_normal (WC.sub (fr' := [(0, _), (1, _), (5, _), (7, _), (8, _), (9, _), (10, _), (11, _)]) ?_ ⟨rfl, rfl, rfl, rfl, rfl, rfl, rfl, rfl, trivial⟩))
  refine WC.seq (WC.seq (WC.region ?_))
  refine WL.q (oq_move rfl) rfl rfl rfl ?_
  refine WL.q (oq_move rfl) rfl rfl rfl ?_
  refine WL.q (oq_move rfl) rfl rfl rfl ?_
  refine WL.q (oq_move rfl) rfl rfl rfl ?_
  refine WL.callW1 (encPrelude _ hb _ _ _ _ (mwWr _ mb u Ws b2 hb hwr) [] _ hMw (mwSum _ mb u Ws b2 hb) (hdrs l).length data.length (by omega) (by omega) (by simp)) call67 rfl rfl rfl fun v11_4 Hs11_4 hR11_4 => ?_
  obtain ⟨g2, rfl, rfl, hg2⟩ := hR11_4
  have hg2 : MwG w0.heap.size mb u Ws b2 hb (pre12 (hdrs l).length data.length) g2 := hg2
  refine WL.to1 ?_
  refine WL.q (oq_assign rfl) rfl rfl rfl ?_
  refine WL.nil (WE.then_normal (WC.sub (fr' := [(0, _), (1, _), (5, _), (6, _), (7, _), (8, _), (9, _), (10, _), (11, _)]) ?_ ⟨rfl, rfl, rfl, rfl, rfl, rfl, rfl, rfl, rfl, trivial⟩))
  refine WC.seq (WC.region ?_)
  refine WL.q (oq_move rfl) rfl rfl rfl ?_
  refine WL.q (oq_ineq Tryz.underlying99 rfl (.inl rfl)) rfl rfl rfl ?_
  refine WL.nil (WE.then_normal (WC.sub (fr' := [(0, _), (1, _), (5, _), (6, _), (7, _), (8, _), (9, _), (10, _), (11, _), (63, _)]) ?_ ⟨rfl, rfl, rfl, rfl, rfl, rfl, rfl, rfl, rfl, rfl, trivial⟩))
  refine WC.cond rfl (fun q12 => ?_) (fun q12 => ?_)
  ·
   try simp only [Z1, Z2, Z3, Z4, Z5, Z6, Z7, Z8, Z9, Z0] at q12
   first | contradiction | (exfalso; omega) | (exfalso; simp_all; done)
  ·
   try simp only [Z1, Z2, Z3, Z4, Z5, Z6, Z7, Z8, Z9, Z0] at q12
   refine WC.skip (WE.then_normal (WC.sub (fr' := [(0, _), (1, _), (5, _), (7, _), (8, _), (9, _), (10, _), (11, _)]) ?_ ⟨rfl, rfl, rfl, rfl, rfl, rfl, rfl, rfl, trivial⟩))
   refine WC.cut (ι := Hp × Hp) (fun i_ => (fun (X1 : Hp) (g : Hp) => [(0, Pt eb 0), (1, .iface 107 (Pt ob 0)), (5, Pt xb 0), (7, .iface 107 (Pt b2 0)), (8, Pt hb 0), (9, .iface 177 (Pt mb 0)), (11, .int .u32 (data.length : Int))]) i_.1 i_.2) (fun i_ => (fun (X1 : Hp) (g : Hp) => [EncB eb b1 b2, [(xb, .cells #[vh, vp] 109 (0, 0))], X1, g, O, M, Z, Pg, R0]) i_.1 i_.2) (fun i_ => (fun (X1 : Hp) (g : Hp) => BufG w0.heap.size b1 [] X1 ∧ MwG w0.heap.size mb u Ws b2 hb (pre12 (hdrs l).length data.length ++ hdrs l) g) i_.1 i_.2) ?_ ?_
   ·
    refine WC.seq (WC.region ?_)
    refine WL.q (oq_move rfl) rfl rfl rfl ?_
    refine WL.q (oq_gtr rfl rfl) rfl rfl rfl ?_
    refine WL.nil (WE.then_normal (WC.sub (fr' := [(0, _), (1, _), (5, _), (7, _), (8, _), (9, _), (11, _), (66, _)]) ?_ ⟨rfl, rfl, rfl, rfl, rfl, rfl, rfl, rfl, trivial⟩))
    refine WC.cond rfl (fun q14 => ?_) (fun q14 => ?_)
    ·
     try simp only [Z1, Z2, Z3, Z4, Z5, Z6, Z7, Z8, Z9, Z0] at q14
     refine WC.seq (WC.region ?_)
     refine WL.q (oq_move rfl) rfl rfl rfl ?_
     refine WL.q (oq_move rfl) rfl rfl rfl ?_
     refine WL.q (oq_nilCheck rfl) rfl rfl rfl ?_
     refine WL.q (oq_fieldAddr fld149_0 rfl) rfl rfl rfl ?_
     refine WL.q (oq_load flat107 rfl (.tail _ (.tail _ (.tail _ (.tail _ (.tail _ (.tail _ (.head _))))))) (List.mem_singleton.2 rfl) rfl) rfl rfl rfl ?_
     refine WL.q (oq_makeI conc107 rfl) rfl rfl rfl ?_
     refine WL.f2 ?_
     refine WL.callW2 (copyG _ _ _ _ _ (mwWr _ mb u Ws b2 hb hwr) _ g2 hg2 b1 (hdrs l) X1 hX1 (by omega) (by omega)) call68 rfl rfl rfl fun v15_6 Hs15_6 hR15_6 => ?_
     obtain ⟨X2, g3, rfl, rfl, hX2, hg3⟩ := hR15_6
     refine WL.to2 ?_
     refine WL.q (oq_move rfl) rfl rfl rfl ?_
     refine WL.q (oq_extract rfl rfl) rfl rfl rfl ?_
     refine WL.q (oq_extract rfl rfl) rfl rfl rfl ?_
     refine WL.q (oq_assign rfl) rfl rfl rfl ?_
     refine WL.nil (WE.then_normal (WC.sub (fr' := [(0, _), (1, _), (5, _), (6, _), (7, _), (8, _), (9, _), (11, _)]) ?_ ⟨rfl, rfl, rfl, rfl, rfl, rfl, rfl, rfl, trivial⟩))
     refine WC.seq (WC.region ?_)
     refine WL.q (oq_move rfl) rfl rfl rfl ?_
     refine WL.q (oq_ineq Tryz.underlying99 rfl (.inl rfl)) rfl rfl rfl ?_
     refine WL.nil (WE.then_normal (WC.sub (fr' := [(0, _), (1, _), (5, _), (6, _), (7, _), (8, _), (9, _), (11, _), (78, _)]) ?_ ⟨rfl, rfl, rfl, rfl, rfl, rfl, rfl, rfl, rfl, trivial⟩))
     refine WC.cond rfl (fun q16 => ?_) (fun q16 => ?_)
     ·
      try simp only [Z1, Z2, Z3, Z4, Z5, Z6, Z7, Z8, Z9, Z0] at q16
      first | contradiction | (exfalso; omega) | (exfalso; simp_all; done)
     ·
      try simp only [Z1, Z2, Z3, Z4, Z5, Z6, Z7, Z8, Z9, Z0] at q16
      refine WC.skip ?_
      refine WE.f2 ?_
      refine WE.forget ho8.fresh ?_
      refine WE.f8 ?_
      refine WE.f8 ?_
      refine WE.f5 ?_
      refine WE.f5 ?_
      refine WE.f8 ?_
      refine WE.f6 ?_
      refine WE.f6 ?_
      refine WE.f7 ?_
      refine WE.f8 ?_
      refine WE.meet (X2, g3) ?_ ⟨rfl, rfl, rfl, rfl, rfl, rfl, rfl, trivial⟩ (List.Perm.refl _)
      try dsimp only
      exact ⟨hX2, hg3⟩
    ·
     try simp only [Z1, Z2, Z3, Z4, Z5, Z6, Z7, Z8, Z9, Z0] at q14
     refine WC.skip ?_
     have h0 : hdrs l = [] := List.eq_nil_of_length_eq_zero (by omega)
     have hX1b : BufG w0.heap.size b1 [] X1 := by rw [h0] at hX1; exact hX1
     have hg2b : MwG w0.heap.size mb u Ws b2 hb (pre12 (hdrs l).length data.length ++ hdrs l) g2 := by rw [app_nil h0]; exact hg2
     refine WE.f1 ?_
     refine WE.forget ho8.fresh ?_
     refine WE.f8 ?_
     refine WE.f8 ?_
     refine WE.f5 ?_
     refine WE.f5 ?_
     refine WE.f8 ?_
     refine WE.f5 ?_
     refine WE.f6 ?_
     refine WE.f7 ?_
     refine WE.f8 ?_
     refine WE.meet (X1, g2) ?_ ⟨rfl, rfl, rfl, rfl, rfl, rfl, rfl, trivial⟩ (List.Perm.refl _)
     try dsimp only
     exact ⟨hX1b, hg2b⟩
   ·rintro ⟨X1, g⟩ hp
    try dsimp only at hp
    obtain ⟨hX1, hg⟩ := hp
    show WC _ _ _ _ _ _ ([(0, Pt eb 0), (1, .iface 107 (Pt ob 0)), (5, Pt xb 0), (7, .iface 107 (Pt b2 0)), (8, Pt hb 0), (9, .iface 177 (Pt mb 0)), (11, .int .u32 (data.length : Int))]) ([EncB eb b1 b2, [(xb, .cells #[vh, vp] 109 (0, 0))], X1, g, O, M, Z, Pg, R0])
    refine WC.cut (ι := Hp × Hp) (fun i_ => (fun (X1 : Hp) (g : Hp) => [(0, Pt eb 0), (1, .iface 107 (Pt ob 0)), (7, .iface 107 (Pt b2 0)), (8, Pt hb 0)]) i_.1 i_.2) (fun i_ => (fun (X1 : Hp) (g : Hp) => [EncB eb b1 b2, [(xb, .cells #[vh, vp] 109 (0, 0))], X1, g, O, M, Z, Pg, R0]) i_.1 i_.2) (fun i_ => (fun (X1 : Hp) (g : Hp) => BufG w0.heap.size b1 [] X1 ∧ MwG w0.heap.size mb u Ws b2 hb (msg0 l data) g) i_.1 i_.2) ?_ ?_
    ·
     refine WC.seq (WC.region ?_)
     refine WL.q (oq_move rfl) rfl rfl rfl ?_
     refine WL.q (oq_gtr rfl rfl) rfl rfl rfl ?_
     refine WL.nil (WE.then_normal (WC.sub (fr' := [(0, _), (1, _), (5, _), (7, _), (8, _), (9, _), (81, _)]) ?_ ⟨rfl, rfl, rfl, rfl, rfl, rfl, rfl, trivial⟩))
     refine WC.cond rfl (fun q18 => ?_) (fun q18 => ?_)
     ·
      try simp only [Z1, Z2, Z3, Z4, Z5, Z6, Z7, Z8, Z9, Z0] at q18
      refine WC.seq (WC.region ?_)
      refine WL.q (oq_move rfl) rfl rfl rfl ?_
      refine WL.q (oq_fieldAddr fld109_1 rfl) rfl rfl rfl ?_
      refine WL.q (oq_load flat28 rfl (.tail _ (.head _)) (List.mem_singleton.2 rfl) rfl) rfl rfl rfl ?_
      refine WL.f7 ?_
      refine WL.f4 ?_
      refine WL.callWE (fun a w hf => ent_inv1 invMW rfl rfl hf w) ((mwWr _ mb u Ws b2 hb hwr).run _ g vp Pg data hg hrp (by rw [List.length_append, h12]; omega) (by rw [List.length_append, h12]; omega)) rfl rfl rfl rfl fun v19_3 Hs19_3 hR19_3 => ?_
      obtain ⟨g4, rfl, rfl, hg4⟩ := hR19_3
      refine WL.app2 ?_
      refine WL.q (oq_move rfl) rfl rfl rfl ?_
      refine WL.q (oq_extract rfl rfl) rfl rfl rfl ?_
      refine WL.q (oq_extract rfl rfl) rfl rfl rfl ?_
      refine WL.q (oq_assign rfl) rfl rfl rfl ?_
      refine WL.nil (WE.then_normal (WC.sub (fr' := [(0, _), (1, _), (6, _), (7, _), (8, _)]) ?_ ⟨rfl, rfl, rfl, rfl, rfl, trivial⟩))
      refine WC.seq (WC.region ?_)
      refine WL.q (oq_move rfl) rfl rfl rfl ?_
      refine WL.q (oq_ineq Tryz.underlying99 rfl (.inl rfl)) rfl rfl rfl ?_
      refine WL.nil (WE.then_normal (WC.sub (fr' := [(0, _), (1, _), (6, _), (7, _), (8, _), (90, _)]) ?_ ⟨rfl, rfl, rfl, rfl, rfl, rfl, trivial⟩))
      refine WC.cond rfl (fun q20 => ?_) (fun q20 => ?_)
      ·
       try simp only [Z1, Z2, Z3, Z4, Z5, Z6, Z7, Z8, Z9, Z0] at q20
       first | contradiction | (exfalso; omega) | (exfalso; simp_all; done)
      ·
       try simp only [Z1, Z2, Z3, Z4, Z5, Z6, Z7, Z8, Z9, Z0] at q20
       refine WC.skip ?_
       refine WE.f8 ?_
       refine WE.f2 ?_
       refine WE.f8 ?_
       refine WE.f8 ?_
       refine WE.f8 ?_
       refine WE.f5 ?_
       refine WE.f8 ?_
       refine WE.f8 ?_
       refine WE.f8 ?_
       refine WE.meet (X1, g4) ?_ ⟨rfl, rfl, rfl, rfl, trivial⟩ (List.Perm.refl _)
       try dsimp only
       exact ⟨hX1, hg4⟩
     ·
      try simp only [Z1, Z2, Z3, Z4, Z5, Z6, Z7, Z8, Z9, Z0] at q18
      refine WC.skip ?_
      have h0 : data = [] := List.eq_nil_of_length_eq_zero (by omega)
      have hgb : MwG w0.heap.size mb u Ws b2 hb (msg0 l data) g := by unfold msg0; rw [app_nil h0]; exact hg
      refine WE.meet (X1, g) ?_ ⟨rfl, rfl, rfl, rfl, trivial⟩ (List.Perm.refl _)
      try dsimp only
      exact ⟨hX1, hgb⟩
    ·rintro ⟨X1, g⟩ hp
     try dsimp only at hp
     obtain ⟨hX1, hg⟩ := hp
     show WC _ _ _ _ _ _ ([(0, Pt eb 0), (1, .iface 107 (Pt ob 0)), (7, .iface 107 (Pt b2 0)), (8, Pt hb 0)]) ([EncB eb b1 b2, [(xb, .cells #[vh, vp] 109 (0, 0))], X1, g, O, M, Z, Pg, R0])
     refine WC.seq ?_
     have hm0 : (msg0 l data).length = 12 + (hdrs l).length + data.length := by unfold msg0; rw [List.length_append, List.length_append, h12]
     have hml : (msgB l data).length = 16 + (hdrs l).length + data.length := by unfold msgB crcB; rw [List.length_append, be_len, hm0]; omega
     refine WC.region ?_
     refine WL.q (oq_move rfl) rfl rfl rfl ?_
     refine WL.qc (oq_callRm (mwSum _ mb u Ws b2 hb (msg0 l data) g hg) (.tail _ (.tail _ (.tail _ (.head _)))) call69 rfl) rfl rfl rfl ?_
     refine WL.q (oq_assign rfl) rfl rfl rfl ?_
     refine WL.nil (WE.then_normal (WC.sub (fr' := [(0, _), (1, _), (7, _), (12, _)]) ?_ ⟨rfl, rfl, rfl, rfl, trivial⟩))
     refine WC.seq (WC.seq (WC.region ?_))
     refine WL.q (oq_move rfl) rfl rfl rfl ?_
     refine WL.q (oq_move rfl) rfl rfl rfl ?_
     refine WL.q (oq_makeI conc74 rfl) rfl rfl rfl ?_
     refine WL.buildL Tryz.underlying184 ty20 rfl rfl (by decide) (by decide) rfl rfl rfl fun v23 A23 ho23 hne23 => ?_
     refine WL.f4 ?_
     refine WL.f1 ?_
     refine WL.callW2 (zzWrite _ _ _ _ _ (midWr _ b2 ([(mb, Obj.cells #[u] 180 (0, 0))] ++ Ws) (Hash hb (crc (msg0 l data)))) (msg0 l data) g hg v23 A23 [⟨74, .u32, 4, ((crc (msg0 l data)).toNat : Int)⟩] ho23.rd (ok1 (okU _)) (by simp) (by rw [hm0]; simp; omega)) call70 rfl rfl rfl fun v23_4 Hs23_4 hR23_4 => ?_
     obtain ⟨g5, rfl, rfl, Gb, hGb, rfl⟩ := hR23_4
     rw [bytesN_1] at hGb
     have hGb : BufG w0.heap.size b2 (msgB l data) Gb := hGb
     refine WL.to2 ?_
     refine WL.q (oq_assign rfl) rfl rfl rfl ?_
     refine WL.nil (WE.then_normal (WC.sub (fr' := [(0, _), (1, _), (13, _)]) ?_ ⟨rfl, rfl, rfl, trivial⟩))
     refine WC.seq (WC.region ?_)
     refine WL.q (oq_move rfl) rfl rfl rfl ?_
     refine WL.q (oq_ineq Tryz.underlying99 rfl (.inl rfl)) rfl rfl rfl ?_
     refine WL.nil (WE.then_normal (WC.sub (fr' := [(0, _), (1, _), (13, _), (100, _)]) ?_ ⟨rfl, rfl, rfl, rfl, trivial⟩))
     refine WC.cond rfl (fun q24 => ?_) (fun q24 => ?_)
     ·
      try simp only [Z1, Z2, Z3, Z4, Z5, Z6, Z7, Z8, Z9, Z0] at q24
      first | contradiction | (exfalso; omega) | (exfalso; simp_all; done)
     ·
      try simp only [Z1, Z2, Z3, Z4, Z5, Z6, Z7, Z8, Z9, Z0] at q24
      refine WC.skip (WE.then_normal (WC.sub (fr' := [(0, _), (1, _)]) ?_ ⟨rfl, rfl, trivial⟩))
      refine WC.seq ?_
      refine WC.f1 ?_
      refine WC.reg (reg_out (mid2 _ Gb _)) ?_
      refine WC.region ?_
      refine WL.q (oq_move rfl) rfl rfl rfl ?_
      refine WL.q (oq_move rfl) rfl rfl rfl ?_
      refine WL.q (oq_nilCheck rfl) rfl rfl rfl ?_
      refine WL.q (oq_fieldAddr fld149_1 rfl) rfl rfl rfl ?_
      refine WL.q (oq_load flat107 rfl (.tail _ (.tail _ (.tail _ (.head _)))) (List.mem_singleton.2 rfl) rfl) rfl rfl rfl ?_
      refine WL.q (oq_makeI conc107 rfl) rfl rfl rfl ?_
      refine WL.f6 ?_
      refine WL.f1 ?_
      refine WL.callW2 (copyG _ _ _ _ _ (bufWr _ ob) acc0 O hO b2 (msgB l data) Gb hGb (by rw [hml]; omega) (by rw [hml]; omega)) call68 rfl rfl rfl fun v26_6 Hs26_6 hR26_6 => ?_
      obtain ⟨Y2, O2, rfl, rfl, hY2, hO2⟩ := hR26_6
      refine WL.to2 ?_
      refine WL.q (oq_move rfl) rfl rfl rfl ?_
      refine WL.q (oq_extract rfl rfl) rfl rfl rfl ?_
      refine WL.q (oq_extract rfl rfl) rfl rfl rfl ?_
      refine WL.q (oq_assign rfl) rfl rfl rfl ?_
      refine WL.nil (WE.then_normal (WC.sub (fr' := [(6, _)]) ?_ ⟨rfl, trivial⟩))
      refine WC.seq (WC.region ?_)
      refine WL.q (oq_move rfl) rfl rfl rfl ?_
      refine WL.q (oq_assign rfl) rfl rfl rfl ?_
      refine WL.nil (WE.then_normal (WC.sub (fr' := [(6, _)]) ?_ ⟨rfl, trivial⟩))
      refine WC.ret ?_
      refine WE.f2 ?_
      refine WE.forget (fresh_cat hN8_4 (fresh1 hhb)) ?_
      refine WE.f2 ?_
      refine WE.forget ho23.fresh ?_
      refine WE.f3 ?_
      refine WE.lose hxb ?_
      refine WE.f7 ?_
      refine WE.f7 ?_
      refine WE.f7 ?_
      refine WE.f7 ?_
      refine WE.f5 ?_
      refine WE.f5 ?_
      refine WE.f7 ?_
      refine WE.f7 ?_
      refine WE.endW7 (.inl rfl) (res1 Tryz.results49 rfl) ?_
      exact ⟨_, _, _, _, _, _, rfl, hX1, hY2, hO2, by rw [if_neg (by rw [hnb]; simp)]; exact ⟨rfl, rfl⟩⟩
end EM
end Go.Proofs.YtodlhaghdplclaaGreatDoor
/- Plain words on messages that are read: what bytes say. -/
namespace Go.Proofs.YtodlhaghdplclaaGreatDoor
open Go V EI EJ EK EM
set_option linter.unusedSimpArgs false
set_option linter.unusedVariables false
namespace DA
def nm (l : List UInt8) : Nat := l.foldl (fun n b => n * 256 + b.toNat) 0
theorem nm_foldl : ∀ (l : List UInt8) (a : Nat), l.foldl (fun n b => n * 256 + b.toNat) a = a * 256 ^ l.length + nm l
 | [], a => by simp [nm]
 | b :: l, a => by
  have h1 := nm_foldl l (a * 256 + b.toNat)
  have h2 := nm_foldl l (0 * 256 + b.toNat)
  unfold nm at h1 h2 ⊢
  rw [List.foldl_cons, List.foldl_cons, h1, h2, List.length_cons, Nat.pow_succ, Nat.zero_mul, Nat.zero_add, Nat.add_mul, Nat.mul_assoc, Nat.mul_comm 256]
  omega
theorem nm_cons (b : UInt8) (l : List UInt8) : nm (b :: l) = b.toNat * 256 ^ l.length + nm l := by
 have h := nm_foldl l (0 * 256 + b.toNat)
 rw [Nat.zero_mul, Nat.zero_add] at h
 unfold nm at h ⊢
 rw [List.foldl_cons, Nat.zero_mul, Nat.zero_add, h]
theorem nm_snoc (l : List UInt8) (b : UInt8) : nm (l ++ [b]) = nm l * 256 + b.toNat := by unfold nm; rw [List.foldl_append]; rfl
theorem nm_lt : ∀ (l : List UInt8), nm l < 256 ^ l.length
 | [] => by simp [nm]
 | b :: l => by
  have h := nm_lt l
  have hb := b.toNat_lt
  rw [nm_cons, List.length_cons, Nat.pow_succ]
  have : b.toNat * 256 ^ l.length + 256 ^ l.length ≤ 256 ^ l.length * 256 := by
   rw [← Nat.succ_mul, Nat.mul_comm]
   exact Nat.mul_le_mul_left _ hb
  omega
inductive VR where
 | short
 | other
 | ok (kind width int : Int) (text rest : List UInt8)
def vInt (w : Nat) (ik : IntKind) (r : List UInt8) : VR := if r.length < w then .short else .ok 1 (8 * w) (ik.wrap (nm (r.take w))) [] (r.drop w)
def vTxt (k : Int) (r : List UInt8) : VR := if r.length < 2 then .short else if (r.drop 2).length < nm (r.take 2) then .short else .ok k 0 0 ((r.drop 2).take (nm (r.take 2))) ((r.drop 2).drop (nm (r.take 2)))
def val (k : UInt8) (r : List UInt8) : VR :=
 if k = 0 then .ok 0 0 1 [] r
 else if k = 1 then .ok 0 0 0 [] r
 else if k = 2 then vInt 1 .i8 r
 else if k = 3 then vInt 2 .i16 r
 else if k = 4 then vInt 4 .i32 r
 else if k = 5 then vInt 8 .i64 r
 else if k = 6 then vTxt 2 r
 else if k = 7 then vTxt 3 r
 else if k = 8 then (if r.length < 8 then .short else .ok 4 0 (IntKind.i64.wrap (nm (r.take 8))) [] (r.drop 8))
 else if k = 9 then (if r.length < 16 then .short else .ok 5 0 0 (r.take 16) (r.drop 16))
 else .other
def put : List HV → HV → List HV
 | [], h => [h]
 | x :: l, h => if x.name = h.name then h :: l else x :: put l h
inductive TR where
 | ok (l : List HV)
 | opn (l : List HV)
 | short
 | other
def tkF : Nat → List UInt8 → List HV → TR
 | 0, _, _ => .other
 | _ + 1, [], acc => .ok acc
 | f + 1, n :: r, acc => if r = [] ∧ 0 < n.toNat then .opn acc else if r.length < n.toNat + 1 then .short else
  match val (r.getD n.toNat 0) (r.drop (n.toNat + 1)) with
  | .short => .short
  | .other => .other
  | .ok kd w i t r' => tkF f r' (put acc ⟨r.take n.toNat, kd, w, i, t⟩)
def tk (r : List UInt8) (acc : List HV) : TR := tkF (r.length + 1) r acc
theorem vInt_len {w : Nat} {ik : IntKind} {r r' : List UInt8} {a b c : Int} {t : List UInt8} (h : vInt w ik r = .ok a b c t r') : r'.length ≤ r.length := by
 unfold vInt at h; split at h
 ·cases h
 ·injection h with _ _ _ _ h; rw [← h, List.length_drop]; omega
theorem vTxt_len {k : Int} {r r' : List UInt8} {a b c : Int} {t : List UInt8} (h : vTxt k r = .ok a b c t r') : r'.length ≤ r.length := by
 unfold vTxt at h; split at h
 ·cases h
 ·split at h
  ·cases h
  ·injection h with _ _ _ _ h; rw [← h, List.length_drop, List.length_drop]; omega
theorem val_len {k : UInt8} {r r' : List UInt8} {a b c : Int} {t : List UInt8} (h : val k r = .ok a b c t r') : r'.length ≤ r.length := by
 unfold val at h
 split at h
 ·injection h with _ _ _ _ h; subst h; exact Nat.le_refl _
 split at h
 ·injection h with _ _ _ _ h; subst h; exact Nat.le_refl _
 split at h
 ·exact vInt_len h
 split at h
 ·exact vInt_len h
 split at h
 ·exact vInt_len h
 split at h
 ·exact vInt_len h
 split at h
 ·exact vTxt_len h
 split at h
 ·exact vTxt_len h
 split at h
 ·split at h
  ·cases h
  ·injection h with _ _ _ _ h; rw [← h, List.length_drop]; omega
 split at h
 ·split at h
  ·cases h
  ·injection h with _ _ _ _ h; rw [← h, List.length_drop]; omega
 cases h
theorem tkF_more : ∀ (f g : Nat) (r : List UInt8) (acc : List HV), r.length < f → r.length < g → tkF f r acc = tkF g r acc
 | 0, _, _, _, h, _ => by cases h
 | _, 0, _, _, _, h => by cases h
 | _ + 1, _ + 1, [], _, _, _ => rfl
 | f + 1, g + 1, n :: r, acc, h1, h2 => by
  unfold tkF
  split
  ·rfl
  ·split
   ·rfl
   ·cases hv : val (r.getD n.toNat 0) (r.drop (n.toNat + 1)) with
    | short => rfl
    | other => rfl
    | ok kd w i t r' =>
     have hl := val_len hv
     rw [List.length_drop] at hl
     rw [List.length_cons] at h1 h2
     exact tkF_more f g r' _ (by omega) (by omega)
theorem tk_nil (acc : List HV) : tk [] acc = .ok acc := rfl
theorem tk_opn {n : UInt8} {acc : List HV} (h : 0 < n.toNat) : tk [n] acc = .opn acc := by
 unfold tk tkF; rw [if_pos ⟨rfl, h⟩]
theorem tk_short {n : UInt8} {r : List UInt8} {acc : List HV} (h0 : ¬ (r = [] ∧ 0 < n.toNat)) (h : r.length < n.toNat + 1) : tk (n :: r) acc = .short := by
 unfold tk tkF; rw [if_neg h0, if_pos h]
theorem tk_val {n : UInt8} {r : List UInt8} {acc : List HV} (h : ¬ r.length < n.toNat + 1) : tk (n :: r) acc =
  match val (r.getD n.toNat 0) (r.drop (n.toNat + 1)) with
  | .short => .short
  | .other => .other
  | .ok kd w i t r' => tk r' (put acc ⟨r.take n.toNat, kd, w, i, t⟩) := by
 show tkF (r.length + 1 + 1) (n :: r) acc = _
 rw [tkF, if_neg (by rintro ⟨rfl, h2⟩; simp at h), if_neg h]
 cases hv : val (r.getD n.toNat 0) (r.drop (n.toNat + 1)) with
 | short => rfl
 | other => rfl
 | ok kd w i t r' =>
  have hl := val_len hv
  rw [List.length_drop] at hl
  exact tkF_more _ _ r' _ (by omega) (by omega)
abbrev DR := Nat × List HV × List UInt8 × Nat
def err (c : Nat) : DR := (c, [], [], 0)
def totl (b : List UInt8) : Nat := nm (b.take 4)
def head (b : List UInt8) : Nat := nm ((b.drop 4).take 4)
def sumOk (b : List UInt8) : Bool := decide ((crc (b.take 8)).toNat = nm ((b.drop 8).take 4))
def tailR (b : List UInt8) (l : List HV) : DR :=
 if b.length < totl b then err 2
 else if (crc (b.take (totl b - 4))).toNat ≠ nm ((b.drop (totl b - 4)).take 4) then err 3
 else (0, l, (b.drop (12 + head b)).take (totl b - 16 - head b), totl b)
def dec (b : List UInt8) : DR :=
 if b = [] then err 1
 else if b.length < 8 then err 2
 else if totl b = 0 then err 4
 else if b.length < 12 then err 2
 else if sumOk b = false then err 3
 else match tk ((b.drop 12).take (head b)) [] with
  | .short => err 2
  | .other => err 5
  | .ok l => tailR b l
  | .opn l => tailR b l
def said (b : List UInt8) : Bool :=
 if b = [] then true
 else if b.length < 8 then true
 else if totl b = 0 then true
 else if b.length < 12 then true
 else if sumOk b = false then true
 else if totl b < 16 + head b then false
 else if b.length < 12 + head b then (match tk (b.drop 12) [] with | .other => false | _ => true)
 else (match tk ((b.drop 12).take (head b)) [] with | .opn _ => false | _ => true)
end DA
end Go.Proofs.YtodlhaghdplclaaGreatDoor
/- Numbers that are read. -/
namespace Go.Proofs.YtodlhaghdplclaaGreatDoor
open Go Go.RowKit V EA EB EC ED EL DC DD DA
set_option linter.unusedSimpArgs false
set_option linter.unusedVariables false
set_option maxRecDepth 10000
namespace DE
theorem call92 : Callable Tryz.prog 92 := ⟨_, Tryz.func92, rfl, by kernel_rfl⟩
theorem call93 : Callable Tryz.prog 93 := ⟨_, Tryz.func93, rfl, by kernel_rfl⟩
theorem call105 : Callable Tryz.prog 105 := ⟨_, Tryz.func105, rfl, by kernel_rfl⟩
theorem call112 : Callable Tryz.prog 112 := ⟨_, Tryz.func112, rfl, by kernel_rfl⟩
theorem flat5 : Flat Tryz.prog 5 := ⟨_, Tryz.underlying5, by simp⟩
theorem ty5 : Ty Tryz.prog 5 (.int .u8 0) 1 1 := ty_of (by kernel_rfl)
theorem ty219 : Ty Tryz.prog 219 (.agg #[(.int .u8 0), (.int .u8 0), (.int .u8 0), (.int .u8 0)]) 4 4 := ty_of (by kernel_rfl)
theorem ty233 : Ty Tryz.prog 233 (.agg #[(.int .u8 0)]) 1 1 := ty_of (by kernel_rfl)
theorem ty251 : Ty Tryz.prog 251 (.agg #[(.int .u8 0), (.int .u8 0)]) 2 2 := ty_of (by kernel_rfl)
theorem ty252 : Ty Tryz.prog 252 (.agg #[(.int .u8 0), (.int .u8 0), (.int .u8 0), (.int .u8 0), (.int .u8 0), (.int .u8 0), (.int .u8 0), (.int .u8 0)]) 8 8 := ty_of (by kernel_rfl)
theorem erv0 {k : TypeId} {pE pU : Addr} {ob c : Nat} (h : nilI (erv k pE pU ob c) = true) : c = 0 := by rw [erv_nil] at h; exact of_decide_eq_true h
theorem ervN {k : TypeId} {pE pU : Addr} {ob c : Nat} (h : nilI (erv k pE pU ob c) = false) : c ≠ 0 := by rw [erv_nil] at h; exact of_decide_eq_false h
theorem rdc0 {n : Nat} {rs : List UInt8} (h : rdc n rs = 0) : n ≤ rs.length := by
 unfold rdc at h; split at h
 ·assumption
 ·split at h <;> cases h
theorem rdcN {n : Nat} {rs : List UInt8} (h : rdc n rs ≠ 0) : rs.length < n ∧ (rdc n rs = 1 ∨ rdc n rs = 2) := by
 unfold rdc at h ⊢; split at h
 ·exact absurd rfl h
 ·rename_i h1
  refine ⟨by omega, ?_⟩
  rw [if_neg h1]; split
  ·exact .inl rfl
  ·exact .inr rfl
theorem rdc_le {n : Nat} {rs : List UInt8} (h : n ≤ rs.length) : rdc n rs = 0 := if_pos h
theorem nm_split (a b : List UInt8) : nm (a ++ b) = nm a * 256 ^ b.length + nm b := by
 have h := nm_foldl b (nm a)
 unfold nm at h ⊢
 rw [List.foldl_append, h]
theorem nm_lt' {l : List UInt8} {n : Nat} (h : l.length ≤ n) : nm l < 256 ^ n := Nat.lt_of_lt_of_le (nm_lt l) (Nat.pow_le_pow_right (by decide) h)
theorem nm1 {l : List UInt8} (h : 1 ≤ l.length) : ((nm (l.take 1) : Nat) : Int) = byteAt l 0 := by
 match l, h with
 | a :: _, _ => simp [nm, byteAt]
theorem nm2 {l : List UInt8} (h : 2 ≤ l.length) : ((nm (l.take 2) : Nat) : Int) = byteAt l 0 * 256 + byteAt l 1 := by
 match l, h with
 | a :: b :: _, _ => simp [nm, byteAt]
theorem nm4 {l : List UInt8} (h : 4 ≤ l.length) : nm (l.take 4) = nm (l.take 2) * 65536 + nm ((l.drop 2).take 2) := by
 rw [show 4 = 2 + 2 by rfl, List.take_add, nm_split, List.length_take, List.length_drop, show min 2 (l.length - 2) = 2 by omega]
theorem nm8 {l : List UInt8} (h : 8 ≤ l.length) : nm (l.take 8) = nm (l.take 4) * 4294967296 + nm ((l.drop 4).take 4) := by
 rw [show 8 = 4 + 4 by rfl, List.take_add, nm_split, List.length_take, List.length_drop, show min 4 (l.length - 4) = 4 by omega]
theorem rd_whole {xb e n : Nat} {l : List UInt8} (h : l.length = n) : RdS 1 (Sl xb 0 n n) (Bf xb e l) l.length (bytesV l) := by
 have h1 := Sl.rd (b := xb) (off := 0) (n := n) (c := n) (e := e) (l := l) (by omega) (by omega)
 rw [List.drop_zero, List.take_of_length_le (by omega)] at h1; rw [h]; exact h1
theorem put_take {n : Nat} {rs : List UInt8} (h : n ≤ rs.length) : putB (List.replicate n 0) 0 (rs.take n) = rs.take n := putB_all (by rw [List.length_take, List.length_replicate]; omega)
theorem get16 (v : Value) (A : Hp) (l : List UInt8) (hr : RdS 1 v A l.length (bytesV l)) (hl : 2 ≤ l.length) : FnR Tryz.prog 105 [v] A (.int .u16 (nm (l.take 2) : Nat)) := by
 have h2 := nm2 hl
 refine FnR.enter (n := 13) Tryz.func105 rfl rfl fun w0 => ?_
 refine WC.sub (fr' := [(0, _)]) ?_ ⟨rfl, trivial⟩
 refine WC.seq (WC.region ?_)
 refine WL.q (oq_assign rfl) rfl rfl rfl ?_
 refine WL.nil (WE.then_normal (WC.sub (fr' := [(0, _)]) ?_ ⟨rfl, trivial⟩))
 refine WC.seq (WC.quiet (by kernel_rfl) (by kernel_rfl) ?_)
 refine WQ.q (oq_move rfl) rfl rfl rfl ?_
 refine WQ.q (oq_ixaddr hr Tryz.underlying28 ty5 rfl rfl (by omega)) rfl rfl rfl ?_
 refine WQ.load_byte hr (.head _) flat5 rfl (by omega) rfl rfl fun c1_2 hc1_2 hc1_2l hc1_2u => ?_
 refine WQ.q (oq_conv Tryz.underlying5 Tryz.underlying186 rfl (by rw [u16_lo, u16_hi]; (first | omega | (simp only [List.length_cons, List.length_nil, List.length_append, List.length_drop, List.length_take]; omega)))) rfl rfl rfl ?_
 refine WQ.q (oq_shll 256 rfl rfl (by decide) (by decide) (by rw [u16_lo, u16_hi]; (first | omega | (simp only [List.length_cons, List.length_nil, List.length_append, List.length_drop, List.length_take]; omega)))) rfl rfl rfl ?_
 refine WQ.q (oq_move rfl) rfl rfl rfl ?_
 refine WQ.q (oq_ixaddr hr Tryz.underlying28 ty5 rfl rfl (by omega)) rfl rfl rfl ?_
 refine WQ.load_byte hr (.head _) flat5 rfl (by omega) rfl rfl fun c1_7 hc1_7 hc1_7l hc1_7u => ?_
 refine WQ.q (oq_conv Tryz.underlying5 Tryz.underlying186 rfl (by rw [u16_lo, u16_hi]; (first | omega | (simp only [List.length_cons, List.length_nil, List.length_append, List.length_drop, List.length_take]; omega)))) rfl rfl rfl ?_
 refine WQ.q (oq_orl 8 rfl rfl (by omega) (by omega) (by omega) (by rw [u16_hi]; omega)) rfl rfl rfl ?_
 refine WQ.q (oq_assign rfl) rfl rfl rfl ?_
 refine WQ.nil (WE.then_normal (WC.sub (fr' := [(2, _)]) ?_ ⟨rfl, trivial⟩))
 refine WC.ret ?_
 refine WE.endR (.inl rfl) (res1 Tryz.results105 rfl) ?_
 rw [h2, hc1_2, hc1_7]
theorem get32 (v : Value) (A : Hp) (l : List UInt8) (hr : RdS 1 v A l.length (bytesV l)) (hl : 4 ≤ l.length) : FnR Tryz.prog 93 [v] A (.int .u32 (nm (l.take 4) : Nat)) := by
 have hdl : (l.drop 2).length = l.length - 2 := List.length_drop
 obtain ⟨v2, hv2, hov⟩ := slice_val (i := 2) (j := (l.length : Int)) hr ty5 (by omega)
 have hr2 : RdS 1 v2 A (l.drop 2).length (bytesV (l.drop 2)) := by rw [hdl]; exact rd_at 2 (by omega) hv2
 have b1 : nm (l.take 2) < 65536 := nm_lt' (n := 2) (by rw [List.length_take]; omega)
 have b2 : nm ((l.drop 2).take 2) < 65536 := nm_lt' (n := 2) (by rw [List.length_take]; omega)
 have h4 := nm4 hl
 refine FnR.enter (n := 12) Tryz.func93 rfl rfl fun w0 => ?_
 refine WC.sub (fr' := [(0, _)]) ?_ ⟨rfl, trivial⟩
 refine WC.seq (WC.region ?_)
 refine WL.q (oq_assign rfl) rfl rfl rfl ?_
 refine WL.nil (WE.then_normal (WC.sub (fr' := [(0, _)]) ?_ ⟨rfl, trivial⟩))
 refine WC.seq (WC.quiet (by kernel_rfl) (by kernel_rfl) ?_)
 refine WQ.q (oq_move rfl) rfl rfl rfl ?_
 refine WQ.qc (oq_callRm (get16 v A l hr (by omega)) (by repeat (first | exact .head _ | apply List.Mem.tail)) call105 rfl) rfl rfl rfl ?_
 refine WQ.q (oq_conv Tryz.underlying186 Tryz.underlying74 rfl (by rw [u32_lo, u32_hi]; (first | omega | (simp only [List.length_cons, List.length_nil, List.length_append, List.length_drop, List.length_take]; omega)))) rfl rfl rfl ?_
 refine WQ.q (oq_shll 65536 rfl rfl (by decide) (by decide) (by rw [u32_lo, u32_hi]; (first | omega | (simp only [List.length_cons, List.length_nil, List.length_append, List.length_drop, List.length_take]; omega)))) rfl rfl rfl ?_
 refine WQ.q (oq_move rfl) rfl rfl rfl ?_
 refine WQ.q (hov Tryz.underlying28 rfl ⟨_, rfl⟩ rfl) rfl rfl rfl ?_
 refine WQ.qc (oq_callRm (get16 v2 A (l.drop 2) hr2 (by omega)) (by repeat (first | exact .head _ | apply List.Mem.tail)) call105 rfl) rfl rfl rfl ?_
 refine WQ.q (oq_conv Tryz.underlying186 Tryz.underlying74 rfl (by rw [u32_lo, u32_hi]; (first | omega | (simp only [List.length_cons, List.length_nil, List.length_append, List.length_drop, List.length_take]; omega)))) rfl rfl rfl ?_
 refine WQ.q (oq_orl 16 rfl rfl (by omega) (by omega) (by omega) (by rw [u32_hi]; omega)) rfl rfl rfl ?_
 refine WQ.q (oq_assign rfl) rfl rfl rfl ?_
 refine WQ.nil (WE.then_normal (WC.sub (fr' := [(2, _)]) ?_ ⟨rfl, trivial⟩))
 refine WC.ret ?_
 refine WE.endR (.inl rfl) (res1 Tryz.results93 rfl) ?_
 congr 1; rw [h4]; omega
theorem get64 (v : Value) (A : Hp) (l : List UInt8) (hr : RdS 1 v A l.length (bytesV l)) (hl : 8 ≤ l.length) : FnR Tryz.prog 112 [v] A (.int .u64 (nm (l.take 8) : Nat)) := by
 have hdl : (l.drop 4).length = l.length - 4 := List.length_drop
 obtain ⟨v2, hv2, hov⟩ := slice_val (i := 4) (j := (l.length : Int)) hr ty5 (by omega)
 have hr2 : RdS 1 v2 A (l.drop 4).length (bytesV (l.drop 4)) := by rw [hdl]; exact rd_at 4 (by omega) hv2
 have b1 : nm (l.take 4) < 4294967296 := nm_lt' (n := 4) (by rw [List.length_take]; omega)
 have b2 : nm ((l.drop 4).take 4) < 4294967296 := nm_lt' (n := 4) (by rw [List.length_take]; omega)
 have h4 := nm8 hl
 refine FnR.enter (n := 12) Tryz.func112 rfl rfl fun w0 => ?_
 refine WC.sub (fr' := [(0, _)]) ?_ ⟨rfl, trivial⟩
 refine WC.seq (WC.region ?_)
 refine WL.q (oq_assign rfl) rfl rfl rfl ?_
 refine WL.nil (WE.then_normal (WC.sub (fr' := [(0, _)]) ?_ ⟨rfl, trivial⟩))
 refine WC.seq (WC.quiet (by kernel_rfl) (by kernel_rfl) ?_)
 refine WQ.q (oq_move rfl) rfl rfl rfl ?_
 refine WQ.qc (oq_callRm (get32 v A l hr (by omega)) (by repeat (first | exact .head _ | apply List.Mem.tail)) call93 rfl) rfl rfl rfl ?_
 refine WQ.q (oq_conv Tryz.underlying74 Tryz.underlying73 rfl (by rw [u64_lo, u64_hi]; (first | omega | (simp only [List.length_cons, List.length_nil, List.length_append, List.length_drop, List.length_take]; omega)))) rfl rfl rfl ?_
 refine WQ.q (oq_shll 4294967296 rfl rfl (by decide) (by decide) (by rw [u64_lo, u64_hi]; (first | omega | (simp only [List.length_cons, List.length_nil, List.length_append, List.length_drop, List.length_take]; omega)))) rfl rfl rfl ?_
 refine WQ.q (oq_move rfl) rfl rfl rfl ?_
 refine WQ.q (hov Tryz.underlying28 rfl ⟨_, rfl⟩ rfl) rfl rfl rfl ?_
 refine WQ.qc (oq_callRm (get32 v2 A (l.drop 4) hr2 (by omega)) (by repeat (first | exact .head _ | apply List.Mem.tail)) call93 rfl) rfl rfl rfl ?_
 refine WQ.q (oq_conv Tryz.underlying74 Tryz.underlying73 rfl (by rw [u64_lo, u64_hi]; (first | omega | (simp only [List.length_cons, List.length_nil, List.length_append, List.length_drop, List.length_take]; omega)))) rfl rfl rfl ?_
 refine WQ.q (oq_orl 32 rfl rfl (by omega) (by omega) (by omega) (by rw [u64_hi]; omega)) rfl rfl rfl ?_
 refine WQ.q (oq_assign rfl) rfl rfl rfl ?_
 refine WQ.nil (WE.then_normal (WC.sub (fr' := [(2, _)]) ?_ ⟨rfl, trivial⟩))
 refine WC.ret ?_
 refine WE.endR (.inl rfl) (res1 Tryz.results112 rfl) ?_
 congr 1; rw [h4]; omega
theorem dec8 (base : Nat) (E : Hp) (kE : TypeId) (pE pU : Addr) (hS : Sn E kE pE pU) (k : TypeId) (r : Value) (f : FuncId) (Rt : List UInt8 → Hp → Prop) (hR : Rr base k r f E kE pE pU Rt) (rs : List UInt8) (X : Hp) (hX : Rt rs X) (hrs : rs.length ≤ 1000000) (hnb : AskNo Tryz.prog k 230) : FnW Tryz.prog 94 [.iface k r] base [X, E] (fun w Hs => ∃ X2 b, w = .tuple #[.int .u8 ((b : UInt8).toNat : Int), erv kE pE pU 0 (rdc 1 rs)] ∧ Hs = [X2, E] ∧ Rt (rs.drop 1) X2 ∧ (0 < rs.length → b = rs.getD 0 0)) := by
 refine FnW.enter (n := 33) Tryz.func94 rfl rfl fun w0 R0 hbase => ?_
 subst hbase
 show WC _ _ _ _ _ _ _ ([X, E, R0])
 refine WC.sub (fr' := [(0, _)]) ?_ ⟨rfl, trivial⟩
 refine WC.seq (WC.region ?_)
 refine WL.q (oq_assign rfl) rfl rfl rfl ?_
 refine WL.q (oq_assign rfl) rfl rfl rfl ?_
 refine WL.nil (WE.then_normal (WC.sub (fr' := [(0, _)]) ?_ ⟨rfl, trivial⟩))
 refine WC.seq (WC.seq (WC.region ?_))
 refine WL.q (oq_move rfl) rfl rfl rfl ?_
 refine WL.q (oq_askNo hnb rfl) rfl rfl rfl ?_
 refine WL.q (oq_move rfl) rfl rfl rfl ?_
 refine WL.q (oq_extract rfl rfl) rfl rfl rfl ?_
 refine WL.q (oq_extract rfl rfl) rfl rfl rfl ?_
 refine WL.q (oq_assign rfl) rfl rfl rfl ?_
 refine WL.q (oq_assign rfl) rfl rfl rfl ?_
 refine WL.nil (WE.then_normal (WC.sub (fr' := [(0, _), (4, _), (5, _)]) ?_ ⟨rfl, rfl, rfl, trivial⟩))
 refine WC.seq (WC.region ?_)
 refine WL.q (oq_move rfl) rfl rfl rfl ?_
 refine WL.nil (WE.then_normal (WC.sub (fr' := [(0, _), (4, _), (16, _)]) ?_ ⟨rfl, rfl, rfl, trivial⟩))
 refine WC.cond rfl (fun q2 => ?_) (fun q2 => ?_)
 ·
  try simp only [Z1, Z2, Z3, Z4, Z5, Z6, Z7, Z8, Z9, Z0] at q2
  first | contradiction | (exfalso; omega) | (exfalso; simp_all; done)
 ·
  try simp only [Z1, Z2, Z3, Z4, Z5, Z6, Z7, Z8, Z9, Z0] at q2
  refine WC.skip (WE.then_normal (WC.sub (fr' := [(0, _)]) ?_ ⟨rfl, trivial⟩))
  refine WC.seq (WC.region ?_)
  refine WL.alloc ty233 rfl rfl fun xb hxb => ?_
  refine WL.asB (List.replicate 1 0) rfl ?_
  refine WL.nil (WE.then_normal (WC.sub (fr' := [(0, _), (8, _)]) ?_ ⟨rfl, rfl, trivial⟩))
  refine WC.seq (WC.region ?_)
  refine WL.q (oq_move rfl) rfl rfl rfl ?_
  refine WL.q (oq_sliceArr Tryz.underlying233 ty5 rfl rfl rfl (by (first | omega | (simp; done) | (rw [putB_len (by simp; omega)]; simp))) (by (first | omega | (simp; done) | (rw [putB_len (by simp; omega)]; simp)))) rfl rfl rfl ?_
  refine WL.f2 ?_
  refine WL.f1 ?_
  refine WL.f2 ?_
  refine WL.callW3 (readFull _ E kE pE pU hS k r f Rt hR xb 0 1 1 _ (List.replicate 1 0) (by simp) (by omega) (by simp; try omega) rs X hX hrs) call92 rfl rfl rfl fun v6_2 Hs6_2 hR6_2 => ?_
  obtain ⟨X2, vn, rfl, rfl, hX2⟩ := hR6_2
  refine WL.to3 ?_
  refine WL.q (oq_move rfl) rfl rfl rfl ?_
  refine WL.q (oq_extract rfl rfl) rfl rfl rfl ?_
  refine WL.q (oq_extract rfl rfl) rfl rfl rfl ?_
  refine WL.q (oq_assign rfl) rfl rfl rfl ?_
  refine WL.q (oq_assign rfl) rfl rfl rfl ?_
  refine WL.nil (WE.then_normal (WC.sub (fr' := [(8, _), (10, _)]) ?_ ⟨rfl, rfl, trivial⟩))
  refine WC.seq (WC.region ?_)
  refine WL.q (oq_ixArr (i := 0) Tryz.underlying233 ty5 rfl rfl (by (first | omega | (simp; done) | (rw [putB_len (by simp; omega)]; simp)))) rfl rfl rfl ?_
  refine WL.loadB flat5 rfl (.tail _ (.head _)) (by (first | omega | (simp; done) | (rw [putB_len (by simp; omega)]; simp))) rfl rfl fun c7_1 hc7_1 hc7_1l hc7_1u => ?_
  refine WL.q (oq_move rfl) rfl rfl rfl ?_
  refine WL.q (oq_assign rfl) rfl rfl rfl ?_
  refine WL.q (oq_assign rfl) rfl rfl rfl ?_
  refine WL.nil (WE.then_normal (WC.sub (fr' := [(2, _), (3, _)]) ?_ ⟨rfl, rfl, trivial⟩))
  refine WC.ret ?_
  refine WE.f1 ?_
  refine WE.lose hxb ?_
  refine WE.endW2 (.inl rfl) (res2 Tryz.results94 rfl rfl) ?_
  refine ⟨X2, (putB (List.replicate 1 0) 0 (rs.take 1)).getD 0 0, by rw [hc7_1]; rfl, rfl, hX2, fun h => ?_⟩
  rw [put_take (by omega)]
  match rs, h with
  | a :: _, _ => rfl
theorem dec16 (base : Nat) (E : Hp) (kE : TypeId) (pE pU : Addr) (hS : Sn E kE pE pU) (k : TypeId) (r : Value) (f : FuncId) (Rt : List UInt8 → Hp → Prop) (hR : Rr base k r f E kE pE pU Rt) (rs : List UInt8) (X : Hp) (hX : Rt rs X) (hrs : rs.length ≤ 1000000) : FnW Tryz.prog 106 [.iface k r] base [X, E] (fun w Hs => ∃ X2 x, w = .tuple #[.int .u16 ((x : Nat) : Int), erv kE pE pU 0 (rdc 2 rs)] ∧ Hs = [X2, E] ∧ Rt (rs.drop 2) X2 ∧ (2 ≤ rs.length → x = nm (rs.take 2)) ∧ x < 65536) := by
 refine FnW.enter (n := 20) Tryz.func106 rfl rfl fun w0 R0 hbase => ?_
 subst hbase
 show WC _ _ _ _ _ _ _ ([X, E, R0])
 refine WC.sub (fr' := [(0, _)]) ?_ ⟨rfl, trivial⟩
 refine WC.seq (WC.region ?_)
 refine WL.q (oq_assign rfl) rfl rfl rfl ?_
 refine WL.q (oq_assign rfl) rfl rfl rfl ?_
 refine WL.nil (WE.then_normal (WC.sub (fr' := [(0, _)]) ?_ ⟨rfl, trivial⟩))
 refine WC.seq (WC.region ?_)
 refine WL.alloc ty251 rfl rfl fun xb hxb => ?_
 refine WL.asB (List.replicate 2 0) rfl ?_
 refine WL.nil (WE.then_normal (WC.sub (fr' := [(0, _), (4, _)]) ?_ ⟨rfl, rfl, trivial⟩))
 refine WC.seq (WC.region ?_)
 refine WL.q (oq_sliceArr Tryz.underlying251 ty5 rfl rfl rfl (by (first | omega | (simp; done))) (by (first | omega | (simp; done)))) rfl rfl rfl ?_
 refine WL.q (oq_assign rfl) rfl rfl rfl ?_
 refine WL.nil (WE.then_normal (WC.sub (fr' := [(0, _), (5, _)]) ?_ ⟨rfl, rfl, trivial⟩))
 refine WC.seq (WC.region ?_)
 refine WL.q (oq_move rfl) rfl rfl rfl ?_
 refine WL.q (oq_move rfl) rfl rfl rfl ?_
 refine WL.f2 ?_
 refine WL.f1 ?_
 refine WL.f2 ?_
 refine WL.callW3 (readFull _ E kE pE pU hS k r f Rt hR xb 0 2 2 _ (List.replicate 2 0) (by simp) (by omega) (by simp; try omega) rs X hX hrs) call92 rfl rfl rfl fun v3_2 Hs3_2 hR3_2 => ?_
 obtain ⟨X2, vn, rfl, rfl, hX2⟩ := hR3_2
 refine WL.to3 ?_
 refine WL.q (oq_move rfl) rfl rfl rfl ?_
 refine WL.q (oq_extract rfl rfl) rfl rfl rfl ?_
 refine WL.q (oq_extract rfl rfl) rfl rfl rfl ?_
 refine WL.q (oq_assign rfl) rfl rfl rfl ?_
 refine WL.q (oq_assign rfl) rfl rfl rfl ?_
 refine WL.nil (WE.then_normal (WC.sub (fr' := [(5, _), (7, _)]) ?_ ⟨rfl, rfl, trivial⟩))
 refine WC.seq (WC.seq (WC.region ?_))
 refine WL.q (oq_move rfl) rfl rfl rfl ?_
 refine WL.q (oq_ineq Tryz.underlying99 rfl (erv_or _ _ _ _ _)) rfl rfl rfl ?_
 refine WL.nil (WE.then_normal (WC.sub (fr' := [(5, _), (7, _), (16, _)]) ?_ ⟨rfl, rfl, rfl, trivial⟩))
 refine WC.cond rfl (fun q4 => ?_) (fun q4 => ?_)
 ·
  try simp only [Z1, Z2, Z3, Z4, Z5, Z6, Z7, Z8, Z9, Z0] at q4
  refine WC.seq (WC.region ?_)
  refine WL.q (oq_move rfl) rfl rfl rfl ?_
  refine WL.q (oq_assign rfl) rfl rfl rfl ?_
  refine WL.q (oq_assign rfl) rfl rfl rfl ?_
  refine WL.nil (WE.then_normal (WC.sub (fr' := [(2, _), (3, _)]) ?_ ⟨rfl, rfl, trivial⟩))
  refine WC.ret (WE.then_ret ?_)
  refine WE.f1 ?_
  refine WE.lose hxb ?_
  refine WE.endW2 (.inl rfl) (res2 Tryz.results106 rfl rfl) ?_
  have hne := rdcN (ervN (by simpa using q4))
  exact ⟨X2, 0, rfl, rfl, hX2, fun h => (by omega), by decide⟩
 ·
  try simp only [Z1, Z2, Z3, Z4, Z5, Z6, Z7, Z8, Z9, Z0] at q4
  refine WC.skip (WE.then_normal (WC.sub (fr' := [(5, _)]) ?_ ⟨rfl, trivial⟩))
  refine WC.seq ?_
  have hle : 2 ≤ rs.length := rdc0 (erv0 (by simpa using q4))
  rw [put_take hle]
  have htl : (rs.take 2).length = 2 := by rw [List.length_take]; omega
  have hrd : RdS 1 (Sl xb (0 + 0) (2 - 0) (2 - 0)) (Bf xb 251 (rs.take 2)) (rs.take 2).length (bytesV (rs.take 2)) := by
   exact rd_whole htl
  have hrc := rdc_le hle
  refine WC.region ?_
  refine WL.q (oq_move rfl) rfl rfl rfl ?_
  refine WL.qc (oq_callRm (get16 _ _ (rs.take 2) hrd (by omega)) (.tail _ (.head _)) call105 rfl) rfl rfl rfl ?_
  refine WL.q (oq_assign rfl) rfl rfl rfl ?_
  refine WL.q (oq_assign rfl) rfl rfl rfl ?_
  refine WL.nil (WE.then_normal (WC.sub (fr' := [(2, _), (3, _)]) ?_ ⟨rfl, rfl, trivial⟩))
  refine WC.ret ?_
  refine WE.f1 ?_
  refine WE.lose hxb ?_
  refine WE.endW2 (.inl rfl) (res2 Tryz.results106 rfl rfl) ?_
  rw [hrc]
  exact ⟨X2, _, rfl, rfl, hX2, fun _ => by rw [List.take_take, Nat.min_self], nm_lt' (n := 2) (by rw [List.length_take]; omega)⟩
theorem dec32 (base : Nat) (E : Hp) (kE : TypeId) (pE pU : Addr) (hS : Sn E kE pE pU) (k : TypeId) (r : Value) (f : FuncId) (Rt : List UInt8 → Hp → Prop) (hR : Rr base k r f E kE pE pU Rt) (rs : List UInt8) (X : Hp) (hX : Rt rs X) (hrs : rs.length ≤ 1000000) : FnW Tryz.prog 89 [.iface k r] base [X, E] (fun w Hs => ∃ X2 x, w = .tuple #[.int .u32 ((x : Nat) : Int), erv kE pE pU 0 (rdc 4 rs)] ∧ Hs = [X2, E] ∧ Rt (rs.drop 4) X2 ∧ (4 ≤ rs.length → x = nm (rs.take 4)) ∧ x < 4294967296) := by
 refine FnW.enter (n := 20) Tryz.func89 rfl rfl fun w0 R0 hbase => ?_
 subst hbase
 show WC _ _ _ _ _ _ _ ([X, E, R0])
 refine WC.sub (fr' := [(0, _)]) ?_ ⟨rfl, trivial⟩
 refine WC.seq (WC.region ?_)
 refine WL.q (oq_assign rfl) rfl rfl rfl ?_
 refine WL.q (oq_assign rfl) rfl rfl rfl ?_
 refine WL.nil (WE.then_normal (WC.sub (fr' := [(0, _)]) ?_ ⟨rfl, trivial⟩))
 refine WC.seq (WC.region ?_)
 refine WL.alloc ty219 rfl rfl fun xb hxb => ?_
 refine WL.asB (List.replicate 4 0) rfl ?_
 refine WL.nil (WE.then_normal (WC.sub (fr' := [(0, _), (4, _)]) ?_ ⟨rfl, rfl, trivial⟩))
 refine WC.seq (WC.region ?_)
 refine WL.q (oq_sliceArr Tryz.underlying219 ty5 rfl rfl rfl (by (first | omega | (simp; done))) (by (first | omega | (simp; done)))) rfl rfl rfl ?_
 refine WL.q (oq_assign rfl) rfl rfl rfl ?_
 refine WL.nil (WE.then_normal (WC.sub (fr' := [(0, _), (5, _)]) ?_ ⟨rfl, rfl, trivial⟩))
 refine WC.seq (WC.region ?_)
 refine WL.q (oq_move rfl) rfl rfl rfl ?_
 refine WL.q (oq_move rfl) rfl rfl rfl ?_
 refine WL.f2 ?_
 refine WL.f1 ?_
 refine WL.f2 ?_
 refine WL.callW3 (readFull _ E kE pE pU hS k r f Rt hR xb 0 4 4 _ (List.replicate 4 0) (by simp) (by omega) (by simp; try omega) rs X hX hrs) call92 rfl rfl rfl fun v3_2 Hs3_2 hR3_2 => ?_
 obtain ⟨X2, vn, rfl, rfl, hX2⟩ := hR3_2
 refine WL.to3 ?_
 refine WL.q (oq_move rfl) rfl rfl rfl ?_
 refine WL.q (oq_extract rfl rfl) rfl rfl rfl ?_
 refine WL.q (oq_extract rfl rfl) rfl rfl rfl ?_
 refine WL.q (oq_assign rfl) rfl rfl rfl ?_
 refine WL.q (oq_assign rfl) rfl rfl rfl ?_
 refine WL.nil (WE.then_normal (WC.sub (fr' := [(5, _), (7, _)]) ?_ ⟨rfl, rfl, trivial⟩))
 refine WC.seq (WC.seq (WC.region ?_))
 refine WL.q (oq_move rfl) rfl rfl rfl ?_
 refine WL.q (oq_ineq Tryz.underlying99 rfl (erv_or _ _ _ _ _)) rfl rfl rfl ?_
 refine WL.nil (WE.then_normal (WC.sub (fr' := [(5, _), (7, _), (16, _)]) ?_ ⟨rfl, rfl, rfl, trivial⟩))
 refine WC.cond rfl (fun q4 => ?_) (fun q4 => ?_)
 ·
  try simp only [Z1, Z2, Z3, Z4, Z5, Z6, Z7, Z8, Z9, Z0] at q4
  refine WC.seq (WC.region ?_)
  refine WL.q (oq_move rfl) rfl rfl rfl ?_
  refine WL.q (oq_assign rfl) rfl rfl rfl ?_
  refine WL.q (oq_assign rfl) rfl rfl rfl ?_
  refine WL.nil (WE.then_normal (WC.sub (fr' := [(2, _), (3, _)]) ?_ ⟨rfl, rfl, trivial⟩))
  refine WC.ret (WE.then_ret ?_)
  refine WE.f1 ?_
  refine WE.lose hxb ?_
  refine WE.endW2 (.inl rfl) (res2 Tryz.results89 rfl rfl) ?_
  have hne := rdcN (ervN (by simpa using q4))
  exact ⟨X2, 0, rfl, rfl, hX2, fun h => (by omega), by decide⟩
 ·
  try simp only [Z1, Z2, Z3, Z4, Z5, Z6, Z7, Z8, Z9, Z0] at q4
  refine WC.skip (WE.then_normal (WC.sub (fr' := [(5, _)]) ?_ ⟨rfl, trivial⟩))
  refine WC.seq ?_
  have hle : 4 ≤ rs.length := rdc0 (erv0 (by simpa using q4))
  rw [put_take hle]
  have htl : (rs.take 4).length = 4 := by rw [List.length_take]; omega
  have hrd : RdS 1 (Sl xb (0 + 0) (4 - 0) (4 - 0)) (Bf xb 219 (rs.take 4)) (rs.take 4).length (bytesV (rs.take 4)) := by
   exact rd_whole htl
  have hrc := rdc_le hle
  refine WC.region ?_
  refine WL.q (oq_move rfl) rfl rfl rfl ?_
  refine WL.qc (oq_callRm (get32 _ _ (rs.take 4) hrd (by omega)) (.tail _ (.head _)) call93 rfl) rfl rfl rfl ?_
  refine WL.q (oq_assign rfl) rfl rfl rfl ?_
  refine WL.q (oq_assign rfl) rfl rfl rfl ?_
  refine WL.nil (WE.then_normal (WC.sub (fr' := [(2, _), (3, _)]) ?_ ⟨rfl, rfl, trivial⟩))
  refine WC.ret ?_
  refine WE.f1 ?_
  refine WE.lose hxb ?_
  refine WE.endW2 (.inl rfl) (res2 Tryz.results89 rfl rfl) ?_
  rw [hrc]
  exact ⟨X2, _, rfl, rfl, hX2, fun _ => by rw [List.take_take, Nat.min_self], nm_lt' (n := 4) (by rw [List.length_take]; omega)⟩
theorem dec64 (base : Nat) (E : Hp) (kE : TypeId) (pE pU : Addr) (hS : Sn E kE pE pU) (k : TypeId) (r : Value) (f : FuncId) (Rt : List UInt8 → Hp → Prop) (hR : Rr base k r f E kE pE pU Rt) (rs : List UInt8) (X : Hp) (hX : Rt rs X) (hrs : rs.length ≤ 1000000) : FnW Tryz.prog 107 [.iface k r] base [X, E] (fun w Hs => ∃ X2 x, w = .tuple #[.int .u64 ((x : Nat) : Int), erv kE pE pU 0 (rdc 8 rs)] ∧ Hs = [X2, E] ∧ Rt (rs.drop 8) X2 ∧ (8 ≤ rs.length → x = nm (rs.take 8)) ∧ x < 18446744073709551616) := by
 refine FnW.enter (n := 20) Tryz.func107 rfl rfl fun w0 R0 hbase => ?_
 subst hbase
 show WC _ _ _ _ _ _ _ ([X, E, R0])
 refine WC.sub (fr' := [(0, _)]) ?_ ⟨rfl, trivial⟩
 refine WC.seq (WC.region ?_)
 refine WL.q (oq_assign rfl) rfl rfl rfl ?_
 refine WL.q (oq_assign rfl) rfl rfl rfl ?_
 refine WL.nil (WE.then_normal (WC.sub (fr' := [(0, _)]) ?_ ⟨rfl, trivial⟩))
 refine WC.seq (WC.region ?_)
 refine WL.alloc ty252 rfl rfl fun xb hxb => ?_
 refine WL.asB (List.replicate 8 0) rfl ?_
 refine WL.nil (WE.then_normal (WC.sub (fr' := [(0, _), (4, _)]) ?_ ⟨rfl, rfl, trivial⟩))
 refine WC.seq (WC.region ?_)
 refine WL.q (oq_sliceArr Tryz.underlying252 ty5 rfl rfl rfl (by (first | omega | (simp; done))) (by (first | omega | (simp; done)))) rfl rfl rfl ?_
 refine WL.q (oq_assign rfl) rfl rfl rfl ?_
 refine WL.nil (WE.then_normal (WC.sub (fr' := [(0, _), (5, _)]) ?_ ⟨rfl, rfl, trivial⟩))
 refine WC.seq (WC.region ?_)
 refine WL.q (oq_move rfl) rfl rfl rfl ?_
 refine WL.q (oq_move rfl) rfl rfl rfl ?_
 refine WL.f2 ?_
 refine WL.f1 ?_
 refine WL.f2 ?_
 refine WL.callW3 (readFull _ E kE pE pU hS k r f Rt hR xb 0 8 8 _ (List.replicate 8 0) (by simp) (by omega) (by simp; try omega) rs X hX hrs) call92 rfl rfl rfl fun v3_2 Hs3_2 hR3_2 => ?_
 obtain ⟨X2, vn, rfl, rfl, hX2⟩ := hR3_2
 refine WL.to3 ?_
 refine WL.q (oq_move rfl) rfl rfl rfl ?_
 refine WL.q (oq_extract rfl rfl) rfl rfl rfl ?_
 refine WL.q (oq_extract rfl rfl) rfl rfl rfl ?_
 refine WL.q (oq_assign rfl) rfl rfl rfl ?_
 refine WL.q (oq_assign rfl) rfl rfl rfl ?_
 refine WL.nil (WE.then_normal (WC.sub (fr' := [(5, _), (7, _)]) ?_ ⟨rfl, rfl, trivial⟩))
 refine WC.seq (WC.seq (WC.region ?_))
 refine WL.q (oq_move rfl) rfl rfl rfl ?_
 refine WL.q (oq_ineq Tryz.underlying99 rfl (erv_or _ _ _ _ _)) rfl rfl rfl ?_
 refine WL.nil (WE.then_normal (WC.sub (fr' := [(5, _), (7, _), (16, _)]) ?_ ⟨rfl, rfl, rfl, trivial⟩))
 refine WC.cond rfl (fun q4 => ?_) (fun q4 => ?_)
 ·
  try simp only [Z1, Z2, Z3, Z4, Z5, Z6, Z7, Z8, Z9, Z0] at q4
  refine WC.seq (WC.region ?_)
  refine WL.q (oq_move rfl) rfl rfl rfl ?_
  refine WL.q (oq_assign rfl) rfl rfl rfl ?_
  refine WL.q (oq_assign rfl) rfl rfl rfl ?_
  refine WL.nil (WE.then_normal (WC.sub (fr' := [(2, _), (3, _)]) ?_ ⟨rfl, rfl, trivial⟩))
  refine WC.ret (WE.then_ret ?_)
  refine WE.f1 ?_
  refine WE.lose hxb ?_
  refine WE.endW2 (.inl rfl) (res2 Tryz.results107 rfl rfl) ?_
  have hne := rdcN (ervN (by simpa using q4))
  exact ⟨X2, 0, rfl, rfl, hX2, fun h => (by omega), by decide⟩
 ·
  try simp only [Z1, Z2, Z3, Z4, Z5, Z6, Z7, Z8, Z9, Z0] at q4
  refine WC.skip (WE.then_normal (WC.sub (fr' := [(5, _)]) ?_ ⟨rfl, trivial⟩))
  refine WC.seq ?_
  have hle : 8 ≤ rs.length := rdc0 (erv0 (by simpa using q4))
  rw [put_take hle]
  have htl : (rs.take 8).length = 8 := by rw [List.length_take]; omega
  have hrd : RdS 1 (Sl xb (0 + 0) (8 - 0) (8 - 0)) (Bf xb 252 (rs.take 8)) (rs.take 8).length (bytesV (rs.take 8)) := by
   exact rd_whole htl
  have hrc := rdc_le hle
  refine WC.region ?_
  refine WL.q (oq_move rfl) rfl rfl rfl ?_
  refine WL.qc (oq_callRm (get64 _ _ (rs.take 8) hrd (by omega)) (.tail _ (.head _)) call112 rfl) rfl rfl rfl ?_
  refine WL.q (oq_assign rfl) rfl rfl rfl ?_
  refine WL.q (oq_assign rfl) rfl rfl rfl ?_
  refine WL.nil (WE.then_normal (WC.sub (fr' := [(2, _), (3, _)]) ?_ ⟨rfl, rfl, trivial⟩))
  refine WC.ret ?_
  refine WE.f1 ?_
  refine WE.lose hxb ?_
  refine WE.endW2 (.inl rfl) (res2 Tryz.results107 rfl rfl) ?_
  rw [hrc]
  exact ⟨X2, _, rfl, rfl, hX2, fun _ => by rw [List.take_take, Nat.min_self], nm_lt' (n := 8) (by rw [List.length_take]; omega)⟩
end DE
end Go.Proofs.YtodlhaghdplclaaGreatDoor
/- Values that are read. -/
namespace Go.Proofs.YtodlhaghdplclaaGreatDoor
open Go Go.RowKit V EA EB EC ED EL DC DD DA DE EE EH EI EJ
set_option linter.unusedSimpArgs false
set_option linter.unusedVariables false
set_option maxRecDepth 10000
namespace DF
theorem call60 : Callable Tryz.prog 60 := ⟨_, Tryz.func60, rfl, by kernel_rfl⟩
theorem call75 : Callable Tryz.prog 75 := ⟨_, Tryz.func75, rfl, by kernel_rfl⟩
theorem call88 : Callable Tryz.prog 88 := ⟨_, Tryz.func88, rfl, by kernel_rfl⟩
theorem call89 : Callable Tryz.prog 89 := ⟨_, Tryz.func89, rfl, by kernel_rfl⟩
theorem call92 : Callable Tryz.prog 92 := ⟨_, Tryz.func92, rfl, by kernel_rfl⟩
theorem call94 : Callable Tryz.prog 94 := ⟨_, Tryz.func94, rfl, by kernel_rfl⟩
theorem call106 : Callable Tryz.prog 106 := ⟨_, Tryz.func106, rfl, by kernel_rfl⟩
theorem call107 : Callable Tryz.prog 107 := ⟨_, Tryz.func107, rfl, by kernel_rfl⟩
theorem call108 : Callable Tryz.prog 108 := ⟨_, Tryz.func108, rfl, by kernel_rfl⟩
theorem call109 : Callable Tryz.prog 109 := ⟨_, Tryz.func109, rfl, by kernel_rfl⟩
theorem call110 : Callable Tryz.prog 110 := ⟨_, Tryz.func110, rfl, by kernel_rfl⟩
theorem call111 : Callable Tryz.prog 111 := ⟨_, Tryz.func111, rfl, by kernel_rfl⟩
theorem flat186 : Flat Tryz.prog 186 := ⟨_, Tryz.underlying186, by simp⟩
theorem ty3 : Ty Tryz.prog 3 (.int .i64 0) 1 8 := ty_of (by kernel_rfl)
theorem ty5 : Ty Tryz.prog 5 (.int .u8 0) 1 1 := ty_of (by kernel_rfl)
theorem ty9 : Ty Tryz.prog 9 (S []) 1 16 := ty_of (by kernel_rfl)
theorem ty89 : Ty Tryz.prog 89 (.agg #[(.int .i64 0), (.int .i32 0), (S []), (.int .i64 0)]) 4 40 := ty_of (by kernel_rfl)
theorem ty127 : Ty Tryz.prog 127 (.int .i8 0) 1 1 := ty_of (by kernel_rfl)
theorem ty129 : Ty Tryz.prog 129 (.int .i16 0) 1 2 := ty_of (by kernel_rfl)
theorem ty130 : Ty Tryz.prog 130 (.int .i32 0) 1 4 := ty_of (by kernel_rfl)
theorem ty131 : Ty Tryz.prog 131 (.int .i64 0) 1 8 := ty_of (by kernel_rfl)
theorem ty132 : Ty Tryz.prog 132 (.slice none 0 0) 1 24 := ty_of (by kernel_rfl)
theorem ty133 : Ty Tryz.prog 133 (S []) 1 16 := ty_of (by kernel_rfl)
theorem ty134 : Ty Tryz.prog 134 (.agg #[(.int .i64 0), (.int .i32 0), (S []), (.int .i64 0)]) 4 40 := ty_of (by kernel_rfl)
theorem ty186 : Ty Tryz.prog 186 (.int .u16 0) 1 2 := ty_of (by kernel_rfl)
theorem ty224 : Ty Tryz.prog 224 (.agg #[(.int .u8 0), (.int .u16 0), (.slice none 0 0)]) 3 32 := ty_of (by kernel_rfl)
theorem ty250 : Ty Tryz.prog 250 (.agg #[(S [])]) 1 16 := ty_of (by kernel_rfl)
theorem conc248 : Conc Tryz.prog 248 := ⟨_, Tryz.underlying248, by simp⟩
theorem agg89 : Agg Tryz.prog 89 := agg_of Tryz.underlying89
theorem str89 : Str Tryz.prog 89 #[(0, 1), (1, 1), (2, 1), (3, 1)] := ⟨_, Tryz.underlying89, fun w => by kernel_rfl⟩
theorem str250 : Str Tryz.prog 250 #[(0, 1)] := ⟨_, Tryz.underlying250, fun w => by kernel_rfl⟩
theorem fld89_2 : Fld Tryz.prog 89 2 2 9 := fld_of Tryz.underlying89 rfl rfl rfl ty9 (by decide)
theorem fld89_3 : Fld Tryz.prog 89 3 3 3 := fld_of Tryz.underlying89 rfl rfl rfl ty3 (by decide)
theorem fld224_1 : Fld Tryz.prog 224 1 1 186 := fld_of Tryz.underlying224 rfl rfl rfl ty186 (by decide)
def VBk (h : HV) (v : Value) (N : Hp) : Prop :=
 (h.kind = 0 ∧ h.width = 0 ∧ h.text = [] ∧ (h.int = 0 ∨ h.int = 1) ∧ v = .iface 126 (.bool (decide (h.int = 1)))) ∨
 (h.kind = 1 ∧ h.text = [] ∧ h.width = 8 ∧ (-128 ≤ h.int ∧ h.int ≤ 127) ∧ v = .iface 127 (.int .i8 h.int)) ∨
 (h.kind = 1 ∧ h.text = [] ∧ h.width = 16 ∧ (-32768 ≤ h.int ∧ h.int ≤ 32767) ∧ v = .iface 129 (.int .i16 h.int)) ∨
 (h.kind = 1 ∧ h.text = [] ∧ h.width = 32 ∧ (-2147483648 ≤ h.int ∧ h.int ≤ 2147483647) ∧ v = .iface 130 (.int .i32 h.int)) ∨
 (h.kind = 1 ∧ h.text = [] ∧ h.width = 64 ∧ (-9223372036854775808 ≤ h.int ∧ h.int ≤ 9223372036854775807) ∧ v = .iface 131 (.int .i64 h.int)) ∨
 (h.kind = 2 ∧ h.width = 0 ∧ h.int = 0 ∧ ∃ s, v = .iface 132 s ∧ RdS 1 s N h.text.length (bytesV h.text)) ∨
 (h.kind = 3 ∧ h.width = 0 ∧ h.int = 0 ∧ v = .iface 133 (S h.text)) ∨
 (h.kind = 4 ∧ h.width = 0 ∧ h.text = [] ∧ (-9223372036854775808 ≤ h.int ∧ h.int ≤ 9223372036854775807) ∧ v = .iface 134 (msV h.int)) ∨
 (h.kind = 5 ∧ h.width = 0 ∧ h.int = 0 ∧ h.text.length = 16 ∧ v = .iface 137 (.agg (bytesV h.text).toArray))
theorem VBk.weaken {h : HV} {v : Value} {A C : Hp} (hv : VBk h v A) (hs : ∀ x ∈ A, x ∈ C) : VBk h v C := by
 rcases hv with h | h | h | h | h | ⟨h1, h2, h3, s, h4, h5⟩ | h | h | h
 ·exact .inl h
 ·exact .inr (.inl h)
 ·exact .inr (.inr (.inl h))
 ·exact .inr (.inr (.inr (.inl h)))
 ·exact .inr (.inr (.inr (.inr (.inl h))))
 ·exact .inr (.inr (.inr (.inr (.inr (.inl ⟨h1, h2, h3, s, h4, h5.weaken hs⟩)))))
 ·exact .inr (.inr (.inr (.inr (.inr (.inr (.inl h))))))
 ·exact .inr (.inr (.inr (.inr (.inr (.inr (.inr (.inl h)))))))
 ·exact .inr (.inr (.inr (.inr (.inr (.inr (.inr (.inr h)))))))
theorem wrap_bnd (k : IntKind) (i : Int) : k.min ≤ k.wrap i ∧ k.wrap i ≤ k.max := by
 cases k <;> simp only [IntKind.wrap, IntKind.signed, IntKind.bits, IntKind.min, IntKind.max, Bool.true_and, Bool.false_and, decide_eq_true_eq] <;> split <;> (try contradiction) <;> simp at * <;> omega
def ValR (base : Nat) (kE : TypeId) (pE pU : Addr) (E : Hp) (Rt : List UInt8 → Hp → Prop) (R : VR) (w : Value) (Hs : List Hp) : Prop :=
 ∃ X2 N v c ob, w = .tuple #[v, erv kE pE pU ob c] ∧ Hs = [X2, N, E] ∧ (∀ b o, (b, o) ∈ N → base ≤ b) ∧ match R with
  | .short => (c = 1 ∨ c = 2) ∧ ∃ rs', Rt rs' X2
  | .other => c = 5 ∧ (∃ cs t, (ob, .cells cs t (0, 0)) ∈ N) ∧ ∃ rs', Rt rs' X2
  | .ok kd wd i t r' => c = 0 ∧ VBk ⟨[], kd, wd, i, t⟩ v N ∧ Rt r' X2
def hval (rs : List UInt8) : VR := if rs = [] then .short else val (rs.getD 0 0) (rs.drop 1)
theorem hval_of {rs : List UInt8} {b : UInt8} (h : 0 < rs.length) (hb : b = rs.getD 0 0) : hval rs = val b (rs.drop 1) := by
 unfold hval; rw [if_neg (fun e => by rw [e] at h; simp at h), hb]
theorem u8n {b : UInt8} {n : Nat} (hn : n < 256) (h : (b.toNat : Int) = (n : Int)) : b = UInt8.ofNat n := by
 apply UInt8.toNat_inj.1; rw [UInt8.toNat_ofNat']; omega
theorem val_big {b : UInt8} {r : List UInt8} (h : 9 < b.toNat) : val b r = .other := by
 have ne : ∀ n : Nat, n ≤ 9 → b ≠ UInt8.ofNat n := fun n hn e => by rw [e, UInt8.toNat_ofNat'] at h; omega
 unfold val
 rw [if_neg (show b ≠ 0 from ne 0 (by decide)), if_neg (show b ≠ 1 from ne 1 (by decide)), if_neg (show b ≠ 2 from ne 2 (by decide)), if_neg (show b ≠ 3 from ne 3 (by decide)), if_neg (show b ≠ 4 from ne 4 (by decide)), if_neg (show b ≠ 5 from ne 5 (by decide)), if_neg (show b ≠ 6 from ne 6 (by decide)), if_neg (show b ≠ 7 from ne 7 (by decide)), if_neg (show b ≠ 8 from ne 8 (by decide)), if_neg (show b ≠ 9 from ne 9 (by decide))]
theorem vInt_n {w : Nat} {ik : IntKind} {r : List UInt8} : (∀ h : r.length < w, vInt w ik r = .short) ∧ (w ≤ r.length → vInt w ik r = .ok 1 (8 * w) (ik.wrap (nm (r.take w))) [] (r.drop w)) := ⟨fun h => if_pos h, fun h => if_neg (by omega)⟩
def DBR (base : Nat) (kE : TypeId) (pE pU : Addr) (E : Hp) (Rt : List UInt8 → Hp → Prop) (rs : List UInt8) (W : Value → List UInt8 → Nat → Value → Prop) (w : Value) (Hs : List Hp) : Prop :=
 ∃ X2 N sv c t, W w t c sv ∧ Hs = [X2, N, E] ∧ (∀ b o, (b, o) ∈ N → base ≤ b) ∧ RdS 1 sv N t.length (bytesV t) ∧
  ((c = 0 ∧ 2 ≤ rs.length ∧ nm (rs.take 2) ≤ (rs.drop 2).length ∧ t = (rs.drop 2).take (nm (rs.take 2)) ∧ Rt ((rs.drop 2).drop (nm (rs.take 2))) X2) ∨ ((c = 1 ∨ c = 2) ∧ (rs.length < 2 ∨ (rs.drop 2).length < nm (rs.take 2)) ∧ t = [] ∧ ∃ rs', Rt rs' X2))
theorem vTxt_s {k : Int} {r : List UInt8} (h : r.length < 2 ∨ (r.drop 2).length < nm (r.take 2)) : vTxt k r = .short := by
 unfold vTxt
 by_cases h1 : r.length < 2
 ·rw [if_pos h1]
 ·rw [if_neg h1, if_pos (h.resolve_left h1)]
theorem vTxt_k {k : Int} {r : List UInt8} (h : 2 ≤ r.length) (h2 : nm (r.take 2) ≤ (r.drop 2).length) : vTxt k r = .ok k 0 0 ((r.drop 2).take (nm (r.take 2))) ((r.drop 2).drop (nm (r.take 2))) := by
 unfold vTxt; rw [if_neg (by omega), if_neg (by omega)]
theorem msv_in {ms : Int} (h1 : -9223372036854775808 ≤ ms) (h2 : ms ≤ 9223372036854775807) : tmV (ms.tdiv 1000 + ms.tmod 1000 * 1000000 / 1000000000 + 62135596800) (ms.tmod 1000 * 1000000 % 1000000000) = msV ms := by
 have hk := tdiv_b ms 1000 (by decide)
 have hm := tmod_b ms 1000 (by decide)
 generalize ms.tdiv 1000 = q at *
 generalize ms.tmod 1000 = m at *
 exact tm_eq (by omega) (by omega)
theorem decInt8Value (tv : Nat) (z : Int) (base : Nat) (E : Hp) (kE : TypeId) (pE pU : Addr) (hS : Sn E kE pE pU) (k : TypeId) (r : Value) (f : FuncId) (Rt : List UInt8 → Hp → Prop) (hR : Rr base k r f E kE pE pU Rt) (rs : List UInt8) (X : Hp) (hX : Rt rs X) (hrs : rs.length ≤ 1000000) (hnb : AskNo Tryz.prog k 230) : FnW Tryz.prog 95 [Pt tv 0, .iface k r] base [[(tv, .cells #[.int .i8 z] 127 (0, 0))], X, E] (fun w Hs => ∃ X2 y, w = erv kE pE pU 0 (rdc 1 rs) ∧ Hs = [[(tv, .cells #[.int .i8 y] 127 (0, 0))], X2, E] ∧ Rt (rs.drop 1) X2 ∧ (1 ≤ rs.length → y = IntKind.i8.wrap (nm (rs.take 1)))) := by
 refine FnW.enter (n := 19) Tryz.func95 rfl rfl fun w0 R0 hbase => ?_
 subst hbase
 show WC _ _ _ _ _ _ _ ([[(tv, .cells #[.int .i8 z] 127 (0, 0))], X, E, R0])
 refine WC.sub (fr' := [(0, _), (1, _)]) ?_ ⟨rfl, rfl, trivial⟩
 refine WC.seq (WC.region ?_)
 refine WL.q (oq_assign rfl) rfl rfl rfl ?_
 refine WL.nil (WE.then_normal (WC.sub (fr' := [(0, _), (1, _)]) ?_ ⟨rfl, rfl, trivial⟩))
 refine WC.seq (WC.region ?_)
 refine WL.q (oq_move rfl) rfl rfl rfl ?_
 refine WL.f2 ?_
 refine WL.f2 ?_
 refine WL.callW2 (dec8 _ E kE pE pU hS k r f Rt hR rs X hX hrs hnb) call94 rfl rfl rfl fun v1_1 Hs1_1 hR1_1 => ?_
 obtain ⟨X2, b, rfl, rfl, hX2, hb⟩ := hR1_1
 refine WL.to2 ?_
 refine WL.q (oq_move rfl) rfl rfl rfl ?_
 refine WL.q (oq_extract rfl rfl) rfl rfl rfl ?_
 refine WL.q (oq_extract rfl rfl) rfl rfl rfl ?_
 refine WL.q (oq_assign rfl) rfl rfl rfl ?_
 refine WL.q (oq_assign rfl) rfl rfl rfl ?_
 refine WL.nil (WE.then_normal (WC.sub (fr' := [(0, _), (5, _), (6, _)]) ?_ ⟨rfl, rfl, rfl, trivial⟩))
 refine WC.seq (WC.seq (WC.region ?_))
 refine WL.q (oq_move rfl) rfl rfl rfl ?_
 refine WL.q (oq_ineq Tryz.underlying99 rfl (erv_or _ _ _ _ _)) rfl rfl rfl ?_
 refine WL.nil (WE.then_normal (WC.sub (fr' := [(0, _), (5, _), (6, _), (13, _)]) ?_ ⟨rfl, rfl, rfl, rfl, trivial⟩))
 refine WC.cond rfl (fun q2 => ?_) (fun q2 => ?_)
 ·
  try simp only [Z1, Z2, Z3, Z4, Z5, Z6, Z7, Z8, Z9, Z0] at q2
  refine WC.seq (WC.region ?_)
  refine WL.q (oq_move rfl) rfl rfl rfl ?_
  refine WL.q (oq_assign rfl) rfl rfl rfl ?_
  refine WL.nil (WE.then_normal (WC.sub (fr' := [(4, _)]) ?_ ⟨rfl, trivial⟩))
  refine WC.ret (WE.then_ret ?_)
  refine WE.f3 ?_
  refine WE.f2 ?_
  refine WE.f2 ?_
  refine WE.f3 ?_
  refine WE.endW3 (.inl rfl) (res1 Tryz.results95 rfl) ?_
  have hne := rdcN (ervN (by simpa using q2))
  exact ⟨X2, z, rfl, rfl, hX2, fun h => (by omega)⟩
 ·
  try simp only [Z1, Z2, Z3, Z4, Z5, Z6, Z7, Z8, Z9, Z0] at q2
  refine WC.skip (WE.then_normal (WC.sub (fr' := [(0, _), (5, _)]) ?_ ⟨rfl, rfl, trivial⟩))
  refine WC.seq (WC.region ?_)
  refine WL.q (oq_move rfl) rfl rfl rfl ?_
  refine WL.q (oq_move rfl) rfl rfl rfl ?_
  refine WL.q (oq_convw Tryz.underlying5 Tryz.underlying127 rfl) rfl rfl rfl ?_
  refine WL.q (oq_nilCheck rfl) rfl rfl rfl ?_
  refine WL.f2 ?_
  refine WL.store ty127 rfl rfl rfl (by exact Nat.zero_lt_one) (by simp) rfl ?_
  refine WL.nil (WE.then_normal (WC.sub (fr' := []) ?_ trivial))
  refine WC.seq (WC.region ?_)
  refine WL.q (oq_assign rfl) rfl rfl rfl ?_
  refine WL.nil (WE.then_normal (WC.sub (fr' := [(4, _)]) ?_ ⟨rfl, trivial⟩))
  refine WC.ret ?_
  refine WE.endW3 (.inl rfl) (res1 Tryz.results95 rfl) ?_
  have hle := rdc0 (erv0 (by simpa using q2))
  rw [rdc_le hle]
  refine ⟨X2, _, rfl, rfl, hX2, fun _ => ?_⟩
  rw [hb (by omega), nm1 (by omega)]; rfl
theorem decInt16Value (tv : Nat) (z : Int) (base : Nat) (E : Hp) (kE : TypeId) (pE pU : Addr) (hS : Sn E kE pE pU) (k : TypeId) (r : Value) (f : FuncId) (Rt : List UInt8 → Hp → Prop) (hR : Rr base k r f E kE pE pU Rt) (rs : List UInt8) (X : Hp) (hX : Rt rs X) (hrs : rs.length ≤ 1000000) : FnW Tryz.prog 96 [Pt tv 0, .iface k r] base [[(tv, .cells #[.int .i16 z] 129 (0, 0))], X, E] (fun w Hs => ∃ X2 y, w = erv kE pE pU 0 (rdc 2 rs) ∧ Hs = [[(tv, .cells #[.int .i16 y] 129 (0, 0))], X2, E] ∧ Rt (rs.drop 2) X2 ∧ (2 ≤ rs.length → y = IntKind.i16.wrap (nm (rs.take 2)))) := by
 refine FnW.enter (n := 19) Tryz.func96 rfl rfl fun w0 R0 hbase => ?_
 subst hbase
 show WC _ _ _ _ _ _ _ ([[(tv, .cells #[.int .i16 z] 129 (0, 0))], X, E, R0])
 refine WC.sub (fr' := [(0, _), (1, _)]) ?_ ⟨rfl, rfl, trivial⟩
 refine WC.seq (WC.region ?_)
 refine WL.q (oq_assign rfl) rfl rfl rfl ?_
 refine WL.nil (WE.then_normal (WC.sub (fr' := [(0, _), (1, _)]) ?_ ⟨rfl, rfl, trivial⟩))
 refine WC.seq (WC.region ?_)
 refine WL.q (oq_move rfl) rfl rfl rfl ?_
 refine WL.f2 ?_
 refine WL.f2 ?_
 refine WL.callW2 (dec16 _ E kE pE pU hS k r f Rt hR rs X hX hrs) call106 rfl rfl rfl fun v1_1 Hs1_1 hR1_1 => ?_
 obtain ⟨X2, x, rfl, rfl, hX2, hb, hxl⟩ := hR1_1
 refine WL.to2 ?_
 refine WL.q (oq_move rfl) rfl rfl rfl ?_
 refine WL.q (oq_extract rfl rfl) rfl rfl rfl ?_
 refine WL.q (oq_extract rfl rfl) rfl rfl rfl ?_
 refine WL.q (oq_assign rfl) rfl rfl rfl ?_
 refine WL.q (oq_assign rfl) rfl rfl rfl ?_
 refine WL.nil (WE.then_normal (WC.sub (fr' := [(0, _), (5, _), (6, _)]) ?_ ⟨rfl, rfl, rfl, trivial⟩))
 refine WC.seq (WC.seq (WC.region ?_))
 refine WL.q (oq_move rfl) rfl rfl rfl ?_
 refine WL.q (oq_ineq Tryz.underlying99 rfl (erv_or _ _ _ _ _)) rfl rfl rfl ?_
 refine WL.nil (WE.then_normal (WC.sub (fr' := [(0, _), (5, _), (6, _), (13, _)]) ?_ ⟨rfl, rfl, rfl, rfl, trivial⟩))
 refine WC.cond rfl (fun q2 => ?_) (fun q2 => ?_)
 ·
  try simp only [Z1, Z2, Z3, Z4, Z5, Z6, Z7, Z8, Z9, Z0] at q2
  refine WC.seq (WC.region ?_)
  refine WL.q (oq_move rfl) rfl rfl rfl ?_
  refine WL.q (oq_assign rfl) rfl rfl rfl ?_
  refine WL.nil (WE.then_normal (WC.sub (fr' := [(4, _)]) ?_ ⟨rfl, trivial⟩))
  refine WC.ret (WE.then_ret ?_)
  refine WE.f3 ?_
  refine WE.f2 ?_
  refine WE.f2 ?_
  refine WE.f3 ?_
  refine WE.endW3 (.inl rfl) (res1 Tryz.results96 rfl) ?_
  have hne := rdcN (ervN (by simpa using q2))
  exact ⟨X2, z, rfl, rfl, hX2, fun h => (by omega)⟩
 ·
  try simp only [Z1, Z2, Z3, Z4, Z5, Z6, Z7, Z8, Z9, Z0] at q2
  refine WC.skip (WE.then_normal (WC.sub (fr' := [(0, _), (5, _)]) ?_ ⟨rfl, rfl, trivial⟩))
  refine WC.seq (WC.region ?_)
  refine WL.q (oq_move rfl) rfl rfl rfl ?_
  refine WL.q (oq_move rfl) rfl rfl rfl ?_
  refine WL.q (oq_convw Tryz.underlying186 Tryz.underlying129 rfl) rfl rfl rfl ?_
  refine WL.q (oq_nilCheck rfl) rfl rfl rfl ?_
  refine WL.f2 ?_
  refine WL.store ty129 rfl rfl rfl (by exact Nat.zero_lt_one) (by simp) rfl ?_
  refine WL.nil (WE.then_normal (WC.sub (fr' := []) ?_ trivial))
  refine WC.seq (WC.region ?_)
  refine WL.q (oq_assign rfl) rfl rfl rfl ?_
  refine WL.nil (WE.then_normal (WC.sub (fr' := [(4, _)]) ?_ ⟨rfl, trivial⟩))
  refine WC.ret ?_
  refine WE.endW3 (.inl rfl) (res1 Tryz.results96 rfl) ?_
  have hle := rdc0 (erv0 (by simpa using q2))
  rw [rdc_le hle]
  exact ⟨X2, _, rfl, rfl, hX2, fun h => by rw [hb h]⟩
theorem decInt32Value (tv : Nat) (z : Int) (base : Nat) (E : Hp) (kE : TypeId) (pE pU : Addr) (hS : Sn E kE pE pU) (k : TypeId) (r : Value) (f : FuncId) (Rt : List UInt8 → Hp → Prop) (hR : Rr base k r f E kE pE pU Rt) (rs : List UInt8) (X : Hp) (hX : Rt rs X) (hrs : rs.length ≤ 1000000) : FnW Tryz.prog 97 [Pt tv 0, .iface k r] base [[(tv, .cells #[.int .i32 z] 130 (0, 0))], X, E] (fun w Hs => ∃ X2 y, w = erv kE pE pU 0 (rdc 4 rs) ∧ Hs = [[(tv, .cells #[.int .i32 y] 130 (0, 0))], X2, E] ∧ Rt (rs.drop 4) X2 ∧ (4 ≤ rs.length → y = IntKind.i32.wrap (nm (rs.take 4)))) := by
 refine FnW.enter (n := 19) Tryz.func97 rfl rfl fun w0 R0 hbase => ?_
 subst hbase
 show WC _ _ _ _ _ _ _ ([[(tv, .cells #[.int .i32 z] 130 (0, 0))], X, E, R0])
 refine WC.sub (fr' := [(0, _), (1, _)]) ?_ ⟨rfl, rfl, trivial⟩
 refine WC.seq (WC.region ?_)
 refine WL.q (oq_assign rfl) rfl rfl rfl ?_
 refine WL.nil (WE.then_normal (WC.sub (fr' := [(0, _), (1, _)]) ?_ ⟨rfl, rfl, trivial⟩))
 refine WC.seq (WC.region ?_)
 refine WL.q (oq_move rfl) rfl rfl rfl ?_
 refine WL.f2 ?_
 refine WL.f2 ?_
 refine WL.callW2 (dec32 _ E kE pE pU hS k r f Rt hR rs X hX hrs) call89 rfl rfl rfl fun v1_1 Hs1_1 hR1_1 => ?_
 obtain ⟨X2, x, rfl, rfl, hX2, hb, hxl⟩ := hR1_1
 refine WL.to2 ?_
 refine WL.q (oq_move rfl) rfl rfl rfl ?_
 refine WL.q (oq_extract rfl rfl) rfl rfl rfl ?_
 refine WL.q (oq_extract rfl rfl) rfl rfl rfl ?_
 refine WL.q (oq_assign rfl) rfl rfl rfl ?_
 refine WL.q (oq_assign rfl) rfl rfl rfl ?_
 refine WL.nil (WE.then_normal (WC.sub (fr' := [(0, _), (5, _), (6, _)]) ?_ ⟨rfl, rfl, rfl, trivial⟩))
 refine WC.seq (WC.seq (WC.region ?_))
 refine WL.q (oq_move rfl) rfl rfl rfl ?_
 refine WL.q (oq_ineq Tryz.underlying99 rfl (erv_or _ _ _ _ _)) rfl rfl rfl ?_
 refine WL.nil (WE.then_normal (WC.sub (fr' := [(0, _), (5, _), (6, _), (13, _)]) ?_ ⟨rfl, rfl, rfl, rfl, trivial⟩))
 refine WC.cond rfl (fun q2 => ?_) (fun q2 => ?_)
 ·
  try simp only [Z1, Z2, Z3, Z4, Z5, Z6, Z7, Z8, Z9, Z0] at q2
  refine WC.seq (WC.region ?_)
  refine WL.q (oq_move rfl) rfl rfl rfl ?_
  refine WL.q (oq_assign rfl) rfl rfl rfl ?_
  refine WL.nil (WE.then_normal (WC.sub (fr' := [(4, _)]) ?_ ⟨rfl, trivial⟩))
  refine WC.ret (WE.then_ret ?_)
  refine WE.f3 ?_
  refine WE.f2 ?_
  refine WE.f2 ?_
  refine WE.f3 ?_
  refine WE.endW3 (.inl rfl) (res1 Tryz.results97 rfl) ?_
  have hne := rdcN (ervN (by simpa using q2))
  exact ⟨X2, z, rfl, rfl, hX2, fun h => (by omega)⟩
 ·
  try simp only [Z1, Z2, Z3, Z4, Z5, Z6, Z7, Z8, Z9, Z0] at q2
  refine WC.skip (WE.then_normal (WC.sub (fr' := [(0, _), (5, _)]) ?_ ⟨rfl, rfl, trivial⟩))
  refine WC.seq (WC.region ?_)
  refine WL.q (oq_move rfl) rfl rfl rfl ?_
  refine WL.q (oq_move rfl) rfl rfl rfl ?_
  refine WL.q (oq_convw Tryz.underlying74 Tryz.underlying130 rfl) rfl rfl rfl ?_
  refine WL.q (oq_nilCheck rfl) rfl rfl rfl ?_
  refine WL.f2 ?_
  refine WL.store ty130 rfl rfl rfl (by exact Nat.zero_lt_one) (by simp) rfl ?_
  refine WL.nil (WE.then_normal (WC.sub (fr' := []) ?_ trivial))
  refine WC.seq (WC.region ?_)
  refine WL.q (oq_assign rfl) rfl rfl rfl ?_
  refine WL.nil (WE.then_normal (WC.sub (fr' := [(4, _)]) ?_ ⟨rfl, trivial⟩))
  refine WC.ret ?_
  refine WE.endW3 (.inl rfl) (res1 Tryz.results97 rfl) ?_
  have hle := rdc0 (erv0 (by simpa using q2))
  rw [rdc_le hle]
  exact ⟨X2, _, rfl, rfl, hX2, fun h => by rw [hb h]⟩
theorem decInt64Value (tv : Nat) (z : Int) (base : Nat) (E : Hp) (kE : TypeId) (pE pU : Addr) (hS : Sn E kE pE pU) (k : TypeId) (r : Value) (f : FuncId) (Rt : List UInt8 → Hp → Prop) (hR : Rr base k r f E kE pE pU Rt) (rs : List UInt8) (X : Hp) (hX : Rt rs X) (hrs : rs.length ≤ 1000000) : FnW Tryz.prog 98 [Pt tv 0, .iface k r] base [[(tv, .cells #[.int .i64 z] 131 (0, 0))], X, E] (fun w Hs => ∃ X2 y, w = erv kE pE pU 0 (rdc 8 rs) ∧ Hs = [[(tv, .cells #[.int .i64 y] 131 (0, 0))], X2, E] ∧ Rt (rs.drop 8) X2 ∧ (8 ≤ rs.length → y = IntKind.i64.wrap (nm (rs.take 8)))) := by
 refine FnW.enter (n := 19) Tryz.func98 rfl rfl fun w0 R0 hbase => ?_
 subst hbase
 show WC _ _ _ _ _ _ _ ([[(tv, .cells #[.int .i64 z] 131 (0, 0))], X, E, R0])
 refine WC.sub (fr' := [(0, _), (1, _)]) ?_ ⟨rfl, rfl, trivial⟩
 refine WC.seq (WC.region ?_)
 refine WL.q (oq_assign rfl) rfl rfl rfl ?_
 refine WL.nil (WE.then_normal (WC.sub (fr' := [(0, _), (1, _)]) ?_ ⟨rfl, rfl, trivial⟩))
 refine WC.seq (WC.region ?_)
 refine WL.q (oq_move rfl) rfl rfl rfl ?_
 refine WL.f2 ?_
 refine WL.f2 ?_
 refine WL.callW2 (dec64 _ E kE pE pU hS k r f Rt hR rs X hX hrs) call107 rfl rfl rfl fun v1_1 Hs1_1 hR1_1 => ?_
 obtain ⟨X2, x, rfl, rfl, hX2, hb, hxl⟩ := hR1_1
 refine WL.to2 ?_
 refine WL.q (oq_move rfl) rfl rfl rfl ?_
 refine WL.q (oq_extract rfl rfl) rfl rfl rfl ?_
 refine WL.q (oq_extract rfl rfl) rfl rfl rfl ?_
 refine WL.q (oq_assign rfl) rfl rfl rfl ?_
 refine WL.q (oq_assign rfl) rfl rfl rfl ?_
 refine WL.nil (WE.then_normal (WC.sub (fr' := [(0, _), (5, _), (6, _)]) ?_ ⟨rfl, rfl, rfl, trivial⟩))
 refine WC.seq (WC.seq (WC.region ?_))
 refine WL.q (oq_move rfl) rfl rfl rfl ?_
 refine WL.q (oq_ineq Tryz.underlying99 rfl (erv_or _ _ _ _ _)) rfl rfl rfl ?_
 refine WL.nil (WE.then_normal (WC.sub (fr' := [(0, _), (5, _), (6, _), (13, _)]) ?_ ⟨rfl, rfl, rfl, rfl, trivial⟩))
 refine WC.cond rfl (fun q2 => ?_) (fun q2 => ?_)
 ·
  try simp only [Z1, Z2, Z3, Z4, Z5, Z6, Z7, Z8, Z9, Z0] at q2
  refine WC.seq (WC.region ?_)
  refine WL.q (oq_move rfl) rfl rfl rfl ?_
  refine WL.q (oq_assign rfl) rfl rfl rfl ?_
  refine WL.nil (WE.then_normal (WC.sub (fr' := [(4, _)]) ?_ ⟨rfl, trivial⟩))
  refine WC.ret (WE.then_ret ?_)
  refine WE.f3 ?_
  refine WE.f2 ?_
  refine WE.f2 ?_
  refine WE.f3 ?_
  refine WE.endW3 (.inl rfl) (res1 Tryz.results98 rfl) ?_
  have hne := rdcN (ervN (by simpa using q2))
  exact ⟨X2, z, rfl, rfl, hX2, fun h => (by omega)⟩
 ·
  try simp only [Z1, Z2, Z3, Z4, Z5, Z6, Z7, Z8, Z9, Z0] at q2
  refine WC.skip (WE.then_normal (WC.sub (fr' := [(0, _), (5, _)]) ?_ ⟨rfl, rfl, trivial⟩))
  refine WC.seq (WC.region ?_)
  refine WL.q (oq_move rfl) rfl rfl rfl ?_
  refine WL.q (oq_move rfl) rfl rfl rfl ?_
  refine WL.q (oq_convw Tryz.underlying73 Tryz.underlying131 rfl) rfl rfl rfl ?_
  refine WL.q (oq_nilCheck rfl) rfl rfl rfl ?_
  refine WL.f2 ?_
  refine WL.store ty131 rfl rfl rfl (by exact Nat.zero_lt_one) (by simp) rfl ?_
  refine WL.nil (WE.then_normal (WC.sub (fr' := []) ?_ trivial))
  refine WC.seq (WC.region ?_)
  refine WL.q (oq_assign rfl) rfl rfl rfl ?_
  refine WL.nil (WE.then_normal (WC.sub (fr' := [(4, _)]) ?_ ⟨rfl, trivial⟩))
  refine WC.ret ?_
  refine WE.endW3 (.inl rfl) (res1 Tryz.results98 rfl) ?_
  have hle := rdc0 (erv0 (by simpa using q2))
  rw [rdc_le hle]
  exact ⟨X2, _, rfl, rfl, hX2, fun h => by rw [hb h]⟩
theorem decBytes (base : Nat) (E : Hp) (kE : TypeId) (pE pU : Addr) (hS : Sn E kE pE pU) (k : TypeId) (r : Value) (f : FuncId) (Rt : List UInt8 → Hp → Prop) (hR : Rr base k r f E kE pE pU Rt) (rs : List UInt8) (X : Hp) (hX : Rt rs X) (hrs : rs.length ≤ 1000000) : FnW Tryz.prog 108 [.iface k r] base [X, E] (DBR base kE pE pU E Rt rs (fun w t c sv => w = .tuple #[sv, erv kE pE pU 0 c])) := by
 refine FnW.enter (n := 29) Tryz.func108 rfl rfl fun w0 R0 hbase => ?_
 subst hbase
 show WC _ _ _ _ _ _ _ ([X, E, R0])
 refine WC.sub (fr' := [(0, _)]) ?_ ⟨rfl, trivial⟩
 refine WC.seq (WC.region ?_)
 refine WL.q (oq_assign rfl) rfl rfl rfl ?_
 refine WL.q (oq_assign rfl) rfl rfl rfl ?_
 refine WL.nil (WE.then_normal (WC.sub (fr' := [(0, _)]) ?_ ⟨rfl, trivial⟩))
 refine WC.seq ?_
 refine WC.add0 ?_
 refine WC.region ?_
 refine WL.alloc ty224 rfl rfl fun rw hrw => ?_
 refine WL.nil (WE.then_normal (WC.sub (fr' := [(0, _), (4, _)]) ?_ ⟨rfl, rfl, trivial⟩))
 refine WC.seq (WC.region ?_)
 refine WL.q (oq_assign rfl) rfl rfl rfl ?_
 refine WL.nil (WE.then_normal (WC.sub (fr' := [(0, _), (4, _)]) ?_ ⟨rfl, rfl, trivial⟩))
 refine WC.seq (WC.region ?_)
 refine WL.q (oq_move rfl) rfl rfl rfl ?_
 refine WL.f3 ?_
 refine WL.f3 ?_
 refine WL.callW2 (dec16 _ E kE pE pU hS k r f Rt hR rs X hX hrs) call106 rfl rfl rfl fun v3_1 Hs3_1 hR3_1 => ?_
 obtain ⟨X2, x, rfl, rfl, hX2, hb, hxl⟩ := hR3_1
 refine WL.to2 ?_
 refine WL.q (oq_move rfl) rfl rfl rfl ?_
 refine WL.q (oq_extract rfl rfl) rfl rfl rfl ?_
 refine WL.q (oq_extract rfl rfl) rfl rfl rfl ?_
 refine WL.q (oq_fieldAddr fld224_1 rfl) rfl rfl rfl ?_
 refine WL.f2 ?_
 refine WL.store1 #[_, _, _] ty186 rfl rfl (by first | rfl | exact OwS.one rfl) (Nat.lt_of_lt_of_le (Nat.lt_succ_self _) (Nat.le_of_ble_eq_true rfl)) rfl rfl ?_
 refine WL.q (oq_assign rfl) rfl rfl rfl ?_
 refine WL.nil (WE.then_normal (WC.sub (fr' := [(0, _), (4, _), (5, _)]) ?_ ⟨rfl, rfl, rfl, trivial⟩))
 refine WC.seq (WC.seq (WC.region ?_))
 refine WL.q (oq_move rfl) rfl rfl rfl ?_
 refine WL.q (oq_ineq Tryz.underlying99 rfl (erv_or _ _ _ _ _)) rfl rfl rfl ?_
 refine WL.nil (WE.then_normal (WC.sub (fr' := [(0, _), (4, _), (5, _), (14, _)]) ?_ ⟨rfl, rfl, rfl, rfl, trivial⟩))
 refine WC.cond rfl (fun q4 => ?_) (fun q4 => ?_)
 ·
  try simp only [Z1, Z2, Z3, Z4, Z5, Z6, Z7, Z8, Z9, Z0] at q4
  refine WC.seq (WC.region ?_)
  refine WL.q (oq_move rfl) rfl rfl rfl ?_
  refine WL.q (oq_assign rfl) rfl rfl rfl ?_
  refine WL.q (oq_assign rfl) rfl rfl rfl ?_
  refine WL.nil (WE.then_normal (WC.sub (fr' := [(2, _), (3, _)]) ?_ ⟨rfl, rfl, trivial⟩))
  refine WC.ret (WE.then_ret ?_)
  refine WE.lose hrw ?_
  refine WE.f3 ?_
  refine WE.f2 ?_
  refine WE.f3 ?_
  refine WE.f3 ?_
  refine WE.endW3 (.inl rfl) (res2 Tryz.results108 rfl rfl) ?_
  have hne := rdcN (ervN (by simpa using q4))
  exact ⟨X2, [], _, _, [], rfl, rfl, (fun _ _ h => nomatch h), ⟨rfl, .inl ⟨rfl, _, _, rfl⟩⟩, .inr ⟨hne.2, .inl hne.1, rfl, _, hX2⟩⟩
 ·
  try simp only [Z1, Z2, Z3, Z4, Z5, Z6, Z7, Z8, Z9, Z0] at q4
  refine WC.skip (WE.then_normal (WC.sub (fr' := [(0, _), (4, _)]) ?_ ⟨rfl, rfl, trivial⟩))
  refine WC.seq ?_
  have hle := rdc0 (erv0 (by simpa using q4))
  have hxe := hb hle
  have hmx : x ≤ maxLen := by unfold maxLen; omega
  refine WC.region ?_
  refine WL.q (oq_fieldAddr fld224_1 rfl) rfl rfl rfl ?_
  refine WL.q (oq_load flat186 rfl (.head _) (List.mem_singleton.2 rfl) rfl) rfl rfl rfl ?_
  refine WL.makeB Tryz.underlying28 ty5 rfl rfl (by omega) (by unfold maxLen; omega) rfl rfl fun nb hnb => ?_
  refine WL.q (oq_assign rfl) rfl rfl rfl ?_
  refine WL.nil (WE.then_normal (WC.sub (fr' := [(0, _), (6, _)]) ?_ ⟨rfl, rfl, trivial⟩))
  refine WC.seq (WC.region ?_)
  refine WL.q (oq_move rfl) rfl rfl rfl ?_
  refine WL.q (oq_move rfl) rfl rfl rfl ?_
  refine WL.f3 ?_
  refine WL.f1 ?_
  refine WL.f3 ?_
  refine WL.callW3 (readFull _ E kE pE pU hS k r f Rt hR nb 0 x x _ (List.replicate x 0) (by simp) (by omega) (by simp; omega) (rs.drop 2) X2 hX2 (by rw [List.length_drop]; omega)) call92 rfl rfl rfl fun v7_2 Hs7_2 hR7_2 => ?_
  obtain ⟨X3, vn, rfl, rfl, hX3⟩ := hR7_2
  refine WL.to3 ?_
  refine WL.q (oq_move rfl) rfl rfl rfl ?_
  refine WL.q (oq_extract rfl rfl) rfl rfl rfl ?_
  refine WL.q (oq_extract rfl rfl) rfl rfl rfl ?_
  refine WL.q (oq_assign rfl) rfl rfl rfl ?_
  refine WL.nil (WE.then_normal (WC.sub (fr' := [(5, _), (6, _)]) ?_ ⟨rfl, rfl, trivial⟩))
  refine WC.seq (WC.seq (WC.region ?_))
  refine WL.q (oq_move rfl) rfl rfl rfl ?_
  refine WL.q (oq_ineq Tryz.underlying99 rfl (erv_or _ _ _ _ _)) rfl rfl rfl ?_
  refine WL.nil (WE.then_normal (WC.sub (fr' := [(5, _), (6, _), (26, _)]) ?_ ⟨rfl, rfl, rfl, trivial⟩))
  refine WC.cond rfl (fun q8 => ?_) (fun q8 => ?_)
  ·
   try simp only [Z1, Z2, Z3, Z4, Z5, Z6, Z7, Z8, Z9, Z0] at q8
   refine WC.seq (WC.region ?_)
   refine WL.q (oq_move rfl) rfl rfl rfl ?_
   refine WL.q (oq_assign rfl) rfl rfl rfl ?_
   refine WL.q (oq_assign rfl) rfl rfl rfl ?_
   refine WL.nil (WE.then_normal (WC.sub (fr' := [(2, _), (3, _)]) ?_ ⟨rfl, rfl, trivial⟩))
   refine WC.ret (WE.then_ret ?_)
   refine WE.f1 ?_
   refine WE.lose hnb ?_
   refine WE.f2 ?_
   refine WE.lose hrw ?_
   refine WE.f3 ?_
   refine WE.f2 ?_
   refine WE.f3 ?_
   refine WE.f3 ?_
   refine WE.endW3 (.inl rfl) (res2 Tryz.results108 rfl rfl) ?_
   have hne := rdcN (ervN (by simpa using q8))
   exact ⟨X3, [], _, _, [], rfl, rfl, (fun _ _ h => nomatch h), ⟨rfl, .inl ⟨rfl, _, _, rfl⟩⟩, .inr ⟨hne.2, .inr (by rw [← hxe]; exact hne.1), rfl, _, hX3⟩⟩
  ·
   try simp only [Z1, Z2, Z3, Z4, Z5, Z6, Z7, Z8, Z9, Z0] at q8
   refine WC.skip (WE.then_normal (WC.sub (fr' := [(6, _)]) ?_ ⟨rfl, trivial⟩))
   refine WC.seq (WC.region ?_)
   refine WL.q (oq_move rfl) rfl rfl rfl ?_
   refine WL.q (oq_assign rfl) rfl rfl rfl ?_
   refine WL.q (oq_assign rfl) rfl rfl rfl ?_
   refine WL.nil (WE.then_normal (WC.sub (fr' := [(2, _), (3, _)]) ?_ ⟨rfl, rfl, trivial⟩))
   refine WC.ret ?_
   refine WE.f3 ?_
   refine WE.lose hrw ?_
   refine WE.f3 ?_
   refine WE.nil0 ?_
   refine WE.endW3 (.inl rfl) (res2 Tryz.results108 rfl rfl) ?_
   have hle2 := rdc0 (erv0 (by simpa using q8))
   have htx : ((rs.drop 2).take x).length = x := by rw [List.length_take]; omega
   have hpb : putB (List.replicate x 0) 0 ((rs.drop 2).take x) = (rs.drop 2).take x := put_take hle2
   rw [hpb]
   exact ⟨X3, _, _, 0, (rs.drop 2).take x, rfl, rfl, fresh1 hnb, rd_whole htx, .inl ⟨rfl, hle, by rw [← hxe]; exact hle2, by rw [hxe], by rw [← hxe]; exact hX3⟩⟩
theorem decStr (base : Nat) (E : Hp) (kE : TypeId) (pE pU : Addr) (hS : Sn E kE pE pU) (k : TypeId) (r : Value) (f : FuncId) (Rt : List UInt8 → Hp → Prop) (hR : Rr base k r f E kE pE pU Rt) (rs : List UInt8) (X : Hp) (hX : Rt rs X) (hrs : rs.length ≤ 1000000) : FnW Tryz.prog 109 [.iface k r] base [X, E] (DBR base kE pE pU E Rt rs (fun w t c sv => w = .tuple #[S t, erv kE pE pU 0 c])) := by
 refine FnW.enter (n := 14) Tryz.func109 rfl rfl fun w0 R0 hbase => ?_
 subst hbase
 show WC _ _ _ _ _ _ _ ([X, E, R0])
 refine WC.sub (fr' := [(0, _)]) ?_ ⟨rfl, trivial⟩
 refine WC.seq (WC.region ?_)
 refine WL.q (oq_assign rfl) rfl rfl rfl ?_
 refine WL.q (oq_assign rfl) rfl rfl rfl ?_
 refine WL.nil (WE.then_normal (WC.sub (fr' := [(0, _)]) ?_ ⟨rfl, trivial⟩))
 refine WC.seq (WC.region ?_)
 refine WL.q (oq_move rfl) rfl rfl rfl ?_
 refine WL.f1 ?_
 refine WL.f1 ?_
 refine WL.callW2 (decBytes _ E kE pE pU hS k r f Rt hR rs X hX hrs) call108 rfl rfl rfl fun v1_1 Hs1_1 hR1_1 => ?_
 obtain ⟨X2, N, sv, c, t, hw, rfl, hN, hsv, hor⟩ := hR1_1
 subst hw
 refine WL.to3 ?_
 refine WL.q (oq_move rfl) rfl rfl rfl ?_
 refine WL.q (oq_extract rfl rfl) rfl rfl rfl ?_
 refine WL.q (oq_extract rfl rfl) rfl rfl rfl ?_
 refine WL.q (oq_assign rfl) rfl rfl rfl ?_
 refine WL.q (oq_assign rfl) rfl rfl rfl ?_
 refine WL.nil (WE.then_normal (WC.sub (fr' := [(4, _), (5, _)]) ?_ ⟨rfl, rfl, trivial⟩))
 refine WC.seq (WC.region ?_)
 refine WL.q (oq_move rfl) rfl rfl rfl ?_
 refine WL.q (oq_bytesStr hsv (.tail _ (.head _)) Tryz.underlying9 Tryz.underlying28 Tryz.underlying5 rfl) rfl rfl rfl ?_
 refine WL.q (oq_move rfl) rfl rfl rfl ?_
 refine WL.q (oq_assign rfl) rfl rfl rfl ?_
 refine WL.q (oq_assign rfl) rfl rfl rfl ?_
 refine WL.nil (WE.then_normal (WC.sub (fr' := [(2, _), (3, _)]) ?_ ⟨rfl, rfl, trivial⟩))
 refine WC.ret ?_
 refine WE.endW3 (.inl rfl) (res2 Tryz.results109 rfl rfl) ?_
 exact ⟨X2, N, sv, c, t, rfl, rfl, hN, hsv, hor⟩
theorem decBytesValue (tv : Nat) (base : Nat) (E : Hp) (kE : TypeId) (pE pU : Addr) (hS : Sn E kE pE pU) (k : TypeId) (r : Value) (f : FuncId) (Rt : List UInt8 → Hp → Prop) (hR : Rr base k r f E kE pE pU Rt) (rs : List UInt8) (X : Hp) (hX : Rt rs X) (hrs : rs.length ≤ 1000000) : FnW Tryz.prog 99 [Pt tv 0, .iface k r] base [[(tv, .cells #[.slice none 0 0] 132 (0, 0))], X, E] (fun w Hs => ∃ u Hs2, Hs = [(tv, .cells #[u] 132 (0, 0))] :: Hs2 ∧ DBR base kE pE pU E Rt rs (fun w t c sv => w = erv kE pE pU 0 c ∧ (c = 0 → u = sv)) w Hs2) := by
 refine FnW.enter (n := 18) Tryz.func99 rfl rfl fun w0 R0 hbase => ?_
 subst hbase
 show WC _ _ _ _ _ _ _ ([[(tv, .cells #[.slice none 0 0] 132 (0, 0))], X, E, R0])
 refine WC.sub (fr' := [(0, _), (1, _)]) ?_ ⟨rfl, rfl, trivial⟩
 refine WC.seq (WC.region ?_)
 refine WL.q (oq_assign rfl) rfl rfl rfl ?_
 refine WL.nil (WE.then_normal (WC.sub (fr' := [(0, _), (1, _)]) ?_ ⟨rfl, rfl, trivial⟩))
 refine WC.seq (WC.region ?_)
 refine WL.q (oq_move rfl) rfl rfl rfl ?_
 refine WL.f2 ?_
 refine WL.f2 ?_
 refine WL.callW2 (decBytes _ E kE pE pU hS k r f Rt hR rs X hX hrs) call108 rfl rfl rfl fun v1_1 Hs1_1 hR1_1 => ?_
 obtain ⟨X2, N, sv, c, t, hw, rfl, hN, hsv, hor⟩ := hR1_1
 subst hw
 refine WL.to3 ?_
 refine WL.q (oq_move rfl) rfl rfl rfl ?_
 refine WL.q (oq_extract rfl rfl) rfl rfl rfl ?_
 refine WL.q (oq_extract rfl rfl) rfl rfl rfl ?_
 refine WL.q (oq_assign rfl) rfl rfl rfl ?_
 refine WL.q (oq_assign rfl) rfl rfl rfl ?_
 refine WL.nil (WE.then_normal (WC.sub (fr' := [(0, _), (5, _), (6, _)]) ?_ ⟨rfl, rfl, rfl, trivial⟩))
 refine WC.seq (WC.seq (WC.region ?_))
 refine WL.q (oq_move rfl) rfl rfl rfl ?_
 refine WL.q (oq_ineq Tryz.underlying99 rfl (erv_or _ _ _ _ _)) rfl rfl rfl ?_
 refine WL.nil (WE.then_normal (WC.sub (fr' := [(0, _), (5, _), (6, _), (13, _)]) ?_ ⟨rfl, rfl, rfl, rfl, trivial⟩))
 refine WC.cond rfl (fun q2 => ?_) (fun q2 => ?_)
 ·
  try simp only [Z1, Z2, Z3, Z4, Z5, Z6, Z7, Z8, Z9, Z0] at q2
  refine WC.seq (WC.region ?_)
  refine WL.q (oq_move rfl) rfl rfl rfl ?_
  refine WL.q (oq_assign rfl) rfl rfl rfl ?_
  refine WL.nil (WE.then_normal (WC.sub (fr' := [(4, _)]) ?_ ⟨rfl, trivial⟩))
  refine WC.ret (WE.then_ret ?_)
  refine WE.f4 ?_
  refine WE.f3 ?_
  refine WE.f3 ?_
  refine WE.f3 ?_
  refine WE.f4 ?_
  refine WE.endW4 (.inl rfl) (res1 Tryz.results99 rfl) ?_
  have hne := ervN (by simpa using q2)
  exact ⟨_, _, rfl, X2, N, sv, c, t, ⟨rfl, fun h => absurd h hne⟩, rfl, hN, hsv, hor⟩
 ·
  try simp only [Z1, Z2, Z3, Z4, Z5, Z6, Z7, Z8, Z9, Z0] at q2
  refine WC.skip (WE.then_normal (WC.sub (fr' := [(0, _), (5, _)]) ?_ ⟨rfl, rfl, trivial⟩))
  refine WC.seq ?_
  obtain ⟨sp, sc, rfl⟩ := hsv.shape
  refine WC.region ?_
  refine WL.q (oq_move rfl) rfl rfl rfl ?_
  refine WL.q (oq_move rfl) rfl rfl rfl ?_
  refine WL.q (oq_nilCheck rfl) rfl rfl rfl ?_
  refine WL.f3 ?_
  refine WL.store ty132 rfl rfl rfl (by exact Nat.zero_lt_one) (by simp) rfl ?_
  refine WL.nil (WE.then_normal (WC.sub (fr' := []) ?_ trivial))
  refine WC.seq (WC.region ?_)
  refine WL.q (oq_assign rfl) rfl rfl rfl ?_
  refine WL.nil (WE.then_normal (WC.sub (fr' := [(4, _)]) ?_ ⟨rfl, trivial⟩))
  refine WC.ret ?_
  refine WE.endW4 (.inl rfl) (res1 Tryz.results99 rfl) ?_
  have hce := erv0 (c := c) (by simpa using q2)
  subst hce
  exact ⟨_, _, rfl, X2, N, _, 0, t, ⟨rfl, fun _ => rfl⟩, rfl, hN, hsv, hor⟩
theorem decStringValue (tv : Nat) (base : Nat) (E : Hp) (kE : TypeId) (pE pU : Addr) (hS : Sn E kE pE pU) (k : TypeId) (r : Value) (f : FuncId) (Rt : List UInt8 → Hp → Prop) (hR : Rr base k r f E kE pE pU Rt) (rs : List UInt8) (X : Hp) (hX : Rt rs X) (hrs : rs.length ≤ 1000000) : FnW Tryz.prog 100 [Pt tv 0, .iface k r] base [[(tv, .cells #[S []] 133 (0, 0))], X, E] (fun w Hs => ∃ u Hs2, Hs = [(tv, .cells #[u] 133 (0, 0))] :: Hs2 ∧ DBR base kE pE pU E Rt rs (fun w t c sv => w = erv kE pE pU 0 c ∧ (c = 0 → u = S t)) w Hs2) := by
 refine FnW.enter (n := 18) Tryz.func100 rfl rfl fun w0 R0 hbase => ?_
 subst hbase
 show WC _ _ _ _ _ _ _ ([[(tv, .cells #[S []] 133 (0, 0))], X, E, R0])
 refine WC.sub (fr' := [(0, _), (1, _)]) ?_ ⟨rfl, rfl, trivial⟩
 refine WC.seq (WC.region ?_)
 refine WL.q (oq_assign rfl) rfl rfl rfl ?_
 refine WL.nil (WE.then_normal (WC.sub (fr' := [(0, _), (1, _)]) ?_ ⟨rfl, rfl, trivial⟩))
 refine WC.seq (WC.region ?_)
 refine WL.q (oq_move rfl) rfl rfl rfl ?_
 refine WL.f2 ?_
 refine WL.f2 ?_
 refine WL.callW2 (decStr _ E kE pE pU hS k r f Rt hR rs X hX hrs) call109 rfl rfl rfl fun v1_1 Hs1_1 hR1_1 => ?_
 obtain ⟨X2, N, sv, c, t, hw, rfl, hN, hsv, hor⟩ := hR1_1
 subst hw
 refine WL.to3 ?_
 refine WL.q (oq_move rfl) rfl rfl rfl ?_
 refine WL.q (oq_extract rfl rfl) rfl rfl rfl ?_
 refine WL.q (oq_extract rfl rfl) rfl rfl rfl ?_
 refine WL.q (oq_assign rfl) rfl rfl rfl ?_
 refine WL.q (oq_assign rfl) rfl rfl rfl ?_
 refine WL.nil (WE.then_normal (WC.sub (fr' := [(0, _), (5, _), (6, _)]) ?_ ⟨rfl, rfl, rfl, trivial⟩))
 refine WC.seq (WC.seq (WC.region ?_))
 refine WL.q (oq_move rfl) rfl rfl rfl ?_
 refine WL.q (oq_ineq Tryz.underlying99 rfl (erv_or _ _ _ _ _)) rfl rfl rfl ?_
 refine WL.nil (WE.then_normal (WC.sub (fr' := [(0, _), (5, _), (6, _), (13, _)]) ?_ ⟨rfl, rfl, rfl, rfl, trivial⟩))
 refine WC.cond rfl (fun q2 => ?_) (fun q2 => ?_)
 ·
  try simp only [Z1, Z2, Z3, Z4, Z5, Z6, Z7, Z8, Z9, Z0] at q2
  refine WC.seq (WC.region ?_)
  refine WL.q (oq_move rfl) rfl rfl rfl ?_
  refine WL.q (oq_assign rfl) rfl rfl rfl ?_
  refine WL.nil (WE.then_normal (WC.sub (fr' := [(4, _)]) ?_ ⟨rfl, trivial⟩))
  refine WC.ret (WE.then_ret ?_)
  refine WE.f4 ?_
  refine WE.f3 ?_
  refine WE.f3 ?_
  refine WE.f3 ?_
  refine WE.f4 ?_
  refine WE.endW4 (.inl rfl) (res1 Tryz.results100 rfl) ?_
  have hne := ervN (by simpa using q2)
  exact ⟨_, _, rfl, X2, N, sv, c, t, ⟨rfl, fun h => absurd h hne⟩, rfl, hN, hsv, hor⟩
 ·
  try simp only [Z1, Z2, Z3, Z4, Z5, Z6, Z7, Z8, Z9, Z0] at q2
  refine WC.skip (WE.then_normal (WC.sub (fr' := [(0, _), (5, _)]) ?_ ⟨rfl, rfl, trivial⟩))
  refine WC.seq (WC.region ?_)
  refine WL.q (oq_move rfl) rfl rfl rfl ?_
  refine WL.q (oq_move rfl) rfl rfl rfl ?_
  refine WL.q (oq_nilCheck rfl) rfl rfl rfl ?_
  refine WL.f3 ?_
  refine WL.store ty133 rfl rfl rfl (by exact Nat.zero_lt_one) (by simp) rfl ?_
  refine WL.nil (WE.then_normal (WC.sub (fr' := []) ?_ trivial))
  refine WC.seq (WC.region ?_)
  refine WL.q (oq_assign rfl) rfl rfl rfl ?_
  refine WL.nil (WE.then_normal (WC.sub (fr' := [(4, _)]) ?_ ⟨rfl, trivial⟩))
  refine WC.ret ?_
  refine WE.endW4 (.inl rfl) (res1 Tryz.results100 rfl) ?_
  have hce := erv0 (c := c) (by simpa using q2)
  subst hce
  exact ⟨_, _, rfl, X2, N, _, 0, t, ⟨rfl, fun _ => rfl⟩, rfl, hN, hsv, hor⟩
theorem unix2 (s n : Int) (h1 : -10000000000000000 ≤ s) (h2 : s ≤ 10000000000000000) (h3 : -9223372036854775808 ≤ n) (h4 : n ≤ 9223372036854775807) : Fn0 Tryz.prog 60 [I s, I n] (tmV (s + n / 1000000000 + 62135596800) (n % 1000000000)) := by
 refine Fn0.enter (n := 32) Tryz.func60 rfl rfl fun w0 => ?_
 refine WC.sub (fr' := [(0, _), (1, _)]) ?_ ⟨rfl, rfl, trivial⟩
 refine WC.seq (WC.region ?_)
 refine WL.alloc ty89 rfl rfl fun b0_0 hb0_0 => ?_
 refine WL.nil (WE.then_normal (WC.sub (fr' := [(0, _), (1, _), (4, _)]) ?_ ⟨rfl, rfl, rfl, trivial⟩))
 refine WC.seq (WC.seq (WC.region ?_))
 refine WL.q (oq_move rfl) rfl rfl rfl ?_
 refine WL.q (oq_lss rfl rfl) rfl rfl rfl ?_
 refine WL.q (oq_move rfl) rfl rfl rfl ?_
 refine WL.split 8 rfl (fun s1_2 => ?_) (fun s1_2 => ?_)
 ·
  try simp only [Z1, Z2, Z3, Z4, Z5, Z6, Z7, Z8, Z9, Z0] at s1_2
  refine WL.skip rfl rfl rfl ?_
  refine WL.skip rfl rfl rfl ?_
  refine WL.q (oq_pick_t rfl rfl) rfl rfl rfl ?_
  refine WL.nil (WE.then_normal (WC.sub (fr' := [(0, _), (1, _), (4, _), (11, _)]) ?_ ⟨rfl, rfl, rfl, rfl, trivial⟩))
  refine WC.cond_t rfl ?_
  refine WC.seq (WC.region ?_)
  refine WL.q (oq_move rfl) rfl rfl rfl ?_
  refine WL.q (oq_tquo rfl rfl (by omega) (by rw [i64_lo, i64_hi]; omega)) rfl rfl rfl ?_
  refine WL.q (oq_assign rfl) rfl rfl rfl ?_
  refine WL.nil (WE.then_normal (WC.sub (fr' := [(0, _), (1, _), (4, _), (5, _)]) ?_ ⟨rfl, rfl, rfl, rfl, trivial⟩))
  refine WC.seq ?_
  have hk := tdiv_b n 1000000000 (by decide)
  generalize n.tdiv 1000000000 = k at *
  refine WC.region ?_
  refine WL.q (oq_move rfl) rfl rfl rfl ?_
  refine WL.q (oq_move rfl) rfl rfl rfl ?_
  refine WL.q (oq_add rfl rfl (by rw [i64_lo, i64_hi]; (first | omega | (simp only [List.length_cons, List.length_nil, List.length_append, List.length_drop, List.length_take]; omega)))) rfl rfl rfl ?_
  refine WL.q (oq_assign rfl) rfl rfl rfl ?_
  refine WL.nil (WE.then_normal (WC.sub (fr' := [(0, _), (1, _), (4, _), (5, _)]) ?_ ⟨rfl, rfl, rfl, rfl, trivial⟩))
  refine WC.seq (WC.region ?_)
  refine WL.q (oq_move rfl) rfl rfl rfl ?_
  refine WL.q (oq_move rfl) rfl rfl rfl ?_
  refine WL.q (oq_mul rfl rfl (by rw [i64_lo, i64_hi]; (first | omega | (simp only [List.length_cons, List.length_nil, List.length_append, List.length_drop, List.length_take]; omega)))) rfl rfl rfl ?_
  refine WL.q (oq_sub rfl rfl (by rw [i64_lo, i64_hi]; (first | omega | (simp only [List.length_cons, List.length_nil, List.length_append, List.length_drop, List.length_take]; omega)))) rfl rfl rfl ?_
  refine WL.q (oq_assign rfl) rfl rfl rfl ?_
  refine WL.nil (WE.then_normal (WC.sub (fr' := [(0, _), (1, _), (4, _)]) ?_ ⟨rfl, rfl, rfl, trivial⟩))
  refine WC.seq (WC.region ?_)
  refine WL.q (oq_move rfl) rfl rfl rfl ?_
  refine WL.q (oq_lss rfl rfl) rfl rfl rfl ?_
  refine WL.nil (WE.then_normal (WC.sub (fr' := [(0, _), (1, _), (4, _), (22, _)]) ?_ ⟨rfl, rfl, rfl, rfl, trivial⟩))
  refine WC.cond rfl (fun q5 => ?_) (fun q5 => ?_)
  ·
   try simp only [Z1, Z2, Z3, Z4, Z5, Z6, Z7, Z8, Z9, Z0] at q5
   refine WC.seq (WC.region ?_)
   refine WL.q (oq_move rfl) rfl rfl rfl ?_
   refine WL.q (oq_add rfl rfl (by rw [i64_lo, i64_hi]; (first | omega | (simp only [List.length_cons, List.length_nil, List.length_append, List.length_drop, List.length_take]; omega)))) rfl rfl rfl ?_
   refine WL.q (oq_assign rfl) rfl rfl rfl ?_
   refine WL.nil (WE.then_normal (WC.sub (fr' := [(0, _), (1, _), (4, _)]) ?_ ⟨rfl, rfl, rfl, trivial⟩))
   refine WC.region ?_
   refine WL.q (oq_move rfl) rfl rfl rfl ?_
   refine WL.q (oq_sub rfl rfl (by rw [i64_lo, i64_hi]; (first | omega | (simp only [List.length_cons, List.length_nil, List.length_append, List.length_drop, List.length_take]; omega)))) rfl rfl rfl ?_
   refine WL.q (oq_assign rfl) rfl rfl rfl ?_
   refine WL.nil (WE.then_normal (WC.sub (fr' := [(0, _), (1, _), (4, _)]) ?_ ⟨rfl, rfl, rfl, trivial⟩))
   refine WC.seq (WC.region ?_)
   refine WL.q (oq_move rfl) rfl rfl rfl ?_
   refine WL.q (oq_add rfl rfl (by rw [i64_lo, i64_hi]; (first | omega | (simp only [List.length_cons, List.length_nil, List.length_append, List.length_drop, List.length_take]; omega)))) rfl rfl rfl ?_
   refine WL.q (oq_move rfl) rfl rfl rfl ?_
   refine WL.q (oq_conv Tryz.underlying2 Tryz.underlying21 rfl (by rw [i32_lo, i32_hi]; (first | omega | (simp only [List.length_cons, List.length_nil, List.length_append, List.length_drop, List.length_take]; omega)))) rfl rfl rfl ?_
   refine WL.q (oq_build #[_, _, _, _] str89 ty89 rfl rfl) rfl rfl rfl ?_
   refine WL.storeS #[_, _, _, _] ty89 rfl rfl rfl rfl (Nat.le_of_ble_eq_true rfl) rfl rfl ?_
   refine WL.nil (WE.then_normal (WC.sub (fr' := [(4, _)]) ?_ ⟨rfl, trivial⟩))
   refine WC.ret ?_
   refine WE.endD0 (.inl rfl) (rs1 Tryz.results60 (rv_cellS [_, _, _, _] agg89 ty89 rfl (.head _) (List.mem_singleton.2 rfl) rfl rfl)) (dr_lose hb0_0 dr_refl) ?_
   first | (exfalso; omega) | exact tm_eq (by omega) (by omega)
  ·
   try simp only [Z1, Z2, Z3, Z4, Z5, Z6, Z7, Z8, Z9, Z0] at q5
   refine WC.skip (WE.then_normal (WC.sub (fr' := [(0, _), (1, _), (4, _)]) ?_ ⟨rfl, rfl, rfl, trivial⟩))
   refine WC.seq (WC.region ?_)
   refine WL.q (oq_move rfl) rfl rfl rfl ?_
   refine WL.q (oq_add rfl rfl (by rw [i64_lo, i64_hi]; (first | omega | (simp only [List.length_cons, List.length_nil, List.length_append, List.length_drop, List.length_take]; omega)))) rfl rfl rfl ?_
   refine WL.q (oq_move rfl) rfl rfl rfl ?_
   refine WL.q (oq_conv Tryz.underlying2 Tryz.underlying21 rfl (by rw [i32_lo, i32_hi]; (first | omega | (simp only [List.length_cons, List.length_nil, List.length_append, List.length_drop, List.length_take]; omega)))) rfl rfl rfl ?_
   refine WL.q (oq_build #[_, _, _, _] str89 ty89 rfl rfl) rfl rfl rfl ?_
   refine WL.storeS #[_, _, _, _] ty89 rfl rfl rfl rfl (Nat.le_of_ble_eq_true rfl) rfl rfl ?_
   refine WL.nil (WE.then_normal (WC.sub (fr' := [(4, _)]) ?_ ⟨rfl, trivial⟩))
   refine WC.ret ?_
   refine WE.endD0 (.inl rfl) (rs1 Tryz.results60 (rv_cellS [_, _, _, _] agg89 ty89 rfl (.head _) (List.mem_singleton.2 rfl) rfl rfl)) (dr_lose hb0_0 dr_refl) ?_
   first | (exfalso; omega) | exact tm_eq (by omega) (by omega)
 ·
  try simp only [Z1, Z2, Z3, Z4, Z5, Z6, Z7, Z8, Z9, Z0] at s1_2
  refine WL.q (oq_move rfl) rfl rfl rfl ?_
  refine WL.q (oq_geq rfl rfl) rfl rfl rfl ?_
  refine WL.q (oq_pick_f rfl rfl) rfl rfl rfl ?_
  refine WL.nil (WE.then_normal (WC.sub (fr' := [(0, _), (1, _), (4, _), (11, _)]) ?_ ⟨rfl, rfl, rfl, rfl, trivial⟩))
  refine WC.cond rfl (fun q1 => ?_) (fun q1 => ?_)
  ·
   try simp only [Z1, Z2, Z3, Z4, Z5, Z6, Z7, Z8, Z9, Z0] at q1
   refine WC.seq (WC.region ?_)
   refine WL.q (oq_move rfl) rfl rfl rfl ?_
   refine WL.q (oq_tquo rfl rfl (by omega) (by rw [i64_lo, i64_hi]; omega)) rfl rfl rfl ?_
   refine WL.q (oq_assign rfl) rfl rfl rfl ?_
   refine WL.nil (WE.then_normal (WC.sub (fr' := [(0, _), (1, _), (4, _), (5, _)]) ?_ ⟨rfl, rfl, rfl, rfl, trivial⟩))
   refine WC.seq ?_
   have hk := tdiv_b n 1000000000 (by decide)
   generalize n.tdiv 1000000000 = k at *
   refine WC.region ?_
   refine WL.q (oq_move rfl) rfl rfl rfl ?_
   refine WL.q (oq_move rfl) rfl rfl rfl ?_
   refine WL.q (oq_add rfl rfl (by rw [i64_lo, i64_hi]; (first | omega | (simp only [List.length_cons, List.length_nil, List.length_append, List.length_drop, List.length_take]; omega)))) rfl rfl rfl ?_
   refine WL.q (oq_assign rfl) rfl rfl rfl ?_
   refine WL.nil (WE.then_normal (WC.sub (fr' := [(0, _), (1, _), (4, _), (5, _)]) ?_ ⟨rfl, rfl, rfl, rfl, trivial⟩))
   refine WC.seq (WC.region ?_)
   refine WL.q (oq_move rfl) rfl rfl rfl ?_
   refine WL.q (oq_move rfl) rfl rfl rfl ?_
   refine WL.q (oq_mul rfl rfl (by rw [i64_lo, i64_hi]; (first | omega | (simp only [List.length_cons, List.length_nil, List.length_append, List.length_drop, List.length_take]; omega)))) rfl rfl rfl ?_
   refine WL.q (oq_sub rfl rfl (by rw [i64_lo, i64_hi]; (first | omega | (simp only [List.length_cons, List.length_nil, List.length_append, List.length_drop, List.length_take]; omega)))) rfl rfl rfl ?_
   refine WL.q (oq_assign rfl) rfl rfl rfl ?_
   refine WL.nil (WE.then_normal (WC.sub (fr' := [(0, _), (1, _), (4, _)]) ?_ ⟨rfl, rfl, rfl, trivial⟩))
   refine WC.seq (WC.region ?_)
   refine WL.q (oq_move rfl) rfl rfl rfl ?_
   refine WL.q (oq_lss rfl rfl) rfl rfl rfl ?_
   refine WL.nil (WE.then_normal (WC.sub (fr' := [(0, _), (1, _), (4, _), (22, _)]) ?_ ⟨rfl, rfl, rfl, rfl, trivial⟩))
   refine WC.cond rfl (fun q5 => ?_) (fun q5 => ?_)
   ·
    try simp only [Z1, Z2, Z3, Z4, Z5, Z6, Z7, Z8, Z9, Z0] at q5
    refine WC.seq (WC.region ?_)
    refine WL.q (oq_move rfl) rfl rfl rfl ?_
    refine WL.q (oq_add rfl rfl (by rw [i64_lo, i64_hi]; (first | omega | (simp only [List.length_cons, List.length_nil, List.length_append, List.length_drop, List.length_take]; omega)))) rfl rfl rfl ?_
    refine WL.q (oq_assign rfl) rfl rfl rfl ?_
    refine WL.nil (WE.then_normal (WC.sub (fr' := [(0, _), (1, _), (4, _)]) ?_ ⟨rfl, rfl, rfl, trivial⟩))
    refine WC.region ?_
    refine WL.q (oq_move rfl) rfl rfl rfl ?_
    refine WL.q (oq_sub rfl rfl (by rw [i64_lo, i64_hi]; (first | omega | (simp only [List.length_cons, List.length_nil, List.length_append, List.length_drop, List.length_take]; omega)))) rfl rfl rfl ?_
    refine WL.q (oq_assign rfl) rfl rfl rfl ?_
    refine WL.nil (WE.then_normal (WC.sub (fr' := [(0, _), (1, _), (4, _)]) ?_ ⟨rfl, rfl, rfl, trivial⟩))
    refine WC.seq (WC.region ?_)
    refine WL.q (oq_move rfl) rfl rfl rfl ?_
    refine WL.q (oq_add rfl rfl (by rw [i64_lo, i64_hi]; (first | omega | (simp only [List.length_cons, List.length_nil, List.length_append, List.length_drop, List.length_take]; omega)))) rfl rfl rfl ?_
    refine WL.q (oq_move rfl) rfl rfl rfl ?_
    refine WL.q (oq_conv Tryz.underlying2 Tryz.underlying21 rfl (by rw [i32_lo, i32_hi]; (first | omega | (simp only [List.length_cons, List.length_nil, List.length_append, List.length_drop, List.length_take]; omega)))) rfl rfl rfl ?_
    refine WL.q (oq_build #[_, _, _, _] str89 ty89 rfl rfl) rfl rfl rfl ?_
    refine WL.storeS #[_, _, _, _] ty89 rfl rfl rfl rfl (Nat.le_of_ble_eq_true rfl) rfl rfl ?_
    refine WL.nil (WE.then_normal (WC.sub (fr' := [(4, _)]) ?_ ⟨rfl, trivial⟩))
    refine WC.ret ?_
    refine WE.endD0 (.inl rfl) (rs1 Tryz.results60 (rv_cellS [_, _, _, _] agg89 ty89 rfl (.head _) (List.mem_singleton.2 rfl) rfl rfl)) (dr_lose hb0_0 dr_refl) ?_
    first | (exfalso; omega) | exact tm_eq (by omega) (by omega)
   ·
    try simp only [Z1, Z2, Z3, Z4, Z5, Z6, Z7, Z8, Z9, Z0] at q5
    refine WC.skip (WE.then_normal (WC.sub (fr' := [(0, _), (1, _), (4, _)]) ?_ ⟨rfl, rfl, rfl, trivial⟩))
    refine WC.seq (WC.region ?_)
    refine WL.q (oq_move rfl) rfl rfl rfl ?_
    refine WL.q (oq_add rfl rfl (by rw [i64_lo, i64_hi]; (first | omega | (simp only [List.length_cons, List.length_nil, List.length_append, List.length_drop, List.length_take]; omega)))) rfl rfl rfl ?_
    refine WL.q (oq_move rfl) rfl rfl rfl ?_
    refine WL.q (oq_conv Tryz.underlying2 Tryz.underlying21 rfl (by rw [i32_lo, i32_hi]; (first | omega | (simp only [List.length_cons, List.length_nil, List.length_append, List.length_drop, List.length_take]; omega)))) rfl rfl rfl ?_
    refine WL.q (oq_build #[_, _, _, _] str89 ty89 rfl rfl) rfl rfl rfl ?_
    refine WL.storeS #[_, _, _, _] ty89 rfl rfl rfl rfl (Nat.le_of_ble_eq_true rfl) rfl rfl ?_
    refine WL.nil (WE.then_normal (WC.sub (fr' := [(4, _)]) ?_ ⟨rfl, trivial⟩))
    refine WC.ret ?_
    refine WE.endD0 (.inl rfl) (rs1 Tryz.results60 (rv_cellS [_, _, _, _] agg89 ty89 rfl (.head _) (List.mem_singleton.2 rfl) rfl rfl)) (dr_lose hb0_0 dr_refl) ?_
    first | (exfalso; omega) | exact tm_eq (by omega) (by omega)
  ·
   try simp only [Z1, Z2, Z3, Z4, Z5, Z6, Z7, Z8, Z9, Z0] at q1
   refine WC.skip (WE.then_normal (WC.sub (fr' := [(0, _), (1, _), (4, _)]) ?_ ⟨rfl, rfl, rfl, trivial⟩))
   refine WC.seq (WC.region ?_)
   refine WL.q (oq_move rfl) rfl rfl rfl ?_
   refine WL.q (oq_add rfl rfl (by rw [i64_lo, i64_hi]; (first | omega | (simp only [List.length_cons, List.length_nil, List.length_append, List.length_drop, List.length_take]; omega)))) rfl rfl rfl ?_
   refine WL.q (oq_move rfl) rfl rfl rfl ?_
   refine WL.q (oq_conv Tryz.underlying2 Tryz.underlying21 rfl (by rw [i32_lo, i32_hi]; (first | omega | (simp only [List.length_cons, List.length_nil, List.length_append, List.length_drop, List.length_take]; omega)))) rfl rfl rfl ?_
   refine WL.q (oq_build #[_, _, _, _] str89 ty89 rfl rfl) rfl rfl rfl ?_
   refine WL.storeS #[_, _, _, _] ty89 rfl rfl rfl rfl (Nat.le_of_ble_eq_true rfl) rfl rfl ?_
   refine WL.nil (WE.then_normal (WC.sub (fr' := [(4, _)]) ?_ ⟨rfl, trivial⟩))
   refine WC.ret ?_
   refine WE.endD0 (.inl rfl) (rs1 Tryz.results60 (rv_cellS [_, _, _, _] agg89 ty89 rfl (.head _) (List.mem_singleton.2 rfl) rfl rfl)) (dr_lose hb0_0 dr_refl) ?_
   first | (exfalso; omega) | exact tm_eq (by omega) (by omega)
theorem timeIn (s n : Int) : Fn0 Tryz.prog 88 [tmV s n, S [85, 84, 67], I 0] (tmV s n) := by
 refine Fn0.enter (n := 12) Tryz.func88 rfl rfl fun w0 => ?_
 refine WC.sub (fr' := [(0, _), (1, _), (2, _)]) ?_ ⟨rfl, rfl, rfl, trivial⟩
 refine WC.seq (WC.region ?_)
 refine WL.box rfl rfl rfl fun b0_0 hb0_0 => ?_
 refine WL.alloc ty89 rfl rfl fun b0_1 hb0_1 => ?_
 refine WL.nil (WE.then_normal (WC.sub (fr' := [(1, _), (2, _), (3, _), (6, _)]) ?_ ⟨rfl, rfl, rfl, rfl, trivial⟩))
 refine WC.seq (WC.region ?_)
 refine WL.q (oq_move rfl) rfl rfl rfl ?_
 refine WL.q (oq_move rfl) rfl rfl rfl ?_
 refine WL.q (oq_fieldAddr fld89_2 rfl) rfl rfl rfl ?_
 refine WL.f1 ?_
 refine WL.store1 #[_, _, _, _] ty9 rfl rfl (by first | rfl | exact OwS.one one_) (Nat.lt_of_lt_of_le (Nat.lt_succ_self _) (Nat.le_of_ble_eq_true rfl)) rfl rfl ?_
 refine WL.q (oq_fieldAddr fld89_3 rfl) rfl rfl rfl ?_
 refine WL.store1 #[_, _, _, _] ty3 rfl rfl (by first | rfl | exact OwS.one one_) (Nat.lt_of_lt_of_le (Nat.lt_succ_self _) (Nat.le_of_ble_eq_true rfl)) rfl rfl ?_
 refine WL.nil (WE.then_normal (WC.sub (fr' := [(3, _), (6, _)]) ?_ ⟨rfl, rfl, trivial⟩))
 refine WC.seq (WC.region ?_)
 refine WL.q (oq_loadS [_, _, _, _] agg89 ty89 rfl (.head _) (List.mem_singleton.2 rfl) rfl rfl) rfl rfl rfl ?_
 refine WL.f1 ?_
 refine WL.storeS #[_, _, _, _] ty89 rfl rfl rfl rfl (Nat.le_of_ble_eq_true rfl) rfl rfl ?_
 refine WL.nil (WE.then_normal (WC.sub (fr' := [(6, _)]) ?_ ⟨rfl, trivial⟩))
 refine WC.ret ?_
 refine WE.endD0 (.inl rfl) (rs1 Tryz.results88 (rv_cellS [_, _, _, _] agg89 ty89 rfl (.head _) (List.mem_singleton.2 rfl) rfl rfl)) (dr_lose hb0_1 (dr_lose hb0_0 dr_refl)) ?_
 rfl
theorem timeUTC (s n : Int) : Fn0 Tryz.prog 75 [tmV s n] (tmV s n) := by
 refine Fn0.enter (n := 5) Tryz.func75 rfl rfl fun w0 => ?_
 refine WC.sub (fr' := [(0, _)]) ?_ ⟨rfl, trivial⟩
 refine WC.seq (WC.region ?_)
 refine WL.box rfl rfl rfl fun b0_0 hb0_0 => ?_
 refine WL.alloc ty89 rfl rfl fun b0_1 hb0_1 => ?_
 refine WL.nil (WE.then_normal (WC.sub (fr' := [(1, _), (2, _)]) ?_ ⟨rfl, rfl, trivial⟩))
 refine WC.seq (WC.region ?_)
 refine WL.q (oq_loadS [_, _, _, _] agg89 ty89 rfl (.tail _ (.head _)) (List.mem_singleton.2 rfl) rfl rfl) rfl rfl rfl ?_
 refine WL.qc (oq_call (timeIn s n) call88 rfl) rfl rfl rfl ?_
 refine WL.storeS #[_, _, _, _] ty89 rfl rfl rfl rfl (Nat.le_of_ble_eq_true rfl) rfl rfl ?_
 refine WL.nil (WE.then_normal (WC.sub (fr' := [(2, _)]) ?_ ⟨rfl, trivial⟩))
 refine WC.ret ?_
 refine WE.endD0 (.inl rfl) (rs1 Tryz.results75 (rv_cellS [_, _, _, _] agg89 ty89 rfl (.head _) (List.mem_singleton.2 rfl) rfl rfl)) (dr_lose hb0_1 (dr_lose hb0_0 dr_refl)) ?_
 rfl
theorem fromMilli (ms : Int) (h1 : -9223372036854775808 ≤ ms) (h2 : ms ≤ 9223372036854775807) : Fn0 Tryz.prog 110 [I ms] (msV ms) := by
 have hk := tdiv_b ms 1000 (by decide)
 have hm := tmod_b ms 1000 (by decide)
 refine Fn0.enter (n := 14) Tryz.func110 rfl rfl fun w0 => ?_
 refine WC.sub (fr' := [(0, _)]) ?_ ⟨rfl, trivial⟩
 refine WC.seq (WC.region ?_)
 refine WL.alloc ty89 rfl rfl fun b0_0 hb0_0 => ?_
 refine WL.nil (WE.then_normal (WC.sub (fr' := [(0, _), (2, _)]) ?_ ⟨rfl, rfl, trivial⟩))
 refine WC.seq (WC.region ?_)
 refine WL.q (oq_move rfl) rfl rfl rfl ?_
 refine WL.q (oq_tquo rfl rfl (by omega) (by rw [i64_lo, i64_hi]; omega)) rfl rfl rfl ?_
 refine WL.q (oq_assign rfl) rfl rfl rfl ?_
 refine WL.nil (WE.then_normal (WC.sub (fr' := [(0, _), (2, _), (3, _)]) ?_ ⟨rfl, rfl, rfl, trivial⟩))
 refine WC.seq (WC.region ?_)
 refine WL.q (oq_move rfl) rfl rfl rfl ?_
 refine WL.q (oq_trem rfl rfl (by omega)) rfl rfl rfl ?_
 refine WL.q (oq_assign rfl) rfl rfl rfl ?_
 refine WL.nil (WE.then_normal (WC.sub (fr' := [(2, _), (3, _), (4, _)]) ?_ ⟨rfl, rfl, rfl, trivial⟩))
 refine WC.seq (WC.region ?_)
 refine WL.q (oq_move rfl) rfl rfl rfl ?_
 refine WL.q (oq_move rfl) rfl rfl rfl ?_
 refine WL.q (oq_mul rfl rfl (by rw [i64_lo, i64_hi]; (first | omega | (simp only [List.length_cons, List.length_nil, List.length_append, List.length_drop, List.length_take]; omega)))) rfl rfl rfl ?_
 refine WL.qc (oq_call (unix2 (ms.tdiv 1000) (ms.tmod 1000 * 1000000) (by omega) (by omega) (by omega) (by omega)) call60 rfl) rfl rfl rfl ?_
 refine WL.qc (oq_call (timeUTC _ _) call75 rfl) rfl rfl rfl ?_
 refine WL.storeS #[_, _, _, _] ty89 rfl rfl rfl rfl (Nat.le_of_ble_eq_true rfl) rfl rfl ?_
 refine WL.nil (WE.then_normal (WC.sub (fr' := [(2, _)]) ?_ ⟨rfl, trivial⟩))
 refine WC.ret ?_
 refine WE.endD0 (.inl rfl) (rs1 Tryz.results110 (rv_cellS [_, _, _, _] agg89 ty89 rfl (.head _) (List.mem_singleton.2 rfl) rfl rfl)) (dr_lose hb0_0 dr_refl) ?_
 exact msv_in h1 h2
theorem decTimestampValue (tv : Nat) (base : Nat) (E : Hp) (kE : TypeId) (pE pU : Addr) (hS : Sn E kE pE pU) (k : TypeId) (r : Value) (f : FuncId) (Rt : List UInt8 → Hp → Prop) (hR : Rr base k r f E kE pE pU Rt) (rs : List UInt8) (X : Hp) (hX : Rt rs X) (hrs : rs.length ≤ 1000000) : FnW Tryz.prog 101 [Pt tv 0, .iface k r] base [[(tv, .cells #[I 0, .int .i32 0, S [], I 0] 134 (0, 0))], X, E] (fun w Hs => ∃ X2 cs, w = erv kE pE pU 0 (rdc 8 rs) ∧ Hs = [[(tv, .cells cs 134 (0, 0))], X2, E] ∧ Rt (rs.drop 8) X2 ∧ cs.size = 4 ∧ (8 ≤ rs.length → .agg cs = msV (IntKind.i64.wrap (nm (rs.take 8))))) := by
 refine FnW.enter (n := 20) Tryz.func101 rfl rfl fun w0 R0 hbase => ?_
 subst hbase
 show WC _ _ _ _ _ _ _ ([[(tv, .cells #[I 0, .int .i32 0, S [], I 0] 134 (0, 0))], X, E, R0])
 refine WC.sub (fr' := [(0, _), (1, _)]) ?_ ⟨rfl, rfl, trivial⟩
 refine WC.seq (WC.region ?_)
 refine WL.q (oq_assign rfl) rfl rfl rfl ?_
 refine WL.nil (WE.then_normal (WC.sub (fr' := [(0, _), (1, _)]) ?_ ⟨rfl, rfl, trivial⟩))
 refine WC.seq (WC.region ?_)
 refine WL.q (oq_move rfl) rfl rfl rfl ?_
 refine WL.f2 ?_
 refine WL.f2 ?_
 refine WL.callW2 (dec64 _ E kE pE pU hS k r f Rt hR rs X hX hrs) call107 rfl rfl rfl fun v1_1 Hs1_1 hR1_1 => ?_
 obtain ⟨X2, x, rfl, rfl, hX2, hb, hxl⟩ := hR1_1
 refine WL.to2 ?_
 refine WL.q (oq_move rfl) rfl rfl rfl ?_
 refine WL.q (oq_extract rfl rfl) rfl rfl rfl ?_
 refine WL.q (oq_extract rfl rfl) rfl rfl rfl ?_
 refine WL.q (oq_assign rfl) rfl rfl rfl ?_
 refine WL.q (oq_assign rfl) rfl rfl rfl ?_
 refine WL.nil (WE.then_normal (WC.sub (fr' := [(0, _), (5, _), (6, _)]) ?_ ⟨rfl, rfl, rfl, trivial⟩))
 refine WC.seq (WC.seq (WC.region ?_))
 refine WL.q (oq_move rfl) rfl rfl rfl ?_
 refine WL.q (oq_ineq Tryz.underlying99 rfl (erv_or _ _ _ _ _)) rfl rfl rfl ?_
 refine WL.nil (WE.then_normal (WC.sub (fr' := [(0, _), (5, _), (6, _), (13, _)]) ?_ ⟨rfl, rfl, rfl, rfl, trivial⟩))
 refine WC.cond rfl (fun q2 => ?_) (fun q2 => ?_)
 ·
  try simp only [Z1, Z2, Z3, Z4, Z5, Z6, Z7, Z8, Z9, Z0] at q2
  refine WC.seq (WC.region ?_)
  refine WL.q (oq_move rfl) rfl rfl rfl ?_
  refine WL.q (oq_assign rfl) rfl rfl rfl ?_
  refine WL.nil (WE.then_normal (WC.sub (fr' := [(4, _)]) ?_ ⟨rfl, trivial⟩))
  refine WC.ret (WE.then_ret ?_)
  refine WE.f3 ?_
  refine WE.f2 ?_
  refine WE.f2 ?_
  refine WE.f3 ?_
  refine WE.endW3 (.inl rfl) (res1 Tryz.results101 rfl) ?_
  have hne := rdcN (ervN (by simpa using q2))
  exact ⟨X2, _, rfl, rfl, hX2, rfl, fun h => (by omega)⟩
 ·
  try simp only [Z1, Z2, Z3, Z4, Z5, Z6, Z7, Z8, Z9, Z0] at q2
  refine WC.skip (WE.then_normal (WC.sub (fr' := [(0, _), (5, _)]) ?_ ⟨rfl, rfl, trivial⟩))
  refine WC.seq (WC.region ?_)
  refine WL.q (oq_move rfl) rfl rfl rfl ?_
  refine WL.q (oq_move rfl) rfl rfl rfl ?_
  refine WL.q (oq_convw Tryz.underlying73 Tryz.underlying2 rfl) rfl rfl rfl ?_
  refine WL.qc (oq_call (fromMilli (IntKind.i64.wrap (x : Nat)) (by have := wrap_bnd .i64 ((x : Nat) : Int); rw [i64_lo] at this; exact this.1) (by have := wrap_bnd .i64 ((x : Nat) : Int); rw [i64_hi] at this; exact this.2)) call110 rfl) rfl rfl rfl ?_
  refine WL.q (oq_nilCheck rfl) rfl rfl rfl ?_
  refine WL.f2 ?_
  refine WL.storeS #[_, _, _, _] ty134 rfl rfl rfl rfl (Nat.le_of_ble_eq_true rfl) rfl rfl ?_
  refine WL.nil (WE.then_normal (WC.sub (fr' := []) ?_ trivial))
  refine WC.seq (WC.region ?_)
  refine WL.q (oq_assign rfl) rfl rfl rfl ?_
  refine WL.nil (WE.then_normal (WC.sub (fr' := [(4, _)]) ?_ ⟨rfl, trivial⟩))
  refine WC.ret ?_
  refine WE.endW3 (.inl rfl) (res1 Tryz.results101 rfl) ?_
  have hle := rdc0 (erv0 (by simpa using q2))
  rw [rdc_le hle]
  exact ⟨X2, _, rfl, rfl, hX2, rfl, fun h => by rw [hb h]⟩
theorem decFixed (bb m : Nat) (e : TypeId) (hm : m ≤ 1000) (base : Nat) (E : Hp) (kE : TypeId) (pE pU : Addr) (hS : Sn E kE pE pU) (k : TypeId) (r : Value) (f : FuncId) (Rt : List UInt8 → Hp → Prop) (hR : Rr base k r f E kE pE pU Rt) (rs : List UInt8) (X : Hp) (hX : Rt rs X) (hrs : rs.length ≤ 1000000) : FnW Tryz.prog 111 [.iface k r, Sl bb 0 m m] base [Bf bb e (List.replicate m 0), X, E] (fun w Hs => ∃ X2, w = erv kE pE pU 0 (rdc m rs) ∧ Hs = [Bf bb e (putB (List.replicate m 0) 0 (rs.take m)), X2, E] ∧ Rt (rs.drop m) X2) := by
 refine FnW.enter (n := 14) Tryz.func111 rfl rfl fun w0 R0 hbase => ?_
 subst hbase
 show WC _ _ _ _ _ _ _ ([Bf bb e (List.replicate m 0), X, E, R0])
 refine WC.sub (fr' := [(0, _), (1, _)]) ?_ ⟨rfl, rfl, trivial⟩
 refine WC.seq (WC.region ?_)
 refine WL.q (oq_assign rfl) rfl rfl rfl ?_
 refine WL.nil (WE.then_normal (WC.sub (fr' := [(0, _), (1, _)]) ?_ ⟨rfl, rfl, trivial⟩))
 refine WC.seq (WC.region ?_)
 refine WL.q (oq_move rfl) rfl rfl rfl ?_
 refine WL.q (oq_move rfl) rfl rfl rfl ?_
 refine WL.f2 ?_
 refine WL.f1 ?_
 refine WL.f2 ?_
 refine WL.callW3 (readFull _ E kE pE pU hS k r f Rt hR bb 0 m m e (List.replicate m 0) (by simp) (by omega) (by simp; omega) rs X hX hrs) call92 rfl rfl rfl fun v1_2 Hs1_2 hR1_2 => ?_
 obtain ⟨X2, vn, rfl, rfl, hX2⟩ := hR1_2
 refine WL.to3 ?_
 refine WL.q (oq_move rfl) rfl rfl rfl ?_
 refine WL.q (oq_extract rfl rfl) rfl rfl rfl ?_
 refine WL.q (oq_extract rfl rfl) rfl rfl rfl ?_
 refine WL.q (oq_assign rfl) rfl rfl rfl ?_
 refine WL.q (oq_assign rfl) rfl rfl rfl ?_
 refine WL.nil (WE.then_normal (WC.sub (fr' := [(6, _)]) ?_ ⟨rfl, trivial⟩))
 refine WC.seq (WC.region ?_)
 refine WL.q (oq_move rfl) rfl rfl rfl ?_
 refine WL.q (oq_assign rfl) rfl rfl rfl ?_
 refine WL.nil (WE.then_normal (WC.sub (fr' := [(4, _)]) ?_ ⟨rfl, trivial⟩))
 refine WC.ret ?_
 refine WE.f3 ?_
 refine WE.f3 ?_
 refine WE.f2 ?_
 refine WE.f3 ?_
 refine WE.endW3 (.inl rfl) (res1 Tryz.results111 rfl) ?_
 exact ⟨X2, rfl, rfl, hX2⟩
theorem decUUIDValue (tv : Nat) (base : Nat) (E : Hp) (kE : TypeId) (pE pU : Addr) (hS : Sn E kE pE pU) (k : TypeId) (r : Value) (f : FuncId) (Rt : List UInt8 → Hp → Prop) (hR : Rr base k r f E kE pE pU Rt) (rs : List UInt8) (X : Hp) (hX : Rt rs X) (hrs : rs.length ≤ 1000000) : FnW Tryz.prog 102 [Pt tv 0, .iface k r] base [Bf tv 137 (List.replicate 16 0), X, E] (fun w Hs => ∃ X2, w = erv kE pE pU 0 (rdc 16 rs) ∧ Hs = [Bf tv 137 (putB (List.replicate 16 0) 0 (rs.take 16)), X2, E] ∧ Rt (rs.drop 16) X2) := by
 refine FnW.enter (n := 12) Tryz.func102 rfl rfl fun w0 R0 hbase => ?_
 subst hbase
 show WC _ _ _ _ _ _ _ ([Bf tv 137 (List.replicate 16 0), X, E, R0])
 refine WC.sub (fr' := [(0, _), (1, _)]) ?_ ⟨rfl, rfl, trivial⟩
 refine WC.seq (WC.region ?_)
 refine WL.q (oq_assign rfl) rfl rfl rfl ?_
 refine WL.nil (WE.then_normal (WC.sub (fr' := [(0, _), (1, _)]) ?_ ⟨rfl, rfl, trivial⟩))
 refine WC.seq (WC.region ?_)
 refine WL.q (oq_move rfl) rfl rfl rfl ?_
 refine WL.q (oq_nilCheck rfl) rfl rfl rfl ?_
 refine WL.q (oq_sliceArr Tryz.underlying137 ty5 rfl rfl rfl (by (first | omega | (simp; done))) (by (first | omega | (simp; done)))) rfl rfl rfl ?_
 refine WL.q (oq_assign rfl) rfl rfl rfl ?_
 refine WL.nil (WE.then_normal (WC.sub (fr' := [(1, _), (5, _)]) ?_ ⟨rfl, rfl, trivial⟩))
 refine WC.seq (WC.region ?_)
 refine WL.q (oq_move rfl) rfl rfl rfl ?_
 refine WL.q (oq_move rfl) rfl rfl rfl ?_
 refine WL.f2 ?_
 refine WL.f2 ?_
 refine WL.f2 ?_
 refine WL.callW3 (decFixed tv 16 137 (by decide) _ E kE pE pU hS k r f Rt hR rs X hX hrs) call111 rfl rfl rfl fun v2_2 Hs2_2 hR2_2 => ?_
 obtain ⟨X2, rfl, rfl, hX2⟩ := hR2_2
 refine WL.to3 ?_
 refine WL.q (oq_assign rfl) rfl rfl rfl ?_
 refine WL.nil (WE.then_normal (WC.sub (fr' := [(4, _)]) ?_ ⟨rfl, trivial⟩))
 refine WC.ret ?_
 refine WE.endW3 (.inl rfl) (res1 Tryz.results102 rfl) ?_
 exact ⟨X2, rfl, rfl, hX2⟩
theorem errNew (s : List UInt8) : FnA Tryz.prog 103 [S s] [] (fun w N => ∃ ob, w = .iface 248 (Pt ob 0) ∧ N = [(ob, .cells #[S s] 250 (0, 0))]) := by
 refine FnA.enter0 (n := 7) Tryz.func103 rfl rfl fun w0 => ?_
 refine WC.sub (fr' := [(0, _)]) ?_ ⟨rfl, trivial⟩
 refine WC.seq (WC.region ?_)
 refine WL.q (oq_assign rfl) rfl rfl rfl ?_
 refine WL.nil (WE.then_normal (WC.sub (fr' := [(0, _)]) ?_ ⟨rfl, trivial⟩))
 refine WC.seq (WC.region ?_)
 refine WL.q (oq_move rfl) rfl rfl rfl ?_
 refine WL.q (oq_build #[_] str250 ty250 rfl rfl) rfl rfl rfl ?_
 refine WL.box rfl rfl rfl fun ob hob => ?_
 refine WL.q (oq_makeI conc248 rfl) rfl rfl rfl ?_
 refine WL.q (oq_assign rfl) rfl rfl rfl ?_
 refine WL.nil (WE.then_normal (WC.sub (fr' := [(2, _)]) ?_ ⟨rfl, trivial⟩))
 refine WC.ret ?_
 refine WE.endA0 (.inl rfl) (res1 Tryz.results103 rfl) ?_ (fresh1 hob)
 exact ⟨_, rfl, rfl⟩
end DF
end Go.Proofs.YtodlhaghdplclaaGreatDoor
/- Headers that are read. -/
namespace Go.Proofs.YtodlhaghdplclaaGreatDoor
open Go Go.RowKit V EA EB EC ED EL DC DD DA DE EE EH EI EJ DF
set_option linter.unusedSimpArgs false
set_option linter.unusedVariables false
set_option maxRecDepth 10000
namespace DG
theorem call92 : Callable Tryz.prog 92 := ⟨_, Tryz.func92, rfl, by kernel_rfl⟩
theorem call94 : Callable Tryz.prog 94 := ⟨_, Tryz.func94, rfl, by kernel_rfl⟩
theorem call95 : Callable Tryz.prog 95 := ⟨_, Tryz.func95, rfl, by kernel_rfl⟩
theorem call96 : Callable Tryz.prog 96 := ⟨_, Tryz.func96, rfl, by kernel_rfl⟩
theorem call97 : Callable Tryz.prog 97 := ⟨_, Tryz.func97, rfl, by kernel_rfl⟩
theorem call98 : Callable Tryz.prog 98 := ⟨_, Tryz.func98, rfl, by kernel_rfl⟩
theorem call99 : Callable Tryz.prog 99 := ⟨_, Tryz.func99, rfl, by kernel_rfl⟩
theorem call100 : Callable Tryz.prog 100 := ⟨_, Tryz.func100, rfl, by kernel_rfl⟩
theorem call101 : Callable Tryz.prog 101 := ⟨_, Tryz.func101, rfl, by kernel_rfl⟩
theorem call102 : Callable Tryz.prog 102 := ⟨_, Tryz.func102, rfl, by kernel_rfl⟩
theorem call103 : Callable Tryz.prog 103 := ⟨_, Tryz.func103, rfl, by kernel_rfl⟩
theorem flat5 : Flat Tryz.prog 5 := ⟨_, Tryz.underlying5, by simp⟩
theorem flat127 : Flat Tryz.prog 127 := ⟨_, Tryz.underlying127, by simp⟩
theorem flat129 : Flat Tryz.prog 129 := ⟨_, Tryz.underlying129, by simp⟩
theorem flat130 : Flat Tryz.prog 130 := ⟨_, Tryz.underlying130, by simp⟩
theorem flat131 : Flat Tryz.prog 131 := ⟨_, Tryz.underlying131, by simp⟩
theorem flat132 : Flat Tryz.prog 132 := ⟨_, Tryz.underlying132, by simp⟩
theorem flat133 : Flat Tryz.prog 133 := ⟨_, Tryz.underlying133, by simp⟩
theorem flat185 : Flat Tryz.prog 185 := ⟨_, Tryz.underlying185, by simp⟩
theorem ty5 : Ty Tryz.prog 5 (.int .u8 0) 1 1 := ty_of (by kernel_rfl)
theorem ty127 : Ty Tryz.prog 127 (.int .i8 0) 1 1 := ty_of (by kernel_rfl)
theorem ty129 : Ty Tryz.prog 129 (.int .i16 0) 1 2 := ty_of (by kernel_rfl)
theorem ty130 : Ty Tryz.prog 130 (.int .i32 0) 1 4 := ty_of (by kernel_rfl)
theorem ty131 : Ty Tryz.prog 131 (.int .i64 0) 1 8 := ty_of (by kernel_rfl)
theorem ty132 : Ty Tryz.prog 132 (.slice none 0 0) 1 24 := ty_of (by kernel_rfl)
theorem ty133 : Ty Tryz.prog 133 (S []) 1 16 := ty_of (by kernel_rfl)
theorem ty134 : Ty Tryz.prog 134 (.agg #[(.int .i64 0), (.int .i32 0), (S []), (.int .i64 0)]) 4 40 := ty_of (by kernel_rfl)
theorem ty137 : Ty Tryz.prog 137 (.agg #[(.int .u8 0), (.int .u8 0), (.int .u8 0), (.int .u8 0), (.int .u8 0), (.int .u8 0), (.int .u8 0), (.int .u8 0), (.int .u8 0), (.int .u8 0), (.int .u8 0), (.int .u8 0), (.int .u8 0), (.int .u8 0), (.int .u8 0), (.int .u8 0)]) 16 16 := ty_of (by kernel_rfl)
theorem ty172 : Ty Tryz.prog 172 (.agg #[(.int .u8 0), (.int .u8 0), (.int .u8 0), (.int .u8 0), (.int .u8 0), (.int .u8 0), (.int .u8 0), (.int .u8 0), (.int .u8 0), (.int .u8 0), (.int .u8 0), (.int .u8 0), (.int .u8 0), (.int .u8 0), (.int .u8 0), (.int .u8 0), (.int .u8 0), (.int .u8 0), (.int .u8 0), (.int .u8 0), (.int .u8 0), (.int .u8 0), (.int .u8 0), (.int .u8 0), (.int .u8 0), (.int .u8 0), (.int .u8 0), (.int .u8 0), (.int .u8 0), (.int .u8 0), (.int .u8 0), (.int .u8 0), (.int .u8 0), (.int .u8 0), (.int .u8 0), (.int .u8 0), (.int .u8 0), (.int .u8 0), (.int .u8 0), (.int .u8 0), (.int .u8 0), (.int .u8 0), (.int .u8 0), (.int .u8 0), (.int .u8 0), (.int .u8 0), (.int .u8 0), (.int .u8 0), (.int .u8 0), (.int .u8 0), (.int .u8 0), (.int .u8 0), (.int .u8 0), (.int .u8 0), (.int .u8 0), (.int .u8 0), (.int .u8 0), (.int .u8 0), (.int .u8 0), (.int .u8 0), (.int .u8 0), (.int .u8 0), (.int .u8 0), (.int .u8 0), (.int .u8 0), (.int .u8 0), (.int .u8 0), (.int .u8 0), (.int .u8 0), (.int .u8 0), (.int .u8 0), (.int .u8 0), (.int .u8 0), (.int .u8 0), (.int .u8 0), (.int .u8 0), (.int .u8 0), (.int .u8 0), (.int .u8 0), (.int .u8 0), (.int .u8 0), (.int .u8 0), (.int .u8 0), (.int .u8 0), (.int .u8 0), (.int .u8 0), (.int .u8 0), (.int .u8 0), (.int .u8 0), (.int .u8 0), (.int .u8 0), (.int .u8 0), (.int .u8 0), (.int .u8 0), (.int .u8 0), (.int .u8 0), (.int .u8 0), (.int .u8 0), (.int .u8 0), (.int .u8 0), (.int .u8 0), (.int .u8 0), (.int .u8 0), (.int .u8 0), (.int .u8 0), (.int .u8 0), (.int .u8 0), (.int .u8 0), (.int .u8 0), (.int .u8 0), (.int .u8 0), (.int .u8 0), (.int .u8 0), (.int .u8 0), (.int .u8 0), (.int .u8 0), (.int .u8 0), (.int .u8 0), (.int .u8 0), (.int .u8 0), (.int .u8 0), (.int .u8 0), (.int .u8 0), (.int .u8 0), (.int .u8 0), (.int .u8 0), (.int .u8 0), (.int .u8 0), (.int .u8 0), (.int .u8 0), (.int .u8 0), (.int .u8 0), (.int .u8 0), (.int .u8 0), (.int .u8 0), (.int .u8 0), (.int .u8 0), (.int .u8 0), (.int .u8 0), (.int .u8 0), (.int .u8 0), (.int .u8 0), (.int .u8 0), (.int .u8 0), (.int .u8 0), (.int .u8 0), (.int .u8 0), (.int .u8 0), (.int .u8 0), (.int .u8 0), (.int .u8 0), (.int .u8 0), (.int .u8 0), (.int .u8 0), (.int .u8 0), (.int .u8 0), (.int .u8 0), (.int .u8 0), (.int .u8 0), (.int .u8 0), (.int .u8 0), (.int .u8 0), (.int .u8 0), (.int .u8 0), (.int .u8 0), (.int .u8 0), (.int .u8 0), (.int .u8 0), (.int .u8 0), (.int .u8 0), (.int .u8 0), (.int .u8 0), (.int .u8 0), (.int .u8 0), (.int .u8 0), (.int .u8 0), (.int .u8 0), (.int .u8 0), (.int .u8 0), (.int .u8 0), (.int .u8 0), (.int .u8 0), (.int .u8 0), (.int .u8 0), (.int .u8 0), (.int .u8 0), (.int .u8 0), (.int .u8 0), (.int .u8 0), (.int .u8 0), (.int .u8 0), (.int .u8 0), (.int .u8 0), (.int .u8 0), (.int .u8 0), (.int .u8 0), (.int .u8 0), (.int .u8 0), (.int .u8 0), (.int .u8 0), (.int .u8 0), (.int .u8 0), (.int .u8 0), (.int .u8 0), (.int .u8 0), (.int .u8 0), (.int .u8 0), (.int .u8 0), (.int .u8 0), (.int .u8 0), (.int .u8 0), (.int .u8 0), (.int .u8 0), (.int .u8 0), (.int .u8 0), (.int .u8 0), (.int .u8 0), (.int .u8 0), (.int .u8 0), (.int .u8 0), (.int .u8 0), (.int .u8 0), (.int .u8 0), (.int .u8 0), (.int .u8 0), (.int .u8 0), (.int .u8 0), (.int .u8 0), (.int .u8 0), (.int .u8 0), (.int .u8 0), (.int .u8 0), (.int .u8 0), (.int .u8 0), (.int .u8 0), (.int .u8 0), (.int .u8 0), (.int .u8 0), (.int .u8 0), (.int .u8 0), (.int .u8 0), (.int .u8 0), (.int .u8 0), (.int .u8 0), (.int .u8 0), (.int .u8 0), (.int .u8 0), (.int .u8 0), (.int .u8 0), (.int .u8 0), (.int .u8 0), (.int .u8 0), (.int .u8 0), (.int .u8 0), (.int .u8 0)]) 255 255 := ty_of (by kernel_rfl)
theorem ty174 : Ty Tryz.prog 174 (.agg #[(.int .u8 0), (.int .u8 0), (.int .u8 0), (.int .u8 0), (.int .u8 0), (.int .u8 0), (.int .u8 0), (.int .u8 0), (.int .u8 0), (.int .u8 0), (.int .u8 0), (.int .u8 0), (.int .u8 0), (.int .u8 0), (.int .u8 0), (.int .u8 0), (.int .u8 0), (.int .u8 0), (.int .u8 0), (.int .u8 0), (.int .u8 0), (.int .u8 0), (.int .u8 0), (.int .u8 0), (.int .u8 0), (.int .u8 0), (.int .u8 0), (.int .u8 0), (.int .u8 0), (.int .u8 0), (.int .u8 0), (.int .u8 0), (.int .u8 0), (.int .u8 0), (.int .u8 0), (.int .u8 0), (.int .u8 0), (.int .u8 0), (.int .u8 0), (.int .u8 0), (.int .u8 0), (.int .u8 0), (.int .u8 0), (.int .u8 0), (.int .u8 0), (.int .u8 0), (.int .u8 0), (.int .u8 0), (.int .u8 0), (.int .u8 0), (.int .u8 0), (.int .u8 0), (.int .u8 0), (.int .u8 0), (.int .u8 0), (.int .u8 0), (.int .u8 0), (.int .u8 0), (.int .u8 0), (.int .u8 0), (.int .u8 0), (.int .u8 0), (.int .u8 0), (.int .u8 0), (.int .u8 0), (.int .u8 0), (.int .u8 0), (.int .u8 0), (.int .u8 0), (.int .u8 0), (.int .u8 0), (.int .u8 0), (.int .u8 0), (.int .u8 0), (.int .u8 0), (.int .u8 0), (.int .u8 0), (.int .u8 0), (.int .u8 0), (.int .u8 0), (.int .u8 0), (.int .u8 0), (.int .u8 0), (.int .u8 0), (.int .u8 0), (.int .u8 0), (.int .u8 0), (.int .u8 0), (.int .u8 0), (.int .u8 0), (.int .u8 0), (.int .u8 0), (.int .u8 0), (.int .u8 0), (.int .u8 0), (.int .u8 0), (.int .u8 0), (.int .u8 0), (.int .u8 0), (.int .u8 0), (.int .u8 0), (.int .u8 0), (.int .u8 0), (.int .u8 0), (.int .u8 0), (.int .u8 0), (.int .u8 0), (.int .u8 0), (.int .u8 0), (.int .u8 0), (.int .u8 0), (.int .u8 0), (.int .u8 0), (.int .u8 0), (.int .u8 0), (.int .u8 0), (.int .u8 0), (.int .u8 0), (.int .u8 0), (.int .u8 0), (.int .u8 0), (.int .u8 0), (.int .u8 0), (.int .u8 0), (.int .u8 0), (.int .u8 0), (.int .u8 0), (.int .u8 0), (.int .u8 0), (.int .u8 0), (.int .u8 0), (.int .u8 0), (.int .u8 0), (.int .u8 0), (.int .u8 0), (.int .u8 0), (.int .u8 0), (.int .u8 0), (.int .u8 0), (.int .u8 0), (.int .u8 0), (.int .u8 0), (.int .u8 0), (.int .u8 0), (.int .u8 0), (.int .u8 0), (.int .u8 0), (.int .u8 0), (.int .u8 0), (.int .u8 0), (.int .u8 0), (.int .u8 0), (.int .u8 0), (.int .u8 0), (.int .u8 0), (.int .u8 0), (.int .u8 0), (.int .u8 0), (.int .u8 0), (.int .u8 0), (.int .u8 0), (.int .u8 0), (.int .u8 0), (.int .u8 0), (.int .u8 0), (.int .u8 0), (.int .u8 0), (.int .u8 0), (.int .u8 0), (.int .u8 0), (.int .u8 0), (.int .u8 0), (.int .u8 0), (.int .u8 0), (.int .u8 0), (.int .u8 0), (.int .u8 0), (.int .u8 0), (.int .u8 0), (.int .u8 0), (.int .u8 0), (.int .u8 0), (.int .u8 0), (.int .u8 0), (.int .u8 0), (.int .u8 0), (.int .u8 0), (.int .u8 0), (.int .u8 0), (.int .u8 0), (.int .u8 0), (.int .u8 0), (.int .u8 0), (.int .u8 0), (.int .u8 0), (.int .u8 0), (.int .u8 0), (.int .u8 0), (.int .u8 0), (.int .u8 0), (.int .u8 0), (.int .u8 0), (.int .u8 0), (.int .u8 0), (.int .u8 0), (.int .u8 0), (.int .u8 0), (.int .u8 0), (.int .u8 0), (.int .u8 0), (.int .u8 0), (.int .u8 0), (.int .u8 0), (.int .u8 0), (.int .u8 0), (.int .u8 0), (.int .u8 0), (.int .u8 0), (.int .u8 0), (.int .u8 0), (.int .u8 0), (.int .u8 0), (.int .u8 0), (.int .u8 0), (.int .u8 0), (.int .u8 0), (.int .u8 0), (.int .u8 0), (.int .u8 0), (.int .u8 0), (.int .u8 0), (.int .u8 0), (.int .u8 0), (.int .u8 0), (.int .u8 0), (.int .u8 0), (.int .u8 0), (.int .u8 0), (.int .u8 0), (.int .u8 0), (.int .u8 0), (.int .u8 0), (.int .u8 0), (.int .u8 0), (.int .u8 0), (.int .u8 0), (.int .u8 0), (.int .u8 0), (.int .u8 0), (.int .u8 0), (.int .u8 0), (.int .u8 0), (.int .u8 0), (.int .u8 0), (.int .u8 0), (.int .u8 0)]) 256 256 := ty_of (by kernel_rfl)
theorem ty185 : Ty Tryz.prog 185 (.int .u8 0) 1 1 := ty_of (by kernel_rfl)
theorem ty224 : Ty Tryz.prog 224 (.agg #[(.int .u8 0), (.int .u16 0), (.slice none 0 0)]) 3 32 := ty_of (by kernel_rfl)
theorem conc126 : Conc Tryz.prog 126 := ⟨_, Tryz.underlying126, by simp⟩
theorem conc127 : Conc Tryz.prog 127 := ⟨_, Tryz.underlying127, by simp⟩
theorem conc129 : Conc Tryz.prog 129 := ⟨_, Tryz.underlying129, by simp⟩
theorem conc130 : Conc Tryz.prog 130 := ⟨_, Tryz.underlying130, by simp⟩
theorem conc131 : Conc Tryz.prog 131 := ⟨_, Tryz.underlying131, by simp⟩
theorem conc132 : Conc Tryz.prog 132 := ⟨_, Tryz.underlying132, by simp⟩
theorem conc133 : Conc Tryz.prog 133 := ⟨_, Tryz.underlying133, by simp⟩
theorem conc134 : Conc Tryz.prog 134 := ⟨_, Tryz.underlying134, by simp⟩
theorem conc137 : Conc Tryz.prog 137 := ⟨_, Tryz.underlying137, by simp⟩
theorem agg134 : Agg Tryz.prog 134 := agg_of Tryz.underlying134
theorem agg137 : Agg Tryz.prog 137 := agg_arr Tryz.underlying137
theorem fld174_0 : Fld Tryz.prog 174 0 0 5 := fld_of Tryz.underlying174 rfl rfl rfl ty5 (by decide)
theorem fld174_1 : Fld Tryz.prog 174 1 1 172 := fld_of Tryz.underlying174 rfl rfl rfl ty172 (by decide)
theorem fld224_0 : Fld Tryz.prog 224 0 0 185 := fld_of Tryz.underlying224 rfl rfl rfl ty185 (by decide)
def putP : List PV → PV → List PV
 | [], p => [p]
 | x :: l, p => if x.name = p.name then p :: l else x :: putP l p
def PB : List HV → List PV → Hp → Prop
 | [], [], _ => True
 | h :: l, p :: ps, Z => p.name = h.name ∧ VBk h (.iface p.k p.r) Z ∧ PB l ps Z
 | [], _ :: _, _ => False
 | _ :: _, [], _ => False
theorem PB.len : ∀ {l : List HV} {ps : List PV} {Z : Hp}, PB l ps Z → ps.length = l.length
 | [], [], _, _ => rfl
 | _ :: l, _ :: ps, _, h => by simp [PB.len h.2.2]
 | [], _ :: _, _, h => h.elim
 | _ :: _, [], _, h => h.elim
theorem PB.weaken : ∀ {l : List HV} {ps : List PV} {A C : Hp}, PB l ps A → (∀ x ∈ A, x ∈ C) → PB l ps C
 | [], [], _, _, _, _ => trivial
 | _ :: l, _ :: ps, _, _, h, hs => ⟨h.1, h.2.1.weaken hs, PB.weaken h.2.2 hs⟩
 | [], _ :: _, _, _, h, _ => h.elim
 | _ :: _, [], _, _, h, _ => h.elim
theorem PB.put : ∀ {l : List HV} {ps : List PV} {Z : Hp} {h : HV} {p : PV}, PB l ps Z → p.name = h.name → VBk h (.iface p.k p.r) Z → PB (put l h) (putP ps p) Z
 | [], [], _, _, _, _, hn, hv => ⟨hn, hv, trivial⟩
 | x :: l, q :: ps, Z, h, p, hp, hn, hv => by
  unfold DA.put putP
  by_cases e : x.name = h.name
  ·rw [if_pos e, if_pos (by rw [hp.1, e, hn])]; exact ⟨hn, hv, hp.2.2⟩
  ·rw [if_neg e, if_neg (by rw [hp.1, hn]; exact e)]; exact ⟨hp.1, hp.2.1, PB.put hp.2.2 hn hv⟩
 | [], _ :: _, _, _, _, h, _, _ => h.elim
 | _ :: _, [], _, _, _, h, _, _ => h.elim
theorem PB.get : ∀ {l : List HV} {ps : List PV} {Z : Hp}, PB l ps Z → ∀ i, i < l.length → (ps.getD i PV0).name = (l.getD i HV0).name ∧ VBk (l.getD i HV0) (.iface (ps.getD i PV0).k (ps.getD i PV0).r) Z
 | h :: l, p :: ps, Z, hp, 0, _ => ⟨hp.1, hp.2.1⟩
 | h :: l, p :: ps, Z, hp, i + 1, hi => by
  have := PB.get hp.2.2 i (by simpa using hi)
  simpa [List.getD_eq_getElem?_getD] using this
 | [], _ :: _, _, h, _, _ => h.elim
 | _ :: _, [], _, h, _, _ => h.elim
theorem putP_app : ∀ {ps : List PV} {p : PV}, (∀ j, j < ps.length → (ps.getD j PV0).name ≠ p.name) → putP ps p = ps ++ [p]
 | [], _, _ => rfl
 | x :: l, p, h => by
  have h0 : x.name ≠ p.name := by simpa using h 0 (by simp)
  unfold putP
  rw [if_neg h0, putP_app fun j hj => by simpa [List.getD_eq_getElem?_getD] using h (j + 1) (by simpa using hj)]; rfl
theorem putP_set : ∀ {ps : List PV} {p : PV} {i : Nat}, i < ps.length → (∀ j, j < i → (ps.getD j PV0).name ≠ p.name) → (ps.getD i PV0).name = p.name → putP ps p = ps.set i p
 | [], _, _, h, _, _ => nomatch h
 | x :: l, p, 0, _, _, h => by
  have h0 : x.name = p.name := by simpa using h
  unfold putP; rw [if_pos h0]; rfl
 | x :: l, p, i + 1, hi, hj, h => by
  have h0 : x.name ≠ p.name := by simpa using hj 0 (by omega)
  unfold putP
  rw [if_neg h0, putP_set (i := i) (by simpa using hi) (fun j h2 => by simpa [List.getD_eq_getElem?_getD] using hj (j + 1) (by omega)) (by simpa [List.getD_eq_getElem?_getD] using h)]; rfl
theorem recs_set : ∀ {ps : List PV} {i : Nat} {k : TypeId} {r : Value}, i < ps.length → (recsV PV.row ps).set (i * 2 + 1) (.iface k r) = recsV PV.row (ps.set i ⟨(ps.getD i PV0).name, k, r⟩)
 | [], _, _, _, h => nomatch h
 | x :: l, 0, k, r, _ => rfl
 | x :: l, i + 1, k, r, hi => by
  have h1 := recs_set (ps := l) (i := i) (k := k) (r := r) (by simpa using hi)
  have e : recsV PV.row (x :: l) = S x.name :: .iface x.k x.r :: recsV PV.row l := rfl
  have e2 : recsV PV.row (x :: l.set i ⟨(l.getD i PV0).name, k, r⟩) = S x.name :: .iface x.k x.r :: recsV PV.row (l.set i ⟨(l.getD i PV0).name, k, r⟩) := rfl
  rw [e, show (i + 1) * 2 + 1 = i * 2 + 1 + 1 + 1 by omega, List.set_cons_succ, List.set_cons_succ, h1, List.set_cons_succ]
  have e3 : (x :: l).getD (i + 1) PV0 = l.getD i PV0 := by simp [List.getD_eq_getElem?_getD]
  rw [e3, e2]
theorem tk_step {rs : List UInt8} {l : List HV} (h : 0 < rs.length) (hn : (rs.getD 0 0).toNat ≤ (rs.drop 1).length) : tk rs l = match hval ((rs.drop 1).drop (rs.getD 0 0).toNat) with
  | .short => .short
  | .other => .other
  | .ok kd w i t r' => tk r' (put l ⟨(rs.drop 1).take (rs.getD 0 0).toNat, kd, w, i, t⟩) := by
 match rs, h with
 | b :: r, _ =>
  have hn' : b.toNat ≤ r.length := hn
  show tk (b :: r) l = match hval (r.drop b.toNat) with
   | .short => .short
   | .other => .other
   | .ok kd w i t r' => tk r' (put l ⟨r.take b.toNat, kd, w, i, t⟩)
  by_cases h1 : r.length < b.toNat + 1
  ·rw [tk_short (fun e => by rw [e.1] at hn'; simp at hn'; have := e.2; omega) h1]
   unfold hval; rw [if_pos (List.drop_eq_nil_of_le (by omega))]
  ·rw [tk_val h1]
   have e1 : hval (r.drop b.toNat) = val (r.getD b.toNat 0) (r.drop (b.toNat + 1)) := by
    unfold hval
    rw [if_neg (fun e => by have := congrArg List.length e; rw [List.length_drop] at this; simp at this; omega), List.drop_drop]
    congr 1
    simp [List.getD_eq_getElem?_getD, List.getElem?_drop]
   rw [e1] <;> (cases val (r.getD b.toNat 0) (r.drop (b.toNat + 1)) <;> rfl)
theorem tk_eof {rs : List UInt8} {l : List HV} (h : 0 < rs.length) (hn : rdc (rs.getD 0 0).toNat (rs.drop 1) = 1) : tk rs l = .opn l ∧ (rs.drop 1).drop (rs.getD 0 0).toNat = [] := by
 match rs, h with
 | b :: r, _ =>
  have h1 := rdcN (n := b.toNat) (rs := r) (by have : rdc b.toNat r = 1 := hn; omega)
  have h2 : r = [] := by
   have : rdc b.toNat r = 1 := hn
   unfold rdc at this
   rw [if_neg (by omega)] at this
   split at this
   ·assumption
   ·cases this
  subst h2
  exact ⟨tk_opn (by simpa using h1.1), by simp⟩
theorem tk_unx {rs : List UInt8} {l : List HV} (h : 0 < rs.length) (hn : rdc (rs.getD 0 0).toNat (rs.drop 1) = 2) : tk rs l = .short := by
 match rs, h with
 | b :: r, _ =>
  have h1 := rdcN (n := b.toNat) (rs := r) (by have : rdc b.toNat r = 2 := hn; omega)
  have h2 : r ≠ [] := fun e => by
   have : rdc b.toNat r = 2 := hn
   unfold rdc at this
   rw [if_neg (by omega), if_pos e] at this
   cases this
  exact tk_short (fun e => h2 e.1) (by omega)
def NmR (kE : TypeId) (pE pU : Addr) (E : Hp) (Rt : List UInt8 → Hp → Prop) (rs : List UInt8) (w : Value) (Hs : List Hp) : Prop :=
 ∃ X2 nm c, w = .tuple #[S nm, erv kE pE pU 0 c] ∧ Hs = [X2, E] ∧ c ≤ 2 ∧ ((rs = [] ∧ c = 1 ∧ Rt [] X2) ∨ (0 < rs.length ∧ c = rdc (rs.getD 0 0).toNat (rs.drop 1) ∧ Rt ((rs.drop 1).drop (rs.getD 0 0).toNat) X2 ∧ (c = 0 → nm = (rs.drop 1).take (rs.getD 0 0).toNat)))
theorem set_len (b : UInt8) : (List.replicate 256 (0 : UInt8)).set 0 (UInt8.ofNat ((b.toNat : Int)).toNat) = b :: List.replicate 255 0 := by
 rw [Int.toNat_natCast, UInt8.ofNat_toNat]; rfl
theorem put_name {b : UInt8} {r : List UInt8} (h : b.toNat ≤ r.length) : ((putB (b :: List.replicate 255 0) 1 (r.take b.toNat)).drop (0 + 1 + 0)).take (b.toNat - 0) = r.take b.toNat := by
 have hl : (r.take b.toNat).length = b.toNat := by rw [List.length_take]; omega
 unfold putB
 show (r.take b.toNat ++ _).take b.toNat = _
 rw [List.take_left' hl]
theorem rdc_small (n : Nat) (rs : List UInt8) : rdc n rs ≤ 2 := by unfold rdc; split; omega; split <;> omega
theorem valR_ok {Rt : List UInt8 → Hp → Prop} {R : VR} {X2 N : Hp} {v : Value} {c ob : Nat} (h : match R with
  | .short => (c = 1 ∨ c = 2) ∧ ∃ rs', Rt rs' X2
  | .other => c = 5 ∧ (∃ cs t, (ob, .cells cs t (0, 0)) ∈ N) ∧ ∃ rs', Rt rs' X2
  | .ok kd wd i t r' => c = 0 ∧ VBk ⟨[], kd, wd, i, t⟩ v N ∧ Rt r' X2) (hc : c = 0) : ∃ kd wd i t r', R = .ok kd wd i t r' ∧ VBk ⟨[], kd, wd, i, t⟩ v N ∧ Rt r' X2 := by
 cases R with
 | short => obtain ⟨h1, _⟩ := h; omega
 | other => obtain ⟨h1, _⟩ := h; omega
 | ok kd wd i t r' => exact ⟨_, _, _, _, _, rfl, h.2⟩
theorem vbk_shape {h : HV} {v : Value} {N : Hp} (hv : VBk h v N) : ∃ k r, v = .iface k r := by
 rcases hv with h | h | h | h | h | ⟨h1, h2, h3, s, h4, h5⟩ | h | h | h
 ·exact ⟨_, _, h.2.2.2.2⟩
 ·exact ⟨_, _, h.2.2.2.2⟩
 ·exact ⟨_, _, h.2.2.2.2⟩
 ·exact ⟨_, _, h.2.2.2.2⟩
 ·exact ⟨_, _, h.2.2.2.2⟩
 ·exact ⟨_, _, h4⟩
 ·exact ⟨_, _, h.2.2.2⟩
 ·exact ⟨_, _, h.2.2.2.2⟩
 ·exact ⟨_, _, h.2.2.2.2⟩
def HdrsR (base : Nat) (kE : TypeId) (pE pU : Addr) (E : Hp) (Rt : List UInt8 → Hp → Prop) (R : TR) (w : Value) (Hs : List Hp) : Prop :=
 ∃ X2 N hv c ob, w = .tuple #[hv, erv kE pE pU ob c] ∧ Hs = [X2, N, E] ∧ hv.oneCell' = true ∧ (∀ b o, (b, o) ∈ N → base ≤ b) ∧ match R with
  | .ok l => c = 0 ∧ (∃ ps, RdS 2 hv N ps.length (recsV PV.row ps) ∧ PB l ps N) ∧ Rt [] X2
  | .opn l => c = 0 ∧ (∃ ps, RdS 2 hv N ps.length (recsV PV.row ps) ∧ PB l ps N) ∧ Rt [] X2
  | .short => (c = 1 ∨ c = 2) ∧ ∃ rs', Rt rs' X2
  | .other => c = 5 ∧ (∃ cs t, (ob, .cells cs t (0, 0)) ∈ N) ∧ ∃ rs', Rt rs' X2
theorem hdrs_err {base : Nat} {kE : TypeId} {pE pU : Addr} {E : Hp} {Rt : List UInt8 → Hp → Prop} {rs rs1 : List UInt8} {l : List HV} {X2 N : Hp} {v hv : Value} {c ob : Nat} (htk : tk rs [] = tk rs1 l) (h0 : 0 < rs1.length) (hn : (rs1.getD 0 0).toNat ≤ (rs1.drop 1).length) (hN : ∀ b o, (b, o) ∈ N → base ≤ b) (h1 : hv.oneCell' = true) (hc : c ≠ 0) (h : match hval ((rs1.drop 1).drop (rs1.getD 0 0).toNat) with
  | .short => (c = 1 ∨ c = 2) ∧ ∃ rs', Rt rs' X2
  | .other => c = 5 ∧ (∃ cs t, (ob, .cells cs t (0, 0)) ∈ N) ∧ ∃ rs', Rt rs' X2
  | .ok kd wd i t r' => c = 0 ∧ VBk ⟨[], kd, wd, i, t⟩ v N ∧ Rt r' X2) : HdrsR base kE pE pU E Rt (tk rs []) (.tuple #[hv, erv kE pE pU ob c]) [X2, N, E] := by
 refine ⟨X2, N, hv, c, ob, rfl, rfl, h1, hN, ?_⟩
 rw [htk, tk_step h0 hn]
 cases hR : hval ((rs1.drop 1).drop (rs1.getD 0 0).toNat) with
 | short => rw [hR] at h; exact h
 | other => rw [hR] at h; exact h
 | ok kd wd i t r' => rw [hR] at h; exact absurd h.1 hc
theorem decName (base : Nat) (E : Hp) (kE : TypeId) (pE pU : Addr) (hS : Sn E kE pE pU) (k : TypeId) (r : Value) (f : FuncId) (Rt : List UInt8 → Hp → Prop) (hR : Rr base k r f E kE pE pU Rt) (rs : List UInt8) (X : Hp) (hX : Rt rs X) (hrs : rs.length ≤ 1000000) (hask : AskNo Tryz.prog k 230) : FnW Tryz.prog 90 [.iface k r] base [X, E] (NmR kE pE pU E Rt rs) := by
 refine FnW.enter (n := 33) Tryz.func90 rfl rfl fun w0 R0 hbase => ?_
 subst hbase
 show WC _ _ _ _ _ _ _ ([X, E, R0])
 refine WC.sub (fr' := [(0, _)]) ?_ ⟨rfl, trivial⟩
 refine WC.seq (WC.region ?_)
 refine WL.q (oq_assign rfl) rfl rfl rfl ?_
 refine WL.q (oq_assign rfl) rfl rfl rfl ?_
 refine WL.nil (WE.then_normal (WC.sub (fr' := [(0, _)]) ?_ ⟨rfl, trivial⟩))
 refine WC.seq (WC.region ?_)
 refine WL.alloc ty174 rfl rfl fun nb hnb => ?_
 refine WL.asB (List.replicate 256 0) rfl ?_
 refine WL.nil (WE.then_normal (WC.sub (fr' := [(0, _), (4, _)]) ?_ ⟨rfl, rfl, trivial⟩))
 refine WC.seq (WC.region ?_)
 refine WL.q (oq_assign rfl) rfl rfl rfl ?_
 refine WL.nil (WE.then_normal (WC.sub (fr' := [(0, _), (4, _)]) ?_ ⟨rfl, rfl, trivial⟩))
 refine WC.seq (WC.region ?_)
 refine WL.q (oq_move rfl) rfl rfl rfl ?_
 refine WL.f2 ?_
 refine WL.f2 ?_
 refine WL.callW2 (dec8 _ E kE pE pU hS k r f Rt hR rs X hX hrs hask) call94 rfl rfl rfl fun v3_1 Hs3_1 hR3_1 => ?_
 obtain ⟨X2, b, rfl, rfl, hX2, hb⟩ := hR3_1
 have hb8 := b.toNat_lt
 refine WL.to2 ?_
 refine WL.q (oq_move rfl) rfl rfl rfl ?_
 refine WL.q (oq_extract rfl rfl) rfl rfl rfl ?_
 refine WL.q (oq_extract rfl rfl) rfl rfl rfl ?_
 refine WL.q (oq_fieldAddr fld174_0 rfl) rfl rfl rfl ?_
 refine WL.f2 ?_
 refine WL.storeB ty5 rfl rfl (by omega) (by (first | omega | (simp; done) | (rw [putB_len (by simp [List.length_take]; omega)]; simp; omega) | (simp; omega))) rfl ?_
 refine WL.q (oq_assign rfl) rfl rfl rfl ?_
 refine WL.nil (WE.then_normal (WC.sub (fr' := [(0, _), (4, _), (5, _)]) ?_ ⟨rfl, rfl, rfl, trivial⟩))
 refine WC.seq (WC.seq ?_)
 rw [set_len b]
 refine WC.region ?_
 refine WL.q (oq_move rfl) rfl rfl rfl ?_
 refine WL.q (oq_ineq Tryz.underlying99 rfl (erv_or _ _ _ _ _)) rfl rfl rfl ?_
 refine WL.nil (WE.then_normal (WC.sub (fr' := [(0, _), (4, _), (5, _), (16, _)]) ?_ ⟨rfl, rfl, rfl, rfl, trivial⟩))
 refine WC.cond rfl (fun q4 => ?_) (fun q4 => ?_)
 ·
  try simp only [Z1, Z2, Z3, Z4, Z5, Z6, Z7, Z8, Z9, Z0] at q4
  refine WC.seq (WC.region ?_)
  refine WL.q (oq_move rfl) rfl rfl rfl ?_
  refine WL.q (oq_assign rfl) rfl rfl rfl ?_
  refine WL.q (oq_assign rfl) rfl rfl rfl ?_
  refine WL.nil (WE.then_normal (WC.sub (fr' := [(2, _), (3, _)]) ?_ ⟨rfl, rfl, trivial⟩))
  refine WC.ret (WE.then_ret ?_)
  refine WE.lose hnb ?_
  refine WE.endW2 (.inl rfl) (res2 Tryz.results90 rfl rfl) ?_
  have hne := rdcN (ervN q4)
  have h0 : rs = [] := len_nil.1 (by omega)
  subst h0
  exact ⟨X2, [], 1, rfl, rfl, by omega, .inl ⟨rfl, rfl, hX2⟩⟩
 ·
  try simp only [Z1, Z2, Z3, Z4, Z5, Z6, Z7, Z8, Z9, Z0] at q4
  refine WC.skip (WE.then_normal (WC.sub (fr' := [(0, _), (4, _)]) ?_ ⟨rfl, rfl, trivial⟩))
  refine WC.seq ?_
  have hle := rdc0 (erv0 q4)
  have hbe := hb hle
  refine WC.region ?_
  refine WL.q (oq_fieldAddr fld174_1 rfl) rfl rfl rfl ?_
  refine WL.q (oq_fieldAddr fld174_0 rfl) rfl rfl rfl ?_
  refine WL.q (oq_loadB flat5 rfl (by repeat (first | exact .head _ | apply List.Mem.tail)) (by simp)) rfl rfl rfl ?_
  refine WL.q (oq_sliceArr (j := b.toNat) Tryz.underlying172 ty5 rfl rfl ⟨_, rfl⟩ (by (first | omega | (simp; done) | (rw [putB_len (by simp [List.length_take]; omega)]; simp; omega) | (simp; omega))) (by (first | omega | (simp; done) | (rw [putB_len (by simp [List.length_take]; omega)]; simp; omega) | (simp; omega)))) rfl rfl rfl ?_
  refine WL.q (oq_assign rfl) rfl rfl rfl ?_
  refine WL.nil (WE.then_normal (WC.sub (fr' := [(0, _), (6, _)]) ?_ ⟨rfl, rfl, trivial⟩))
  refine WC.seq (WC.seq (WC.region ?_))
  refine WL.q (oq_move rfl) rfl rfl rfl ?_
  refine WL.q (oq_move rfl) rfl rfl rfl ?_
  refine WL.f2 ?_
  refine WL.f1 ?_
  refine WL.f2 ?_
  refine WL.callW3 (readFull _ E kE pE pU hS k r f Rt hR nb 1 b.toNat 255 174 (b :: List.replicate 255 0) (by simp; omega) (by omega) (by simp) (rs.drop 1) X2 hX2 (by rw [List.length_drop]; omega)) call92 rfl rfl rfl fun v7_2 Hs7_2 hR7_2 => ?_
  obtain ⟨X3, vn, rfl, rfl, hX3⟩ := hR7_2
  refine WL.to3 ?_
  refine WL.q (oq_move rfl) rfl rfl rfl ?_
  refine WL.q (oq_extract rfl rfl) rfl rfl rfl ?_
  refine WL.q (oq_extract rfl rfl) rfl rfl rfl ?_
  refine WL.q (oq_assign rfl) rfl rfl rfl ?_
  refine WL.q (oq_assign rfl) rfl rfl rfl ?_
  refine WL.nil (WE.then_normal (WC.sub (fr' := [(6, _), (8, _)]) ?_ ⟨rfl, rfl, trivial⟩))
  refine WC.seq (WC.region ?_)
  refine WL.q (oq_move rfl) rfl rfl rfl ?_
  refine WL.q (oq_ineq Tryz.underlying99 rfl (erv_or _ _ _ _ _)) rfl rfl rfl ?_
  refine WL.nil (WE.then_normal (WC.sub (fr' := [(6, _), (8, _), (29, _)]) ?_ ⟨rfl, rfl, rfl, trivial⟩))
  refine WC.cond rfl (fun q8 => ?_) (fun q8 => ?_)
  ·
   try simp only [Z1, Z2, Z3, Z4, Z5, Z6, Z7, Z8, Z9, Z0] at q8
   refine WC.seq (WC.region ?_)
   refine WL.q (oq_move rfl) rfl rfl rfl ?_
   refine WL.q (oq_assign rfl) rfl rfl rfl ?_
   refine WL.q (oq_assign rfl) rfl rfl rfl ?_
   refine WL.nil (WE.then_normal (WC.sub (fr' := [(2, _), (3, _)]) ?_ ⟨rfl, rfl, trivial⟩))
   refine WC.ret (WE.then_ret ?_)
   refine WE.f1 ?_
   refine WE.lose hnb ?_
   refine WE.endW2 (.inl rfl) (res2 Tryz.results90 rfl rfl) ?_
   refine ⟨X3, [], _, rfl, rfl, rdc_small _ _, .inr ⟨hle, by rw [← hbe], by rw [← hbe]; exact hX3, fun h => absurd h (ervN q8)⟩⟩
  ·
   try simp only [Z1, Z2, Z3, Z4, Z5, Z6, Z7, Z8, Z9, Z0] at q8
   refine WC.skip (WE.then_normal (WC.sub (fr' := [(6, _)]) ?_ ⟨rfl, trivial⟩))
   refine WC.seq (WC.region ?_)
   refine WL.q (oq_move rfl) rfl rfl rfl ?_
   refine WL.q (oq_bytesStr (Sl.rd (by (first | omega | (simp; done) | (rw [putB_len (by simp [List.length_take]; omega)]; simp; omega) | (simp; omega))) (by (first | omega | (simp; done) | (rw [putB_len (by simp [List.length_take]; omega)]; simp; omega) | (simp; omega)))) (.tail _ (.head _)) Tryz.underlying9 Tryz.underlying28 Tryz.underlying5 rfl) rfl rfl rfl ?_
   refine WL.q (oq_assign rfl) rfl rfl rfl ?_
   refine WL.q (oq_assign rfl) rfl rfl rfl ?_
   refine WL.nil (WE.then_normal (WC.sub (fr' := [(2, _), (3, _)]) ?_ ⟨rfl, rfl, trivial⟩))
   refine WC.ret ?_
   refine WE.f1 ?_
   refine WE.lose hnb ?_
   refine WE.endW2 (.inl rfl) (res2 Tryz.results90 rfl rfl) ?_
   have hle2 := rdc0 (erv0 q8)
   refine ⟨X3, _, 0, rfl, rfl, by omega, .inr ⟨hle, by rw [← hbe, rdc_le hle2], by rw [← hbe]; exact hX3, fun _ => ?_⟩⟩
   rw [← hbe]; exact put_name hle2
theorem arr4 {cs : Array Value} (h : cs.size = 4) : ∃ a b c d, cs = #[a, b, c, d] := by
 obtain ⟨l⟩ := cs
 match l, h with
 | [a, b, c, d], _ => exact ⟨a, b, c, d, rfl⟩
theorem decValue (base : Nat) (E : Hp) (kE : TypeId) (pE pU : Addr) (hS : Sn E kE pE pU) (k : TypeId) (r : Value) (f : FuncId) (Rt : List UInt8 → Hp → Prop) (hR : Rr base k r f E kE pE pU Rt) (rs : List UInt8) (X : Hp) (hX : Rt rs X) (hrs : rs.length ≤ 1000000) (hask : AskNo Tryz.prog k 230) : FnW Tryz.prog 91 [.iface k r] base [X, E] (ValR base kE pE pU E Rt (hval rs)) := by
 refine FnW.enter (n := 85) Tryz.func91 rfl rfl fun w0 R0 hbase => ?_
 subst hbase
 show WC _ _ _ _ _ _ _ ([X, E, R0])
 refine WC.sub (fr' := [(0, _)]) ?_ ⟨rfl, trivial⟩
 refine WC.seq (WC.region ?_)
 refine WL.q (oq_assign rfl) rfl rfl rfl ?_
 refine WL.q (oq_assign rfl) rfl rfl rfl ?_
 refine WL.nil (WE.then_normal (WC.sub (fr' := [(0, _)]) ?_ ⟨rfl, trivial⟩))
 refine WC.seq ?_
 refine WC.add0 ?_
 refine WC.region ?_
 refine WL.alloc ty224 rfl rfl fun rw hrw => ?_
 refine WL.nil (WE.then_normal (WC.sub (fr' := [(0, _), (4, _)]) ?_ ⟨rfl, rfl, trivial⟩))
 refine WC.seq (WC.region ?_)
 refine WL.q (oq_move rfl) rfl rfl rfl ?_
 refine WL.f3 ?_
 refine WL.f3 ?_
 refine WL.callW2 (dec8 _ E kE pE pU hS k r f Rt hR rs X hX hrs hask) call94 rfl rfl rfl fun v2_1 Hs2_1 hR2_1 => ?_
 obtain ⟨X2, b, rfl, rfl, hX2, hb⟩ := hR2_1
 have hb8 := b.toNat_lt
 refine WL.to2 ?_
 refine WL.q (oq_move rfl) rfl rfl rfl ?_
 refine WL.q (oq_extract rfl rfl) rfl rfl rfl ?_
 refine WL.q (oq_extract rfl rfl) rfl rfl rfl ?_
 refine WL.q (oq_assign rfl) rfl rfl rfl ?_
 refine WL.q (oq_assign rfl) rfl rfl rfl ?_
 refine WL.nil (WE.then_normal (WC.sub (fr' := [(0, _), (4, _), (5, _), (6, _)]) ?_ ⟨rfl, rfl, rfl, rfl, trivial⟩))
 refine WC.seq (WC.seq (WC.region ?_))
 refine WL.q (oq_move rfl) rfl rfl rfl ?_
 refine WL.q (oq_ineq Tryz.underlying99 rfl (erv_or _ _ _ _ _)) rfl rfl rfl ?_
 refine WL.nil (WE.then_normal (WC.sub (fr' := [(0, _), (4, _), (5, _), (6, _), (22, _)]) ?_ ⟨rfl, rfl, rfl, rfl, rfl, trivial⟩))
 refine WC.cond rfl (fun q3 => ?_) (fun q3 => ?_)
 ·
  try simp only [Z1, Z2, Z3, Z4, Z5, Z6, Z7, Z8, Z9, Z0] at q3
  refine WC.seq (WC.region ?_)
  refine WL.q (oq_move rfl) rfl rfl rfl ?_
  refine WL.q (oq_assign rfl) rfl rfl rfl ?_
  refine WL.q (oq_assign rfl) rfl rfl rfl ?_
  refine WL.nil (WE.then_normal (WC.sub (fr' := [(2, _), (3, _)]) ?_ ⟨rfl, rfl, trivial⟩))
  refine WC.ret (WE.then_ret ?_)
  refine WE.f2 ?_
  refine WE.lose hrw ?_
  refine WE.f3 ?_
  refine WE.f2 ?_
  refine WE.f3 ?_
  refine WE.f3 ?_
  refine WE.endW3 (.inl rfl) (res2 Tryz.results91 rfl rfl) ?_
  have hne := rdcN (ervN q3)
  have h0 : rs = [] := len_nil.1 (by omega)
  subst h0
  exact ⟨X2, [], _, 1, 0, rfl, rfl, (fun _ _ h => nomatch h), .inl rfl, _, hX2⟩
 ·
  try simp only [Z1, Z2, Z3, Z4, Z5, Z6, Z7, Z8, Z9, Z0] at q3
  refine WC.skip (WE.then_normal (WC.sub (fr' := [(0, _), (4, _), (5, _), (6, _)]) ?_ ⟨rfl, rfl, rfl, rfl, trivial⟩))
  refine WC.seq ?_
  have hle := rdc0 (erv0 q3)
  have hbe := hb hle
  rw [rdc_le hle]
  refine WC.region ?_
  refine WL.q (oq_move rfl) rfl rfl rfl ?_
  refine WL.q (oq_fieldAddr fld224_0 rfl) rfl rfl rfl ?_
  refine WL.f2 ?_
  refine WL.store1 #[_, _, _] ty185 rfl rfl (by first | rfl | exact OwS.one rfl) (Nat.lt_of_lt_of_le (Nat.lt_succ_self _) (Nat.le_of_ble_eq_true rfl)) rfl rfl ?_
  refine WL.nil (WE.then_normal (WC.sub (fr' := [(0, _), (4, _), (6, _)]) ?_ ⟨rfl, rfl, rfl, trivial⟩))
  refine WC.seq (WC.region ?_)
  refine WL.q (oq_assign rfl) rfl rfl rfl ?_
  refine WL.nil (WE.then_normal (WC.sub (fr' := [(0, _), (4, _), (6, _)]) ?_ ⟨rfl, rfl, rfl, trivial⟩))
  refine WC.seq (WC.seq (WC.region ?_))
  refine WL.q (oq_fieldAddr fld224_0 rfl) rfl rfl rfl ?_
  refine WL.q (oq_load flat185 rfl (.head _) (List.mem_singleton.2 rfl) rfl) rfl rfl rfl ?_
  refine WL.nil (WE.then_normal (WC.sub (fr' := [(0, _), (6, _), (27, _)]) ?_ ⟨rfl, rfl, rfl, trivial⟩))
  refine WC.block (WC.seq (WC.region ?_))
  refine WL.q (oq_eql rfl rfl) rfl rfl rfl ?_
  refine WL.q (oq_assign rfl) rfl rfl rfl ?_
  refine WL.nil (WE.then_normal (WC.sub (fr' := [(0, _), (6, _), (27, _), (29, _)]) ?_ ⟨rfl, rfl, rfl, rfl, trivial⟩))
  refine WC.cond rfl (fun q9 => ?_) (fun q9 => ?_)
  ·
   try simp only [Z1, Z2, Z3, Z4, Z5, Z6, Z7, Z8, Z9, Z0] at q9
   refine WC.region ?_
   refine WL.q (oq_makeI conc126 rfl) rfl rfl rfl ?_
   refine WL.q (oq_assign rfl) rfl rfl rfl ?_
   refine WL.nil (WE.block_normal (WE.then_normal (WC.sub (fr' := [(6, _), (7, _)]) ?_ ⟨rfl, rfl, trivial⟩)))
   refine WC.seq (WC.region ?_)
   refine WL.q (oq_move rfl) rfl rfl rfl ?_
   refine WL.q (oq_move rfl) rfl rfl rfl ?_
   refine WL.q (oq_assign rfl) rfl rfl rfl ?_
   refine WL.q (oq_assign rfl) rfl rfl rfl ?_
   refine WL.nil (WE.then_normal (WC.sub (fr' := [(2, _), (3, _)]) ?_ ⟨rfl, rfl, trivial⟩))
   refine WC.ret ?_
   refine WE.lose hrw ?_
   refine WE.f3 ?_
   refine WE.f2 ?_
   refine WE.f3 ?_
   refine WE.f3 ?_
   refine WE.endW3 (.inl rfl) (res2 Tryz.results91 rfl rfl) ?_
   have hbk : b = 0 := u8n (n := 0) (by decide) q9
   rw [hval_of hle hbe, hbk]
   exact ⟨X2, [], _, 0, 0, rfl, rfl, (fun _ _ h => nomatch h), rfl, .inl ⟨rfl, rfl, rfl, .inr rfl, rfl⟩, hX2⟩
  ·
   try simp only [Z1, Z2, Z3, Z4, Z5, Z6, Z7, Z8, Z9, Z0] at q9
   refine WC.seq (WC.region ?_)
   refine WL.q (oq_eql rfl rfl) rfl rfl rfl ?_
   refine WL.q (oq_assign rfl) rfl rfl rfl ?_
   refine WL.nil (WE.then_normal (WC.sub (fr' := [(0, _), (6, _), (27, _), (32, _)]) ?_ ⟨rfl, rfl, rfl, rfl, trivial⟩))
   refine WC.cond rfl (fun q11 => ?_) (fun q11 => ?_)
   ·
    try simp only [Z1, Z2, Z3, Z4, Z5, Z6, Z7, Z8, Z9, Z0] at q11
    refine WC.region ?_
    refine WL.q (oq_makeI conc126 rfl) rfl rfl rfl ?_
    refine WL.q (oq_assign rfl) rfl rfl rfl ?_
    refine WL.nil (WE.block_normal (WE.then_normal (WC.sub (fr' := [(6, _), (7, _)]) ?_ ⟨rfl, rfl, trivial⟩)))
    refine WC.seq (WC.region ?_)
    refine WL.q (oq_move rfl) rfl rfl rfl ?_
    refine WL.q (oq_move rfl) rfl rfl rfl ?_
    refine WL.q (oq_assign rfl) rfl rfl rfl ?_
    refine WL.q (oq_assign rfl) rfl rfl rfl ?_
    refine WL.nil (WE.then_normal (WC.sub (fr' := [(2, _), (3, _)]) ?_ ⟨rfl, rfl, trivial⟩))
    refine WC.ret ?_
    refine WE.lose hrw ?_
    refine WE.f3 ?_
    refine WE.f2 ?_
    refine WE.f3 ?_
    refine WE.f3 ?_
    refine WE.endW3 (.inl rfl) (res2 Tryz.results91 rfl rfl) ?_
    have hbk : b = 1 := u8n (n := 1) (by decide) q11
    rw [hval_of hle hbe, hbk]
    exact ⟨X2, [], _, 0, 0, rfl, rfl, (fun _ _ h => nomatch h), rfl, .inl ⟨rfl, rfl, rfl, .inl rfl, rfl⟩, hX2⟩
   ·
    try simp only [Z1, Z2, Z3, Z4, Z5, Z6, Z7, Z8, Z9, Z0] at q11
    refine WC.seq (WC.region ?_)
    refine WL.q (oq_eql rfl rfl) rfl rfl rfl ?_
    refine WL.q (oq_assign rfl) rfl rfl rfl ?_
    refine WL.nil (WE.then_normal (WC.sub (fr' := [(0, _), (27, _), (35, _)]) ?_ ⟨rfl, rfl, rfl, trivial⟩))
    refine WC.cond rfl (fun q13 => ?_) (fun q13 => ?_)
    ·
     try simp only [Z1, Z2, Z3, Z4, Z5, Z6, Z7, Z8, Z9, Z0] at q13
     refine WC.seq (WC.region ?_)
     refine WL.alloc ty127 rfl rfl fun tv14 htv14 => ?_
     refine WL.nil (WE.then_normal (WC.sub (fr' := [(0, _), (8, _)]) ?_ ⟨rfl, rfl, trivial⟩))
     refine WC.seq (WC.region ?_)
     refine WL.q (oq_move rfl) rfl rfl rfl ?_
     refine WL.f3 ?_
     refine WL.f3 ?_
     refine WL.f2 ?_
     refine WL.callW3 (decInt8Value tv14 0 _ E kE pE pU hS k r f Rt hR (rs.drop 1) X2 hX2 (by rw [List.length_drop]; omega) hask) call95 rfl rfl rfl fun v15_1 Hs15_1 hR15_1 => ?_
     obtain ⟨X3, y, rfl, rfl, hX3, hy⟩ := hR15_1
     refine WL.to3 ?_
     refine WL.q (oq_assign rfl) rfl rfl rfl ?_
     refine WL.nil (WE.then_normal (WC.sub (fr' := [(6, _), (8, _)]) ?_ ⟨rfl, rfl, trivial⟩))
     refine WC.region ?_
     refine WL.q (oq_load flat127 rfl (.head _) (List.mem_singleton.2 rfl) rfl) rfl rfl rfl ?_
     refine WL.q (oq_makeI conc127 rfl) rfl rfl rfl ?_
     refine WL.q (oq_assign rfl) rfl rfl rfl ?_
     refine WL.nil (WE.block_normal (WE.then_normal (WC.sub (fr' := [(6, _), (7, _)]) ?_ ⟨rfl, rfl, trivial⟩)))
     refine WC.seq (WC.region ?_)
     refine WL.q (oq_move rfl) rfl rfl rfl ?_
     refine WL.q (oq_move rfl) rfl rfl rfl ?_
     refine WL.q (oq_assign rfl) rfl rfl rfl ?_
     refine WL.q (oq_assign rfl) rfl rfl rfl ?_
     refine WL.nil (WE.then_normal (WC.sub (fr' := [(2, _), (3, _)]) ?_ ⟨rfl, rfl, trivial⟩))
     refine WC.ret ?_
     refine WE.lose htv14 ?_
     refine WE.f2 ?_
     refine WE.lose hrw ?_
     refine WE.f3 ?_
     refine WE.f2 ?_
     refine WE.f3 ?_
     refine WE.f3 ?_
     refine WE.endW3 (.inl rfl) (res2 Tryz.results91 rfl rfl) ?_
     have hbk : b = 2 := u8n (n := 2) (by decide) q13
     rw [hval_of hle hbe, hbk]
     show ValR w0.heap.size kE pE pU E Rt (vInt 1 .i8 (rs.drop 1)) _ _
     by_cases hl : 1 ≤ (rs.drop 1).length
     ·rw [vInt_n.2 hl, rdc_le hl, hy hl]
      have hwb := wrap_bnd .i8 (nm ((rs.drop 1).take 1) : Nat)
      rw [i8_lo, i8_hi] at hwb
      refine ⟨X3, [], _, 0, 0, rfl, rfl, (fun _ _ h => nomatch h), rfl, ?_, hX3⟩
      exact .inr (.inl ⟨rfl, rfl, rfl, hwb, rfl⟩)
     ·rw [vInt_n.1 (by omega)]
      exact ⟨X3, [], _, _, 0, rfl, rfl, (fun _ _ h => nomatch h), (rdcN (n := 1) (fun h => hl (rdc0 h))).2, _, hX3⟩
    ·
     try simp only [Z1, Z2, Z3, Z4, Z5, Z6, Z7, Z8, Z9, Z0] at q13
     refine WC.seq (WC.region ?_)
     refine WL.q (oq_eql rfl rfl) rfl rfl rfl ?_
     refine WL.q (oq_assign rfl) rfl rfl rfl ?_
     refine WL.nil (WE.then_normal (WC.sub (fr' := [(0, _), (27, _), (41, _)]) ?_ ⟨rfl, rfl, rfl, trivial⟩))
     refine WC.cond rfl (fun q17 => ?_) (fun q17 => ?_)
     ·
      try simp only [Z1, Z2, Z3, Z4, Z5, Z6, Z7, Z8, Z9, Z0] at q17
      refine WC.seq (WC.region ?_)
      refine WL.alloc ty129 rfl rfl fun tv18 htv18 => ?_
      refine WL.nil (WE.then_normal (WC.sub (fr' := [(0, _), (9, _)]) ?_ ⟨rfl, rfl, trivial⟩))
      refine WC.seq (WC.region ?_)
      refine WL.q (oq_move rfl) rfl rfl rfl ?_
      refine WL.f3 ?_
      refine WL.f3 ?_
      refine WL.f2 ?_
      refine WL.callW3 (decInt16Value tv18 0 _ E kE pE pU hS k r f Rt hR (rs.drop 1) X2 hX2 (by rw [List.length_drop]; omega)) call96 rfl rfl rfl fun v19_1 Hs19_1 hR19_1 => ?_
      obtain ⟨X3, y, rfl, rfl, hX3, hy⟩ := hR19_1
      refine WL.to3 ?_
      refine WL.q (oq_assign rfl) rfl rfl rfl ?_
      refine WL.nil (WE.then_normal (WC.sub (fr' := [(6, _), (9, _)]) ?_ ⟨rfl, rfl, trivial⟩))
      refine WC.region ?_
      refine WL.q (oq_load flat129 rfl (.head _) (List.mem_singleton.2 rfl) rfl) rfl rfl rfl ?_
      refine WL.q (oq_makeI conc129 rfl) rfl rfl rfl ?_
      refine WL.q (oq_assign rfl) rfl rfl rfl ?_
      refine WL.nil (WE.block_normal (WE.then_normal (WC.sub (fr' := [(6, _), (7, _)]) ?_ ⟨rfl, rfl, trivial⟩)))
      refine WC.seq (WC.region ?_)
      refine WL.q (oq_move rfl) rfl rfl rfl ?_
      refine WL.q (oq_move rfl) rfl rfl rfl ?_
      refine WL.q (oq_assign rfl) rfl rfl rfl ?_
      refine WL.q (oq_assign rfl) rfl rfl rfl ?_
      refine WL.nil (WE.then_normal (WC.sub (fr' := [(2, _), (3, _)]) ?_ ⟨rfl, rfl, trivial⟩))
      refine WC.ret ?_
      refine WE.lose htv18 ?_
      refine WE.f2 ?_
      refine WE.lose hrw ?_
      refine WE.f3 ?_
      refine WE.f2 ?_
      refine WE.f3 ?_
      refine WE.f3 ?_
      refine WE.endW3 (.inl rfl) (res2 Tryz.results91 rfl rfl) ?_
      have hbk : b = 3 := u8n (n := 3) (by decide) q17
      rw [hval_of hle hbe, hbk]
      show ValR w0.heap.size kE pE pU E Rt (vInt 2 .i16 (rs.drop 1)) _ _
      by_cases hl : 2 ≤ (rs.drop 1).length
      ·rw [vInt_n.2 hl, rdc_le hl, hy hl]
       have hwb := wrap_bnd .i16 (nm ((rs.drop 1).take 2) : Nat)
       rw [i16_lo, i16_hi] at hwb
       refine ⟨X3, [], _, 0, 0, rfl, rfl, (fun _ _ h => nomatch h), rfl, ?_, hX3⟩
       exact .inr (.inr (.inl ⟨rfl, rfl, rfl, hwb, rfl⟩))
      ·rw [vInt_n.1 (by omega)]
       exact ⟨X3, [], _, _, 0, rfl, rfl, (fun _ _ h => nomatch h), (rdcN (n := 2) (fun h => hl (rdc0 h))).2, _, hX3⟩
     ·
      try simp only [Z1, Z2, Z3, Z4, Z5, Z6, Z7, Z8, Z9, Z0] at q17
      refine WC.seq (WC.region ?_)
      refine WL.q (oq_eql rfl rfl) rfl rfl rfl ?_
      refine WL.q (oq_assign rfl) rfl rfl rfl ?_
      refine WL.nil (WE.then_normal (WC.sub (fr' := [(0, _), (27, _), (47, _)]) ?_ ⟨rfl, rfl, rfl, trivial⟩))
      refine WC.cond rfl (fun q21 => ?_) (fun q21 => ?_)
      ·
       try simp only [Z1, Z2, Z3, Z4, Z5, Z6, Z7, Z8, Z9, Z0] at q21
       refine WC.seq (WC.region ?_)
       refine WL.alloc ty130 rfl rfl fun tv22 htv22 => ?_
       refine WL.nil (WE.then_normal (WC.sub (fr' := [(0, _), (10, _)]) ?_ ⟨rfl, rfl, trivial⟩))
       refine WC.seq (WC.region ?_)
       refine WL.q (oq_move rfl) rfl rfl rfl ?_
       refine WL.f3 ?_
       refine WL.f3 ?_
       refine WL.f2 ?_
       refine WL.callW3 (decInt32Value tv22 0 _ E kE pE pU hS k r f Rt hR (rs.drop 1) X2 hX2 (by rw [List.length_drop]; omega)) call97 rfl rfl rfl fun v23_1 Hs23_1 hR23_1 => ?_
       obtain ⟨X3, y, rfl, rfl, hX3, hy⟩ := hR23_1
       refine WL.to3 ?_
       refine WL.q (oq_assign rfl) rfl rfl rfl ?_
       refine WL.nil (WE.then_normal (WC.sub (fr' := [(6, _), (10, _)]) ?_ ⟨rfl, rfl, trivial⟩))
       refine WC.region ?_
       refine WL.q (oq_load flat130 rfl (.head _) (List.mem_singleton.2 rfl) rfl) rfl rfl rfl ?_
       refine WL.q (oq_makeI conc130 rfl) rfl rfl rfl ?_
       refine WL.q (oq_assign rfl) rfl rfl rfl ?_
       refine WL.nil (WE.block_normal (WE.then_normal (WC.sub (fr' := [(6, _), (7, _)]) ?_ ⟨rfl, rfl, trivial⟩)))
       refine WC.seq (WC.region ?_)
       refine WL.q (oq_move rfl) rfl rfl rfl ?_
       refine WL.q (oq_move rfl) rfl rfl rfl ?_
       refine WL.q (oq_assign rfl) rfl rfl rfl ?_
       refine WL.q (oq_assign rfl) rfl rfl rfl ?_
       refine WL.nil (WE.then_normal (WC.sub (fr' := [(2, _), (3, _)]) ?_ ⟨rfl, rfl, trivial⟩))
       refine WC.ret ?_
       refine WE.lose htv22 ?_
       refine WE.f2 ?_
       refine WE.lose hrw ?_
       refine WE.f3 ?_
       refine WE.f2 ?_
       refine WE.f3 ?_
       refine WE.f3 ?_
       refine WE.endW3 (.inl rfl) (res2 Tryz.results91 rfl rfl) ?_
       have hbk : b = 4 := u8n (n := 4) (by decide) q21
       rw [hval_of hle hbe, hbk]
       show ValR w0.heap.size kE pE pU E Rt (vInt 4 .i32 (rs.drop 1)) _ _
       by_cases hl : 4 ≤ (rs.drop 1).length
       ·rw [vInt_n.2 hl, rdc_le hl, hy hl]
        have hwb := wrap_bnd .i32 (nm ((rs.drop 1).take 4) : Nat)
        rw [i32_lo, i32_hi] at hwb
        refine ⟨X3, [], _, 0, 0, rfl, rfl, (fun _ _ h => nomatch h), rfl, ?_, hX3⟩
        exact .inr (.inr (.inr (.inl ⟨rfl, rfl, rfl, hwb, rfl⟩)))
       ·rw [vInt_n.1 (by omega)]
        exact ⟨X3, [], _, _, 0, rfl, rfl, (fun _ _ h => nomatch h), (rdcN (n := 4) (fun h => hl (rdc0 h))).2, _, hX3⟩
      ·
       try simp only [Z1, Z2, Z3, Z4, Z5, Z6, Z7, Z8, Z9, Z0] at q21
       refine WC.seq (WC.region ?_)
       refine WL.q (oq_eql rfl rfl) rfl rfl rfl ?_
       refine WL.q (oq_assign rfl) rfl rfl rfl ?_
       refine WL.nil (WE.then_normal (WC.sub (fr' := [(0, _), (27, _), (53, _)]) ?_ ⟨rfl, rfl, rfl, trivial⟩))
       refine WC.cond rfl (fun q25 => ?_) (fun q25 => ?_)
       ·
        try simp only [Z1, Z2, Z3, Z4, Z5, Z6, Z7, Z8, Z9, Z0] at q25
        refine WC.seq (WC.region ?_)
        refine WL.alloc ty131 rfl rfl fun tv26 htv26 => ?_
        refine WL.nil (WE.then_normal (WC.sub (fr' := [(0, _), (11, _)]) ?_ ⟨rfl, rfl, trivial⟩))
        refine WC.seq (WC.region ?_)
        refine WL.q (oq_move rfl) rfl rfl rfl ?_
        refine WL.f3 ?_
        refine WL.f3 ?_
        refine WL.f2 ?_
        refine WL.callW3 (decInt64Value tv26 0 _ E kE pE pU hS k r f Rt hR (rs.drop 1) X2 hX2 (by rw [List.length_drop]; omega)) call98 rfl rfl rfl fun v27_1 Hs27_1 hR27_1 => ?_
        obtain ⟨X3, y, rfl, rfl, hX3, hy⟩ := hR27_1
        refine WL.to3 ?_
        refine WL.q (oq_assign rfl) rfl rfl rfl ?_
        refine WL.nil (WE.then_normal (WC.sub (fr' := [(6, _), (11, _)]) ?_ ⟨rfl, rfl, trivial⟩))
        refine WC.region ?_
        refine WL.q (oq_load flat131 rfl (.head _) (List.mem_singleton.2 rfl) rfl) rfl rfl rfl ?_
        refine WL.q (oq_makeI conc131 rfl) rfl rfl rfl ?_
        refine WL.q (oq_assign rfl) rfl rfl rfl ?_
        refine WL.nil (WE.block_normal (WE.then_normal (WC.sub (fr' := [(6, _), (7, _)]) ?_ ⟨rfl, rfl, trivial⟩)))
        refine WC.seq (WC.region ?_)
        refine WL.q (oq_move rfl) rfl rfl rfl ?_
        refine WL.q (oq_move rfl) rfl rfl rfl ?_
        refine WL.q (oq_assign rfl) rfl rfl rfl ?_
        refine WL.q (oq_assign rfl) rfl rfl rfl ?_
        refine WL.nil (WE.then_normal (WC.sub (fr' := [(2, _), (3, _)]) ?_ ⟨rfl, rfl, trivial⟩))
        refine WC.ret ?_
        refine WE.lose htv26 ?_
        refine WE.f2 ?_
        refine WE.lose hrw ?_
        refine WE.f3 ?_
        refine WE.f2 ?_
        refine WE.f3 ?_
        refine WE.f3 ?_
        refine WE.endW3 (.inl rfl) (res2 Tryz.results91 rfl rfl) ?_
        have hbk : b = 5 := u8n (n := 5) (by decide) q25
        rw [hval_of hle hbe, hbk]
        show ValR w0.heap.size kE pE pU E Rt (vInt 8 .i64 (rs.drop 1)) _ _
        by_cases hl : 8 ≤ (rs.drop 1).length
        ·rw [vInt_n.2 hl, rdc_le hl, hy hl]
         have hwb := wrap_bnd .i64 (nm ((rs.drop 1).take 8) : Nat)
         rw [i64_lo, i64_hi] at hwb
         refine ⟨X3, [], _, 0, 0, rfl, rfl, (fun _ _ h => nomatch h), rfl, ?_, hX3⟩
         exact .inr (.inr (.inr (.inr (.inl ⟨rfl, rfl, rfl, hwb, rfl⟩))))
        ·rw [vInt_n.1 (by omega)]
         exact ⟨X3, [], _, _, 0, rfl, rfl, (fun _ _ h => nomatch h), (rdcN (n := 8) (fun h => hl (rdc0 h))).2, _, hX3⟩
       ·
        try simp only [Z1, Z2, Z3, Z4, Z5, Z6, Z7, Z8, Z9, Z0] at q25
        refine WC.seq (WC.region ?_)
        refine WL.q (oq_eql rfl rfl) rfl rfl rfl ?_
        refine WL.q (oq_assign rfl) rfl rfl rfl ?_
        refine WL.nil (WE.then_normal (WC.sub (fr' := [(0, _), (27, _), (59, _)]) ?_ ⟨rfl, rfl, rfl, trivial⟩))
        refine WC.cond rfl (fun q29 => ?_) (fun q29 => ?_)
        ·
         try simp only [Z1, Z2, Z3, Z4, Z5, Z6, Z7, Z8, Z9, Z0] at q29
         refine WC.seq (WC.region ?_)
         refine WL.alloc ty132 rfl rfl fun tv30 htv30 => ?_
         refine WL.nil (WE.then_normal (WC.sub (fr' := [(0, _), (12, _)]) ?_ ⟨rfl, rfl, trivial⟩))
         refine WC.seq (WC.region ?_)
         refine WL.q (oq_move rfl) rfl rfl rfl ?_
         refine WL.f3 ?_
         refine WL.f3 ?_
         refine WL.f2 ?_
         refine WL.callW3 (decBytesValue tv30 _ E kE pE pU hS k r f Rt hR (rs.drop 1) X2 hX2 (by rw [List.length_drop]; omega)) call99 rfl rfl rfl fun v31_1 Hs31_1 hR31_1 => ?_
         obtain ⟨u, Hs2, rfl, X3, N3, sv, c3, t3, ⟨rfl, hu⟩, rfl, hN3, hsv, hor⟩ := hR31_1
         refine WL.to4 ?_
         refine WL.q (oq_assign rfl) rfl rfl rfl ?_
         refine WL.nil (WE.then_normal (WC.sub (fr' := [(6, _), (12, _)]) ?_ ⟨rfl, rfl, trivial⟩))
         refine WC.region ?_
         refine WL.q (oq_load flat132 rfl (.head _) (List.mem_singleton.2 rfl) rfl) rfl rfl rfl ?_
         refine WL.q (oq_makeI conc132 rfl) rfl rfl rfl ?_
         refine WL.q (oq_assign rfl) rfl rfl rfl ?_
         refine WL.nil (WE.block_normal (WE.then_normal (WC.sub (fr' := [(6, _), (7, _)]) ?_ ⟨rfl, rfl, trivial⟩)))
         refine WC.seq (WC.region ?_)
         refine WL.q (oq_move rfl) rfl rfl rfl ?_
         refine WL.q (oq_move rfl) rfl rfl rfl ?_
         refine WL.q (oq_assign rfl) rfl rfl rfl ?_
         refine WL.q (oq_assign rfl) rfl rfl rfl ?_
         refine WL.nil (WE.then_normal (WC.sub (fr' := [(2, _), (3, _)]) ?_ ⟨rfl, rfl, trivial⟩))
         refine WC.ret ?_
         refine WE.lose htv30 ?_
         refine WE.f3 ?_
         refine WE.lose hrw ?_
         refine WE.f3 ?_
         refine WE.nil0 ?_
         refine WE.endW3 (.inl rfl) (res2 Tryz.results91 rfl rfl) ?_
         have hbk : b = 6 := u8n (n := 6) (by decide) q29
         rw [hval_of hle hbe, hbk]
         show ValR w0.heap.size kE pE pU E Rt (vTxt 2 (rs.drop 1)) _ _
         rcases hor with ⟨rfl, hl1, hl2, rfl, hX4⟩ | ⟨hc3, hl1, rfl, rs4, hX4⟩
         ·rw [vTxt_k hl1 hl2, hu rfl]
          exact ⟨X3, N3, _, 0, 0, rfl, rfl, hN3, rfl, .inr (.inr (.inr (.inr (.inr (.inl ⟨rfl, rfl, rfl, _, rfl, hsv⟩))))), hX4⟩
         ·rw [vTxt_s hl1]
          exact ⟨X3, N3, _, c3, 0, rfl, rfl, hN3, hc3, rs4, hX4⟩
        ·
         try simp only [Z1, Z2, Z3, Z4, Z5, Z6, Z7, Z8, Z9, Z0] at q29
         refine WC.seq (WC.region ?_)
         refine WL.q (oq_eql rfl rfl) rfl rfl rfl ?_
         refine WL.q (oq_assign rfl) rfl rfl rfl ?_
         refine WL.nil (WE.then_normal (WC.sub (fr' := [(0, _), (27, _), (65, _)]) ?_ ⟨rfl, rfl, rfl, trivial⟩))
         refine WC.cond rfl (fun q33 => ?_) (fun q33 => ?_)
         ·
          try simp only [Z1, Z2, Z3, Z4, Z5, Z6, Z7, Z8, Z9, Z0] at q33
          refine WC.seq (WC.region ?_)
          refine WL.alloc ty133 rfl rfl fun tv34 htv34 => ?_
          refine WL.nil (WE.then_normal (WC.sub (fr' := [(0, _), (13, _)]) ?_ ⟨rfl, rfl, trivial⟩))
          refine WC.seq (WC.region ?_)
          refine WL.q (oq_move rfl) rfl rfl rfl ?_
          refine WL.f3 ?_
          refine WL.f3 ?_
          refine WL.f2 ?_
          refine WL.callW3 (decStringValue tv34 _ E kE pE pU hS k r f Rt hR (rs.drop 1) X2 hX2 (by rw [List.length_drop]; omega)) call100 rfl rfl rfl fun v35_1 Hs35_1 hR35_1 => ?_
          obtain ⟨u, Hs2, rfl, X3, N3, sv, c3, t3, ⟨rfl, hu⟩, rfl, hN3, hsv, hor⟩ := hR35_1
          refine WL.to4 ?_
          refine WL.q (oq_assign rfl) rfl rfl rfl ?_
          refine WL.nil (WE.then_normal (WC.sub (fr' := [(6, _), (13, _)]) ?_ ⟨rfl, rfl, trivial⟩))
          refine WC.region ?_
          refine WL.q (oq_load flat133 rfl (.head _) (List.mem_singleton.2 rfl) rfl) rfl rfl rfl ?_
          refine WL.q (oq_makeI conc133 rfl) rfl rfl rfl ?_
          refine WL.q (oq_assign rfl) rfl rfl rfl ?_
          refine WL.nil (WE.block_normal (WE.then_normal (WC.sub (fr' := [(6, _), (7, _)]) ?_ ⟨rfl, rfl, trivial⟩)))
          refine WC.seq (WC.region ?_)
          refine WL.q (oq_move rfl) rfl rfl rfl ?_
          refine WL.q (oq_move rfl) rfl rfl rfl ?_
          refine WL.q (oq_assign rfl) rfl rfl rfl ?_
          refine WL.q (oq_assign rfl) rfl rfl rfl ?_
          refine WL.nil (WE.then_normal (WC.sub (fr' := [(2, _), (3, _)]) ?_ ⟨rfl, rfl, trivial⟩))
          refine WC.ret ?_
          refine WE.lose htv34 ?_
          refine WE.f3 ?_
          refine WE.lose hrw ?_
          refine WE.f3 ?_
          refine WE.nil0 ?_
          refine WE.endW3 (.inl rfl) (res2 Tryz.results91 rfl rfl) ?_
          have hbk : b = 7 := u8n (n := 7) (by decide) q33
          rw [hval_of hle hbe, hbk]
          show ValR w0.heap.size kE pE pU E Rt (vTxt 3 (rs.drop 1)) _ _
          rcases hor with ⟨rfl, hl1, hl2, rfl, hX4⟩ | ⟨hc3, hl1, rfl, rs4, hX4⟩
          ·rw [vTxt_k hl1 hl2, hu rfl]
           exact ⟨X3, N3, _, 0, 0, rfl, rfl, hN3, rfl, .inr (.inr (.inr (.inr (.inr (.inr (.inl ⟨rfl, rfl, rfl, rfl⟩)))))), hX4⟩
          ·rw [vTxt_s hl1]
           exact ⟨X3, N3, _, c3, 0, rfl, rfl, hN3, hc3, rs4, hX4⟩
         ·
          try simp only [Z1, Z2, Z3, Z4, Z5, Z6, Z7, Z8, Z9, Z0] at q33
          refine WC.seq (WC.region ?_)
          refine WL.q (oq_eql rfl rfl) rfl rfl rfl ?_
          refine WL.q (oq_assign rfl) rfl rfl rfl ?_
          refine WL.nil (WE.then_normal (WC.sub (fr' := [(0, _), (27, _), (71, _)]) ?_ ⟨rfl, rfl, rfl, trivial⟩))
          refine WC.cond rfl (fun q37 => ?_) (fun q37 => ?_)
          ·
           try simp only [Z1, Z2, Z3, Z4, Z5, Z6, Z7, Z8, Z9, Z0] at q37
           refine WC.seq (WC.region ?_)
           refine WL.alloc ty134 rfl rfl fun tv38 htv38 => ?_
           refine WL.nil (WE.then_normal (WC.sub (fr' := [(0, _), (14, _)]) ?_ ⟨rfl, rfl, trivial⟩))
           refine WC.seq (WC.region ?_)
           refine WL.q (oq_move rfl) rfl rfl rfl ?_
           refine WL.f3 ?_
           refine WL.f3 ?_
           refine WL.f2 ?_
           refine WL.callW3 (decTimestampValue tv38 _ E kE pE pU hS k r f Rt hR (rs.drop 1) X2 hX2 (by rw [List.length_drop]; omega)) call101 rfl rfl rfl fun v39_1 Hs39_1 hR39_1 => ?_
           obtain ⟨X3, cs, rfl, rfl, hX3, hcs, hy⟩ := hR39_1
           obtain ⟨c0, c1, c2, c3, rfl⟩ := arr4 hcs
           refine WL.to3 ?_
           refine WL.q (oq_assign rfl) rfl rfl rfl ?_
           refine WL.nil (WE.then_normal (WC.sub (fr' := [(6, _), (14, _)]) ?_ ⟨rfl, rfl, trivial⟩))
           refine WC.region ?_
           refine WL.q (oq_loadS [_, _, _, _] agg134 ty134 rfl (.head _) (List.mem_singleton.2 rfl) rfl rfl) rfl rfl rfl ?_
           refine WL.q (oq_makeI conc134 rfl) rfl rfl rfl ?_
           refine WL.q (oq_assign rfl) rfl rfl rfl ?_
           refine WL.nil (WE.block_normal (WE.then_normal (WC.sub (fr' := [(6, _), (7, _)]) ?_ ⟨rfl, rfl, trivial⟩)))
           refine WC.seq (WC.region ?_)
           refine WL.q (oq_move rfl) rfl rfl rfl ?_
           refine WL.q (oq_move rfl) rfl rfl rfl ?_
           refine WL.q (oq_assign rfl) rfl rfl rfl ?_
           refine WL.q (oq_assign rfl) rfl rfl rfl ?_
           refine WL.nil (WE.then_normal (WC.sub (fr' := [(2, _), (3, _)]) ?_ ⟨rfl, rfl, trivial⟩))
           refine WC.ret ?_
           refine WE.lose htv38 ?_
           refine WE.f2 ?_
           refine WE.lose hrw ?_
           refine WE.f3 ?_
           refine WE.f2 ?_
           refine WE.f3 ?_
           refine WE.f3 ?_
           refine WE.endW3 (.inl rfl) (res2 Tryz.results91 rfl rfl) ?_
           have hbk : b = 8 := u8n (n := 8) (by decide) q37
           rw [hval_of hle hbe, hbk]
           show ValR w0.heap.size kE pE pU E Rt (if (rs.drop 1).length < 8 then VR.short else .ok 4 0 (IntKind.i64.wrap (nm ((rs.drop 1).take 8))) [] ((rs.drop 1).drop 8)) _ _
           by_cases hl : 8 ≤ (rs.drop 1).length
           ·rw [if_neg (by omega), rdc_le hl, hy hl]
            have hwb := wrap_bnd .i64 (nm ((rs.drop 1).take 8) : Nat)
            rw [i64_lo, i64_hi] at hwb
            exact ⟨X3, [], _, 0, 0, rfl, rfl, (fun _ _ h => nomatch h), rfl, .inr (.inr (.inr (.inr (.inr (.inr (.inr (.inl ⟨rfl, rfl, rfl, hwb, rfl⟩))))))), hX3⟩
           ·rw [if_pos (by omega)]
            exact ⟨X3, [], _, _, 0, rfl, rfl, (fun _ _ h => nomatch h), (rdcN (n := 8) (fun h => hl (rdc0 h))).2, _, hX3⟩
          ·
           try simp only [Z1, Z2, Z3, Z4, Z5, Z6, Z7, Z8, Z9, Z0] at q37
           refine WC.seq (WC.region ?_)
           refine WL.q (oq_eql rfl rfl) rfl rfl rfl ?_
           refine WL.q (oq_assign rfl) rfl rfl rfl ?_
           refine WL.nil (WE.then_normal (WC.sub (fr' := [(0, _), (77, _)]) ?_ ⟨rfl, rfl, trivial⟩))
           refine WC.cond rfl (fun q41 => ?_) (fun q41 => ?_)
           ·
            try simp only [Z1, Z2, Z3, Z4, Z5, Z6, Z7, Z8, Z9, Z0] at q41
            refine WC.seq (WC.region ?_)
            refine WL.alloc ty137 rfl rfl fun tv42 htv42 => ?_
            refine WL.asB (List.replicate 16 0) rfl ?_
            refine WL.nil (WE.then_normal (WC.sub (fr' := [(0, _), (15, _)]) ?_ ⟨rfl, rfl, trivial⟩))
            refine WC.seq (WC.region ?_)
            refine WL.q (oq_move rfl) rfl rfl rfl ?_
            refine WL.f3 ?_
            refine WL.f3 ?_
            refine WL.f2 ?_
            refine WL.callW3 (decUUIDValue tv42 _ E kE pE pU hS k r f Rt hR (rs.drop 1) X2 hX2 (by rw [List.length_drop]; omega)) call102 rfl rfl rfl fun v43_1 Hs43_1 hR43_1 => ?_
            obtain ⟨X3, rfl, rfl, hX3⟩ := hR43_1
            refine WL.to3 ?_
            refine WL.q (oq_assign rfl) rfl rfl rfl ?_
            refine WL.nil (WE.then_normal (WC.sub (fr' := [(6, _), (15, _)]) ?_ ⟨rfl, rfl, trivial⟩))
            refine WC.region ?_
            refine WL.q (oq_loadArr agg137 ty137 ((by rw [putB_len (by simp only [List.length_take, List.length_replicate]; omega)]; simp)) rfl (.head _)) rfl rfl rfl ?_
            refine WL.q (oq_makeI conc137 rfl) rfl rfl rfl ?_
            refine WL.q (oq_assign rfl) rfl rfl rfl ?_
            refine WL.nil (WE.block_normal (WE.then_normal (WC.sub (fr' := [(6, _), (7, _)]) ?_ ⟨rfl, rfl, trivial⟩)))
            refine WC.seq (WC.region ?_)
            refine WL.q (oq_move rfl) rfl rfl rfl ?_
            refine WL.q (oq_move rfl) rfl rfl rfl ?_
            refine WL.q (oq_assign rfl) rfl rfl rfl ?_
            refine WL.q (oq_assign rfl) rfl rfl rfl ?_
            refine WL.nil (WE.then_normal (WC.sub (fr' := [(2, _), (3, _)]) ?_ ⟨rfl, rfl, trivial⟩))
            refine WC.ret ?_
            refine WE.lose htv42 ?_
            refine WE.f2 ?_
            refine WE.lose hrw ?_
            refine WE.f3 ?_
            refine WE.f2 ?_
            refine WE.f3 ?_
            refine WE.f3 ?_
            refine WE.endW3 (.inl rfl) (res2 Tryz.results91 rfl rfl) ?_
            have hbk : b = 9 := u8n (n := 9) (by decide) q41
            rw [hval_of hle hbe, hbk]
            show ValR w0.heap.size kE pE pU E Rt (if (rs.drop 1).length < 16 then VR.short else .ok 5 0 0 ((rs.drop 1).take 16) ((rs.drop 1).drop 16)) _ _
            by_cases hl : 16 ≤ (rs.drop 1).length
            ·rw [if_neg (by omega), rdc_le hl, put_take hl]
             exact ⟨X3, [], _, 0, 0, rfl, rfl, (fun _ _ h => nomatch h), rfl, .inr (.inr (.inr (.inr (.inr (.inr (.inr (.inr ⟨rfl, rfl, rfl, by show ((rs.drop 1).take 16).length = 16; rw [List.length_take]; omega, rfl⟩))))))), hX3⟩
            ·rw [if_pos (by omega)]
             exact ⟨X3, [], _, _, 0, rfl, rfl, (fun _ _ h => nomatch h), (rdcN (n := 16) (fun h => hl (rdc0 h))).2, _, hX3⟩
           ·
            try simp only [Z1, Z2, Z3, Z4, Z5, Z6, Z7, Z8, Z9, Z0] at q41
            refine WC.seq (WC.region ?_)
            refine WL.callA0 (errNew _) call103 rfl rfl rfl fun v8_0 N8_0 hR8_0 hN8_0 => ?_
            obtain ⟨ob, rfl, rfl⟩ := hR8_0
            refine WL.q (oq_assign rfl) rfl rfl rfl ?_
            refine WL.q (oq_assign rfl) rfl rfl rfl ?_
            refine WL.nil (WE.then_normal (WC.sub (fr' := [(2, _), (3, _)]) ?_ ⟨rfl, rfl, trivial⟩))
            refine WC.ret (WE.block_ret (WE.then_ret ?_))
            refine WE.f1 ?_
            refine WE.lose hrw ?_
            refine WE.f3 ?_
            refine WE.nil0 ?_
            refine WE.f3 ?_
            refine WE.f3 ?_
            refine WE.f2 ?_
            refine WE.f3 ?_
            refine WE.endW3 (.inl rfl) (res2 Tryz.results91 rfl rfl) ?_
            rw [hval_of hle hbe, val_big (by omega)]
            exact ⟨X2, _, _, 5, ob, by rw [hS.kd]; rfl, rfl, fresh1 (hN8_0 _ _ (List.mem_singleton.2 rfl)), rfl, ⟨_, _, List.mem_singleton.2 rfl⟩, _, hX2⟩
end DG
end Go.Proofs.YtodlhaghdplclaaGreatDoor
