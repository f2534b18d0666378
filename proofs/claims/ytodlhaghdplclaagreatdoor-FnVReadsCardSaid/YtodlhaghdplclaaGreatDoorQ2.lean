/- Values written. -/
import Derived.Test.YtodlhaghdplclaaGreatDoorQ1
import Derived.Test.YtodlhaghdplclaaGreatDoorQ0
import Derived.Lay
import Derived.Lib.SmallJoins
import Derived.LaidEql
namespace Go.Proofs.YtodlhaghdplclaaGreatDoor
open Go Go.RowKit V EA EB EC ED EE
set_option linter.unusedSimpArgs false
set_option linter.unusedVariables false
set_option maxRecDepth 10000
namespace EF
theorem call70 : Callable Tryz.prog 70 := ⟨_, Tryz.func70, rfl, by kernel_rfl⟩
theorem flat5 : Flat Tryz.prog 5 := ⟨_, Tryz.underlying5, by simp⟩
theorem flat185 : Flat Tryz.prog 185 := ⟨_, Tryz.underlying185, by simp⟩
theorem flat186 : Flat Tryz.prog 186 := ⟨_, Tryz.underlying186, by simp⟩
theorem ty5 : Ty Tryz.prog 5 (.int .u8 0) 1 1 := ty_of (by kernel_rfl)
theorem ty20 : Ty Tryz.prog 20 .nilIface 1 16 := ty_of (by kernel_rfl)
theorem ty172 : Ty Tryz.prog 172 (.agg #[(.int .u8 0), (.int .u8 0), (.int .u8 0), (.int .u8 0), (.int .u8 0), (.int .u8 0), (.int .u8 0), (.int .u8 0), (.int .u8 0), (.int .u8 0), (.int .u8 0), (.int .u8 0), (.int .u8 0), (.int .u8 0), (.int .u8 0), (.int .u8 0), (.int .u8 0), (.int .u8 0), (.int .u8 0), (.int .u8 0), (.int .u8 0), (.int .u8 0), (.int .u8 0), (.int .u8 0), (.int .u8 0), (.int .u8 0), (.int .u8 0), (.int .u8 0), (.int .u8 0), (.int .u8 0), (.int .u8 0), (.int .u8 0), (.int .u8 0), (.int .u8 0), (.int .u8 0), (.int .u8 0), (.int .u8 0), (.int .u8 0), (.int .u8 0), (.int .u8 0), (.int .u8 0), (.int .u8 0), (.int .u8 0), (.int .u8 0), (.int .u8 0), (.int .u8 0), (.int .u8 0), (.int .u8 0), (.int .u8 0), (.int .u8 0), (.int .u8 0), (.int .u8 0), (.int .u8 0), (.int .u8 0), (.int .u8 0), (.int .u8 0), (.int .u8 0), (.int .u8 0), (.int .u8 0), (.int .u8 0), (.int .u8 0), (.int .u8 0), (.int .u8 0), (.int .u8 0), (.int .u8 0), (.int .u8 0), (.int .u8 0), (.int .u8 0), (.int .u8 0), (.int .u8 0), (.int .u8 0), (.int .u8 0), (.int .u8 0), (.int .u8 0), (.int .u8 0), (.int .u8 0), (.int .u8 0), (.int .u8 0), (.int .u8 0), (.int .u8 0), (.int .u8 0), (.int .u8 0), (.int .u8 0), (.int .u8 0), (.int .u8 0), (.int .u8 0), (.int .u8 0), (.int .u8 0), (.int .u8 0), (.int .u8 0), (.int .u8 0), (.int .u8 0), (.int .u8 0), (.int .u8 0), (.int .u8 0), (.int .u8 0), (.int .u8 0), (.int .u8 0), (.int .u8 0), (.int .u8 0), (.int .u8 0), (.int .u8 0), (.int .u8 0), (.int .u8 0), (.int .u8 0), (.int .u8 0), (.int .u8 0), (.int .u8 0), (.int .u8 0), (.int .u8 0), (.int .u8 0), (.int .u8 0), (.int .u8 0), (.int .u8 0), (.int .u8 0), (.int .u8 0), (.int .u8 0), (.int .u8 0), (.int .u8 0), (.int .u8 0), (.int .u8 0), (.int .u8 0), (.int .u8 0), (.int .u8 0), (.int .u8 0), (.int .u8 0), (.int .u8 0), (.int .u8 0), (.int .u8 0), (.int .u8 0), (.int .u8 0), (.int .u8 0), (.int .u8 0), (.int .u8 0), (.int .u8 0), (.int .u8 0), (.int .u8 0), (.int .u8 0), (.int .u8 0), (.int .u8 0), (.int .u8 0), (.int .u8 0), (.int .u8 0), (.int .u8 0), (.int .u8 0), (.int .u8 0), (.int .u8 0), (.int .u8 0), (.int .u8 0), (.int .u8 0), (.int .u8 0), (.int .u8 0), (.int .u8 0), (.int .u8 0), (.int .u8 0), (.int .u8 0), (.int .u8 0), (.int .u8 0), (.int .u8 0), (.int .u8 0), (.int .u8 0), (.int .u8 0), (.int .u8 0), (.int .u8 0), (.int .u8 0), (.int .u8 0), (.int .u8 0), (.int .u8 0), (.int .u8 0), (.int .u8 0), (.int .u8 0), (.int .u8 0), (.int .u8 0), (.int .u8 0), (.int .u8 0), (.int .u8 0), (.int .u8 0), (.int .u8 0), (.int .u8 0), (.int .u8 0), (.int .u8 0), (.int .u8 0), (.int .u8 0), (.int .u8 0), (.int .u8 0), (.int .u8 0), (.int .u8 0), (.int .u8 0), (.int .u8 0), (.int .u8 0), (.int .u8 0), (.int .u8 0), (.int .u8 0), (.int .u8 0), (.int .u8 0), (.int .u8 0), (.int .u8 0), (.int .u8 0), (.int .u8 0), (.int .u8 0), (.int .u8 0), (.int .u8 0), (.int .u8 0), (.int .u8 0), (.int .u8 0), (.int .u8 0), (.int .u8 0), (.int .u8 0), (.int .u8 0), (.int .u8 0), (.int .u8 0), (.int .u8 0), (.int .u8 0), (.int .u8 0), (.int .u8 0), (.int .u8 0), (.int .u8 0), (.int .u8 0), (.int .u8 0), (.int .u8 0), (.int .u8 0), (.int .u8 0), (.int .u8 0), (.int .u8 0), (.int .u8 0), (.int .u8 0), (.int .u8 0), (.int .u8 0), (.int .u8 0), (.int .u8 0), (.int .u8 0), (.int .u8 0), (.int .u8 0), (.int .u8 0), (.int .u8 0), (.int .u8 0), (.int .u8 0), (.int .u8 0), (.int .u8 0), (.int .u8 0), (.int .u8 0), (.int .u8 0), (.int .u8 0), (.int .u8 0), (.int .u8 0), (.int .u8 0), (.int .u8 0), (.int .u8 0), (.int .u8 0), (.int .u8 0), (.int .u8 0), (.int .u8 0), (.int .u8 0), (.int .u8 0), (.int .u8 0)]) 255 255 := ty_of (by kernel_rfl)
theorem ty185 : Ty Tryz.prog 185 (.int .u8 0) 1 1 := ty_of (by kernel_rfl)
theorem ty186 : Ty Tryz.prog 186 (.int .u16 0) 1 2 := ty_of (by kernel_rfl)
theorem conc5 : Conc Tryz.prog 5 := ⟨_, Tryz.underlying5, by simp⟩
theorem conc185 : Conc Tryz.prog 185 := ⟨_, Tryz.underlying185, by simp⟩
theorem conc186 : Conc Tryz.prog 186 := ⟨_, Tryz.underlying186, by simp⟩
theorem fld174_0 : Fld Tryz.prog 174 0 0 5 := fld_of Tryz.underlying174 rfl rfl rfl ty5 (by decide)
theorem fld174_1 : Fld Tryz.prog 174 1 1 172 := fld_of Tryz.underlying174 rfl rfl rfl ty172 (by decide)
theorem fld224_0 : Fld Tryz.prog 224 0 0 185 := fld_of Tryz.underlying224 rfl rfl rfl ty185 (by decide)
theorem fld224_1 : Fld Tryz.prog 224 1 1 186 := fld_of Tryz.underlying224 rfl rfl rfl ty186 (by decide)
theorem be1 (b : UInt8) : be 1 (b.toNat : Int) = [b] := by
 have e : beB 0 (b.toNat : Int) = b := by
  apply UInt8.toNat_inj.1
  have h := beB_nat 0 (b.toNat : Int)
  have := b.toNat_lt
  simp at h
  omega
 show [beB 0 _] = [b]
 rw [e]
theorem ok1 {a : Num} (h : a.ok) : ∀ d ∈ [a], d.ok := fun d hd => by rw [List.mem_singleton] at hd; subst hd; exact h
theorem ok2 {a b : Num} (h : a.ok) (h2 : b.ok) : ∀ d ∈ [a, b], d.ok := fun d hd => by
 rcases List.mem_cons.1 hd with rfl | hd
 ·exact h
 ·exact ok1 h2 d hd
theorem okT (x : Int) : Num.ok ⟨185, .u8, 1, x⟩ := by simp [Num.ok, Num.kinds]
theorem okB (x : Int) : Num.ok ⟨5, .u8, 1, x⟩ := by simp [Num.ok, Num.kinds]
theorem bytesN1 (k : TypeId) (ik : IntKind) (b : UInt8) : bytesN [⟨k, ik, 1, (b.toNat : Int)⟩] = [b] := by simp [bytesN, be1]
theorem bytesN2 (k : TypeId) (ik : IntKind) (b : UInt8) (d : Num) : bytesN [⟨k, ik, 1, (b.toNat : Int)⟩, d] = b :: be d.w d.x := by simp [bytesN, be1]
abbrev Then (Wt : List UInt8 → Hp → Prop) (acc : List UInt8) (R : List Hp) (w : Value) (Hs : List Hp) : Prop := ∃ G2, w = .nilIface ∧ Hs = G2 :: R ∧ Wt acc G2
theorem nameEnc (base : Nat) (k : TypeId) (r : Value) (f : FuncId) (Wt : List UInt8 → Hp → Prop) (hW : Wr base k r f Wt) (acc0 : List UInt8) (G : Hp) (hG : Wt acc0 G) (b0 : UInt8) (nm : List UInt8) (hnm : nm.length = 255) (hal : acc0.length ≤ 290000) : FnW Tryz.prog 76 [.agg (bytesV (b0 :: nm)).toArray, .iface k r] base [G] (Then Wt (acc0 ++ (b0 :: nm.take b0.toNat)) []) := by
 have hb8 := b0.toNat_lt
 refine FnW.enter (n := 30) Tryz.func76 rfl rfl fun w0 R0 hbase => ?_
 subst hbase
 show WC _ _ _ _ _ _ _ ([G, R0])
 refine WC.sub (fr' := [(0, _), (1, _)]) ?_ ⟨rfl, rfl, trivial⟩
 refine WC.seq (WC.region ?_)
 refine WL.box rfl rfl rfl fun hb hhb => ?_
 refine WL.asB (b0 :: nm) rfl ?_
 refine WL.q (oq_assign rfl) rfl rfl rfl ?_
 refine WL.nil (WE.then_normal (WC.sub (fr' := [(1, _), (2, _)]) ?_ ⟨rfl, rfl, trivial⟩))
 refine WC.seq (WC.seq (WC.region ?_))
 refine WL.q (oq_move rfl) rfl rfl rfl ?_
 refine WL.q (oq_fieldAddr fld174_0 rfl) rfl rfl rfl ?_
 refine WL.q (oq_load flat5 rfl (.head _) (List.mem_singleton.2 rfl) rfl) rfl rfl rfl ?_
 refine WL.q (oq_makeI conc5 rfl) rfl rfl rfl ?_
 refine WL.buildL Tryz.underlying184 ty20 rfl rfl (by decide) (by decide) rfl rfl rfl fun v1 A1 ho1 hne1 => ?_
 refine WL.f2 ?_
 refine WL.f1 ?_
 refine WL.callW2 (zzWrite _ k r f Wt hW acc0 G hG v1 A1 [⟨5, .u8, 1, (b0.toNat : Int)⟩] ho1.rd (ok1 (okB _)) (by simp) (by simp; omega)) call70 rfl rfl rfl fun v1_5 Hs1_5 hR1_5 => ?_
 obtain ⟨G2, rfl, rfl, hG2⟩ := hR1_5
 rw [bytesN1] at hG2
 refine WL.to2 ?_
 refine WL.q (oq_assign rfl) rfl rfl rfl ?_
 refine WL.nil (WE.then_normal (WC.sub (fr' := [(1, _), (2, _), (5, _)]) ?_ ⟨rfl, rfl, rfl, trivial⟩))
 refine WC.seq (WC.region ?_)
 refine WL.q (oq_move rfl) rfl rfl rfl ?_
 refine WL.q (oq_ineq Tryz.underlying99 rfl (.inl rfl)) rfl rfl rfl ?_
 refine WL.nil (WE.then_normal (WC.sub (fr' := [(1, _), (2, _), (5, _), (15, _)]) ?_ ⟨rfl, rfl, rfl, rfl, trivial⟩))
 refine WC.cond rfl (fun q2 => ?_) (fun q2 => ?_)
 ·
  try simp only [Z1, Z2, Z3, Z4, Z5, Z6, Z7, Z8, Z9, Z0] at q2
  first | contradiction | (exfalso; omega) | (exfalso; simp_all; done)
 ·
  try simp only [Z1, Z2, Z3, Z4, Z5, Z6, Z7, Z8, Z9, Z0] at q2
  refine WC.skip (WE.then_normal (WC.sub (fr' := [(1, _), (2, _)]) ?_ ⟨rfl, rfl, trivial⟩))
  refine WC.seq ?_
  have hnl : (nm.take b0.toNat).length = b0.toNat := by rw [List.length_take]; omega
  have hrd : RdS 1 (Sl hb (0 + 1 + 0) (b0.toNat - 0) (255 - 0)) (Bf hb 174 (b0 :: nm)) (nm.take b0.toNat).length (bytesV (nm.take b0.toNat)) := by
   rw [hnl]; exact Sl.rd (b := hb) (off := 1) (n := b0.toNat) (c := 255) (e := 174) (l := b0 :: nm) (by rw [List.length_cons]; omega) (by omega)
  refine WC.tailM (pl := []) (ql := [_, _, _, _, _, _, _, _]) (tl := [_, _, _, _, _, _]) [] [0, 1, 2, 3, 4, 5, 6, 7] 8 [9, 10, 11, 12, 13] (by kernel_rfl) (by kernel_rfl) (by kernel_rfl) (by kernel_rfl) (by kernel_rfl) (by kernel_rfl) (by decide) rfl rfl rfl (by decide) (by repeat (first | with_reducible exact QOk.body | with_reducible apply QOk.then | with_reducible apply QOk.block | exact QOk.body | apply QOk.then | apply QOk.block)) ?_
  refine WM.nil ?_
  refine WY.q (oq_move rfl) rfl rfl rfl ?_
  refine WY.q (oq_fieldAddr fld174_1 rfl) rfl rfl rfl ?_
  refine WY.q (oq_fieldAddr fld174_0 rfl) rfl rfl rfl ?_
  refine WY.q (oq_load flat5 rfl (.tail _ (.tail _ (.head _))) (List.mem_singleton.2 rfl) rfl) rfl rfl rfl ?_
  refine WY.q (oq_sliceArr (j := b0.toNat) Tryz.underlying172 ty5 rfl rfl ⟨_, rfl⟩ (by omega) (by omega)) rfl rfl rfl ?_
  refine WY.q (oq_makeMeth rfl) rfl rfl rfl ?_
  refine WY.q (oq_nilMeth rfl (hW.nok)) rfl rfl rfl ?_
  refine WY.q (oq_move rfl) rfl rfl rfl ?_
  refine WY.nil ?_
  refine WL.f2 ?_
  refine WL.f2 ?_
  refine WL.callWE (fun a w hf => ent_inv1 hW.inv rfl rfl hf w) (hW.run _ G2 _ (Bf hb 174 (b0 :: nm)) (nm.take b0.toNat) hG2 hrd (by rw [List.length_append]; simp only [List.length_singleton]; omega) (by rw [List.length_append]; simp only [List.length_singleton]; omega)) rfl rfl rfl rfl fun v4_8 Hs4_8 hR4_8 => ?_
  obtain ⟨G3, rfl, rfl, hG3⟩ := hR4_8
  refine WL.app2 ?_
  refine WL.q (oq_move rfl) rfl rfl rfl ?_
  refine WL.q (oq_extract rfl rfl) rfl rfl rfl ?_
  refine WL.q (oq_extract rfl rfl) rfl rfl rfl ?_
  refine WL.q (oq_assign rfl) rfl rfl rfl ?_
  refine WL.q (oq_assign rfl) rfl rfl rfl ?_
  refine WL.nil (WE.then_normal (WC.sub (fr' := [(7, _)]) ?_ ⟨rfl, trivial⟩))
  refine WC.seq (WC.region ?_)
  refine WL.q (oq_move rfl) rfl rfl rfl ?_
  refine WL.q (oq_assign rfl) rfl rfl rfl ?_
  refine WL.nil (WE.then_normal (WC.sub (fr' := [(4, _)]) ?_ ⟨rfl, trivial⟩))
  refine WC.ret ?_
  refine WE.f1 ?_
  refine WE.lose hhb ?_
  refine WE.f1 ?_
  refine WE.forget ho1.fresh ?_
  refine WE.endW1 (.inl rfl) (res1 Tryz.results76 rfl) ?_
  exact ⟨_, rfl, rfl, by rw [List.append_assoc] at hG3; exact hG3⟩
theorem encScalar (base : Nat) (k : TypeId) (r : Value) (f : FuncId) (Wt : List UInt8 → Hp → Prop) (hW : Wr base k r f Wt) (acc0 : List UInt8) (G : Hp) (hG : Wt acc0 G) (t : UInt8) (l1 l2 : Value) (d : Num) (hd : d.ok) (hal : acc0.length ≤ 290000) : FnW Tryz.prog 162 [.agg #[.int .u8 (t.toNat : Int), l1, l2], .iface k r, d.val] base [G] (Then Wt (acc0 ++ (t :: be d.w d.x)) []) := by
 refine FnW.enter (n := 14) Tryz.func162 rfl rfl fun w0 R0 hbase => ?_
 subst hbase
 show WC _ _ _ _ _ _ _ ([G, R0])
 refine WC.sub (fr' := [(0, _), (1, _), (2, _)]) ?_ ⟨rfl, rfl, rfl, trivial⟩
 refine WC.seq (WC.region ?_)
 refine WL.box rfl rfl rfl fun b0_0 hb0_0 => ?_
 refine WL.q (oq_assign rfl) rfl rfl rfl ?_
 refine WL.nil (WE.then_normal (WC.sub (fr' := [(1, _), (2, _), (3, _)]) ?_ ⟨rfl, rfl, rfl, trivial⟩))
 refine WC.seq (WC.region ?_)
 refine WL.q (oq_move rfl) rfl rfl rfl ?_
 refine WL.q (oq_fieldAddr fld224_0 rfl) rfl rfl rfl ?_
 refine WL.q (oq_load flat185 rfl (.head _) (List.mem_singleton.2 rfl) rfl) rfl rfl rfl ?_
 refine WL.q (oq_makeI conc185 rfl) rfl rfl rfl ?_
 refine WL.q (oq_move rfl) rfl rfl rfl ?_
 refine WL.buildL Tryz.underlying184 ty20 rfl rfl (by decide) (by decide) rfl rfl rfl fun v1 A1 ho1 hne1 => ?_
 refine WL.f2 ?_
 refine WL.f1 ?_
 refine WL.callW2 (zzWrite _ k r f Wt hW acc0 G hG v1 A1 [⟨185, .u8, 1, (t.toNat : Int)⟩, d] ho1.rd (ok2 (okT _) hd) (by simp) (by simp; omega)) call70 rfl rfl rfl fun v1_6 Hs1_6 hR1_6 => ?_
 obtain ⟨G2, rfl, rfl, hG2⟩ := hR1_6
 rw [bytesN2] at hG2
 refine WL.to2 ?_
 refine WL.q (oq_assign rfl) rfl rfl rfl ?_
 refine WL.nil (WE.then_normal (WC.sub (fr' := [(6, _)]) ?_ ⟨rfl, trivial⟩))
 refine WC.ret ?_
 refine WE.forget ho1.fresh ?_
 refine WE.f1 ?_
 refine WE.lose hb0_0 ?_
 refine WE.endW1 (.inl rfl) (res1 Tryz.results162 rfl) ?_
 exact ⟨_, rfl, rfl, hG2⟩
theorem encBytes (base : Nat) (k : TypeId) (r : Value) (f : FuncId) (Wt : List UInt8 → Hp → Prop) (hW : Wr base k r f Wt) (acc0 : List UInt8) (G : Hp) (hG : Wt acc0 G) (t : UInt8) (l1 l2 : Value) (s : Value) (Z : Hp) (data : List UInt8) (hr : RdS 1 s Z data.length (bytesV data)) (hdl : data.length ≤ 32767) (hal : acc0.length ≤ 250000) : FnW Tryz.prog 179 [.agg #[.int .u8 (t.toNat : Int), l1, l2], .iface k r, s] base [G, Z] (Then Wt (acc0 ++ (t :: be 2 data.length ++ data)) [Z]) := by
 refine FnW.enter (n := 40) Tryz.func179 rfl rfl fun w0 R0 hbase => ?_
 subst hbase
 show WC _ _ _ _ _ _ _ ([G, Z, R0])
 refine WC.sub (fr' := [(0, _), (1, _), (2, _)]) ?_ ⟨rfl, rfl, rfl, trivial⟩
 refine WC.seq (WC.region ?_)
 refine WL.box rfl rfl rfl fun b0_0 hb0_0 => ?_
 refine WL.q (oq_assign rfl) rfl rfl rfl ?_
 refine WL.nil (WE.then_normal (WC.sub (fr' := [(1, _), (2, _), (3, _)]) ?_ ⟨rfl, rfl, rfl, trivial⟩))
 refine WC.seq (WC.seq (WC.region ?_))
 refine WL.q (oq_move rfl) rfl rfl rfl ?_
 refine WL.q (oq_len_rd hr Tryz.underlying28 rfl) rfl rfl rfl ?_
 refine WL.q (oq_gtr rfl rfl) rfl rfl rfl ?_
 refine WL.nil (WE.then_normal (WC.sub (fr' := [(1, _), (2, _), (3, _), (10, _)]) ?_ ⟨rfl, rfl, rfl, rfl, trivial⟩))
 refine WC.cond rfl (fun q1 => ?_) (fun q1 => ?_)
 ·
  try simp only [Z1, Z2, Z3, Z4, Z5, Z6, Z7, Z8, Z9, Z0] at q1
  first | contradiction | (exfalso; omega) | (exfalso; simp_all; done)
 ·
  try simp only [Z1, Z2, Z3, Z4, Z5, Z6, Z7, Z8, Z9, Z0] at q1
  refine WC.skip (WE.then_normal (WC.sub (fr' := [(1, _), (2, _), (3, _)]) ?_ ⟨rfl, rfl, rfl, trivial⟩))
  refine WC.seq (WC.region ?_)
  refine WL.q (oq_move rfl) rfl rfl rfl ?_
  refine WL.q (oq_len_rd hr Tryz.underlying28 rfl) rfl rfl rfl ?_
  refine WL.q (oq_conv Tryz.underlying3 Tryz.underlying186 rfl (by rw [u16_lo, u16_hi]; (first | omega | (simp only [List.length_cons, List.length_nil, List.length_append, List.length_drop, List.length_take]; omega)))) rfl rfl rfl ?_
  refine WL.q (oq_fieldAddr fld224_1 rfl) rfl rfl rfl ?_
  refine WL.store1 #[_, _, _] ty186 rfl rfl (by first | rfl | exact OwS.one one_) (Nat.lt_of_lt_of_le (Nat.lt_succ_self _) (Nat.le_of_ble_eq_true rfl)) rfl rfl ?_
  refine WL.nil (WE.then_normal (WC.sub (fr' := [(1, _), (2, _), (3, _)]) ?_ ⟨rfl, rfl, rfl, trivial⟩))
  refine WC.seq (WC.region ?_)
  refine WL.q (oq_move rfl) rfl rfl rfl ?_
  refine WL.q (oq_fieldAddr fld224_0 rfl) rfl rfl rfl ?_
  refine WL.q (oq_load flat185 rfl (.head _) (List.mem_singleton.2 rfl) rfl) rfl rfl rfl ?_
  refine WL.q (oq_makeI conc185 rfl) rfl rfl rfl ?_
  refine WL.q (oq_fieldAddr fld224_1 rfl) rfl rfl rfl ?_
  refine WL.q (oq_load flat186 rfl (.head _) (List.mem_singleton.2 rfl) rfl) rfl rfl rfl ?_
  refine WL.q (oq_makeI conc186 rfl) rfl rfl rfl ?_
  refine WL.buildL Tryz.underlying184 ty20 rfl rfl (by decide) (by decide) rfl rfl rfl fun v4 A4 ho4 hne4 => ?_
  refine WL.f2 ?_
  refine WL.f1 ?_
  refine WL.callW2 (zzWrite _ k r f Wt hW acc0 G hG v4 A4 [⟨185, .u8, 1, (t.toNat : Int)⟩, ⟨186, .u16, 2, (data.length : Int)⟩] ho4.rd (ok2 (okT _) (by simp [Num.ok, Num.kinds])) (by simp) (by simp; omega)) call70 rfl rfl rfl fun v4_8 Hs4_8 hR4_8 => ?_
  obtain ⟨G2, rfl, rfl, hG2⟩ := hR4_8
  rw [bytesN2] at hG2
  refine WL.to2 ?_
  refine WL.q (oq_assign rfl) rfl rfl rfl ?_
  refine WL.nil (WE.then_normal (WC.sub (fr' := [(1, _), (2, _), (7, _)]) ?_ ⟨rfl, rfl, rfl, trivial⟩))
  refine WC.seq (WC.seq (WC.region ?_))
  refine WL.q (oq_move rfl) rfl rfl rfl ?_
  refine WL.q (oq_ineq Tryz.underlying99 rfl (.inl rfl)) rfl rfl rfl ?_
  refine WL.nil (WE.then_normal (WC.sub (fr' := [(1, _), (2, _), (7, _), (31, _)]) ?_ ⟨rfl, rfl, rfl, rfl, trivial⟩))
  refine WC.cond rfl (fun q5 => ?_) (fun q5 => ?_)
  ·
   try simp only [Z1, Z2, Z3, Z4, Z5, Z6, Z7, Z8, Z9, Z0] at q5
   first | contradiction | (exfalso; omega) | (exfalso; simp_all; done)
  ·
   try simp only [Z1, Z2, Z3, Z4, Z5, Z6, Z7, Z8, Z9, Z0] at q5
   refine WC.skip (WE.then_normal (WC.sub (fr' := [(1, _), (2, _)]) ?_ ⟨rfl, rfl, trivial⟩))
   refine WC.seq (WC.region ?_)
   refine WL.q (oq_move rfl) rfl rfl rfl ?_
   refine WL.q (oq_move rfl) rfl rfl rfl ?_
   refine WL.f3 ?_
   refine WL.f2 ?_
   refine WL.callWE (fun a w hf => ent_inv1 hW.inv rfl rfl hf w) (hW.run _ G2 s Z data hG2 hr (by simp [be_len]; omega) (by simp; omega)) rfl rfl rfl rfl fun v7_2 Hs7_2 hR7_2 => ?_
   obtain ⟨G3, rfl, rfl, hG3⟩ := hR7_2
   refine WL.app2 ?_
   refine WL.q (oq_move rfl) rfl rfl rfl ?_
   refine WL.q (oq_extract rfl rfl) rfl rfl rfl ?_
   refine WL.q (oq_extract rfl rfl) rfl rfl rfl ?_
   refine WL.q (oq_assign rfl) rfl rfl rfl ?_
   refine WL.nil (WE.then_normal (WC.sub (fr' := [(7, _)]) ?_ ⟨rfl, trivial⟩))
   refine WC.seq (WC.region ?_)
   refine WL.q (oq_move rfl) rfl rfl rfl ?_
   refine WL.q (oq_assign rfl) rfl rfl rfl ?_
   refine WL.nil (WE.then_normal (WC.sub (fr' := [(6, _)]) ?_ ⟨rfl, trivial⟩))
   refine WC.ret ?_
   refine WE.f2 ?_
   refine WE.forget ho4.fresh ?_
   refine WE.f2 ?_
   refine WE.lose hb0_0 ?_
   refine WE.endW2 (.inl rfl) (res1 Tryz.results179 rfl) ?_
   exact ⟨_, rfl, rfl, by rw [List.append_assoc] at hG3; exact hG3⟩
theorem encFixed (base : Nat) (k : TypeId) (r : Value) (f : FuncId) (Wt : List UInt8 → Hp → Prop) (hW : Wr base k r f Wt) (acc0 : List UInt8) (G : Hp) (hG : Wt acc0 G) (t : UInt8) (l1 l2 : Value) (s : Value) (Z : Hp) (data : List UInt8) (hr : RdS 1 s Z data.length (bytesV data)) (hdl : data.length ≤ 32767) (hal : acc0.length ≤ 250000) : FnW Tryz.prog 195 [.agg #[.int .u8 (t.toNat : Int), l1, l2], .iface k r, s] base [G, Z] (Then Wt (acc0 ++ (t :: data)) [Z]) := by
 refine FnW.enter (n := 22) Tryz.func195 rfl rfl fun w0 R0 hbase => ?_
 subst hbase
 show WC _ _ _ _ _ _ _ ([G, Z, R0])
 refine WC.sub (fr' := [(0, _), (1, _), (2, _)]) ?_ ⟨rfl, rfl, rfl, trivial⟩
 refine WC.seq (WC.region ?_)
 refine WL.box rfl rfl rfl fun b0_0 hb0_0 => ?_
 refine WL.q (oq_assign rfl) rfl rfl rfl ?_
 refine WL.nil (WE.then_normal (WC.sub (fr' := [(1, _), (2, _), (3, _)]) ?_ ⟨rfl, rfl, rfl, trivial⟩))
 refine WC.seq (WC.region ?_)
 refine WL.q (oq_move rfl) rfl rfl rfl ?_
 refine WL.q (oq_fieldAddr fld224_0 rfl) rfl rfl rfl ?_
 refine WL.q (oq_load flat185 rfl (.head _) (List.mem_singleton.2 rfl) rfl) rfl rfl rfl ?_
 refine WL.q (oq_makeI conc185 rfl) rfl rfl rfl ?_
 refine WL.buildL Tryz.underlying184 ty20 rfl rfl (by decide) (by decide) rfl rfl rfl fun v1 A1 ho1 hne1 => ?_
 refine WL.f2 ?_
 refine WL.f1 ?_
 refine WL.callW2 (zzWrite _ k r f Wt hW acc0 G hG v1 A1 [⟨185, .u8, 1, (t.toNat : Int)⟩] ho1.rd (ok1 (okT _)) (by simp) (by simp; omega)) call70 rfl rfl rfl fun v1_5 Hs1_5 hR1_5 => ?_
 obtain ⟨G2, rfl, rfl, hG2⟩ := hR1_5
 rw [bytesN1] at hG2
 refine WL.to2 ?_
 refine WL.nil (WE.then_normal (WC.sub (fr' := [(1, _), (2, _)]) ?_ ⟨rfl, rfl, trivial⟩))
 refine WC.seq (WC.region ?_)
 refine WL.q (oq_move rfl) rfl rfl rfl ?_
 refine WL.q (oq_move rfl) rfl rfl rfl ?_
 refine WL.f3 ?_
 refine WL.f2 ?_
 refine WL.callWE (fun a w hf => ent_inv1 hW.inv rfl rfl hf w) (hW.run _ G2 s Z data hG2 hr (by simp; omega) (by simp; omega)) rfl rfl rfl rfl fun v2_2 Hs2_2 hR2_2 => ?_
 obtain ⟨G3, rfl, rfl, hG3⟩ := hR2_2
 refine WL.app2 ?_
 refine WL.q (oq_move rfl) rfl rfl rfl ?_
 refine WL.q (oq_extract rfl rfl) rfl rfl rfl ?_
 refine WL.q (oq_extract rfl rfl) rfl rfl rfl ?_
 refine WL.q (oq_assign rfl) rfl rfl rfl ?_
 refine WL.q (oq_assign rfl) rfl rfl rfl ?_
 refine WL.nil (WE.then_normal (WC.sub (fr' := [(8, _)]) ?_ ⟨rfl, trivial⟩))
 refine WC.seq (WC.region ?_)
 refine WL.q (oq_move rfl) rfl rfl rfl ?_
 refine WL.q (oq_assign rfl) rfl rfl rfl ?_
 refine WL.nil (WE.then_normal (WC.sub (fr' := [(6, _)]) ?_ ⟨rfl, trivial⟩))
 refine WC.ret ?_
 refine WE.f2 ?_
 refine WE.forget ho1.fresh ?_
 refine WE.f2 ?_
 refine WE.lose hb0_0 ?_
 refine WE.endW2 (.inl rfl) (res1 Tryz.results195 rfl) ?_
 exact ⟨_, rfl, rfl, by rw [List.append_assoc] at hG3; exact hG3⟩
theorem invBS : Inv1 Tryz.prog 107 "WriteString" 205 := fun x a w => by kernel_rfl
theorem askBS : AskYes Tryz.prog 107 285 := fun x u w => by kernel_rfl
theorem bufWrS (base bb : Nat) (acc : List UInt8) (G : Hp) (data : List UInt8) (hG : BufG base bb acc G) (hl : acc.length + data.length ≤ 400000) (h0 : 0 < acc.length + data.length) :
  FnW Tryz.prog 205 [Pt bb 0, S data] base [G] (fun w Hs => ∃ G', w = .tuple #[I (data.length : Int), .nilIface] ∧ Hs = [G'] ∧ BufG base bb (acc ++ data) G') := by
 obtain ⟨v, lr, A, rfl, hb⟩ := hG
 intro w0 R0 w hbase hw
 refine (bufWriteS base bb lr v A acc data hb (by omega) h0 w0 R0 w hbase (by simpa using hw)).mono ?_
 rintro e w' ⟨u, Hs, he, ⟨v2, A2, rfl, rfl, hb2⟩, hst⟩
 exact ⟨_, [BB bb v2 0 ++ A2], he, ⟨_, rfl, rfl, v2, 0, A2, rfl, hb2⟩, by simpa using hst⟩
theorem encString (base bb : Nat) (acc0 : List UInt8) (G : Hp) (hG : BufG base bb acc0 G) (t : UInt8) (l1 l2 : Value) (data : List UInt8) (hdl : data.length ≤ 32767) (hal : acc0.length ≤ 250000) : FnW Tryz.prog 184 [.agg #[.int .u8 (t.toNat : Int), l1, l2], .iface 107 (Pt bb 0), S data] base [G] (Then (BufG base bb) (acc0 ++ (t :: be 2 data.length ++ data)) []) := by
 refine FnW.enter (n := 55) Tryz.func184 rfl rfl fun w0 R0 hbase => ?_
 subst hbase
 show WC _ _ _ _ _ _ _ ([G, R0])
 refine WC.sub (fr' := [(0, _), (1, _), (2, _)]) ?_ ⟨rfl, rfl, rfl, trivial⟩
 refine WC.seq (WC.region ?_)
 refine WL.box rfl rfl rfl fun b0_0 hb0_0 => ?_
 refine WL.q (oq_assign rfl) rfl rfl rfl ?_
 refine WL.nil (WE.then_normal (WC.sub (fr' := [(1, _), (2, _), (3, _)]) ?_ ⟨rfl, rfl, rfl, trivial⟩))
 refine WC.seq (WC.seq (WC.region ?_))
 refine WL.q (oq_move rfl) rfl rfl rfl ?_
 refine WL.q (oq_len_s Tryz.underlying9 rfl) rfl rfl rfl ?_
 refine WL.q (oq_gtr rfl rfl) rfl rfl rfl ?_
 refine WL.nil (WE.then_normal (WC.sub (fr' := [(1, _), (2, _), (3, _), (12, _)]) ?_ ⟨rfl, rfl, rfl, rfl, trivial⟩))
 refine WC.cond rfl (fun q1 => ?_) (fun q1 => ?_)
 ·
  try simp only [Z1, Z2, Z3, Z4, Z5, Z6, Z7, Z8, Z9, Z0] at q1
  first | contradiction | (exfalso; omega) | (exfalso; simp_all; done)
 ·
  try simp only [Z1, Z2, Z3, Z4, Z5, Z6, Z7, Z8, Z9, Z0] at q1
  refine WC.skip (WE.then_normal (WC.sub (fr' := [(1, _), (2, _), (3, _)]) ?_ ⟨rfl, rfl, rfl, trivial⟩))
  refine WC.seq (WC.region ?_)
  refine WL.q (oq_move rfl) rfl rfl rfl ?_
  refine WL.q (oq_len_s Tryz.underlying9 rfl) rfl rfl rfl ?_
  refine WL.q (oq_conv Tryz.underlying3 Tryz.underlying186 rfl (by rw [u16_lo, u16_hi]; (first | omega | (simp only [List.length_cons, List.length_nil, List.length_append, List.length_drop, List.length_take]; omega)))) rfl rfl rfl ?_
  refine WL.q (oq_fieldAddr fld224_1 rfl) rfl rfl rfl ?_
  refine WL.store1 #[_, _, _] ty186 rfl rfl (by first | rfl | exact OwS.one one_) (Nat.lt_of_lt_of_le (Nat.lt_succ_self _) (Nat.le_of_ble_eq_true rfl)) rfl rfl ?_
  refine WL.nil (WE.then_normal (WC.sub (fr' := [(1, _), (2, _), (3, _)]) ?_ ⟨rfl, rfl, rfl, trivial⟩))
  refine WC.seq (WC.region ?_)
  refine WL.q (oq_move rfl) rfl rfl rfl ?_
  refine WL.q (oq_fieldAddr fld224_0 rfl) rfl rfl rfl ?_
  refine WL.q (oq_load flat185 rfl (.head _) (List.mem_singleton.2 rfl) rfl) rfl rfl rfl ?_
  refine WL.q (oq_makeI conc185 rfl) rfl rfl rfl ?_
  refine WL.q (oq_fieldAddr fld224_1 rfl) rfl rfl rfl ?_
  refine WL.q (oq_load flat186 rfl (.head _) (List.mem_singleton.2 rfl) rfl) rfl rfl rfl ?_
  refine WL.q (oq_makeI conc186 rfl) rfl rfl rfl ?_
  refine WL.buildL Tryz.underlying184 ty20 rfl rfl (by decide) (by decide) rfl rfl rfl fun v4 A4 ho4 hne4 => ?_
  refine WL.f2 ?_
  refine WL.f1 ?_
  refine WL.callW2 (zzWrite _ _ _ _ _ (bufWr _ bb) acc0 G hG v4 A4 [⟨185, .u8, 1, (t.toNat : Int)⟩, ⟨186, .u16, 2, (data.length : Int)⟩] ho4.rd (ok2 (okT _) (by simp [Num.ok, Num.kinds])) (by simp) (by simp; omega)) call70 rfl rfl rfl fun v4_8 Hs4_8 hR4_8 => ?_
  obtain ⟨G2, rfl, rfl, hG2⟩ := hR4_8
  rw [bytesN2] at hG2
  refine WL.to2 ?_
  refine WL.q (oq_assign rfl) rfl rfl rfl ?_
  refine WL.nil (WE.then_normal (WC.sub (fr' := [(1, _), (2, _), (7, _)]) ?_ ⟨rfl, rfl, rfl, trivial⟩))
  refine WC.seq (WC.seq (WC.region ?_))
  refine WL.q (oq_move rfl) rfl rfl rfl ?_
  refine WL.q (oq_ineq Tryz.underlying99 rfl (.inl rfl)) rfl rfl rfl ?_
  refine WL.nil (WE.then_normal (WC.sub (fr' := [(1, _), (2, _), (7, _), (33, _)]) ?_ ⟨rfl, rfl, rfl, rfl, trivial⟩))
  refine WC.cond rfl (fun q5 => ?_) (fun q5 => ?_)
  ·
   try simp only [Z1, Z2, Z3, Z4, Z5, Z6, Z7, Z8, Z9, Z0] at q5
   first | contradiction | (exfalso; omega) | (exfalso; simp_all; done)
  ·
   try simp only [Z1, Z2, Z3, Z4, Z5, Z6, Z7, Z8, Z9, Z0] at q5
   refine WC.skip (WE.then_normal (WC.sub (fr' := [(1, _), (2, _)]) ?_ ⟨rfl, rfl, trivial⟩))
   refine WC.seq (WC.seq (WC.region ?_))
   refine WL.q (oq_move rfl) rfl rfl rfl ?_
   refine WL.q (oq_askYes askBS rfl) rfl rfl rfl ?_
   refine WL.q (oq_move rfl) rfl rfl rfl ?_
   refine WL.q (oq_extract rfl rfl) rfl rfl rfl ?_
   refine WL.q (oq_extract rfl rfl) rfl rfl rfl ?_
   refine WL.q (oq_assign rfl) rfl rfl rfl ?_
   refine WL.q (oq_assign rfl) rfl rfl rfl ?_
   refine WL.nil (WE.then_normal (WC.sub (fr' := [(1, _), (2, _), (8, _), (9, _)]) ?_ ⟨rfl, rfl, rfl, rfl, trivial⟩))
   refine WC.seq (WC.region ?_)
   refine WL.q (oq_move rfl) rfl rfl rfl ?_
   refine WL.nil (WE.then_normal (WC.sub (fr' := [(1, _), (2, _), (8, _), (40, _)]) ?_ ⟨rfl, rfl, rfl, rfl, trivial⟩))
   refine WC.cond rfl (fun q8 => ?_) (fun q8 => ?_)
   ·
    try simp only [Z1, Z2, Z3, Z4, Z5, Z6, Z7, Z8, Z9, Z0] at q8
    refine WC.region ?_
    refine WL.q (oq_move rfl) rfl rfl rfl ?_
    refine WL.q (oq_move rfl) rfl rfl rfl ?_
    refine WL.f1 ?_
    refine WL.callWE (fun a w hf => ent_inv1 invBS rfl rfl hf w) (bufWrS _ bb _ G2 data hG2 (by simp [be_len]; omega) (by simp; omega)) rfl rfl rfl rfl fun v9_2 Hs9_2 hR9_2 => ?_
    obtain ⟨G3, rfl, rfl, hG3⟩ := hR9_2
    refine WL.app1 ?_
    refine WL.q (oq_move rfl) rfl rfl rfl ?_
    refine WL.q (oq_extract rfl rfl) rfl rfl rfl ?_
    refine WL.q (oq_extract rfl rfl) rfl rfl rfl ?_
    refine WL.q (oq_assign rfl) rfl rfl rfl ?_
    refine WL.nil (WE.then_normal (WC.sub (fr' := [(7, _)]) ?_ ⟨rfl, trivial⟩))
    refine WC.seq (WC.region ?_)
    refine WL.q (oq_move rfl) rfl rfl rfl ?_
    refine WL.q (oq_assign rfl) rfl rfl rfl ?_
    refine WL.nil (WE.then_normal (WC.sub (fr' := [(6, _)]) ?_ ⟨rfl, trivial⟩))
    refine WC.ret ?_
    refine WE.f1 ?_
    refine WE.forget ho4.fresh ?_
    refine WE.f1 ?_
    refine WE.lose hb0_0 ?_
    refine WE.endW1 (.inl rfl) (res1 Tryz.results184 rfl) ?_
    exact ⟨_, rfl, rfl, by rw [List.append_assoc] at hG3; exact hG3⟩
   ·
    try simp only [Z1, Z2, Z3, Z4, Z5, Z6, Z7, Z8, Z9, Z0] at q8
    first | contradiction | (exfalso; omega) | (exfalso; simp_all; done)
end EF
end Go.Proofs.YtodlhaghdplclaaGreatDoor
/- The encodings of values. -/
namespace Go.Proofs.YtodlhaghdplclaaGreatDoor
open Go Go.RowKit V EA EB EC ED EE EF
set_option linter.unusedSimpArgs false
set_option linter.unusedVariables false
set_option maxRecDepth 10000
namespace EG
theorem call70 : Callable Tryz.prog 70 := ⟨_, Tryz.func70, rfl, by kernel_rfl⟩
theorem call157 : Callable Tryz.prog 157 := ⟨_, Tryz.func157, rfl, by kernel_rfl⟩
theorem call161 : Callable Tryz.prog 161 := ⟨_, Tryz.func161, rfl, by kernel_rfl⟩
theorem call162 : Callable Tryz.prog 162 := ⟨_, Tryz.func162, rfl, by kernel_rfl⟩
theorem call166 : Callable Tryz.prog 166 := ⟨_, Tryz.func166, rfl, by kernel_rfl⟩
theorem call170 : Callable Tryz.prog 170 := ⟨_, Tryz.func170, rfl, by kernel_rfl⟩
theorem call174 : Callable Tryz.prog 174 := ⟨_, Tryz.func174, rfl, by kernel_rfl⟩
theorem call178 : Callable Tryz.prog 178 := ⟨_, Tryz.func178, rfl, by kernel_rfl⟩
theorem call179 : Callable Tryz.prog 179 := ⟨_, Tryz.func179, rfl, by kernel_rfl⟩
theorem call183 : Callable Tryz.prog 183 := ⟨_, Tryz.func183, rfl, by kernel_rfl⟩
theorem call184 : Callable Tryz.prog 184 := ⟨_, Tryz.func184, rfl, by kernel_rfl⟩
theorem call194 : Callable Tryz.prog 194 := ⟨_, Tryz.func194, rfl, by kernel_rfl⟩
theorem call195 : Callable Tryz.prog 195 := ⟨_, Tryz.func195, rfl, by kernel_rfl⟩
theorem ty5 : Ty Tryz.prog 5 (.int .u8 0) 1 1 := ty_of (by kernel_rfl)
theorem ty20 : Ty Tryz.prog 20 .nilIface 1 16 := ty_of (by kernel_rfl)
theorem ty137 : Ty Tryz.prog 137 (.agg #[(.int .u8 0), (.int .u8 0), (.int .u8 0), (.int .u8 0), (.int .u8 0), (.int .u8 0), (.int .u8 0), (.int .u8 0), (.int .u8 0), (.int .u8 0), (.int .u8 0), (.int .u8 0), (.int .u8 0), (.int .u8 0), (.int .u8 0), (.int .u8 0)]) 16 16 := ty_of (by kernel_rfl)
theorem ty224 : Ty Tryz.prog 224 (.agg #[(.int .u8 0), (.int .u16 0), (.slice none 0 0)]) 3 32 := ty_of (by kernel_rfl)
theorem conc127 : Conc Tryz.prog 127 := ⟨_, Tryz.underlying127, by simp⟩
theorem conc129 : Conc Tryz.prog 129 := ⟨_, Tryz.underlying129, by simp⟩
theorem conc130 : Conc Tryz.prog 130 := ⟨_, Tryz.underlying130, by simp⟩
theorem conc131 : Conc Tryz.prog 131 := ⟨_, Tryz.underlying131, by simp⟩
theorem conc185 : Conc Tryz.prog 185 := ⟨_, Tryz.underlying185, by simp⟩
theorem agg137 : Agg Tryz.prog 137 := agg_arr Tryz.underlying137
theorem agg224 : Agg Tryz.prog 224 := agg_of Tryz.underlying224
theorem str224 : Str Tryz.prog 224 #[(0, 1), (1, 1), (2, 1)] := ⟨_, Tryz.underlying224, fun w => by kernel_rfl⟩
theorem vtInt8Value (x : Int) : Fn0 Tryz.prog 161 [.int .i8 x] (.int .u8 2) := by
 refine Fn0.enter (n := 3) Tryz.func161 rfl rfl fun w0 => ?_
 refine WC.sub (fr' := []) ?_ trivial
 refine WC.seq (WC.region ?_)
 refine WL.q (oq_assign rfl) rfl rfl rfl ?_
 refine WL.nil (WE.then_normal (WC.sub (fr' := []) ?_ trivial))
 refine WC.seq (WC.region ?_)
 refine WL.q (oq_assign rfl) rfl rfl rfl ?_
 refine WL.nil (WE.then_normal (WC.sub (fr' := [(2, _)]) ?_ ⟨rfl, trivial⟩))
 refine WC.ret ?_
 refine WE.end0 (.inl rfl) (res1 Tryz.results161 rfl) ?_
 rfl
theorem vtInt16Value (x : Int) : Fn0 Tryz.prog 166 [.int .i16 x] (.int .u8 3) := by
 refine Fn0.enter (n := 3) Tryz.func166 rfl rfl fun w0 => ?_
 refine WC.sub (fr' := []) ?_ trivial
 refine WC.seq (WC.region ?_)
 refine WL.q (oq_assign rfl) rfl rfl rfl ?_
 refine WL.nil (WE.then_normal (WC.sub (fr' := []) ?_ trivial))
 refine WC.seq (WC.region ?_)
 refine WL.q (oq_assign rfl) rfl rfl rfl ?_
 refine WL.nil (WE.then_normal (WC.sub (fr' := [(2, _)]) ?_ ⟨rfl, trivial⟩))
 refine WC.ret ?_
 refine WE.end0 (.inl rfl) (res1 Tryz.results166 rfl) ?_
 rfl
theorem vtInt32Value (x : Int) : Fn0 Tryz.prog 170 [.int .i32 x] (.int .u8 4) := by
 refine Fn0.enter (n := 3) Tryz.func170 rfl rfl fun w0 => ?_
 refine WC.sub (fr' := []) ?_ trivial
 refine WC.seq (WC.region ?_)
 refine WL.q (oq_assign rfl) rfl rfl rfl ?_
 refine WL.nil (WE.then_normal (WC.sub (fr' := []) ?_ trivial))
 refine WC.seq (WC.region ?_)
 refine WL.q (oq_assign rfl) rfl rfl rfl ?_
 refine WL.nil (WE.then_normal (WC.sub (fr' := [(2, _)]) ?_ ⟨rfl, trivial⟩))
 refine WC.ret ?_
 refine WE.end0 (.inl rfl) (res1 Tryz.results170 rfl) ?_
 rfl
theorem vtInt64Value (x : Int) : Fn0 Tryz.prog 174 [.int .i64 x] (.int .u8 5) := by
 refine Fn0.enter (n := 3) Tryz.func174 rfl rfl fun w0 => ?_
 refine WC.sub (fr' := []) ?_ trivial
 refine WC.seq (WC.region ?_)
 refine WL.q (oq_assign rfl) rfl rfl rfl ?_
 refine WL.nil (WE.then_normal (WC.sub (fr' := []) ?_ trivial))
 refine WC.seq (WC.region ?_)
 refine WL.q (oq_assign rfl) rfl rfl rfl ?_
 refine WL.nil (WE.then_normal (WC.sub (fr' := [(2, _)]) ?_ ⟨rfl, trivial⟩))
 refine WC.ret ?_
 refine WE.end0 (.inl rfl) (res1 Tryz.results174 rfl) ?_
 rfl
theorem encInt8Value (base : Nat) (k : TypeId) (r : Value) (f : FuncId) (Wt : List UInt8 → Hp → Prop) (hW : Wr base k r f Wt) (acc0 : List UInt8) (G : Hp) (hG : Wt acc0 G) (x : Int) (hal : acc0.length ≤ 290000) : FnW Tryz.prog 160 [.int .i8 x, .iface k r] base [G] (Then Wt (acc0 ++ (2 :: be 1 x)) []) := by
 refine FnW.enter (n := 14) Tryz.func160 rfl rfl fun w0 R0 hbase => ?_
 subst hbase
 show WC _ _ _ _ _ _ _ ([G, R0])
 refine WC.sub (fr' := [(0, _), (1, _)]) ?_ ⟨rfl, rfl, trivial⟩
 refine WC.seq (WC.region ?_)
 refine WL.q (oq_assign rfl) rfl rfl rfl ?_
 refine WL.nil (WE.then_normal (WC.sub (fr' := [(0, _), (1, _)]) ?_ ⟨rfl, rfl, trivial⟩))
 refine WC.seq (WC.region ?_)
 refine WL.q (oq_move rfl) rfl rfl rfl ?_
 refine WL.qc (oq_call (vtInt8Value x) call161 rfl) rfl rfl rfl ?_
 refine WL.q (oq_build #[_, _, _] str224 ty224 rfl rfl) rfl rfl rfl ?_
 refine WL.alloc ty224 rfl rfl fun b1_3 hb1_3 => ?_
 refine WL.storeS #[_, _, _] ty224 rfl rfl rfl rfl (Nat.le_of_ble_eq_true rfl) rfl rfl ?_
 refine WL.nil (WE.then_normal (WC.sub (fr' := [(0, _), (1, _), (5, _)]) ?_ ⟨rfl, rfl, rfl, trivial⟩))
 refine WC.seq (WC.region ?_)
 refine WL.q (oq_loadS [_, _, _] agg224 ty224 rfl (.head _) (List.mem_singleton.2 rfl) rfl rfl) rfl rfl rfl ?_
 refine WL.q (oq_move rfl) rfl rfl rfl ?_
 refine WL.q (oq_move rfl) rfl rfl rfl ?_
 refine WL.q (oq_makeI conc127 rfl) rfl rfl rfl ?_
 refine WL.f1 ?_
 refine WL.callW1 (encScalar _ k r f Wt hW acc0 G hG 2 (.int .u16 0) (.slice none 0 0) ⟨127, .i8, 1, x⟩ (by simp [Num.ok, Num.kinds]) hal) call162 rfl rfl rfl fun v2_4 Hs2_4 hR2_4 => ?_
 obtain ⟨G2, rfl, rfl, hG2⟩ := hR2_4
 refine WL.to1 ?_
 refine WL.q (oq_assign rfl) rfl rfl rfl ?_
 refine WL.nil (WE.then_normal (WC.sub (fr' := [(4, _)]) ?_ ⟨rfl, trivial⟩))
 refine WC.ret ?_
 refine WE.f1 ?_
 refine WE.lose hb1_3 ?_
 refine WE.endW1 (.inl rfl) (res1 Tryz.results160 rfl) ?_
 exact ⟨_, rfl, rfl, hG2⟩
theorem encInt16Value (base : Nat) (k : TypeId) (r : Value) (f : FuncId) (Wt : List UInt8 → Hp → Prop) (hW : Wr base k r f Wt) (acc0 : List UInt8) (G : Hp) (hG : Wt acc0 G) (x : Int) (hal : acc0.length ≤ 290000) : FnW Tryz.prog 165 [.int .i16 x, .iface k r] base [G] (Then Wt (acc0 ++ (3 :: be 2 x)) []) := by
 refine FnW.enter (n := 14) Tryz.func165 rfl rfl fun w0 R0 hbase => ?_
 subst hbase
 show WC _ _ _ _ _ _ _ ([G, R0])
 refine WC.sub (fr' := [(0, _), (1, _)]) ?_ ⟨rfl, rfl, trivial⟩
 refine WC.seq (WC.region ?_)
 refine WL.q (oq_assign rfl) rfl rfl rfl ?_
 refine WL.nil (WE.then_normal (WC.sub (fr' := [(0, _), (1, _)]) ?_ ⟨rfl, rfl, trivial⟩))
 refine WC.seq (WC.region ?_)
 refine WL.q (oq_move rfl) rfl rfl rfl ?_
 refine WL.qc (oq_call (vtInt16Value x) call166 rfl) rfl rfl rfl ?_
 refine WL.q (oq_build #[_, _, _] str224 ty224 rfl rfl) rfl rfl rfl ?_
 refine WL.alloc ty224 rfl rfl fun b1_3 hb1_3 => ?_
 refine WL.storeS #[_, _, _] ty224 rfl rfl rfl rfl (Nat.le_of_ble_eq_true rfl) rfl rfl ?_
 refine WL.nil (WE.then_normal (WC.sub (fr' := [(0, _), (1, _), (5, _)]) ?_ ⟨rfl, rfl, rfl, trivial⟩))
 refine WC.seq (WC.region ?_)
 refine WL.q (oq_loadS [_, _, _] agg224 ty224 rfl (.head _) (List.mem_singleton.2 rfl) rfl rfl) rfl rfl rfl ?_
 refine WL.q (oq_move rfl) rfl rfl rfl ?_
 refine WL.q (oq_move rfl) rfl rfl rfl ?_
 refine WL.q (oq_makeI conc129 rfl) rfl rfl rfl ?_
 refine WL.f1 ?_
 refine WL.callW1 (encScalar _ k r f Wt hW acc0 G hG 3 (.int .u16 0) (.slice none 0 0) ⟨129, .i16, 2, x⟩ (by simp [Num.ok, Num.kinds]) hal) call162 rfl rfl rfl fun v2_4 Hs2_4 hR2_4 => ?_
 obtain ⟨G2, rfl, rfl, hG2⟩ := hR2_4
 refine WL.to1 ?_
 refine WL.q (oq_assign rfl) rfl rfl rfl ?_
 refine WL.nil (WE.then_normal (WC.sub (fr' := [(4, _)]) ?_ ⟨rfl, trivial⟩))
 refine WC.ret ?_
 refine WE.f1 ?_
 refine WE.lose hb1_3 ?_
 refine WE.endW1 (.inl rfl) (res1 Tryz.results165 rfl) ?_
 exact ⟨_, rfl, rfl, hG2⟩
theorem encInt32Value (base : Nat) (k : TypeId) (r : Value) (f : FuncId) (Wt : List UInt8 → Hp → Prop) (hW : Wr base k r f Wt) (acc0 : List UInt8) (G : Hp) (hG : Wt acc0 G) (x : Int) (hal : acc0.length ≤ 290000) : FnW Tryz.prog 169 [.int .i32 x, .iface k r] base [G] (Then Wt (acc0 ++ (4 :: be 4 x)) []) := by
 refine FnW.enter (n := 14) Tryz.func169 rfl rfl fun w0 R0 hbase => ?_
 subst hbase
 show WC _ _ _ _ _ _ _ ([G, R0])
 refine WC.sub (fr' := [(0, _), (1, _)]) ?_ ⟨rfl, rfl, trivial⟩
 refine WC.seq (WC.region ?_)
 refine WL.q (oq_assign rfl) rfl rfl rfl ?_
 refine WL.nil (WE.then_normal (WC.sub (fr' := [(0, _), (1, _)]) ?_ ⟨rfl, rfl, trivial⟩))
 refine WC.seq (WC.region ?_)
 refine WL.q (oq_move rfl) rfl rfl rfl ?_
 refine WL.qc (oq_call (vtInt32Value x) call170 rfl) rfl rfl rfl ?_
 refine WL.q (oq_build #[_, _, _] str224 ty224 rfl rfl) rfl rfl rfl ?_
 refine WL.alloc ty224 rfl rfl fun b1_3 hb1_3 => ?_
 refine WL.storeS #[_, _, _] ty224 rfl rfl rfl rfl (Nat.le_of_ble_eq_true rfl) rfl rfl ?_
 refine WL.nil (WE.then_normal (WC.sub (fr' := [(0, _), (1, _), (5, _)]) ?_ ⟨rfl, rfl, rfl, trivial⟩))
 refine WC.seq (WC.region ?_)
 refine WL.q (oq_loadS [_, _, _] agg224 ty224 rfl (.head _) (List.mem_singleton.2 rfl) rfl rfl) rfl rfl rfl ?_
 refine WL.q (oq_move rfl) rfl rfl rfl ?_
 refine WL.q (oq_move rfl) rfl rfl rfl ?_
 refine WL.q (oq_makeI conc130 rfl) rfl rfl rfl ?_
 refine WL.f1 ?_
 refine WL.callW1 (encScalar _ k r f Wt hW acc0 G hG 4 (.int .u16 0) (.slice none 0 0) ⟨130, .i32, 4, x⟩ (by simp [Num.ok, Num.kinds]) hal) call162 rfl rfl rfl fun v2_4 Hs2_4 hR2_4 => ?_
 obtain ⟨G2, rfl, rfl, hG2⟩ := hR2_4
 refine WL.to1 ?_
 refine WL.q (oq_assign rfl) rfl rfl rfl ?_
 refine WL.nil (WE.then_normal (WC.sub (fr' := [(4, _)]) ?_ ⟨rfl, trivial⟩))
 refine WC.ret ?_
 refine WE.f1 ?_
 refine WE.lose hb1_3 ?_
 refine WE.endW1 (.inl rfl) (res1 Tryz.results169 rfl) ?_
 exact ⟨_, rfl, rfl, hG2⟩
theorem encInt64Value (base : Nat) (k : TypeId) (r : Value) (f : FuncId) (Wt : List UInt8 → Hp → Prop) (hW : Wr base k r f Wt) (acc0 : List UInt8) (G : Hp) (hG : Wt acc0 G) (x : Int) (hal : acc0.length ≤ 290000) : FnW Tryz.prog 173 [.int .i64 x, .iface k r] base [G] (Then Wt (acc0 ++ (5 :: be 8 x)) []) := by
 refine FnW.enter (n := 14) Tryz.func173 rfl rfl fun w0 R0 hbase => ?_
 subst hbase
 show WC _ _ _ _ _ _ _ ([G, R0])
 refine WC.sub (fr' := [(0, _), (1, _)]) ?_ ⟨rfl, rfl, trivial⟩
 refine WC.seq (WC.region ?_)
 refine WL.q (oq_assign rfl) rfl rfl rfl ?_
 refine WL.nil (WE.then_normal (WC.sub (fr' := [(0, _), (1, _)]) ?_ ⟨rfl, rfl, trivial⟩))
 refine WC.seq (WC.region ?_)
 refine WL.q (oq_move rfl) rfl rfl rfl ?_
 refine WL.qc (oq_call (vtInt64Value x) call174 rfl) rfl rfl rfl ?_
 refine WL.q (oq_build #[_, _, _] str224 ty224 rfl rfl) rfl rfl rfl ?_
 refine WL.alloc ty224 rfl rfl fun b1_3 hb1_3 => ?_
 refine WL.storeS #[_, _, _] ty224 rfl rfl rfl rfl (Nat.le_of_ble_eq_true rfl) rfl rfl ?_
 refine WL.nil (WE.then_normal (WC.sub (fr' := [(0, _), (1, _), (5, _)]) ?_ ⟨rfl, rfl, rfl, trivial⟩))
 refine WC.seq (WC.region ?_)
 refine WL.q (oq_loadS [_, _, _] agg224 ty224 rfl (.head _) (List.mem_singleton.2 rfl) rfl rfl) rfl rfl rfl ?_
 refine WL.q (oq_move rfl) rfl rfl rfl ?_
 refine WL.q (oq_move rfl) rfl rfl rfl ?_
 refine WL.q (oq_makeI conc131 rfl) rfl rfl rfl ?_
 refine WL.f1 ?_
 refine WL.callW1 (encScalar _ k r f Wt hW acc0 G hG 5 (.int .u16 0) (.slice none 0 0) ⟨131, .i64, 8, x⟩ (by simp [Num.ok, Num.kinds]) hal) call162 rfl rfl rfl fun v2_4 Hs2_4 hR2_4 => ?_
 obtain ⟨G2, rfl, rfl, hG2⟩ := hR2_4
 refine WL.to1 ?_
 refine WL.q (oq_assign rfl) rfl rfl rfl ?_
 refine WL.nil (WE.then_normal (WC.sub (fr' := [(4, _)]) ?_ ⟨rfl, trivial⟩))
 refine WC.ret ?_
 refine WE.f1 ?_
 refine WE.lose hb1_3 ?_
 refine WE.endW1 (.inl rfl) (res1 Tryz.results173 rfl) ?_
 exact ⟨_, rfl, rfl, hG2⟩
theorem vtBytesValue (s : Value) : Fn0 Tryz.prog 178 [s] (.int .u8 6) := by
 refine Fn0.enter (n := 3) Tryz.func178 rfl rfl fun w0 => ?_
 refine WC.sub (fr' := []) ?_ trivial
 refine WC.seq (WC.region ?_)
 refine WL.q (oq_assign rfl) rfl rfl rfl ?_
 refine WL.nil (WE.then_normal (WC.sub (fr' := []) ?_ trivial))
 refine WC.seq (WC.region ?_)
 refine WL.q (oq_assign rfl) rfl rfl rfl ?_
 refine WL.nil (WE.then_normal (WC.sub (fr' := [(2, _)]) ?_ ⟨rfl, trivial⟩))
 refine WC.ret ?_
 refine WE.end0 (.inl rfl) (res1 Tryz.results178 rfl) ?_
 rfl
theorem encBytesValue (base : Nat) (k : TypeId) (r : Value) (f : FuncId) (Wt : List UInt8 → Hp → Prop) (hW : Wr base k r f Wt) (acc0 : List UInt8) (G : Hp) (hG : Wt acc0 G) (s : Value) (Z : Hp) (data : List UInt8) (hr : RdS 1 s Z data.length (bytesV data)) (hdl : data.length ≤ 32767) (hal : acc0.length ≤ 250000) : FnW Tryz.prog 177 [s, .iface k r] base [G, Z] (Then Wt (acc0 ++ (6 :: be 2 data.length ++ data)) [Z]) := by
 refine FnW.enter (n := 13) Tryz.func177 rfl rfl fun w0 R0 hbase => ?_
 subst hbase
 show WC _ _ _ _ _ _ _ ([G, Z, R0])
 refine WC.sub (fr' := [(0, _), (1, _)]) ?_ ⟨rfl, rfl, trivial⟩
 refine WC.seq (WC.region ?_)
 refine WL.q (oq_assign rfl) rfl rfl rfl ?_
 refine WL.nil (WE.then_normal (WC.sub (fr' := [(0, _), (1, _)]) ?_ ⟨rfl, rfl, trivial⟩))
 refine WC.seq (WC.region ?_)
 refine WL.q (oq_move rfl) rfl rfl rfl ?_
 refine WL.qc (oq_call (vtBytesValue s) call178 rfl) rfl rfl rfl ?_
 refine WL.q (oq_build #[_, _, _] str224 ty224 rfl rfl) rfl rfl rfl ?_
 refine WL.alloc ty224 rfl rfl fun b1_3 hb1_3 => ?_
 refine WL.storeS #[_, _, _] ty224 rfl rfl rfl rfl (Nat.le_of_ble_eq_true rfl) rfl rfl ?_
 refine WL.nil (WE.then_normal (WC.sub (fr' := [(0, _), (1, _), (5, _)]) ?_ ⟨rfl, rfl, rfl, trivial⟩))
 refine WC.seq (WC.region ?_)
 refine WL.q (oq_loadS [_, _, _] agg224 ty224 rfl (.head _) (List.mem_singleton.2 rfl) rfl rfl) rfl rfl rfl ?_
 refine WL.q (oq_move rfl) rfl rfl rfl ?_
 refine WL.q (oq_move rfl) rfl rfl rfl ?_
 refine WL.f2 ?_
 refine WL.f2 ?_
 refine WL.callW2 (encBytes _ k r f Wt hW acc0 G hG 6 (.int .u16 0) (.slice none 0 0) s Z data hr hdl hal) call179 rfl rfl rfl fun v2_3 Hs2_3 hR2_3 => ?_
 obtain ⟨G2, rfl, rfl, hG2⟩ := hR2_3
 refine WL.to2 ?_
 refine WL.q (oq_assign rfl) rfl rfl rfl ?_
 refine WL.nil (WE.then_normal (WC.sub (fr' := [(4, _)]) ?_ ⟨rfl, trivial⟩))
 refine WC.ret ?_
 refine WE.f2 ?_
 refine WE.lose hb1_3 ?_
 refine WE.endW2 (.inl rfl) (res1 Tryz.results177 rfl) ?_
 exact ⟨_, rfl, rfl, hG2⟩
theorem vtStringValue (s : Value) : Fn0 Tryz.prog 183 [s] (.int .u8 7) := by
 refine Fn0.enter (n := 3) Tryz.func183 rfl rfl fun w0 => ?_
 refine WC.sub (fr' := []) ?_ trivial
 refine WC.seq (WC.region ?_)
 refine WL.q (oq_assign rfl) rfl rfl rfl ?_
 refine WL.nil (WE.then_normal (WC.sub (fr' := []) ?_ trivial))
 refine WC.seq (WC.region ?_)
 refine WL.q (oq_assign rfl) rfl rfl rfl ?_
 refine WL.nil (WE.then_normal (WC.sub (fr' := [(2, _)]) ?_ ⟨rfl, trivial⟩))
 refine WC.ret ?_
 refine WE.end0 (.inl rfl) (res1 Tryz.results183 rfl) ?_
 rfl
theorem encStringValue (base bb : Nat) (acc0 : List UInt8) (G : Hp) (hG : BufG base bb acc0 G) (data : List UInt8) (hdl : data.length ≤ 32767) (hal : acc0.length ≤ 250000) : FnW Tryz.prog 182 [S data, .iface 107 (Pt bb 0)] base [G] (Then (BufG base bb) (acc0 ++ (7 :: be 2 data.length ++ data)) []) := by
 refine FnW.enter (n := 13) Tryz.func182 rfl rfl fun w0 R0 hbase => ?_
 subst hbase
 show WC _ _ _ _ _ _ _ ([G, R0])
 refine WC.sub (fr' := [(0, _), (1, _)]) ?_ ⟨rfl, rfl, trivial⟩
 refine WC.seq (WC.region ?_)
 refine WL.q (oq_assign rfl) rfl rfl rfl ?_
 refine WL.nil (WE.then_normal (WC.sub (fr' := [(0, _), (1, _)]) ?_ ⟨rfl, rfl, trivial⟩))
 refine WC.seq (WC.region ?_)
 refine WL.q (oq_move rfl) rfl rfl rfl ?_
 refine WL.qc (oq_call (vtStringValue (S data)) call183 rfl) rfl rfl rfl ?_
 refine WL.q (oq_build #[_, _, _] str224 ty224 rfl rfl) rfl rfl rfl ?_
 refine WL.alloc ty224 rfl rfl fun b1_3 hb1_3 => ?_
 refine WL.storeS #[_, _, _] ty224 rfl rfl rfl rfl (Nat.le_of_ble_eq_true rfl) rfl rfl ?_
 refine WL.nil (WE.then_normal (WC.sub (fr' := [(0, _), (1, _), (5, _)]) ?_ ⟨rfl, rfl, rfl, trivial⟩))
 refine WC.seq (WC.region ?_)
 refine WL.q (oq_loadS [_, _, _] agg224 ty224 rfl (.head _) (List.mem_singleton.2 rfl) rfl rfl) rfl rfl rfl ?_
 refine WL.q (oq_move rfl) rfl rfl rfl ?_
 refine WL.q (oq_move rfl) rfl rfl rfl ?_
 refine WL.f1 ?_
 refine WL.callW1 (encString _ bb acc0 G hG 7 (.int .u16 0) (.slice none 0 0) data hdl hal) call184 rfl rfl rfl fun v2_3 Hs2_3 hR2_3 => ?_
 obtain ⟨G2, rfl, rfl, hG2⟩ := hR2_3
 refine WL.to1 ?_
 refine WL.q (oq_assign rfl) rfl rfl rfl ?_
 refine WL.nil (WE.then_normal (WC.sub (fr' := [(4, _)]) ?_ ⟨rfl, trivial⟩))
 refine WC.ret ?_
 refine WE.f1 ?_
 refine WE.lose hb1_3 ?_
 refine WE.endW1 (.inl rfl) (res1 Tryz.results182 rfl) ?_
 exact ⟨_, rfl, rfl, hG2⟩
theorem vtBoolValue (b : Bool) : Fn0 Tryz.prog 157 [.bool b] (.int .u8 ((if b then 0 else 1 : Nat) : Int)) := by
 refine Fn0.enter (n := 4) Tryz.func157 rfl rfl fun w0 => ?_
 refine WC.sub (fr' := [(0, _)]) ?_ ⟨rfl, trivial⟩
 refine WC.seq (WC.region ?_)
 refine WL.q (oq_assign rfl) rfl rfl rfl ?_
 refine WL.nil (WE.then_normal (WC.sub (fr' := [(0, _)]) ?_ ⟨rfl, trivial⟩))
 refine WC.seq (WC.seq (WC.region ?_))
 refine WL.q (oq_move rfl) rfl rfl rfl ?_
 refine WL.nil (WE.then_normal (WC.sub (fr' := [(3, _)]) ?_ ⟨rfl, trivial⟩))
 refine WC.cond rfl (fun q1 => ?_) (fun q1 => ?_)
 ·
  try simp only [Z1, Z2, Z3, Z4, Z5, Z6, Z7, Z8, Z9, Z0] at q1
  refine WC.seq (WC.region ?_)
  refine WL.q (oq_assign rfl) rfl rfl rfl ?_
  refine WL.nil (WE.then_normal (WC.sub (fr' := [(2, _)]) ?_ ⟨rfl, trivial⟩))
  refine WC.ret (WE.then_ret ?_)
  refine WE.end0 (.inl rfl) (res1 Tryz.results157 rfl) ?_
  rw [q1]; rfl
 ·
  try simp only [Z1, Z2, Z3, Z4, Z5, Z6, Z7, Z8, Z9, Z0] at q1
  refine WC.skip (WE.then_normal (WC.sub (fr' := []) ?_ trivial))
  refine WC.seq (WC.region ?_)
  refine WL.q (oq_assign rfl) rfl rfl rfl ?_
  refine WL.nil (WE.then_normal (WC.sub (fr' := [(2, _)]) ?_ ⟨rfl, trivial⟩))
  refine WC.ret ?_
  refine WE.end0 (.inl rfl) (res1 Tryz.results157 rfl) ?_
  rw [q1]; rfl
theorem encBoolValue (base : Nat) (k : TypeId) (r : Value) (f : FuncId) (Wt : List UInt8 → Hp → Prop) (hW : Wr base k r f Wt) (acc0 : List UInt8) (G : Hp) (hG : Wt acc0 G) (b : Bool) (hal : acc0.length ≤ 290000) : FnW Tryz.prog 156 [.bool b, .iface k r] base [G] (Then Wt (acc0 ++ [(if b then 0 else 1 : UInt8)]) []) := by
 refine FnW.enter (n := 11) Tryz.func156 rfl rfl fun w0 R0 hbase => ?_
 subst hbase
 show WC _ _ _ _ _ _ _ ([G, R0])
 refine WC.sub (fr' := [(0, _), (1, _)]) ?_ ⟨rfl, rfl, trivial⟩
 refine WC.seq (WC.region ?_)
 refine WL.q (oq_assign rfl) rfl rfl rfl ?_
 refine WL.nil (WE.then_normal (WC.sub (fr' := [(0, _), (1, _)]) ?_ ⟨rfl, rfl, trivial⟩))
 refine WC.seq (WC.region ?_)
 refine WL.q (oq_move rfl) rfl rfl rfl ?_
 refine WL.q (oq_move rfl) rfl rfl rfl ?_
 refine WL.qc (oq_call (vtBoolValue b) call157 rfl) rfl rfl rfl ?_
 refine WL.q (oq_makeI conc185 rfl) rfl rfl rfl ?_
 refine WL.buildL Tryz.underlying184 ty20 rfl rfl (by decide) (by decide) rfl rfl rfl fun v1 A1 ho1 hne1 => ?_
 refine WL.f1 ?_
 refine WL.f1 ?_
 refine WL.callW2 (zzWrite _ k r f Wt hW acc0 G hG v1 A1 [⟨185, .u8, 1, ((if b then 0 else 1 : Nat) : Int)⟩] ho1.rd (ok1 (okT _)) (by simp) (by simp; omega)) call70 rfl rfl rfl fun v1_5 Hs1_5 hR1_5 => ?_
 obtain ⟨G2, rfl, rfl, hG2⟩ := hR1_5
 have e1 : bytesN [⟨185, .u8, 1, ((if b then 0 else 1 : Nat) : Int)⟩] = [(if b then 0 else 1 : UInt8)] := by cases b <;> decide
 rw [e1] at hG2
 refine WL.to2 ?_
 refine WL.q (oq_assign rfl) rfl rfl rfl ?_
 refine WL.nil (WE.then_normal (WC.sub (fr' := [(4, _)]) ?_ ⟨rfl, trivial⟩))
 refine WC.ret ?_
 refine WE.forget ho1.fresh ?_
 refine WE.endW1 (.inl rfl) (res1 Tryz.results156 rfl) ?_
 exact ⟨_, rfl, rfl, hG2⟩
theorem vtUUIDValue (l : List UInt8) (hl : l.length = 16) : Fn0 Tryz.prog 194 [.agg (bytesV l).toArray] (.int .u8 9) := by
 refine Fn0.enter (n := 3) Tryz.func194 rfl rfl fun w0 => ?_
 refine WC.sub (fr' := [(0, _)]) ?_ ⟨rfl, trivial⟩
 refine WC.seq (WC.region ?_)
 refine WL.box rfl rfl rfl fun b0_0 hb0_0 => ?_
 refine WL.q (oq_assign rfl) rfl rfl rfl ?_
 refine WL.nil (WE.then_normal (WC.sub (fr' := []) ?_ trivial))
 refine WC.seq (WC.region ?_)
 refine WL.q (oq_assign rfl) rfl rfl rfl ?_
 refine WL.nil (WE.then_normal (WC.sub (fr' := [(2, _)]) ?_ ⟨rfl, trivial⟩))
 refine WC.ret ?_
 refine WE.lose hb0_0 ?_
 refine WE.end0 (.inl rfl) (res1 Tryz.results194 rfl) ?_
 rfl
theorem encUUIDValue (base : Nat) (k : TypeId) (r : Value) (f : FuncId) (Wt : List UInt8 → Hp → Prop) (hW : Wr base k r f Wt) (acc0 : List UInt8) (G : Hp) (hG : Wt acc0 G) (l : List UInt8) (hl : l.length = 16) (hal : acc0.length ≤ 250000) : FnW Tryz.prog 193 [.agg (bytesV l).toArray, .iface k r] base [G] (Then Wt (acc0 ++ (9 :: l)) []) := by
 refine FnW.enter (n := 13) Tryz.func193 rfl rfl fun w0 R0 hbase => ?_
 subst hbase
 show WC _ _ _ _ _ _ _ ([G, R0])
 refine WC.sub (fr' := [(0, _), (1, _)]) ?_ ⟨rfl, rfl, trivial⟩
 refine WC.seq (WC.region ?_)
 refine WL.box rfl rfl rfl fun ub hub => ?_
 refine WL.asB (l) rfl ?_
 refine WL.q (oq_assign rfl) rfl rfl rfl ?_
 refine WL.nil (WE.then_normal (WC.sub (fr' := [(1, _), (2, _)]) ?_ ⟨rfl, rfl, trivial⟩))
 refine WC.seq (WC.region ?_)
 refine WL.q (oq_loadArr agg137 ty137 (hl) rfl (.head _)) rfl rfl rfl ?_
 refine WL.qc (oq_call (vtUUIDValue l hl) call194 rfl) rfl rfl rfl ?_
 refine WL.q (oq_build #[_, _, _] str224 ty224 rfl rfl) rfl rfl rfl ?_
 refine WL.alloc ty224 rfl rfl fun b1_3 hb1_3 => ?_
 refine WL.storeS #[_, _, _] ty224 rfl rfl rfl rfl (Nat.le_of_ble_eq_true rfl) rfl rfl ?_
 refine WL.nil (WE.then_normal (WC.sub (fr' := [(1, _), (2, _), (5, _)]) ?_ ⟨rfl, rfl, rfl, trivial⟩))
 refine WC.seq ?_
 have hrd : RdS 1 (Sl ub 0 16 16) (Bf ub 137 l) l.length (bytesV l) := by
  have h1 := Sl.rd (b := ub) (off := 0) (n := 16) (c := 16) (e := 137) (l := l) (by omega) (by omega)
  rw [List.drop_zero, List.take_of_length_le (by omega)] at h1; rw [hl]; exact h1
 refine WC.tailM (pl := []) (ql := [_, _, _]) (tl := [_, _]) [] [0, 1, 2] 3 [4] (by kernel_rfl) (by kernel_rfl) (by kernel_rfl) (by kernel_rfl) (by kernel_rfl) (by kernel_rfl) (by decide) rfl rfl rfl (by decide) (by repeat (first | with_reducible exact QOk.body | with_reducible apply QOk.then | with_reducible apply QOk.block | exact QOk.body | apply QOk.then | apply QOk.block)) ?_
 refine WM.nil ?_
 refine WY.q (oq_loadS [_, _, _] agg224 ty224 rfl (.head _) (List.mem_singleton.2 rfl) rfl rfl) rfl rfl rfl ?_
 refine WY.q (oq_move rfl) rfl rfl rfl ?_
 refine WY.q (oq_sliceArr Tryz.underlying137 ty5 rfl rfl rfl (by omega) (by omega)) rfl rfl rfl ?_
 refine WY.nil ?_
 refine WL.f1 ?_
 refine WL.f2 ?_
 refine WL.callW2 (encFixed _ k r f Wt hW acc0 G hG 9 (.int .u16 0) (.slice none 0 0) _ (Bf ub 137 l) l hrd (by omega) hal) call195 rfl rfl rfl fun v2_3 Hs2_3 hR2_3 => ?_
 obtain ⟨G2, rfl, rfl, hG2⟩ := hR2_3
 refine WL.to2 ?_
 refine WL.q (oq_assign rfl) rfl rfl rfl ?_
 refine WL.nil (WE.then_normal (WC.sub (fr' := [(4, _)]) ?_ ⟨rfl, trivial⟩))
 refine WC.ret ?_
 refine WE.f1 ?_
 refine WE.lose hub ?_
 refine WE.f1 ?_
 refine WE.lose hb1_3 ?_
 refine WE.endW1 (.inl rfl) (res1 Tryz.results193 rfl) ?_
 exact ⟨_, rfl, rfl, hG2⟩
end EG
end Go.Proofs.YtodlhaghdplclaaGreatDoor
/- Moments. -/
namespace Go.Proofs.YtodlhaghdplclaaGreatDoor
open Go Go.RowKit V EA EB EC ED EE EF EG
set_option linter.unusedSimpArgs false
set_option linter.unusedVariables false
set_option maxRecDepth 10000
namespace EH
theorem call60 : Callable Tryz.prog 60 := ⟨_, Tryz.func60, rfl, by kernel_rfl⟩
theorem call72 : Callable Tryz.prog 72 := ⟨_, Tryz.func72, rfl, by kernel_rfl⟩
theorem call73 : Callable Tryz.prog 73 := ⟨_, Tryz.func73, rfl, by kernel_rfl⟩
theorem call86 : Callable Tryz.prog 86 := ⟨_, Tryz.func86, rfl, by kernel_rfl⟩
theorem call162 : Callable Tryz.prog 162 := ⟨_, Tryz.func162, rfl, by kernel_rfl⟩
theorem call188 : Callable Tryz.prog 188 := ⟨_, Tryz.func188, rfl, by kernel_rfl⟩
theorem call189 : Callable Tryz.prog 189 := ⟨_, Tryz.func189, rfl, by kernel_rfl⟩
theorem call190 : Callable Tryz.prog 190 := ⟨_, Tryz.func190, rfl, by kernel_rfl⟩
theorem flat2 : Flat Tryz.prog 2 := ⟨_, Tryz.underlying2, by simp⟩
theorem flat21 : Flat Tryz.prog 21 := ⟨_, Tryz.underlying21, by simp⟩
theorem ty2 : Ty Tryz.prog 2 (.int .i64 0) 1 8 := ty_of (by kernel_rfl)
theorem ty21 : Ty Tryz.prog 21 (.int .i32 0) 1 4 := ty_of (by kernel_rfl)
theorem ty89 : Ty Tryz.prog 89 (.agg #[(.int .i64 0), (.int .i32 0), (S []), (.int .i64 0)]) 4 40 := ty_of (by kernel_rfl)
theorem ty134 : Ty Tryz.prog 134 (.agg #[(.int .i64 0), (.int .i32 0), (S []), (.int .i64 0)]) 4 40 := ty_of (by kernel_rfl)
theorem ty224 : Ty Tryz.prog 224 (.agg #[(.int .u8 0), (.int .u16 0), (.slice none 0 0)]) 3 32 := ty_of (by kernel_rfl)
theorem conc2 : Conc Tryz.prog 2 := ⟨_, Tryz.underlying2, by simp⟩
theorem agg89 : Agg Tryz.prog 89 := agg_of Tryz.underlying89
theorem agg134 : Agg Tryz.prog 134 := agg_of Tryz.underlying134
theorem agg224 : Agg Tryz.prog 224 := agg_of Tryz.underlying224
theorem str89 : Str Tryz.prog 89 #[(0, 1), (1, 1), (2, 1), (3, 1)] := ⟨_, Tryz.underlying89, fun w => by kernel_rfl⟩
theorem str224 : Str Tryz.prog 224 #[(0, 1), (1, 1), (2, 1)] := ⟨_, Tryz.underlying224, fun w => by kernel_rfl⟩
theorem fld89_0 : Fld Tryz.prog 89 0 0 2 := fld_of Tryz.underlying89 rfl rfl rfl ty2 (by decide)
theorem fld89_1 : Fld Tryz.prog 89 1 1 21 := fld_of Tryz.underlying89 rfl rfl rfl ty21 (by decide)
abbrev tmV (s n : Int) : Value := .agg #[I s, .int .i32 n, S [85, 84, 67], I 0]
theorem tm_eq {s s' n n' : Int} (h : s = s') (h2 : n = n') : tmV s n = tmV s' n' := by rw [h, h2]
abbrev msV (ms : Int) : Value := tmV (ms / 1000 + 62135596800) (ms % 1000 * 1000000)
theorem tmod_b (x m : Int) (h : 0 < m) : x.tmod m = x - m * x.tdiv m := by rw [Int.tmod_def]
theorem sec (s n : Int) : Fn0 Tryz.prog 86 [tmV s n] (I s) := by
 refine Fn0.enter (n := 5) Tryz.func86 rfl rfl fun w0 => ?_
 refine WC.sub (fr' := [(0, _)]) ?_ ⟨rfl, trivial⟩
 refine WC.seq (WC.region ?_)
 refine WL.box rfl rfl rfl fun b0_0 hb0_0 => ?_
 refine WL.q (oq_assign rfl) rfl rfl rfl ?_
 refine WL.nil (WE.then_normal (WC.sub (fr' := [(1, _)]) ?_ ⟨rfl, trivial⟩))
 refine WC.seq (WC.region ?_)
 refine WL.q (oq_fieldAddr fld89_0 rfl) rfl rfl rfl ?_
 refine WL.q (oq_load flat2 rfl (.head _) (List.mem_singleton.2 rfl) rfl) rfl rfl rfl ?_
 refine WL.q (oq_assign rfl) rfl rfl rfl ?_
 refine WL.nil (WE.then_normal (WC.sub (fr' := [(2, _)]) ?_ ⟨rfl, trivial⟩))
 refine WC.ret ?_
 refine WE.lose hb0_0 ?_
 refine WE.end0 (.inl rfl) (res1 Tryz.results86 rfl) ?_
 rfl
theorem nsec (s n : Int) : Fn0 Tryz.prog 73 [tmV s n] (.int .i32 n) := by
 refine Fn0.enter (n := 5) Tryz.func73 rfl rfl fun w0 => ?_
 refine WC.sub (fr' := [(0, _)]) ?_ ⟨rfl, trivial⟩
 refine WC.seq (WC.region ?_)
 refine WL.box rfl rfl rfl fun b0_0 hb0_0 => ?_
 refine WL.q (oq_assign rfl) rfl rfl rfl ?_
 refine WL.nil (WE.then_normal (WC.sub (fr' := [(1, _)]) ?_ ⟨rfl, trivial⟩))
 refine WC.seq (WC.region ?_)
 refine WL.q (oq_fieldAddr fld89_1 rfl) rfl rfl rfl ?_
 refine WL.q (oq_load flat21 rfl (.head _) (List.mem_singleton.2 rfl) rfl) rfl rfl rfl ?_
 refine WL.q (oq_assign rfl) rfl rfl rfl ?_
 refine WL.nil (WE.then_normal (WC.sub (fr' := [(2, _)]) ?_ ⟨rfl, trivial⟩))
 refine WC.ret ?_
 refine WE.lose hb0_0 ?_
 refine WE.end0 (.inl rfl) (res1 Tryz.results73 rfl) ?_
 rfl
theorem unix (s n : Int) (h1 : -1000000000000 ≤ s) (h2 : s ≤ 1000000000000) (h3 : -9223372036854775808 ≤ n) (h4 : n ≤ 9223372036854775807) : Fn0 Tryz.prog 60 [I s, I n] (tmV (s + n / 1000000000 + 62135596800) (n % 1000000000)) := by
 refine Fn0.enter (n := 32) Tryz.func60 rfl rfl fun w0 => ?_
 refine WC.sub (fr' := [(0, _), (1, _)]) ?_ ⟨rfl, rfl, trivial⟩
 refine WC.seq (WC.region ?_)
 refine WL.alloc ty89 rfl rfl fun b0_0 hb0_0 => ?_
 refine WL.nil (WE.then_normal (WC.sub (fr' := [(0, _), (1, _), (4, _)]) ?_ ⟨rfl, rfl, rfl, trivial⟩))
 refine WC.seq (WC.seq (WC.region ?_))
 refine WL.q (oq_move rfl) rfl rfl rfl ?_
 refine WL.q (oq_lss rfl rfl) rfl rfl rfl ?_
 refine WL.q (oq_move rfl) rfl rfl rfl ?_
 refine WL.split 8 rfl (fun s1_2 => ?_) (fun s1_2 => ?_)
 ·
  try simp only [Z1, Z2, Z3, Z4, Z5, Z6, Z7, Z8, Z9, Z0] at s1_2
  refine WL.skip rfl rfl rfl ?_
  refine WL.skip rfl rfl rfl ?_
  refine WL.q (oq_pick_t rfl rfl) rfl rfl rfl ?_
  refine WL.nil (WE.then_normal (WC.sub (fr' := [(0, _), (1, _), (4, _), (11, _)]) ?_ ⟨rfl, rfl, rfl, rfl, trivial⟩))
  refine WC.cond_t rfl ?_
  refine WC.seq (WC.region ?_)
  refine WL.q (oq_move rfl) rfl rfl rfl ?_
  refine WL.q (oq_tquo rfl rfl (by omega) (by rw [i64_lo, i64_hi]; omega)) rfl rfl rfl ?_
  refine WL.q (oq_assign rfl) rfl rfl rfl ?_
  refine WL.nil (WE.then_normal (WC.sub (fr' := [(0, _), (1, _), (4, _), (5, _)]) ?_ ⟨rfl, rfl, rfl, rfl, trivial⟩))
  refine WC.seq ?_
  have hk := tdiv_b n 1000000000 (by decide)
  generalize n.tdiv 1000000000 = k at *
  refine WC.region ?_
  refine WL.q (oq_move rfl) rfl rfl rfl ?_
  refine WL.q (oq_move rfl) rfl rfl rfl ?_
  refine WL.q (oq_add rfl rfl (by rw [i64_lo, i64_hi]; (first | omega | (simp only [List.length_cons, List.length_nil, List.length_append, List.length_drop, List.length_take]; omega)))) rfl rfl rfl ?_
  refine WL.q (oq_assign rfl) rfl rfl rfl ?_
  refine WL.nil (WE.then_normal (WC.sub (fr' := [(0, _), (1, _), (4, _), (5, _)]) ?_ ⟨rfl, rfl, rfl, rfl, trivial⟩))
  refine WC.seq (WC.region ?_)
  refine WL.q (oq_move rfl) rfl rfl rfl ?_
  refine WL.q (oq_move rfl) rfl rfl rfl ?_
  refine WL.q (oq_mul rfl rfl (by rw [i64_lo, i64_hi]; (first | omega | (simp only [List.length_cons, List.length_nil, List.length_append, List.length_drop, List.length_take]; omega)))) rfl rfl rfl ?_
  refine WL.q (oq_sub rfl rfl (by rw [i64_lo, i64_hi]; (first | omega | (simp only [List.length_cons, List.length_nil, List.length_append, List.length_drop, List.length_take]; omega)))) rfl rfl rfl ?_
  refine WL.q (oq_assign rfl) rfl rfl rfl ?_
  refine WL.nil (WE.then_normal (WC.sub (fr' := [(0, _), (1, _), (4, _)]) ?_ ⟨rfl, rfl, rfl, trivial⟩))
  refine WC.seq (WC.region ?_)
  refine WL.q (oq_move rfl) rfl rfl rfl ?_
  refine WL.q (oq_lss rfl rfl) rfl rfl rfl ?_
  refine WL.nil (WE.then_normal (WC.sub (fr' := [(0, _), (1, _), (4, _), (22, _)]) ?_ ⟨rfl, rfl, rfl, rfl, trivial⟩))
  refine WC.cond rfl (fun q5 => ?_) (fun q5 => ?_)
  ·
   try simp only [Z1, Z2, Z3, Z4, Z5, Z6, Z7, Z8, Z9, Z0] at q5
   refine WC.seq (WC.region ?_)
   refine WL.q (oq_move rfl) rfl rfl rfl ?_
   refine WL.q (oq_add rfl rfl (by rw [i64_lo, i64_hi]; (first | omega | (simp only [List.length_cons, List.length_nil, List.length_append, List.length_drop, List.length_take]; omega)))) rfl rfl rfl ?_
   refine WL.q (oq_assign rfl) rfl rfl rfl ?_
   refine WL.nil (WE.then_normal (WC.sub (fr' := [(0, _), (1, _), (4, _)]) ?_ ⟨rfl, rfl, rfl, trivial⟩))
   refine WC.region ?_
   refine WL.q (oq_move rfl) rfl rfl rfl ?_
   refine WL.q (oq_sub rfl rfl (by rw [i64_lo, i64_hi]; (first | omega | (simp only [List.length_cons, List.length_nil, List.length_append, List.length_drop, List.length_take]; omega)))) rfl rfl rfl ?_
   refine WL.q (oq_assign rfl) rfl rfl rfl ?_
   refine WL.nil (WE.then_normal (WC.sub (fr' := [(0, _), (1, _), (4, _)]) ?_ ⟨rfl, rfl, rfl, trivial⟩))
   refine WC.seq (WC.region ?_)
   refine WL.q (oq_move rfl) rfl rfl rfl ?_
   refine WL.q (oq_add rfl rfl (by rw [i64_lo, i64_hi]; (first | omega | (simp only [List.length_cons, List.length_nil, List.length_append, List.length_drop, List.length_take]; omega)))) rfl rfl rfl ?_
   refine WL.q (oq_move rfl) rfl rfl rfl ?_
   refine WL.q (oq_conv Tryz.underlying2 Tryz.underlying21 rfl (by rw [i32_lo, i32_hi]; (first | omega | (simp only [List.length_cons, List.length_nil, List.length_append, List.length_drop, List.length_take]; omega)))) rfl rfl rfl ?_
   refine WL.q (oq_build #[_, _, _, _] str89 ty89 rfl rfl) rfl rfl rfl ?_
   refine WL.storeS #[_, _, _, _] ty89 rfl rfl rfl rfl (Nat.le_of_ble_eq_true rfl) rfl rfl ?_
   refine WL.nil (WE.then_normal (WC.sub (fr' := [(4, _)]) ?_ ⟨rfl, trivial⟩))
   refine WC.ret ?_
   refine WE.endD0 (.inl rfl) (rs1 Tryz.results60 (rv_cellS [_, _, _, _] agg89 ty89 rfl (.head _) (List.mem_singleton.2 rfl) rfl rfl)) (dr_lose hb0_0 dr_refl) ?_
   first | (exfalso; omega) | exact tm_eq (by omega) (by omega)
  ·
   try simp only [Z1, Z2, Z3, Z4, Z5, Z6, Z7, Z8, Z9, Z0] at q5
   refine WC.skip (WE.then_normal (WC.sub (fr' := [(0, _), (1, _), (4, _)]) ?_ ⟨rfl, rfl, rfl, trivial⟩))
   refine WC.seq (WC.region ?_)
   refine WL.q (oq_move rfl) rfl rfl rfl ?_
   refine WL.q (oq_add rfl rfl (by rw [i64_lo, i64_hi]; (first | omega | (simp only [List.length_cons, List.length_nil, List.length_append, List.length_drop, List.length_take]; omega)))) rfl rfl rfl ?_
   refine WL.q (oq_move rfl) rfl rfl rfl ?_
   refine WL.q (oq_conv Tryz.underlying2 Tryz.underlying21 rfl (by rw [i32_lo, i32_hi]; (first | omega | (simp only [List.length_cons, List.length_nil, List.length_append, List.length_drop, List.length_take]; omega)))) rfl rfl rfl ?_
   refine WL.q (oq_build #[_, _, _, _] str89 ty89 rfl rfl) rfl rfl rfl ?_
   refine WL.storeS #[_, _, _, _] ty89 rfl rfl rfl rfl (Nat.le_of_ble_eq_true rfl) rfl rfl ?_
   refine WL.nil (WE.then_normal (WC.sub (fr' := [(4, _)]) ?_ ⟨rfl, trivial⟩))
   refine WC.ret ?_
   refine WE.endD0 (.inl rfl) (rs1 Tryz.results60 (rv_cellS [_, _, _, _] agg89 ty89 rfl (.head _) (List.mem_singleton.2 rfl) rfl rfl)) (dr_lose hb0_0 dr_refl) ?_
   first | (exfalso; omega) | exact tm_eq (by omega) (by omega)
 ·
  try simp only [Z1, Z2, Z3, Z4, Z5, Z6, Z7, Z8, Z9, Z0] at s1_2
  refine WL.q (oq_move rfl) rfl rfl rfl ?_
  refine WL.q (oq_geq rfl rfl) rfl rfl rfl ?_
  refine WL.q (oq_pick_f rfl rfl) rfl rfl rfl ?_
  refine WL.nil (WE.then_normal (WC.sub (fr' := [(0, _), (1, _), (4, _), (11, _)]) ?_ ⟨rfl, rfl, rfl, rfl, trivial⟩))
  refine WC.cond rfl (fun q1 => ?_) (fun q1 => ?_)
  ·
   try simp only [Z1, Z2, Z3, Z4, Z5, Z6, Z7, Z8, Z9, Z0] at q1
   refine WC.seq (WC.region ?_)
   refine WL.q (oq_move rfl) rfl rfl rfl ?_
   refine WL.q (oq_tquo rfl rfl (by omega) (by rw [i64_lo, i64_hi]; omega)) rfl rfl rfl ?_
   refine WL.q (oq_assign rfl) rfl rfl rfl ?_
   refine WL.nil (WE.then_normal (WC.sub (fr' := [(0, _), (1, _), (4, _), (5, _)]) ?_ ⟨rfl, rfl, rfl, rfl, trivial⟩))
   refine WC.seq ?_
   have hk := tdiv_b n 1000000000 (by decide)
   generalize n.tdiv 1000000000 = k at *
   refine WC.region ?_
   refine WL.q (oq_move rfl) rfl rfl rfl ?_
   refine WL.q (oq_move rfl) rfl rfl rfl ?_
   refine WL.q (oq_add rfl rfl (by rw [i64_lo, i64_hi]; (first | omega | (simp only [List.length_cons, List.length_nil, List.length_append, List.length_drop, List.length_take]; omega)))) rfl rfl rfl ?_
   refine WL.q (oq_assign rfl) rfl rfl rfl ?_
   refine WL.nil (WE.then_normal (WC.sub (fr' := [(0, _), (1, _), (4, _), (5, _)]) ?_ ⟨rfl, rfl, rfl, rfl, trivial⟩))
   refine WC.seq (WC.region ?_)
   refine WL.q (oq_move rfl) rfl rfl rfl ?_
   refine WL.q (oq_move rfl) rfl rfl rfl ?_
   refine WL.q (oq_mul rfl rfl (by rw [i64_lo, i64_hi]; (first | omega | (simp only [List.length_cons, List.length_nil, List.length_append, List.length_drop, List.length_take]; omega)))) rfl rfl rfl ?_
   refine WL.q (oq_sub rfl rfl (by rw [i64_lo, i64_hi]; (first | omega | (simp only [List.length_cons, List.length_nil, List.length_append, List.length_drop, List.length_take]; omega)))) rfl rfl rfl ?_
   refine WL.q (oq_assign rfl) rfl rfl rfl ?_
   refine WL.nil (WE.then_normal (WC.sub (fr' := [(0, _), (1, _), (4, _)]) ?_ ⟨rfl, rfl, rfl, trivial⟩))
   refine WC.seq (WC.region ?_)
   refine WL.q (oq_move rfl) rfl rfl rfl ?_
   refine WL.q (oq_lss rfl rfl) rfl rfl rfl ?_
   refine WL.nil (WE.then_normal (WC.sub (fr' := [(0, _), (1, _), (4, _), (22, _)]) ?_ ⟨rfl, rfl, rfl, rfl, trivial⟩))
   refine WC.cond rfl (fun q5 => ?_) (fun q5 => ?_)
   ·
    try simp only [Z1, Z2, Z3, Z4, Z5, Z6, Z7, Z8, Z9, Z0] at q5
    refine WC.seq (WC.region ?_)
    refine WL.q (oq_move rfl) rfl rfl rfl ?_
    refine WL.q (oq_add rfl rfl (by rw [i64_lo, i64_hi]; (first | omega | (simp only [List.length_cons, List.length_nil, List.length_append, List.length_drop, List.length_take]; omega)))) rfl rfl rfl ?_
    refine WL.q (oq_assign rfl) rfl rfl rfl ?_
    refine WL.nil (WE.then_normal (WC.sub (fr' := [(0, _), (1, _), (4, _)]) ?_ ⟨rfl, rfl, rfl, trivial⟩))
    refine WC.region ?_
    refine WL.q (oq_move rfl) rfl rfl rfl ?_
    refine WL.q (oq_sub rfl rfl (by rw [i64_lo, i64_hi]; (first | omega | (simp only [List.length_cons, List.length_nil, List.length_append, List.length_drop, List.length_take]; omega)))) rfl rfl rfl ?_
    refine WL.q (oq_assign rfl) rfl rfl rfl ?_
    refine WL.nil (WE.then_normal (WC.sub (fr' := [(0, _), (1, _), (4, _)]) ?_ ⟨rfl, rfl, rfl, trivial⟩))
    refine WC.seq (WC.region ?_)
    refine WL.q (oq_move rfl) rfl rfl rfl ?_
    refine WL.q (oq_add rfl rfl (by rw [i64_lo, i64_hi]; (first | omega | (simp only [List.length_cons, List.length_nil, List.length_append, List.length_drop, List.length_take]; omega)))) rfl rfl rfl ?_
    refine WL.q (oq_move rfl) rfl rfl rfl ?_
    refine WL.q (oq_conv Tryz.underlying2 Tryz.underlying21 rfl (by rw [i32_lo, i32_hi]; (first | omega | (simp only [List.length_cons, List.length_nil, List.length_append, List.length_drop, List.length_take]; omega)))) rfl rfl rfl ?_
    refine WL.q (oq_build #[_, _, _, _] str89 ty89 rfl rfl) rfl rfl rfl ?_
    refine WL.storeS #[_, _, _, _] ty89 rfl rfl rfl rfl (Nat.le_of_ble_eq_true rfl) rfl rfl ?_
    refine WL.nil (WE.then_normal (WC.sub (fr' := [(4, _)]) ?_ ⟨rfl, trivial⟩))
    refine WC.ret ?_
    refine WE.endD0 (.inl rfl) (rs1 Tryz.results60 (rv_cellS [_, _, _, _] agg89 ty89 rfl (.head _) (List.mem_singleton.2 rfl) rfl rfl)) (dr_lose hb0_0 dr_refl) ?_
    first | (exfalso; omega) | exact tm_eq (by omega) (by omega)
   ·
    try simp only [Z1, Z2, Z3, Z4, Z5, Z6, Z7, Z8, Z9, Z0] at q5
    refine WC.skip (WE.then_normal (WC.sub (fr' := [(0, _), (1, _), (4, _)]) ?_ ⟨rfl, rfl, rfl, trivial⟩))
    refine WC.seq (WC.region ?_)
    refine WL.q (oq_move rfl) rfl rfl rfl ?_
    refine WL.q (oq_add rfl rfl (by rw [i64_lo, i64_hi]; (first | omega | (simp only [List.length_cons, List.length_nil, List.length_append, List.length_drop, List.length_take]; omega)))) rfl rfl rfl ?_
    refine WL.q (oq_move rfl) rfl rfl rfl ?_
    refine WL.q (oq_conv Tryz.underlying2 Tryz.underlying21 rfl (by rw [i32_lo, i32_hi]; (first | omega | (simp only [List.length_cons, List.length_nil, List.length_append, List.length_drop, List.length_take]; omega)))) rfl rfl rfl ?_
    refine WL.q (oq_build #[_, _, _, _] str89 ty89 rfl rfl) rfl rfl rfl ?_
    refine WL.storeS #[_, _, _, _] ty89 rfl rfl rfl rfl (Nat.le_of_ble_eq_true rfl) rfl rfl ?_
    refine WL.nil (WE.then_normal (WC.sub (fr' := [(4, _)]) ?_ ⟨rfl, trivial⟩))
    refine WC.ret ?_
    refine WE.endD0 (.inl rfl) (rs1 Tryz.results60 (rv_cellS [_, _, _, _] agg89 ty89 rfl (.head _) (List.mem_singleton.2 rfl) rfl rfl)) (dr_lose hb0_0 dr_refl) ?_
    first | (exfalso; omega) | exact tm_eq (by omega) (by omega)
  ·
   try simp only [Z1, Z2, Z3, Z4, Z5, Z6, Z7, Z8, Z9, Z0] at q1
   refine WC.skip (WE.then_normal (WC.sub (fr' := [(0, _), (1, _), (4, _)]) ?_ ⟨rfl, rfl, rfl, trivial⟩))
   refine WC.seq (WC.region ?_)
   refine WL.q (oq_move rfl) rfl rfl rfl ?_
   refine WL.q (oq_add rfl rfl (by rw [i64_lo, i64_hi]; (first | omega | (simp only [List.length_cons, List.length_nil, List.length_append, List.length_drop, List.length_take]; omega)))) rfl rfl rfl ?_
   refine WL.q (oq_move rfl) rfl rfl rfl ?_
   refine WL.q (oq_conv Tryz.underlying2 Tryz.underlying21 rfl (by rw [i32_lo, i32_hi]; (first | omega | (simp only [List.length_cons, List.length_nil, List.length_append, List.length_drop, List.length_take]; omega)))) rfl rfl rfl ?_
   refine WL.q (oq_build #[_, _, _, _] str89 ty89 rfl rfl) rfl rfl rfl ?_
   refine WL.storeS #[_, _, _, _] ty89 rfl rfl rfl rfl (Nat.le_of_ble_eq_true rfl) rfl rfl ?_
   refine WL.nil (WE.then_normal (WC.sub (fr' := [(4, _)]) ?_ ⟨rfl, trivial⟩))
   refine WC.ret ?_
   refine WE.endD0 (.inl rfl) (rs1 Tryz.results60 (rv_cellS [_, _, _, _] agg89 ty89 rfl (.head _) (List.mem_singleton.2 rfl) rfl rfl)) (dr_lose hb0_0 dr_refl) ?_
   first | (exfalso; omega) | exact tm_eq (by omega) (by omega)
theorem unixMilli (ms : Int) (h1 : -9200000000000 ≤ ms) (h2 : ms ≤ 9200000000000) : Fn0 Tryz.prog 43 [I ms] (msV ms) := by
 have hk := tdiv_b ms 1000 (by decide)
 have hm := tmod_b ms 1000 (by decide)
 refine Fn0.enter (n := 9) Tryz.func43 rfl rfl fun w0 => ?_
 refine WC.sub (fr' := [(0, _)]) ?_ ⟨rfl, trivial⟩
 refine WC.seq (WC.region ?_)
 refine WL.alloc ty89 rfl rfl fun b0_0 hb0_0 => ?_
 refine WL.nil (WE.then_normal (WC.sub (fr' := [(0, _), (2, _)]) ?_ ⟨rfl, rfl, trivial⟩))
 refine WC.seq (WC.region ?_)
 refine WL.q (oq_move rfl) rfl rfl rfl ?_
 refine WL.q (oq_tquo rfl rfl (by omega) (by rw [i64_lo, i64_hi]; omega)) rfl rfl rfl ?_
 refine WL.q (oq_move rfl) rfl rfl rfl ?_
 refine WL.q (oq_trem rfl rfl (by omega)) rfl rfl rfl ?_
 refine WL.q (oq_mul rfl rfl (by rw [i64_lo, i64_hi]; (first | omega | (simp only [List.length_cons, List.length_nil, List.length_append, List.length_drop, List.length_take]; omega)))) rfl rfl rfl ?_
 refine WL.qc (oq_call (unix (ms.tdiv 1000) (ms.tmod 1000 * 1000000) (by omega) (by omega) (by omega) (by omega)) call60 rfl) rfl rfl rfl ?_
 refine WL.storeS #[_, _, _, _] ty89 rfl rfl rfl rfl (Nat.le_of_ble_eq_true rfl) rfl rfl ?_
 refine WL.nil (WE.then_normal (WC.sub (fr' := [(2, _)]) ?_ ⟨rfl, trivial⟩))
 refine WC.ret ?_
 refine WE.endD0 (.inl rfl) (rs1 Tryz.results43 (rv_cellS [_, _, _, _] agg89 ty89 rfl (.head _) (List.mem_singleton.2 rfl) rfl rfl)) (dr_lose hb0_0 dr_refl) ?_
 exact tm_eq (by omega) (by omega)
theorem unixSec (s n : Int) (h : 0 ≤ s ∧ s ≤ 1000000000000) : Fn0 Tryz.prog 72 [tmV s n] (I (s + -62135596800)) := by
 refine Fn0.enter (n := 6) Tryz.func72 rfl rfl fun w0 => ?_
 refine WC.sub (fr' := [(0, _)]) ?_ ⟨rfl, trivial⟩
 refine WC.seq (WC.region ?_)
 refine WL.box rfl rfl rfl fun b0_0 hb0_0 => ?_
 refine WL.q (oq_assign rfl) rfl rfl rfl ?_
 refine WL.nil (WE.then_normal (WC.sub (fr' := [(1, _)]) ?_ ⟨rfl, trivial⟩))
 refine WC.seq (WC.region ?_)
 refine WL.q (oq_loadS [_, _, _, _] agg89 ty89 rfl (.head _) (List.mem_singleton.2 rfl) rfl rfl) rfl rfl rfl ?_
 refine WL.qc (oq_call (sec _ _) call86 rfl) rfl rfl rfl ?_
 refine WL.q (oq_add rfl rfl (by rw [i64_lo, i64_hi]; (first | omega | (simp only [List.length_cons, List.length_nil, List.length_append, List.length_drop, List.length_take]; omega)))) rfl rfl rfl ?_
 refine WL.q (oq_assign rfl) rfl rfl rfl ?_
 refine WL.nil (WE.then_normal (WC.sub (fr' := [(2, _)]) ?_ ⟨rfl, trivial⟩))
 refine WC.ret ?_
 refine WE.lose hb0_0 ?_
 refine WE.end0 (.inl rfl) (res1 Tryz.results72 rfl) ?_
 rfl
theorem unixNano (ms : Int) (h1 : -9200000000000 ≤ ms) (h2 : ms ≤ 9200000000000) : Fn0 Tryz.prog 190 [msV ms] (I (ms * 1000000)) := by
 refine Fn0.enter (n := 10) Tryz.func190 rfl rfl fun w0 => ?_
 refine WC.sub (fr' := [(0, _)]) ?_ ⟨rfl, trivial⟩
 refine WC.seq (WC.region ?_)
 refine WL.box rfl rfl rfl fun b0_0 hb0_0 => ?_
 refine WL.q (oq_assign rfl) rfl rfl rfl ?_
 refine WL.nil (WE.then_normal (WC.sub (fr' := [(1, _)]) ?_ ⟨rfl, trivial⟩))
 refine WC.seq (WC.quiet (by kernel_rfl) (by kernel_rfl) ?_)
 refine WQ.q (oq_loadS [_, _, _, _] agg89 ty89 rfl (.head _) (List.mem_singleton.2 rfl) rfl rfl) rfl rfl rfl ?_
 refine WQ.qc (oq_call (unixSec _ _ (by omega)) call72 rfl) rfl rfl rfl ?_
 refine WQ.q (oq_mul rfl rfl (by rw [i64_lo, i64_hi]; (first | omega | (simp only [List.length_cons, List.length_nil, List.length_append, List.length_drop, List.length_take]; omega)))) rfl rfl rfl ?_
 refine WQ.q (oq_loadS [_, _, _, _] agg89 ty89 rfl (.head _) (List.mem_singleton.2 rfl) rfl rfl) rfl rfl rfl ?_
 refine WQ.qc (oq_call (nsec _ _) call73 rfl) rfl rfl rfl ?_
 refine WQ.q (oq_conv Tryz.underlying21 Tryz.underlying2 rfl (by rw [i64_lo, i64_hi]; (first | omega | (simp only [List.length_cons, List.length_nil, List.length_append, List.length_drop, List.length_take]; omega)))) rfl rfl rfl ?_
 refine WQ.q (oq_add rfl rfl (by rw [i64_lo, i64_hi]; (first | omega | (simp only [List.length_cons, List.length_nil, List.length_append, List.length_drop, List.length_take]; omega)))) rfl rfl rfl ?_
 refine WQ.q (oq_assign rfl) rfl rfl rfl ?_
 refine WQ.nil (WE.then_normal (WC.sub (fr' := [(2, _)]) ?_ ⟨rfl, trivial⟩))
 refine WC.ret ?_
 refine WE.lose hb0_0 ?_
 refine WE.end0 (.inl rfl) (res1 Tryz.results190 rfl) ?_
 congr 1; omega
theorem epochMilli (ms : Int) (h1 : -9200000000000 ≤ ms) (h2 : ms ≤ 9200000000000) : Fn0 Tryz.prog 189 [msV ms] (I ms) := by
 refine Fn0.enter (n := 10) Tryz.func189 rfl rfl fun w0 => ?_
 refine WC.sub (fr' := [(0, _)]) ?_ ⟨rfl, trivial⟩
 refine WC.seq (WC.region ?_)
 refine WL.box rfl rfl rfl fun b0_0 hb0_0 => ?_
 refine WL.q (oq_assign rfl) rfl rfl rfl ?_
 refine WL.nil (WE.then_normal (WC.sub (fr' := [(1, _)]) ?_ ⟨rfl, trivial⟩))
 refine WC.seq (WC.region ?_)
 refine WL.q (oq_loadS [_, _, _, _] agg134 ty134 rfl (.head _) (List.mem_singleton.2 rfl) rfl rfl) rfl rfl rfl ?_
 refine WL.qc (oq_call (unixNano ms h1 h2) call190 rfl) rfl rfl rfl ?_
 refine WL.q (oq_assign rfl) rfl rfl rfl ?_
 refine WL.nil (WE.then_normal (WC.sub (fr' := [(3, _)]) ?_ ⟨rfl, trivial⟩))
 refine WC.seq (WC.region ?_)
 refine WL.q (oq_move rfl) rfl rfl rfl ?_
 refine WL.q (oq_tquo rfl rfl (by omega) (by rw [i64_lo, i64_hi]; omega)) rfl rfl rfl ?_
 refine WL.q (oq_assign rfl) rfl rfl rfl ?_
 refine WL.nil (WE.then_normal (WC.sub (fr' := [(4, _)]) ?_ ⟨rfl, trivial⟩))
 refine WC.seq (WC.region ?_)
 refine WL.q (oq_move rfl) rfl rfl rfl ?_
 refine WL.q (oq_assign rfl) rfl rfl rfl ?_
 refine WL.nil (WE.then_normal (WC.sub (fr' := [(2, _)]) ?_ ⟨rfl, trivial⟩))
 refine WC.ret ?_
 refine WE.lose hb0_0 ?_
 refine WE.end0 (.inl rfl) (res1 Tryz.results189 rfl) ?_
 rw [Int.mul_tdiv_cancel _ (by decide)]
theorem vtTimestampValue (s n : Int) : Fn0 Tryz.prog 188 [tmV s n] (.int .u8 8) := by
 refine Fn0.enter (n := 3) Tryz.func188 rfl rfl fun w0 => ?_
 refine WC.sub (fr' := [(0, _)]) ?_ ⟨rfl, trivial⟩
 refine WC.seq (WC.region ?_)
 refine WL.box rfl rfl rfl fun b0_0 hb0_0 => ?_
 refine WL.q (oq_assign rfl) rfl rfl rfl ?_
 refine WL.nil (WE.then_normal (WC.sub (fr' := []) ?_ trivial))
 refine WC.seq (WC.region ?_)
 refine WL.q (oq_assign rfl) rfl rfl rfl ?_
 refine WL.nil (WE.then_normal (WC.sub (fr' := [(2, _)]) ?_ ⟨rfl, trivial⟩))
 refine WC.ret ?_
 refine WE.lose hb0_0 ?_
 refine WE.end0 (.inl rfl) (res1 Tryz.results188 rfl) ?_
 rfl
theorem encTimestampValue (base : Nat) (k : TypeId) (r : Value) (f : FuncId) (Wt : List UInt8 → Hp → Prop) (hW : Wr base k r f Wt) (acc0 : List UInt8) (G : Hp) (hG : Wt acc0 G) (ms : Int) (h1 : -9200000000000 ≤ ms) (h2 : ms ≤ 9200000000000) (hal : acc0.length ≤ 290000) : FnW Tryz.prog 187 [msV ms, .iface k r] base [G] (Then Wt (acc0 ++ (8 :: be 8 ms)) []) := by
 refine FnW.enter (n := 17) Tryz.func187 rfl rfl fun w0 R0 hbase => ?_
 subst hbase
 show WC _ _ _ _ _ _ _ ([G, R0])
 refine WC.sub (fr' := [(0, _), (1, _)]) ?_ ⟨rfl, rfl, trivial⟩
 refine WC.seq (WC.region ?_)
 refine WL.box rfl rfl rfl fun b0_0 hb0_0 => ?_
 refine WL.q (oq_assign rfl) rfl rfl rfl ?_
 refine WL.nil (WE.then_normal (WC.sub (fr' := [(1, _), (2, _)]) ?_ ⟨rfl, rfl, trivial⟩))
 refine WC.seq (WC.region ?_)
 refine WL.q (oq_loadS [_, _, _, _] agg134 ty134 rfl (.head _) (List.mem_singleton.2 rfl) rfl rfl) rfl rfl rfl ?_
 refine WL.qc (oq_call (vtTimestampValue _ _) call188 rfl) rfl rfl rfl ?_
 refine WL.q (oq_build #[_, _, _] str224 ty224 rfl rfl) rfl rfl rfl ?_
 refine WL.alloc ty224 rfl rfl fun b1_3 hb1_3 => ?_
 refine WL.storeS #[_, _, _] ty224 rfl rfl rfl rfl (Nat.le_of_ble_eq_true rfl) rfl rfl ?_
 refine WL.nil (WE.then_normal (WC.sub (fr' := [(1, _), (2, _), (5, _)]) ?_ ⟨rfl, rfl, rfl, trivial⟩))
 refine WC.seq (WC.region ?_)
 refine WL.q (oq_loadS [_, _, _, _] agg134 ty134 rfl (.tail _ (.head _)) (List.mem_singleton.2 rfl) rfl rfl) rfl rfl rfl ?_
 refine WL.qc (oq_call (epochMilli ms h1 h2) call189 rfl) rfl rfl rfl ?_
 refine WL.q (oq_assign rfl) rfl rfl rfl ?_
 refine WL.nil (WE.then_normal (WC.sub (fr' := [(1, _), (5, _), (6, _)]) ?_ ⟨rfl, rfl, rfl, trivial⟩))
 refine WC.seq (WC.region ?_)
 refine WL.q (oq_loadS [_, _, _] agg224 ty224 rfl (.head _) (List.mem_singleton.2 rfl) rfl rfl) rfl rfl rfl ?_
 refine WL.q (oq_move rfl) rfl rfl rfl ?_
 refine WL.q (oq_move rfl) rfl rfl rfl ?_
 refine WL.q (oq_makeI conc2 rfl) rfl rfl rfl ?_
 refine WL.f2 ?_
 refine WL.callW1 (encScalar _ k r f Wt hW acc0 G hG 8 (.int .u16 0) (.slice none 0 0) ⟨2, .i64, 8, ms⟩ (by simp [Num.ok, Num.kinds]) hal) call162 rfl rfl rfl fun v3_4 Hs3_4 hR3_4 => ?_
 obtain ⟨G2, rfl, rfl, hG2⟩ := hR3_4
 refine WL.to1 ?_
 refine WL.q (oq_assign rfl) rfl rfl rfl ?_
 refine WL.nil (WE.then_normal (WC.sub (fr' := [(4, _)]) ?_ ⟨rfl, trivial⟩))
 refine WC.ret ?_
 refine WE.f1 ?_
 refine WE.lose hb1_3 ?_
 refine WE.f1 ?_
 refine WE.lose hb0_0 ?_
 refine WE.endW1 (.inl rfl) (res1 Tryz.results187 rfl) ?_
 exact ⟨_, rfl, rfl, hG2⟩
end EH
end Go.Proofs.YtodlhaghdplclaaGreatDoor
/- Values of headers. -/
namespace Go.Proofs.YtodlhaghdplclaaGreatDoor
open Go Go.RowKit V EA EB EC ED EE EF EG EH
set_option linter.unusedSimpArgs false
set_option linter.unusedVariables false
set_option maxRecDepth 10000
namespace EI
theorem call43 : Callable Tryz.prog 43 := ⟨_, Tryz.func43, rfl, by kernel_rfl⟩
theorem call178 : Callable Tryz.prog 178 := ⟨_, Tryz.func178, rfl, by kernel_rfl⟩
theorem call179 : Callable Tryz.prog 179 := ⟨_, Tryz.func179, rfl, by kernel_rfl⟩
theorem call183 : Callable Tryz.prog 183 := ⟨_, Tryz.func183, rfl, by kernel_rfl⟩
theorem call184 : Callable Tryz.prog 184 := ⟨_, Tryz.func184, rfl, by kernel_rfl⟩
theorem flat2 : Flat Tryz.prog 2 := ⟨_, Tryz.underlying2, by simp⟩
theorem flat3 : Flat Tryz.prog 3 := ⟨_, Tryz.underlying3, by simp⟩
theorem flat9 : Flat Tryz.prog 9 := ⟨_, Tryz.underlying9, by simp⟩
theorem ty2 : Ty Tryz.prog 2 (.int .i64 0) 1 8 := ty_of (by kernel_rfl)
theorem ty3 : Ty Tryz.prog 3 (.int .i64 0) 1 8 := ty_of (by kernel_rfl)
theorem ty5 : Ty Tryz.prog 5 (.int .u8 0) 1 1 := ty_of (by kernel_rfl)
theorem ty9 : Ty Tryz.prog 9 (S []) 1 16 := ty_of (by kernel_rfl)
theorem ty120 : Ty Tryz.prog 120 (.agg #[(S []), (.int .i64 0), (.int .i64 0), .nilIface]) 4 48 := ty_of (by kernel_rfl)
theorem ty137 : Ty Tryz.prog 137 (.agg #[(.int .u8 0), (.int .u8 0), (.int .u8 0), (.int .u8 0), (.int .u8 0), (.int .u8 0), (.int .u8 0), (.int .u8 0), (.int .u8 0), (.int .u8 0), (.int .u8 0), (.int .u8 0), (.int .u8 0), (.int .u8 0), (.int .u8 0), (.int .u8 0)]) 16 16 := ty_of (by kernel_rfl)
theorem ty224 : Ty Tryz.prog 224 (.agg #[(.int .u8 0), (.int .u16 0), (.slice none 0 0)]) 3 32 := ty_of (by kernel_rfl)
theorem conc9 : Conc Tryz.prog 9 := ⟨_, Tryz.underlying9, by simp⟩
theorem conc28 : Conc Tryz.prog 28 := ⟨_, Tryz.underlying28, by simp⟩
theorem conc120 : Conc Tryz.prog 120 := ⟨_, Tryz.underlying120, by simp⟩
theorem conc126 : Conc Tryz.prog 126 := ⟨_, Tryz.underlying126, by simp⟩
theorem conc127 : Conc Tryz.prog 127 := ⟨_, Tryz.underlying127, by simp⟩
theorem conc129 : Conc Tryz.prog 129 := ⟨_, Tryz.underlying129, by simp⟩
theorem conc130 : Conc Tryz.prog 130 := ⟨_, Tryz.underlying130, by simp⟩
theorem conc131 : Conc Tryz.prog 131 := ⟨_, Tryz.underlying131, by simp⟩
theorem conc132 : Conc Tryz.prog 132 := ⟨_, Tryz.underlying132, by simp⟩
theorem conc133 : Conc Tryz.prog 133 := ⟨_, Tryz.underlying133, by simp⟩
theorem conc134 : Conc Tryz.prog 134 := ⟨_, Tryz.underlying134, by simp⟩
theorem conc137 : Conc Tryz.prog 137 := ⟨_, Tryz.underlying137, by simp⟩
theorem agg137 : Agg Tryz.prog 137 := agg_arr Tryz.underlying137
theorem agg224 : Agg Tryz.prog 224 := agg_of Tryz.underlying224
theorem str120 : Str Tryz.prog 120 #[(0, 1), (1, 1), (2, 1), (3, 1)] := ⟨_, Tryz.underlying120, fun w => by kernel_rfl⟩
theorem str224 : Str Tryz.prog 224 #[(0, 1), (1, 1), (2, 1)] := ⟨_, Tryz.underlying224, fun w => by kernel_rfl⟩
theorem fld24_0 : Fld Tryz.prog 24 0 0 3 := fld_of Tryz.underlying24 rfl rfl rfl ty3 (by decide)
theorem fld24_1 : Fld Tryz.prog 24 1 1 3 := fld_of Tryz.underlying24 rfl rfl rfl ty3 (by decide)
theorem fld24_2 : Fld Tryz.prog 24 2 2 2 := fld_of Tryz.underlying24 rfl rfl rfl ty2 (by decide)
theorem fld24_3 : Fld Tryz.prog 24 3 3 9 := fld_of Tryz.underlying24 rfl rfl rfl ty9 (by decide)
theorem encBytesX (base : Nat) (t : UInt8) (l1 l2 k : Value) (s : Value) (Z G : Hp) (data : List UInt8) (hr : RdS 1 s Z data.length (bytesV data)) (hdl : 32767 < data.length) (hl : data.length ≤ 400000) : FnW Tryz.prog 179 [.agg #[.int .u8 (t.toNat : Int), l1, l2], k, s] base [G, Z] (fun w Hs => ∃ e, w = .iface 120 e ∧ Hs = [G, Z]) := by
 refine FnW.enter (n := 40) Tryz.func179 rfl rfl fun w0 R0 hbase => ?_
 subst hbase
 show WC _ _ _ _ _ _ _ ([G, Z, R0])
 refine WC.sub (fr' := [(0, _), (1, _), (2, _)]) ?_ ⟨rfl, rfl, rfl, trivial⟩
 refine WC.seq (WC.region ?_)
 refine WL.box rfl rfl rfl fun b0_0 hb0_0 => ?_
 refine WL.q (oq_assign rfl) rfl rfl rfl ?_
 refine WL.nil (WE.then_normal (WC.sub (fr' := [(1, _), (2, _), (3, _)]) ?_ ⟨rfl, rfl, rfl, trivial⟩))
 refine WC.seq (WC.seq (WC.region ?_))
 refine WL.q (oq_move rfl) rfl rfl rfl ?_
 refine WL.q (oq_len_rd hr Tryz.underlying28 rfl) rfl rfl rfl ?_
 refine WL.q (oq_gtr rfl rfl) rfl rfl rfl ?_
 refine WL.nil (WE.then_normal (WC.sub (fr' := [(1, _), (2, _), (3, _), (10, _)]) ?_ ⟨rfl, rfl, rfl, rfl, trivial⟩))
 refine WC.cond rfl (fun q1 => ?_) (fun q1 => ?_)
 ·
  try simp only [Z1, Z2, Z3, Z4, Z5, Z6, Z7, Z8, Z9, Z0] at q1
  refine WC.seq (WC.region ?_)
  refine WL.q (oq_move rfl) rfl rfl rfl ?_
  refine WL.q (oq_len_rd hr Tryz.underlying28 rfl) rfl rfl rfl ?_
  refine WL.q (oq_move rfl) rfl rfl rfl ?_
  refine WL.q (oq_makeI conc28 rfl) rfl rfl rfl ?_
  refine WL.q (oq_build #[_, _, _, _] str120 ty120 rfl rfl) rfl rfl rfl ?_
  refine WL.q (oq_makeI conc120 rfl) rfl rfl rfl ?_
  refine WL.q (oq_assign rfl) rfl rfl rfl ?_
  refine WL.nil (WE.then_normal (WC.sub (fr' := [(6, _)]) ?_ ⟨rfl, trivial⟩))
  refine WC.ret (WE.then_ret ?_)
  refine WE.lose hb0_0 ?_
  refine WE.endW2 (.inl rfl) (res1 Tryz.results179 rfl) ?_
  exact ⟨_, rfl, rfl⟩
 ·
  try simp only [Z1, Z2, Z3, Z4, Z5, Z6, Z7, Z8, Z9, Z0] at q1
  first | contradiction | (exfalso; omega) | (exfalso; simp_all; done)
theorem encStringX (base : Nat) (t : UInt8) (l1 l2 k : Value) (G : Hp) (data : List UInt8) (hdl : 32767 < data.length) (hl : data.length ≤ 400000) : FnW Tryz.prog 184 [.agg #[.int .u8 (t.toNat : Int), l1, l2], k, S data] base [G] (fun w Hs => ∃ e, w = .iface 120 e ∧ Hs = [G]) := by
 refine FnW.enter (n := 55) Tryz.func184 rfl rfl fun w0 R0 hbase => ?_
 subst hbase
 show WC _ _ _ _ _ _ _ ([G, R0])
 refine WC.sub (fr' := [(0, _), (1, _), (2, _)]) ?_ ⟨rfl, rfl, rfl, trivial⟩
 refine WC.seq (WC.region ?_)
 refine WL.box rfl rfl rfl fun b0_0 hb0_0 => ?_
 refine WL.q (oq_assign rfl) rfl rfl rfl ?_
 refine WL.nil (WE.then_normal (WC.sub (fr' := [(1, _), (2, _), (3, _)]) ?_ ⟨rfl, rfl, rfl, trivial⟩))
 refine WC.seq (WC.seq (WC.region ?_))
 refine WL.q (oq_move rfl) rfl rfl rfl ?_
 refine WL.q (oq_len_s Tryz.underlying9 rfl) rfl rfl rfl ?_
 refine WL.q (oq_gtr rfl rfl) rfl rfl rfl ?_
 refine WL.nil (WE.then_normal (WC.sub (fr' := [(1, _), (2, _), (3, _), (12, _)]) ?_ ⟨rfl, rfl, rfl, rfl, trivial⟩))
 refine WC.cond rfl (fun q1 => ?_) (fun q1 => ?_)
 ·
  try simp only [Z1, Z2, Z3, Z4, Z5, Z6, Z7, Z8, Z9, Z0] at q1
  refine WC.seq (WC.region ?_)
  refine WL.q (oq_move rfl) rfl rfl rfl ?_
  refine WL.q (oq_len_s Tryz.underlying9 rfl) rfl rfl rfl ?_
  refine WL.q (oq_move rfl) rfl rfl rfl ?_
  refine WL.q (oq_makeI conc9 rfl) rfl rfl rfl ?_
  refine WL.q (oq_build #[_, _, _, _] str120 ty120 rfl rfl) rfl rfl rfl ?_
  refine WL.q (oq_makeI conc120 rfl) rfl rfl rfl ?_
  refine WL.q (oq_assign rfl) rfl rfl rfl ?_
  refine WL.nil (WE.then_normal (WC.sub (fr' := [(6, _)]) ?_ ⟨rfl, trivial⟩))
  refine WC.ret (WE.then_ret ?_)
  refine WE.lose hb0_0 ?_
  refine WE.endW1 (.inl rfl) (res1 Tryz.results184 rfl) ?_
  exact ⟨_, rfl, rfl⟩
 ·
  try simp only [Z1, Z2, Z3, Z4, Z5, Z6, Z7, Z8, Z9, Z0] at q1
  first | contradiction | (exfalso; omega) | (exfalso; simp_all; done)
theorem encBytesValueX (base : Nat) (k : Value) (s : Value) (Z G : Hp) (data : List UInt8) (hr : RdS 1 s Z data.length (bytesV data)) (hdl : 32767 < data.length) (hl : data.length ≤ 400000) : FnW Tryz.prog 177 [s, k] base [G, Z] (fun w Hs => ∃ e, w = .iface 120 e ∧ Hs = [G, Z]) := by
 refine FnW.enter (n := 13) Tryz.func177 rfl rfl fun w0 R0 hbase => ?_
 subst hbase
 show WC _ _ _ _ _ _ _ ([G, Z, R0])
 refine WC.sub (fr' := [(0, _), (1, _)]) ?_ ⟨rfl, rfl, trivial⟩
 refine WC.seq (WC.region ?_)
 refine WL.q (oq_assign rfl) rfl rfl rfl ?_
 refine WL.nil (WE.then_normal (WC.sub (fr' := [(0, _), (1, _)]) ?_ ⟨rfl, rfl, trivial⟩))
 refine WC.seq (WC.region ?_)
 refine WL.q (oq_move rfl) rfl rfl rfl ?_
 refine WL.qc (oq_call (vtBytesValue s) call178 rfl) rfl rfl rfl ?_
 refine WL.q (oq_build #[_, _, _] str224 ty224 rfl rfl) rfl rfl rfl ?_
 refine WL.alloc ty224 rfl rfl fun b1_3 hb1_3 => ?_
 refine WL.storeS #[_, _, _] ty224 rfl rfl rfl rfl (Nat.le_of_ble_eq_true rfl) rfl rfl ?_
 refine WL.nil (WE.then_normal (WC.sub (fr' := [(0, _), (1, _), (5, _)]) ?_ ⟨rfl, rfl, rfl, trivial⟩))
 refine WC.seq (WC.region ?_)
 refine WL.q (oq_loadS [_, _, _] agg224 ty224 rfl (.head _) (List.mem_singleton.2 rfl) rfl rfl) rfl rfl rfl ?_
 refine WL.q (oq_move rfl) rfl rfl rfl ?_
 refine WL.q (oq_move rfl) rfl rfl rfl ?_
 refine WL.f2 ?_
 refine WL.f2 ?_
 refine WL.callW2 (encBytesX _ 6 (.int .u16 0) (.slice none 0 0) k s Z G data hr hdl hl) call179 rfl rfl rfl fun v2_3 Hs2_3 hR2_3 => ?_
 obtain ⟨e, rfl, rfl⟩ := hR2_3
 refine WL.to2 ?_
 refine WL.q (oq_assign rfl) rfl rfl rfl ?_
 refine WL.nil (WE.then_normal (WC.sub (fr' := [(4, _)]) ?_ ⟨rfl, trivial⟩))
 refine WC.ret ?_
 refine WE.f2 ?_
 refine WE.lose hb1_3 ?_
 refine WE.endW2 (.inl rfl) (res1 Tryz.results177 rfl) ?_
 exact ⟨_, rfl, rfl⟩
theorem encStringValueX (base : Nat) (k : Value) (G : Hp) (data : List UInt8) (hdl : 32767 < data.length) (hl : data.length ≤ 400000) : FnW Tryz.prog 182 [S data, k] base [G] (fun w Hs => ∃ e, w = .iface 120 e ∧ Hs = [G]) := by
 refine FnW.enter (n := 13) Tryz.func182 rfl rfl fun w0 R0 hbase => ?_
 subst hbase
 show WC _ _ _ _ _ _ _ ([G, R0])
 refine WC.sub (fr' := [(0, _), (1, _)]) ?_ ⟨rfl, rfl, trivial⟩
 refine WC.seq (WC.region ?_)
 refine WL.q (oq_assign rfl) rfl rfl rfl ?_
 refine WL.nil (WE.then_normal (WC.sub (fr' := [(0, _), (1, _)]) ?_ ⟨rfl, rfl, trivial⟩))
 refine WC.seq (WC.region ?_)
 refine WL.q (oq_move rfl) rfl rfl rfl ?_
 refine WL.qc (oq_call (vtStringValue (S data)) call183 rfl) rfl rfl rfl ?_
 refine WL.q (oq_build #[_, _, _] str224 ty224 rfl rfl) rfl rfl rfl ?_
 refine WL.alloc ty224 rfl rfl fun b1_3 hb1_3 => ?_
 refine WL.storeS #[_, _, _] ty224 rfl rfl rfl rfl (Nat.le_of_ble_eq_true rfl) rfl rfl ?_
 refine WL.nil (WE.then_normal (WC.sub (fr' := [(0, _), (1, _), (5, _)]) ?_ ⟨rfl, rfl, rfl, trivial⟩))
 refine WC.seq (WC.region ?_)
 refine WL.q (oq_loadS [_, _, _] agg224 ty224 rfl (.head _) (List.mem_singleton.2 rfl) rfl rfl) rfl rfl rfl ?_
 refine WL.q (oq_move rfl) rfl rfl rfl ?_
 refine WL.q (oq_move rfl) rfl rfl rfl ?_
 refine WL.f1 ?_
 refine WL.callW1 (encStringX _ 7 (.int .u16 0) (.slice none 0 0) k G data hdl hl) call184 rfl rfl rfl fun v2_3 Hs2_3 hR2_3 => ?_
 obtain ⟨e, rfl, rfl⟩ := hR2_3
 refine WL.to1 ?_
 refine WL.q (oq_assign rfl) rfl rfl rfl ?_
 refine WL.nil (WE.then_normal (WC.sub (fr' := [(4, _)]) ?_ ⟨rfl, trivial⟩))
 refine WC.ret ?_
 refine WE.f1 ?_
 refine WE.lose hb1_3 ?_
 refine WE.endW1 (.inl rfl) (res1 Tryz.results182 rfl) ?_
 exact ⟨_, rfl, rfl⟩
structure HV where
 name : List UInt8
 kind : Int
 width : Int
 int : Int
 text : List UInt8
def HV.row (h : HV) : List Value := [S h.name, I h.kind, I h.width, I h.int, S h.text]
def fineV (h : HV) : Prop := 0 ≤ h.kind ∧ h.kind ≤ 5 ∧ (h.kind = 1 → (h.width = 8 ∧ -128 ≤ h.int ∧ h.int ≤ 127) ∨ (h.width = 16 ∧ -32768 ≤ h.int ∧ h.int ≤ 32767) ∨ (h.width = 32 ∧ -2147483648 ≤ h.int ∧ h.int ≤ 2147483647) ∨ h.width = 64) ∧ (h.kind = 5 → h.text.length = 16) ∧ (h.kind = 4 → -9200000000000 ≤ h.int ∧ h.int ≤ 9200000000000)
def badT (h : HV) : Bool := (h.kind == 2 || h.kind == 3) && decide (32767 < h.text.length)
def tagW (w : Int) : UInt8 := if w = 8 then 2 else if w = 16 then 3 else if w = 32 then 4 else 5
def enc (h : HV) : List UInt8 :=
 if h.kind = 1 then tagW h.width :: be (h.width / 8).toNat h.int
 else if h.kind = 2 then 6 :: be 2 h.text.length ++ h.text
 else if h.kind = 3 then 7 :: be 2 h.text.length ++ h.text
 else if h.kind = 4 then 8 :: be 8 h.int
 else if h.kind = 5 then 9 :: h.text
 else [if h.int = 0 then 1 else 0]
abbrev encName : String := "given.example/pub-tinwright/pub/smithy/eventstream.encode"
def EncR (base bb : Nat) (h : HV) (acc : List UInt8) (N : Hp) (w : Value) (Hs : List Hp) : Prop :=
 if badT h then ∃ e G', w = .iface 120 e ∧ Hs = [G', N] ∧ BufG base bb acc G' else ∃ G', w = .nilIface ∧ Hs = [G', N] ∧ BufG base bb (acc ++ enc h) G'
def VOk (h : HV) (v : Value) (N : Hp) : Prop :=
 ∃ k r f, v = .iface k r ∧ Inv1 Tryz.prog k encName f ∧ ∀ base bb acc G, BufG base bb acc G → acc.length ≤ 250000 → FnW Tryz.prog f [r, (.iface 107 (Pt bb 0))] base [G, N] (EncR base bb h acc N)
theorem VOk.wide {h : HV} {v : Value} {N Z D : Hp} (hv : VOk h v N) (p : Z.Perm (N ++ D)) : VOk h v Z := by
 obtain ⟨k, r, f, rfl, hi, hf⟩ := hv
 refine ⟨k, r, f, rfl, hi, fun base bb acc G hG hl w0 R0 w hbase hw => ?_⟩
 have p1 : (([G, Z] : List Hp) ++ [R0]).flatten.Perm (([G, N] : List Hp) ++ [D ++ R0]).flatten := by
  simp only [List.cons_append, List.nil_append, List.flatten_cons, List.flatten_nil, List.append_nil, List.append_assoc]
  refine List.Perm.append_left _ ?_
  rw [← List.append_assoc]
  exact p.append_right _
 refine (hf base bb acc G hG hl w0 (D ++ R0) w hbase (hw.perm p1)).mono ?_
 rintro e w' ⟨u, Hs, he, hR, hst⟩
 have back : ∀ G' : Hp, (([G', N] : List Hp) ++ [D ++ R0]).flatten.Perm (([G', Z] : List Hp) ++ [R0]).flatten := fun G' => by
  simp only [List.cons_append, List.nil_append, List.flatten_cons, List.flatten_nil, List.append_nil, List.append_assoc]
  refine List.Perm.append_left _ ?_
  rw [← List.append_assoc]
  exact (p.append_right _).symm
 unfold EncR at hR ⊢
 split at hR
 ·obtain ⟨e1, G', rfl, rfl, hG1⟩ := hR
  exact ⟨_, [G', Z], he, by rename_i hb; rw [if_pos hb]; exact ⟨e1, G', rfl, rfl, hG1⟩, hst.perm (back G')⟩
 ·obtain ⟨G', rfl, rfl, hG'⟩ := hR
  exact ⟨_, [G', Z], he, by rename_i hb; rw [if_neg hb]; exact ⟨G', rfl, rfl, hG'⟩, hst.perm (back G')⟩
theorem vok0 {h : HV} {k : TypeId} {r : Value} {f : FuncId} (hi : Inv1 Tryz.prog k encName f) (hb : badT h = false) (hf : ∀ base bb acc G, BufG base bb acc G → acc.length ≤ 250000 → FnW Tryz.prog f [r, (.iface 107 (Pt bb 0))] base [G] (Then (BufG base bb) (acc ++ enc h) [])) : VOk h (.iface k r) [] := by
 refine ⟨k, r, f, rfl, hi, fun base bb acc G hG hl w0 R0 w hbase hw => ?_⟩
 refine (hf base bb acc G hG hl w0 R0 w hbase (by simpa using hw)).mono ?_
 rintro e w' ⟨u, Hs, he, ⟨G', rfl, rfl, hG'⟩, hst⟩
 exact ⟨_, [G', []], he, by unfold EncR; rw [hb]; exact ⟨G', rfl, rfl, hG'⟩, by simpa using hst⟩
theorem vokX {h : HV} {k : TypeId} {r : Value} {f : FuncId} (hi : Inv1 Tryz.prog k encName f) (hb : badT h = true) (hf : ∀ base bb G, FnW Tryz.prog f [r, (.iface 107 (Pt bb 0))] base [G] (fun w Hs => ∃ e, w = .iface 120 e ∧ Hs = [G])) : VOk h (.iface k r) [] := by
 refine ⟨k, r, f, rfl, hi, fun base bb acc G hG hl w0 R0 w hbase hw => ?_⟩
 refine (hf base bb G w0 R0 w hbase (by simpa using hw)).mono ?_
 rintro e w' ⟨u, Hs, he, ⟨e1, rfl, rfl⟩, hst⟩
 exact ⟨_, [G, []], he, by unfold EncR; rw [hb]; exact ⟨e1, G, rfl, rfl, hG⟩, by simpa using hst⟩
theorem invInt8Value : Inv1 Tryz.prog 127 encName 160 := fun x a w => by kernel_rfl
theorem invInt16Value : Inv1 Tryz.prog 129 encName 165 := fun x a w => by kernel_rfl
theorem invInt32Value : Inv1 Tryz.prog 130 encName 169 := fun x a w => by kernel_rfl
theorem invInt64Value : Inv1 Tryz.prog 131 encName 173 := fun x a w => by kernel_rfl
theorem invBytesValue : Inv1 Tryz.prog 132 encName 177 := fun x a w => by kernel_rfl
theorem invStringValue : Inv1 Tryz.prog 133 encName 182 := fun x a w => by kernel_rfl
theorem invTimestampValue : Inv1 Tryz.prog 134 encName 187 := fun x a w => by kernel_rfl
theorem invUUIDValue : Inv1 Tryz.prog 137 encName 193 := fun x a w => by kernel_rfl
theorem invBoolValue : Inv1 Tryz.prog 126 encName 156 := fun x a w => by kernel_rfl
theorem enc_1 {h : HV} (hk : h.kind = 1) : enc h = tagW h.width :: be (h.width / 8).toNat h.int := by unfold enc; rw [if_pos hk]
theorem bad_no {h : HV} (h2 : h.kind ≠ 2) (h3 : h.kind ≠ 3) : badT h = false := by unfold badT; simp [h2, h3]
theorem vokInt8Value {h : HV} (hk : h.kind = 1) (hw : h.width = 8) : VOk h (.iface 127 (.int .i8 h.int)) [] := by
 refine vok0 invInt8Value (bad_no (by omega) (by omega)) fun base bb acc G hG hal => ?_
 have he : enc h = 2 :: be 1 h.int := by rw [enc_1 hk, hw]; rfl
 rw [he]
 exact encInt8Value base _ _ _ _ (bufWr base bb) acc G hG h.int (by omega)
theorem vokInt16Value {h : HV} (hk : h.kind = 1) (hw : h.width = 16) : VOk h (.iface 129 (.int .i16 h.int)) [] := by
 refine vok0 invInt16Value (bad_no (by omega) (by omega)) fun base bb acc G hG hal => ?_
 have he : enc h = 3 :: be 2 h.int := by rw [enc_1 hk, hw]; rfl
 rw [he]
 exact encInt16Value base _ _ _ _ (bufWr base bb) acc G hG h.int (by omega)
theorem vokInt32Value {h : HV} (hk : h.kind = 1) (hw : h.width = 32) : VOk h (.iface 130 (.int .i32 h.int)) [] := by
 refine vok0 invInt32Value (bad_no (by omega) (by omega)) fun base bb acc G hG hal => ?_
 have he : enc h = 4 :: be 4 h.int := by rw [enc_1 hk, hw]; rfl
 rw [he]
 exact encInt32Value base _ _ _ _ (bufWr base bb) acc G hG h.int (by omega)
theorem vokInt64Value {h : HV} (hk : h.kind = 1) (hw : h.width = 64) : VOk h (.iface 131 (.int .i64 h.int)) [] := by
 refine vok0 invInt64Value (bad_no (by omega) (by omega)) fun base bb acc G hG hal => ?_
 have he : enc h = 5 :: be 8 h.int := by rw [enc_1 hk, hw]; rfl
 rw [he]
 exact encInt64Value base _ _ _ _ (bufWr base bb) acc G hG h.int (by omega)
theorem vokBytes {h : HV} {s : Value} {N : Hp} (hk : h.kind = 2) (hr : RdS 1 s N h.text.length (bytesV h.text)) (hl : h.text.length ≤ 400000) : VOk h (.iface 132 s) N := by
 refine ⟨_, _, _, rfl, invBytesValue, fun base bb acc G hG hal => ?_⟩
 by_cases hb : 32767 < h.text.length
 ·refine (encBytesValueX base _ s N G h.text hr hb hl).mono ?_
  rintro w Hs ⟨e, rfl, rfl⟩
  have hbd : badT h = true := by unfold badT; simp [hk, hb]
  unfold EncR; rw [hbd]
  exact ⟨e, G, rfl, rfl, hG⟩
 ·refine (encBytesValue base _ _ _ _ (bufWr base bb) acc G hG s N h.text hr (by omega) hal).mono ?_
  rintro w Hs ⟨G', rfl, rfl, hG'⟩
  have he : enc h = 6 :: be 2 h.text.length ++ h.text := by unfold enc; rw [if_neg (by omega), if_pos hk]
  have hbd : badT h = false := by unfold badT; simp [hb]
  unfold EncR; rw [hbd]
  exact ⟨G', rfl, rfl, by rw [he]; exact hG'⟩
theorem vokString {h : HV} (hk : h.kind = 3) (hl : h.text.length ≤ 400000) : VOk h (.iface 133 (S h.text)) [] := by
 by_cases hb : 32767 < h.text.length
 ·exact vokX invStringValue (by unfold badT; simp [hk, hb]) fun base bb G => encStringValueX base _ G h.text hb hl
 ·refine vok0 invStringValue (by unfold badT; simp [hb]) fun base bb acc G hG hal => ?_
  have he : enc h = 7 :: be 2 h.text.length ++ h.text := by unfold enc; rw [if_neg (by omega), if_neg (by omega), if_pos hk]
  rw [he]
  exact encStringValue base bb acc G hG h.text (by omega) hal
theorem vokTime {h : HV} (hk : h.kind = 4) (h1 : -9200000000000 ≤ h.int) (h2 : h.int ≤ 9200000000000) : VOk h (.iface 134 (msV h.int)) [] := by
 refine vok0 invTimestampValue (bad_no (by omega) (by omega)) fun base bb acc G hG hal => ?_
 have he : enc h = 8 :: be 8 h.int := by unfold enc; rw [if_neg (by omega), if_neg (by omega), if_neg (by omega), if_pos hk]
 rw [he]
 exact encTimestampValue base _ _ _ _ (bufWr base bb) acc G hG h.int h1 h2 (by omega)
theorem vokUUID {h : HV} (hk : h.kind = 5) (hl : h.text.length = 16) : VOk h (.iface 137 (.agg (bytesV h.text).toArray)) [] := by
 refine vok0 invUUIDValue (bad_no (by omega) (by omega)) fun base bb acc G hG hal => ?_
 have he : enc h = 9 :: h.text := by unfold enc; rw [if_neg (by omega), if_neg (by omega), if_neg (by omega), if_neg (by omega), if_pos hk]
 rw [he]
 exact encUUIDValue base _ _ _ _ (bufWr base bb) acc G hG h.text hl hal
theorem vokBool {h : HV} (hk : h.kind = 0) : VOk h (.iface 126 (.bool (decide (¬ h.int = 0)))) [] := by
 refine vok0 invBoolValue (bad_no (by omega) (by omega)) fun base bb acc G hG hal => ?_
 have he : enc h = [if (decide (¬ h.int = 0)) then 0 else 1] := by
  unfold enc; rw [if_neg (by omega), if_neg (by omega), if_neg (by omega), if_neg (by omega), if_neg (by omega)]
  by_cases h0 : h.int = 0 <;> simp [h0]
 rw [he]
 exact encBoolValue base _ _ _ _ (bufWr base bb) acc G hG _ (by omega)
theorem valueFor (h : HV) (hf : fineV h) (hl : h.text.length ≤ 400000) : FnA Tryz.prog 35 [.agg #[I h.kind, I h.width, I h.int, S h.text]] [] (fun v N => VOk h v N) := by
 obtain ⟨hk0, hk5, hwd, hun, htm⟩ := hf
 refine FnA.enter0 (n := 60) Tryz.func35 rfl rfl fun w0 => ?_
 refine WC.sub (fr' := [(0, _)]) ?_ ⟨rfl, trivial⟩
 refine WC.seq (WC.region ?_)
 refine WL.box rfl rfl rfl fun b0_0 hb0_0 => ?_
 refine WL.q (oq_assign rfl) rfl rfl rfl ?_
 refine WL.nil (WE.then_normal (WC.sub (fr' := [(1, _)]) ?_ ⟨rfl, trivial⟩))
 refine WC.seq (WC.seq (WC.region ?_))
 refine WL.q (oq_fieldAddr fld24_0 rfl) rfl rfl rfl ?_
 refine WL.q (oq_load flat3 rfl (.head _) (List.mem_singleton.2 rfl) rfl) rfl rfl rfl ?_
 refine WL.nil (WE.then_normal (WC.sub (fr' := [(1, _), (5, _)]) ?_ ⟨rfl, rfl, trivial⟩))
 refine WC.block (WC.seq (WC.region ?_))
 refine WL.q (oq_eql rfl rfl) rfl rfl rfl ?_
 refine WL.q (oq_assign rfl) rfl rfl rfl ?_
 refine WL.nil (WE.then_normal (WC.sub (fr' := [(1, _), (5, _), (6, _)]) ?_ ⟨rfl, rfl, rfl, trivial⟩))
 refine WC.cond rfl (fun q2 => ?_) (fun q2 => ?_)
 ·
  try simp only [Z1, Z2, Z3, Z4, Z5, Z6, Z7, Z8, Z9, Z0] at q2
  refine WC.seq (WC.seq (WC.region ?_))
  refine WL.q (oq_fieldAddr fld24_1 rfl) rfl rfl rfl ?_
  refine WL.q (oq_load flat3 rfl (.head _) (List.mem_singleton.2 rfl) rfl) rfl rfl rfl ?_
  refine WL.nil (WE.then_normal (WC.sub (fr' := [(1, _), (9, _)]) ?_ ⟨rfl, rfl, trivial⟩))
  refine WC.block (WC.seq (WC.region ?_))
  refine WL.q (oq_eql rfl rfl) rfl rfl rfl ?_
  refine WL.q (oq_assign rfl) rfl rfl rfl ?_
  refine WL.nil (WE.then_normal (WC.sub (fr' := [(1, _), (9, _), (10, _)]) ?_ ⟨rfl, rfl, rfl, trivial⟩))
  refine WC.cond rfl (fun q4 => ?_) (fun q4 => ?_)
  ·
   try simp only [Z1, Z2, Z3, Z4, Z5, Z6, Z7, Z8, Z9, Z0] at q4
   refine WC.seq ?_
   have hw8 := hwd q2
   refine WC.region ?_
   refine WL.q (oq_fieldAddr fld24_2 rfl) rfl rfl rfl ?_
   refine WL.q (oq_load flat2 rfl (.head _) (List.mem_singleton.2 rfl) rfl) rfl rfl rfl ?_
   refine WL.q (oq_conv Tryz.underlying2 Tryz.underlying127 rfl (by rw [i8_lo, i8_hi]; (first | omega | (simp only [List.length_cons, List.length_nil, List.length_append, List.length_drop, List.length_take]; omega)))) rfl rfl rfl ?_
   refine WL.q (oq_makeI conc127 rfl) rfl rfl rfl ?_
   refine WL.q (oq_assign rfl) rfl rfl rfl ?_
   refine WL.nil (WE.then_normal (WC.sub (fr' := [(2, _)]) ?_ ⟨rfl, trivial⟩))
   refine WC.ret (WE.block_ret (WE.then_ret (WE.block_ret (WE.then_ret ?_))))
   refine WE.lose hb0_0 ?_
   refine WE.add0 ?_
   refine WE.endA0 (.inl rfl) (res1 Tryz.results35 rfl) ?_ fresh0
   exact vokInt8Value q2 q4
  ·
   try simp only [Z1, Z2, Z3, Z4, Z5, Z6, Z7, Z8, Z9, Z0] at q4
   refine WC.seq (WC.region ?_)
   refine WL.q (oq_eql rfl rfl) rfl rfl rfl ?_
   refine WL.q (oq_assign rfl) rfl rfl rfl ?_
   refine WL.nil (WE.then_normal (WC.sub (fr' := [(1, _), (9, _), (16, _)]) ?_ ⟨rfl, rfl, rfl, trivial⟩))
   refine WC.cond rfl (fun q6 => ?_) (fun q6 => ?_)
   ·
    try simp only [Z1, Z2, Z3, Z4, Z5, Z6, Z7, Z8, Z9, Z0] at q6
    refine WC.seq ?_
    have hw8 := hwd q2
    refine WC.region ?_
    refine WL.q (oq_fieldAddr fld24_2 rfl) rfl rfl rfl ?_
    refine WL.q (oq_load flat2 rfl (.head _) (List.mem_singleton.2 rfl) rfl) rfl rfl rfl ?_
    refine WL.q (oq_conv Tryz.underlying2 Tryz.underlying129 rfl (by rw [i16_lo, i16_hi]; (first | omega | (simp only [List.length_cons, List.length_nil, List.length_append, List.length_drop, List.length_take]; omega)))) rfl rfl rfl ?_
    refine WL.q (oq_makeI conc129 rfl) rfl rfl rfl ?_
    refine WL.q (oq_assign rfl) rfl rfl rfl ?_
    refine WL.nil (WE.then_normal (WC.sub (fr' := [(2, _)]) ?_ ⟨rfl, trivial⟩))
    refine WC.ret (WE.block_ret (WE.then_ret (WE.block_ret (WE.then_ret ?_))))
    refine WE.lose hb0_0 ?_
    refine WE.add0 ?_
    refine WE.endA0 (.inl rfl) (res1 Tryz.results35 rfl) ?_ fresh0
    exact vokInt16Value q2 q6
   ·
    try simp only [Z1, Z2, Z3, Z4, Z5, Z6, Z7, Z8, Z9, Z0] at q6
    refine WC.seq (WC.region ?_)
    refine WL.q (oq_eql rfl rfl) rfl rfl rfl ?_
    refine WL.q (oq_assign rfl) rfl rfl rfl ?_
    refine WL.nil (WE.then_normal (WC.sub (fr' := [(1, _), (22, _)]) ?_ ⟨rfl, rfl, trivial⟩))
    refine WC.cond rfl (fun q8 => ?_) (fun q8 => ?_)
    ·
     try simp only [Z1, Z2, Z3, Z4, Z5, Z6, Z7, Z8, Z9, Z0] at q8
     refine WC.seq ?_
     have hw8 := hwd q2
     refine WC.region ?_
     refine WL.q (oq_fieldAddr fld24_2 rfl) rfl rfl rfl ?_
     refine WL.q (oq_load flat2 rfl (.head _) (List.mem_singleton.2 rfl) rfl) rfl rfl rfl ?_
     refine WL.q (oq_conv Tryz.underlying2 Tryz.underlying130 rfl (by rw [i32_lo, i32_hi]; (first | omega | (simp only [List.length_cons, List.length_nil, List.length_append, List.length_drop, List.length_take]; omega)))) rfl rfl rfl ?_
     refine WL.q (oq_makeI conc130 rfl) rfl rfl rfl ?_
     refine WL.q (oq_assign rfl) rfl rfl rfl ?_
     refine WL.nil (WE.then_normal (WC.sub (fr' := [(2, _)]) ?_ ⟨rfl, trivial⟩))
     refine WC.ret (WE.block_ret (WE.then_ret (WE.block_ret (WE.then_ret ?_))))
     refine WE.lose hb0_0 ?_
     refine WE.add0 ?_
     refine WE.endA0 (.inl rfl) (res1 Tryz.results35 rfl) ?_ fresh0
     exact vokInt32Value q2 q8
    ·
     try simp only [Z1, Z2, Z3, Z4, Z5, Z6, Z7, Z8, Z9, Z0] at q8
     refine WC.skip (WE.block_normal (WE.then_normal (WC.sub (fr' := [(1, _)]) ?_ ⟨rfl, trivial⟩)))
     refine WC.seq ?_
     have hw8 := hwd q2
     refine WC.region ?_
     refine WL.q (oq_fieldAddr fld24_2 rfl) rfl rfl rfl ?_
     refine WL.q (oq_load flat2 rfl (.head _) (List.mem_singleton.2 rfl) rfl) rfl rfl rfl ?_
     refine WL.q (oq_makeI conc131 rfl) rfl rfl rfl ?_
     refine WL.q (oq_assign rfl) rfl rfl rfl ?_
     refine WL.nil (WE.then_normal (WC.sub (fr' := [(2, _)]) ?_ ⟨rfl, trivial⟩))
     refine WC.ret (WE.block_ret (WE.then_ret ?_))
     refine WE.lose hb0_0 ?_
     refine WE.add0 ?_
     refine WE.endA0 (.inl rfl) (res1 Tryz.results35 rfl) ?_ fresh0
     exact vokInt64Value q2 (by omega)
 ·
  try simp only [Z1, Z2, Z3, Z4, Z5, Z6, Z7, Z8, Z9, Z0] at q2
  refine WC.seq (WC.region ?_)
  refine WL.q (oq_eql rfl rfl) rfl rfl rfl ?_
  refine WL.q (oq_assign rfl) rfl rfl rfl ?_
  refine WL.nil (WE.then_normal (WC.sub (fr' := [(1, _), (5, _), (31, _)]) ?_ ⟨rfl, rfl, rfl, trivial⟩))
  refine WC.cond rfl (fun q11 => ?_) (fun q11 => ?_)
  ·
   try simp only [Z1, Z2, Z3, Z4, Z5, Z6, Z7, Z8, Z9, Z0] at q11
   refine WC.seq (WC.region ?_)
   refine WL.q (oq_fieldAddr fld24_3 rfl) rfl rfl rfl ?_
   refine WL.q (oq_load flat9 rfl (.head _) (List.mem_singleton.2 rfl) rfl) rfl rfl rfl ?_
   refine WL.toBytes Tryz.underlying9 Tryz.underlying132 Tryz.underlying5 rfl (by unfold maxLen; (first | omega | (simp only [List.length_cons, List.length_nil, List.length_append, List.length_drop, List.length_take]; omega))) rfl rfl fun v12_2 A12_2 hr12_2 hA12_2 => ?_
   refine WL.q (oq_makeI conc132 rfl) rfl rfl rfl ?_
   refine WL.q (oq_assign rfl) rfl rfl rfl ?_
   refine WL.nil (WE.then_normal (WC.sub (fr' := [(2, _)]) ?_ ⟨rfl, trivial⟩))
   refine WC.ret (WE.block_ret (WE.then_ret ?_))
   refine WE.f1 ?_
   refine WE.lose hb0_0 ?_
   refine WE.endA0 (.inl rfl) (res1 Tryz.results35 rfl) ?_ (hA12_2)
   exact vokBytes q11 hr12_2 hl
  ·
   try simp only [Z1, Z2, Z3, Z4, Z5, Z6, Z7, Z8, Z9, Z0] at q11
   refine WC.seq (WC.region ?_)
   refine WL.q (oq_eql rfl rfl) rfl rfl rfl ?_
   refine WL.q (oq_assign rfl) rfl rfl rfl ?_
   refine WL.nil (WE.then_normal (WC.sub (fr' := [(1, _), (5, _), (37, _)]) ?_ ⟨rfl, rfl, rfl, trivial⟩))
   refine WC.cond rfl (fun q13 => ?_) (fun q13 => ?_)
   ·
    try simp only [Z1, Z2, Z3, Z4, Z5, Z6, Z7, Z8, Z9, Z0] at q13
    refine WC.seq (WC.region ?_)
    refine WL.q (oq_fieldAddr fld24_3 rfl) rfl rfl rfl ?_
    refine WL.q (oq_load flat9 rfl (.head _) (List.mem_singleton.2 rfl) rfl) rfl rfl rfl ?_
    refine WL.q (oq_makeI conc133 rfl) rfl rfl rfl ?_
    refine WL.q (oq_assign rfl) rfl rfl rfl ?_
    refine WL.nil (WE.then_normal (WC.sub (fr' := [(2, _)]) ?_ ⟨rfl, trivial⟩))
    refine WC.ret (WE.block_ret (WE.then_ret ?_))
    refine WE.lose hb0_0 ?_
    refine WE.add0 ?_
    refine WE.endA0 (.inl rfl) (res1 Tryz.results35 rfl) ?_ fresh0
    exact vokString q13 hl
   ·
    try simp only [Z1, Z2, Z3, Z4, Z5, Z6, Z7, Z8, Z9, Z0] at q13
    refine WC.seq (WC.region ?_)
    refine WL.q (oq_eql rfl rfl) rfl rfl rfl ?_
    refine WL.q (oq_assign rfl) rfl rfl rfl ?_
    refine WL.nil (WE.then_normal (WC.sub (fr' := [(1, _), (5, _), (42, _)]) ?_ ⟨rfl, rfl, rfl, trivial⟩))
    refine WC.cond rfl (fun q15 => ?_) (fun q15 => ?_)
    ·
     try simp only [Z1, Z2, Z3, Z4, Z5, Z6, Z7, Z8, Z9, Z0] at q15
     refine WC.seq ?_
     have htm2 := htm q15
     refine WC.region ?_
     refine WL.q (oq_fieldAddr fld24_2 rfl) rfl rfl rfl ?_
     refine WL.q (oq_load flat2 rfl (.head _) (List.mem_singleton.2 rfl) rfl) rfl rfl rfl ?_
     refine WL.qc (oq_call (unixMilli h.int htm2.1 htm2.2) call43 rfl) rfl rfl rfl ?_
     refine WL.q (oq_makeI conc134 rfl) rfl rfl rfl ?_
     refine WL.q (oq_assign rfl) rfl rfl rfl ?_
     refine WL.nil (WE.then_normal (WC.sub (fr' := [(2, _)]) ?_ ⟨rfl, trivial⟩))
     refine WC.ret (WE.block_ret (WE.then_ret ?_))
     refine WE.lose hb0_0 ?_
     refine WE.add0 ?_
     refine WE.endA0 (.inl rfl) (res1 Tryz.results35 rfl) ?_ fresh0
     exact vokTime q15 htm2.1 htm2.2
    ·
     try simp only [Z1, Z2, Z3, Z4, Z5, Z6, Z7, Z8, Z9, Z0] at q15
     refine WC.seq (WC.region ?_)
     refine WL.q (oq_eql rfl rfl) rfl rfl rfl ?_
     refine WL.q (oq_assign rfl) rfl rfl rfl ?_
     refine WL.nil (WE.then_normal (WC.sub (fr' := [(1, _), (48, _)]) ?_ ⟨rfl, rfl, trivial⟩))
     refine WC.cond rfl (fun q17 => ?_) (fun q17 => ?_)
     ·
      try simp only [Z1, Z2, Z3, Z4, Z5, Z6, Z7, Z8, Z9, Z0] at q17
      refine WC.seq ?_
      have hul := hun q17
      refine WC.region ?_
      refine WL.alloc ty137 rfl rfl fun ub hub => ?_
      refine WL.asB (List.replicate 16 0) rfl ?_
      refine WL.nil (WE.then_normal (WC.sub (fr' := [(1, _), (3, _)]) ?_ ⟨rfl, rfl, trivial⟩))
      refine WC.seq ?_
      refine WC.tailM (pl := []) (ql := [_, _, _]) (tl := [_]) [] [0, 1, 2] 3 [] (by kernel_rfl) (by kernel_rfl) (by kernel_rfl) (by kernel_rfl) (by kernel_rfl) (by kernel_rfl) (by decide) rfl rfl rfl (by decide) (by repeat (first | with_reducible exact QOk.body | with_reducible apply QOk.then | with_reducible apply QOk.block | exact QOk.body | apply QOk.then | apply QOk.block)) ?_
      refine WM.nil ?_
      refine WY.q (oq_sliceArr Tryz.underlying137 ty5 rfl rfl rfl (by (first | (simp only [List.length_replicate]; omega) | omega)) (by (first | (simp only [List.length_replicate]; omega) | omega))) rfl rfl rfl ?_
      refine WY.q (oq_fieldAddr fld24_3 rfl) rfl rfl rfl ?_
      refine WY.q (oq_load flat9 rfl (.tail _ (.head _)) (List.mem_singleton.2 rfl) rfl) rfl rfl rfl ?_
      refine WY.nil ?_
      refine WL.copyBS Tryz.underlying28 ty5 rfl rfl (by (first | (simp only [List.length_replicate]; omega) | omega)) rfl rfl ?_
      refine WL.nil (WE.then_normal (WC.sub (fr' := [(3, _)]) ?_ ⟨rfl, trivial⟩))
      refine WC.seq ?_
      have hcp : List.take (0 + 0) (List.replicate 16 0) ++ List.take (min h.text.length (16 - 0)) h.text ++ List.drop (0 + 0 + min h.text.length (16 - 0)) (List.replicate 16 0) = h.text := by
       rw [hul, List.take_of_length_le (l := h.text) (by omega)]; simp
      rw [hcp]
      refine WC.region ?_
      refine WL.q (oq_loadArr agg137 ty137 (hul) rfl (.head _)) rfl rfl rfl ?_
      refine WL.q (oq_makeI conc137 rfl) rfl rfl rfl ?_
      refine WL.q (oq_assign rfl) rfl rfl rfl ?_
      refine WL.nil (WE.then_normal (WC.sub (fr' := [(2, _)]) ?_ ⟨rfl, trivial⟩))
      refine WC.ret (WE.block_ret (WE.then_ret ?_))
      refine WE.lose hub ?_
      refine WE.lose hb0_0 ?_
      refine WE.add0 ?_
      refine WE.endA0 (.inl rfl) (res1 Tryz.results35 rfl) ?_ fresh0
      exact vokUUID q17 hul
     ·
      try simp only [Z1, Z2, Z3, Z4, Z5, Z6, Z7, Z8, Z9, Z0] at q17
      refine WC.skip (WE.block_normal (WE.then_normal (WC.sub (fr' := [(1, _)]) ?_ ⟨rfl, trivial⟩)))
      refine WC.seq (WC.region ?_)
      refine WL.q (oq_fieldAddr fld24_2 rfl) rfl rfl rfl ?_
      refine WL.q (oq_load flat2 rfl (.head _) (List.mem_singleton.2 rfl) rfl) rfl rfl rfl ?_
      refine WL.q (oq_neq rfl rfl) rfl rfl rfl ?_
      refine WL.q (oq_makeI conc126 rfl) rfl rfl rfl ?_
      refine WL.q (oq_assign rfl) rfl rfl rfl ?_
      refine WL.nil (WE.then_normal (WC.sub (fr' := [(2, _)]) ?_ ⟨rfl, trivial⟩))
      refine WC.ret ?_
      refine WE.lose hb0_0 ?_
      refine WE.add0 ?_
      refine WE.endA0 (.inl rfl) (res1 Tryz.results35 rfl) ?_ fresh0
      exact vokBool (by omega)
end EI
end Go.Proofs.YtodlhaghdplclaaGreatDoor
/- Lists of headers. -/
namespace Go.Proofs.YtodlhaghdplclaaGreatDoor
open Go Go.RowKit V EA EB EC ED EE EF EG EH EI
set_option linter.unusedSimpArgs false
set_option linter.unusedVariables false
set_option maxRecDepth 10000
namespace EJ
theorem call35 : Callable Tryz.prog 35 := ⟨_, Tryz.func35, rfl, by kernel_rfl⟩
theorem call76 : Callable Tryz.prog 76 := ⟨_, Tryz.func76, rfl, by kernel_rfl⟩
theorem flat5 : Flat Tryz.prog 5 := ⟨_, Tryz.underlying5, by simp⟩
theorem flat9 : Flat Tryz.prog 9 := ⟨_, Tryz.underlying9, by simp⟩
theorem flat60 : Flat Tryz.prog 60 := ⟨_, Tryz.underlying60, by simp⟩
theorem ty5 : Ty Tryz.prog 5 (.int .u8 0) 1 1 := ty_of (by kernel_rfl)
theorem ty9 : Ty Tryz.prog 9 (S []) 1 16 := ty_of (by kernel_rfl)
theorem ty24 : Ty Tryz.prog 24 (.agg #[(.int .i64 0), (.int .i64 0), (.int .i64 0), (S [])]) 4 40 := ty_of (by kernel_rfl)
theorem ty32 : Ty Tryz.prog 32 (.agg #[(S []), (.int .i64 0), (.int .i64 0), (.int .i64 0), (S [])]) 5 56 := ty_of (by kernel_rfl)
theorem ty60 : Ty Tryz.prog 60 .nilIface 1 16 := ty_of (by kernel_rfl)
theorem ty120 : Ty Tryz.prog 120 (.agg #[(S []), (.int .i64 0), (.int .i64 0), .nilIface]) 4 48 := ty_of (by kernel_rfl)
theorem ty125 : Ty Tryz.prog 125 (.agg #[(S []), .nilIface]) 2 32 := ty_of (by kernel_rfl)
theorem ty172 : Ty Tryz.prog 172 (.agg #[(.int .u8 0), (.int .u8 0), (.int .u8 0), (.int .u8 0), (.int .u8 0), (.int .u8 0), (.int .u8 0), (.int .u8 0), (.int .u8 0), (.int .u8 0), (.int .u8 0), (.int .u8 0), (.int .u8 0), (.int .u8 0), (.int .u8 0), (.int .u8 0), (.int .u8 0), (.int .u8 0), (.int .u8 0), (.int .u8 0), (.int .u8 0), (.int .u8 0), (.int .u8 0), (.int .u8 0), (.int .u8 0), (.int .u8 0), (.int .u8 0), (.int .u8 0), (.int .u8 0), (.int .u8 0), (.int .u8 0), (.int .u8 0), (.int .u8 0), (.int .u8 0), (.int .u8 0), (.int .u8 0), (.int .u8 0), (.int .u8 0), (.int .u8 0), (.int .u8 0), (.int .u8 0), (.int .u8 0), (.int .u8 0), (.int .u8 0), (.int .u8 0), (.int .u8 0), (.int .u8 0), (.int .u8 0), (.int .u8 0), (.int .u8 0), (.int .u8 0), (.int .u8 0), (.int .u8 0), (.int .u8 0), (.int .u8 0), (.int .u8 0), (.int .u8 0), (.int .u8 0), (.int .u8 0), (.int .u8 0), (.int .u8 0), (.int .u8 0), (.int .u8 0), (.int .u8 0), (.int .u8 0), (.int .u8 0), (.int .u8 0), (.int .u8 0), (.int .u8 0), (.int .u8 0), (.int .u8 0), (.int .u8 0), (.int .u8 0), (.int .u8 0), (.int .u8 0), (.int .u8 0), (.int .u8 0), (.int .u8 0), (.int .u8 0), (.int .u8 0), (.int .u8 0), (.int .u8 0), (.int .u8 0), (.int .u8 0), (.int .u8 0), (.int .u8 0), (.int .u8 0), (.int .u8 0), (.int .u8 0), (.int .u8 0), (.int .u8 0), (.int .u8 0), (.int .u8 0), (.int .u8 0), (.int .u8 0), (.int .u8 0), (.int .u8 0), (.int .u8 0), (.int .u8 0), (.int .u8 0), (.int .u8 0), (.int .u8 0), (.int .u8 0), (.int .u8 0), (.int .u8 0), (.int .u8 0), (.int .u8 0), (.int .u8 0), (.int .u8 0), (.int .u8 0), (.int .u8 0), (.int .u8 0), (.int .u8 0), (.int .u8 0), (.int .u8 0), (.int .u8 0), (.int .u8 0), (.int .u8 0), (.int .u8 0), (.int .u8 0), (.int .u8 0), (.int .u8 0), (.int .u8 0), (.int .u8 0), (.int .u8 0), (.int .u8 0), (.int .u8 0), (.int .u8 0), (.int .u8 0), (.int .u8 0), (.int .u8 0), (.int .u8 0), (.int .u8 0), (.int .u8 0), (.int .u8 0), (.int .u8 0), (.int .u8 0), (.int .u8 0), (.int .u8 0), (.int .u8 0), (.int .u8 0), (.int .u8 0), (.int .u8 0), (.int .u8 0), (.int .u8 0), (.int .u8 0), (.int .u8 0), (.int .u8 0), (.int .u8 0), (.int .u8 0), (.int .u8 0), (.int .u8 0), (.int .u8 0), (.int .u8 0), (.int .u8 0), (.int .u8 0), (.int .u8 0), (.int .u8 0), (.int .u8 0), (.int .u8 0), (.int .u8 0), (.int .u8 0), (.int .u8 0), (.int .u8 0), (.int .u8 0), (.int .u8 0), (.int .u8 0), (.int .u8 0), (.int .u8 0), (.int .u8 0), (.int .u8 0), (.int .u8 0), (.int .u8 0), (.int .u8 0), (.int .u8 0), (.int .u8 0), (.int .u8 0), (.int .u8 0), (.int .u8 0), (.int .u8 0), (.int .u8 0), (.int .u8 0), (.int .u8 0), (.int .u8 0), (.int .u8 0), (.int .u8 0), (.int .u8 0), (.int .u8 0), (.int .u8 0), (.int .u8 0), (.int .u8 0), (.int .u8 0), (.int .u8 0), (.int .u8 0), (.int .u8 0), (.int .u8 0), (.int .u8 0), (.int .u8 0), (.int .u8 0), (.int .u8 0), (.int .u8 0), (.int .u8 0), (.int .u8 0), (.int .u8 0), (.int .u8 0), (.int .u8 0), (.int .u8 0), (.int .u8 0), (.int .u8 0), (.int .u8 0), (.int .u8 0), (.int .u8 0), (.int .u8 0), (.int .u8 0), (.int .u8 0), (.int .u8 0), (.int .u8 0), (.int .u8 0), (.int .u8 0), (.int .u8 0), (.int .u8 0), (.int .u8 0), (.int .u8 0), (.int .u8 0), (.int .u8 0), (.int .u8 0), (.int .u8 0), (.int .u8 0), (.int .u8 0), (.int .u8 0), (.int .u8 0), (.int .u8 0), (.int .u8 0), (.int .u8 0), (.int .u8 0), (.int .u8 0), (.int .u8 0), (.int .u8 0), (.int .u8 0), (.int .u8 0), (.int .u8 0), (.int .u8 0), (.int .u8 0), (.int .u8 0), (.int .u8 0), (.int .u8 0), (.int .u8 0), (.int .u8 0), (.int .u8 0), (.int .u8 0), (.int .u8 0), (.int .u8 0), (.int .u8 0), (.int .u8 0), (.int .u8 0)]) 255 255 := ty_of (by kernel_rfl)
theorem ty174 : Ty Tryz.prog 174 (.agg #[(.int .u8 0), (.int .u8 0), (.int .u8 0), (.int .u8 0), (.int .u8 0), (.int .u8 0), (.int .u8 0), (.int .u8 0), (.int .u8 0), (.int .u8 0), (.int .u8 0), (.int .u8 0), (.int .u8 0), (.int .u8 0), (.int .u8 0), (.int .u8 0), (.int .u8 0), (.int .u8 0), (.int .u8 0), (.int .u8 0), (.int .u8 0), (.int .u8 0), (.int .u8 0), (.int .u8 0), (.int .u8 0), (.int .u8 0), (.int .u8 0), (.int .u8 0), (.int .u8 0), (.int .u8 0), (.int .u8 0), (.int .u8 0), (.int .u8 0), (.int .u8 0), (.int .u8 0), (.int .u8 0), (.int .u8 0), (.int .u8 0), (.int .u8 0), (.int .u8 0), (.int .u8 0), (.int .u8 0), (.int .u8 0), (.int .u8 0), (.int .u8 0), (.int .u8 0), (.int .u8 0), (.int .u8 0), (.int .u8 0), (.int .u8 0), (.int .u8 0), (.int .u8 0), (.int .u8 0), (.int .u8 0), (.int .u8 0), (.int .u8 0), (.int .u8 0), (.int .u8 0), (.int .u8 0), (.int .u8 0), (.int .u8 0), (.int .u8 0), (.int .u8 0), (.int .u8 0), (.int .u8 0), (.int .u8 0), (.int .u8 0), (.int .u8 0), (.int .u8 0), (.int .u8 0), (.int .u8 0), (.int .u8 0), (.int .u8 0), (.int .u8 0), (.int .u8 0), (.int .u8 0), (.int .u8 0), (.int .u8 0), (.int .u8 0), (.int .u8 0), (.int .u8 0), (.int .u8 0), (.int .u8 0), (.int .u8 0), (.int .u8 0), (.int .u8 0), (.int .u8 0), (.int .u8 0), (.int .u8 0), (.int .u8 0), (.int .u8 0), (.int .u8 0), (.int .u8 0), (.int .u8 0), (.int .u8 0), (.int .u8 0), (.int .u8 0), (.int .u8 0), (.int .u8 0), (.int .u8 0), (.int .u8 0), (.int .u8 0), (.int .u8 0), (.int .u8 0), (.int .u8 0), (.int .u8 0), (.int .u8 0), (.int .u8 0), (.int .u8 0), (.int .u8 0), (.int .u8 0), (.int .u8 0), (.int .u8 0), (.int .u8 0), (.int .u8 0), (.int .u8 0), (.int .u8 0), (.int .u8 0), (.int .u8 0), (.int .u8 0), (.int .u8 0), (.int .u8 0), (.int .u8 0), (.int .u8 0), (.int .u8 0), (.int .u8 0), (.int .u8 0), (.int .u8 0), (.int .u8 0), (.int .u8 0), (.int .u8 0), (.int .u8 0), (.int .u8 0), (.int .u8 0), (.int .u8 0), (.int .u8 0), (.int .u8 0), (.int .u8 0), (.int .u8 0), (.int .u8 0), (.int .u8 0), (.int .u8 0), (.int .u8 0), (.int .u8 0), (.int .u8 0), (.int .u8 0), (.int .u8 0), (.int .u8 0), (.int .u8 0), (.int .u8 0), (.int .u8 0), (.int .u8 0), (.int .u8 0), (.int .u8 0), (.int .u8 0), (.int .u8 0), (.int .u8 0), (.int .u8 0), (.int .u8 0), (.int .u8 0), (.int .u8 0), (.int .u8 0), (.int .u8 0), (.int .u8 0), (.int .u8 0), (.int .u8 0), (.int .u8 0), (.int .u8 0), (.int .u8 0), (.int .u8 0), (.int .u8 0), (.int .u8 0), (.int .u8 0), (.int .u8 0), (.int .u8 0), (.int .u8 0), (.int .u8 0), (.int .u8 0), (.int .u8 0), (.int .u8 0), (.int .u8 0), (.int .u8 0), (.int .u8 0), (.int .u8 0), (.int .u8 0), (.int .u8 0), (.int .u8 0), (.int .u8 0), (.int .u8 0), (.int .u8 0), (.int .u8 0), (.int .u8 0), (.int .u8 0), (.int .u8 0), (.int .u8 0), (.int .u8 0), (.int .u8 0), (.int .u8 0), (.int .u8 0), (.int .u8 0), (.int .u8 0), (.int .u8 0), (.int .u8 0), (.int .u8 0), (.int .u8 0), (.int .u8 0), (.int .u8 0), (.int .u8 0), (.int .u8 0), (.int .u8 0), (.int .u8 0), (.int .u8 0), (.int .u8 0), (.int .u8 0), (.int .u8 0), (.int .u8 0), (.int .u8 0), (.int .u8 0), (.int .u8 0), (.int .u8 0), (.int .u8 0), (.int .u8 0), (.int .u8 0), (.int .u8 0), (.int .u8 0), (.int .u8 0), (.int .u8 0), (.int .u8 0), (.int .u8 0), (.int .u8 0), (.int .u8 0), (.int .u8 0), (.int .u8 0), (.int .u8 0), (.int .u8 0), (.int .u8 0), (.int .u8 0), (.int .u8 0), (.int .u8 0), (.int .u8 0), (.int .u8 0), (.int .u8 0), (.int .u8 0), (.int .u8 0), (.int .u8 0), (.int .u8 0), (.int .u8 0), (.int .u8 0), (.int .u8 0), (.int .u8 0), (.int .u8 0), (.int .u8 0), (.int .u8 0), (.int .u8 0), (.int .u8 0), (.int .u8 0)]) 256 256 := ty_of (by kernel_rfl)
theorem conc9 : Conc Tryz.prog 9 := ⟨_, Tryz.underlying9, by simp⟩
theorem conc120 : Conc Tryz.prog 120 := ⟨_, Tryz.underlying120, by simp⟩
theorem agg24 : Agg Tryz.prog 24 := agg_of Tryz.underlying24
theorem agg32 : Agg Tryz.prog 32 := agg_of Tryz.underlying32
theorem agg125 : Agg Tryz.prog 125 := agg_of Tryz.underlying125
theorem agg174 : Agg Tryz.prog 174 := agg_of Tryz.underlying174
theorem str120 : Str Tryz.prog 120 #[(0, 1), (1, 1), (2, 1), (3, 1)] := ⟨_, Tryz.underlying120, fun w => by kernel_rfl⟩
theorem str125 : Str Tryz.prog 125 #[(0, 1), (1, 1)] := ⟨_, Tryz.underlying125, fun w => by kernel_rfl⟩
theorem str174 : Str Tryz.prog 174 #[(0, 1), (1, 255)] := ⟨_, Tryz.underlying174, fun w => by kernel_rfl⟩
theorem fld32_0 : Fld Tryz.prog 32 0 0 9 := fld_of Tryz.underlying32 rfl rfl rfl ty9 (by decide)
theorem fld32_1 : Fld Tryz.prog 32 1 1 24 := fld_of Tryz.underlying32 rfl rfl rfl ty24 (by decide)
theorem fld125_0 : Fld Tryz.prog 125 0 0 9 := fld_of Tryz.underlying125 rfl rfl rfl ty9 (by decide)
theorem fld125_1 : Fld Tryz.prog 125 1 1 60 := fld_of Tryz.underlying125 rfl rfl rfl ty60 (by decide)
theorem fld174_0 : Fld Tryz.prog 174 0 0 5 := fld_of Tryz.underlying174 rfl rfl rfl ty5 (by decide)
theorem fld174_1 : Fld Tryz.prog 174 1 1 172 := fld_of Tryz.underlying174 rfl rfl rfl ty172 (by decide)
abbrev HV0 : HV := ⟨[], 0, 0, 0, []⟩
structure PV where
 name : List UInt8
 k : TypeId
 r : Value
def PV.row (p : PV) : List Value := [S p.name, .iface p.k p.r]
abbrev PV0 : PV := ⟨[], 0, .nilIface⟩
def Pair (l : List HV) (ps : List PV) (Z : Hp) : Prop := ps.length = l.length ∧ ∀ i, i < l.length → (ps.getD i PV0).name = (l.getD i HV0).name ∧ VOk (l.getD i HV0) (.iface (ps.getD i PV0).k (ps.getD i PV0).r) Z
theorem Pair.nil : Pair [] [] [] := ⟨rfl, fun i h => nomatch h⟩
theorem Pair.snoc {l : List HV} {i : Nat} {ps : List PV} {Z N : Hp} {k : TypeId} {r : Value} (h : Pair (l.take i) ps Z) (hi : i < l.length) (hv : VOk (l.getD i HV0) (.iface k r) N) : Pair (l.take (i + 1)) (ps ++ [⟨(l.getD i HV0).name, k, r⟩]) (N ++ Z) := by
 have hl : ps.length = i := by rw [h.1, List.length_take]; omega
 refine ⟨by simp [h.1]; omega, fun j hj => ?_⟩
 rw [List.length_take] at hj
 have ht : ∀ m, j < m → (l.take m).getD j HV0 = l.getD j HV0 := fun m hm => by simp [List.getD_eq_getElem?_getD, List.getElem?_take, hm]
 rcases Nat.lt_or_ge j i with hji | hji
 ·have h2 := h.2 j (by rw [List.length_take]; omega)
  rw [ht _ hji] at h2
  rw [ht _ (by omega)]
  have he : (ps ++ [(⟨(l.getD i HV0).name, k, r⟩ : PV)]).getD j PV0 = ps.getD j PV0 := by
   simp [List.getD_eq_getElem?_getD, List.getElem?_append, hl, hji]
  rw [he]
  exact ⟨h2.1, h2.2.wide (List.perm_append_comm)⟩
 ·obtain rfl : j = i := by omega
  rw [ht _ (by omega)]
  have he : (ps ++ [(⟨(l.getD j HV0).name, k, r⟩ : PV)]).getD j PV0 = ⟨(l.getD j HV0).name, k, r⟩ := by
   simp [List.getD_eq_getElem?_getD, List.getElem?_append, hl]
  rw [he]
  exact ⟨rfl, hv.wide (List.Perm.refl _)⟩
theorem recsPV_snoc (ps : List PV) (p : PV) : recsV PV.row ps ++ [S p.name, .iface p.k p.r] = recsV PV.row (ps ++ [p]) := by
 unfold recsV; rw [List.flatMap_append]; simp [PV.row]
theorem onePV (n : List UInt8) (k : TypeId) (r : Value) : ∀ u ∈ [S n, Value.iface k r], u.oneCell' = true := fun u hu => by
 rcases List.mem_cons.1 hu with rfl | hu
 ·rfl
 ·rw [List.mem_singleton] at hu; subst hu; rfl
def okH (l : List HV) : Prop := ∀ i, i < l.length → fineV (l.getD i HV0) ∧ (l.getD i HV0).text.length ≤ 400000
def HsOk (l : List HV) (v : Value) (N : Hp) : Prop := ∃ ps M Z, N = M ++ Z ∧ RdS 2 v M ps.length (recsV PV.row ps) ∧ Pair l ps Z
theorem headersFor (v : Value) (L : Hp) (l : List HV) (hr : RdS 5 v L l.length (recsV HV.row l)) (hok : okH l) (hn : l.length ≤ 1000) : FnA Tryz.prog 31 [v] L (HsOk l) := by
 refine FnA.enter (n := 23) Tryz.func31 rfl rfl fun w0 => ?_
 refine WC.sub (fr' := [(0, _)]) ?_ ⟨rfl, trivial⟩
 refine WC.seq (WC.region ?_)
 refine WL.q (oq_assign rfl) rfl rfl rfl ?_
 refine WL.nil (WE.then_normal (WC.sub (fr' := [(0, _)]) ?_ ⟨rfl, trivial⟩))
 refine WC.seq ?_
 refine WC.add0 ?_
 refine WC.add0 ?_
 refine WC.region ?_
 refine WL.q (oq_assign rfl) rfl rfl rfl ?_
 refine WL.nil (WE.then_normal (WC.sub (fr' := [(0, _), (3, _)]) ?_ ⟨rfl, rfl, trivial⟩))
 refine WC.seq (WC.seq (WC.region ?_))
 refine WL.q (oq_move rfl) rfl rfl rfl ?_
 refine WL.q (oq_len_rd hr Tryz.underlying22 rfl) rfl rfl rfl ?_
 refine WL.q (oq_move rfl) rfl rfl rfl ?_
 refine WL.nil (WE.then_normal (WC.sub (fr' := [(3, _), (6, _), (7, _), (8, _)]) ?_ ⟨rfl, rfl, rfl, rfl, trivial⟩))
 refine WC.block ?_
 refine WC.f2 ?_
 refine WC.f1 ?_
 refine WC.f2 ?_
 refine WC.loop (ι := Nat × Value × Hp × Hp × (List PV)) (fun i_ => (fun (i : Nat) (u : Value) (B : Hp) (Z : Hp) (ps : List PV) => [(3, u), (6, v), (7, I (l.length : Int)), (8, I (i : Int))]) i_.1 i_.2.1 i_.2.2.1 i_.2.2.2.1 i_.2.2.2.2) (fun i_ => (fun (i : Nat) (u : Value) (B : Hp) (Z : Hp) (ps : List PV) => [B, Z, L]) i_.1 i_.2.1 i_.2.2.1 i_.2.2.2.1 i_.2.2.2.2) (fun i_ => (fun (i : Nat) (u : Value) (B : Hp) (Z : Hp) (ps : List PV) => i ≤ l.length ∧ (∀ b o, (b, o) ∈ Z → w0.heap.size ≤ b) ∧ OwS w0.heap.size 125 2 u B ps.length (recsV PV.row ps) ∧ Pair (l.take i) ps Z) i_.1 i_.2.1 i_.2.2.1 i_.2.2.2.1 i_.2.2.2.2) (fun i_ => (fun (i : Nat) (u : Value) (B : Hp) (Z : Hp) (ps : List PV) => l.length - i) i_.1 i_.2.1 i_.2.2.1 i_.2.2.2.1 i_.2.2.2.2) ((0, _, _, [], [])) ?_ ⟨rfl, rfl, rfl, rfl, trivial⟩ (List.Perm.refl _) ?_
 ·try dsimp only
  exact ⟨by omega, (fun _ _ h => nomatch h), OwS.nil _ _ _, by simpa using Pair.nil⟩
 ·rintro ⟨i, u, B, Z, ps⟩ hp
  try dsimp only at hp
  obtain ⟨hi, hZ, ho, hp⟩ := hp
  show WC _ _ _ _ _ _ ([(3, u), (6, v), (7, I (l.length : Int)), (8, I (i : Int))]) ([B, Z, L])
  refine WC.seq (WC.region ?_)
  refine WL.q (oq_lss rfl rfl) rfl rfl rfl ?_
  refine WL.nil (WE.then_normal (WC.sub (fr' := [(3, _), (6, _), (7, _), (8, _), (9, _)]) ?_ ⟨rfl, rfl, rfl, rfl, rfl, trivial⟩))
  refine WC.seq ?_
  refine WC.cond rfl (fun q3 => ?_) (fun q3 => ?_)
  ·
   try simp only [Z1, Z2, Z3, Z4, Z5, Z6, Z7, Z8, Z9, Z0] at q3
   refine WC.skip (WE.then_normal (WC.sub (fr' := [(3, _), (6, _), (7, _), (8, _)]) ?_ ⟨rfl, rfl, rfl, rfl, trivial⟩))
   refine WC.seq (WC.block (WC.seq ?_))
   have hlt : i < l.length := by omega
   have hpl : ps.length = i := by rw [hp.1, List.length_take]; omega
   refine WC.region ?_
   refine WL.q (oq_ixaddr hr Tryz.underlying22 ty32 rfl rfl (by (first | omega | (simp only [List.length_cons, List.length_nil, List.length_append, List.length_drop, List.length_take]; omega)))) rfl rfl rfl ?_
   refine WL.q (oq_loadEl (f := HV.row) HV0 [_, _, _, _, _] (fun _ => rfl) agg32 ty32 hr (.tail _ (.tail _ (.head _))) rfl (by (first | omega | (simp only [List.length_cons, List.length_nil, List.length_append, List.length_drop, List.length_take]; omega))) (by first | exact Int.toNat_natCast _ | exact rfl) rfl) rfl rfl rfl ?_
   refine WL.alloc ty32 rfl rfl fun o5 ho5 => ?_
   refine WL.storeS #[_, _, _, _, _] ty32 rfl rfl rfl rfl (Nat.le_of_ble_eq_true rfl) rfl rfl ?_
   refine WL.nil (WE.then_normal (WC.sub (fr' := [(3, _), (5, _), (6, _), (7, _), (8, _)]) ?_ ⟨rfl, rfl, rfl, rfl, rfl, trivial⟩))
   refine WC.gate 7 ([(o5, .cells #[S (l.getD i HV0).name, I (l.getD i HV0).kind, I (l.getD i HV0).width, I (l.getD i HV0).int, S (l.getD i HV0).text] 32 (0, 0))]) (by kernel_rfl) ?_
   refine WG.p 0 rfl (.inr (.head _)) (fun w0 => oq_move rfl) rfl rfl rfl ?_
   refine WG.q 1 [6, 2] rfl (.head _) (fun w0 => oq_fieldAddr fld32_0 rfl) rfl rfl rfl ?_
   refine WG.q 2 [6] rfl (.head _) (fun w0 => oq_load flat9 rfl (.head _) (List.mem_singleton.2 rfl) rfl) rfl rfl rfl ?_
   refine WG.q 3 [6, 5, 4] rfl (.head _) (fun w0 => oq_fieldAddr fld32_1 rfl) rfl rfl rfl ?_
   refine WG.q 4 [6, 5] rfl (.head _) (fun w0 => oq_loadS [_, _, _, _] agg24 ty24 rfl (.head _) (List.mem_singleton.2 rfl) rfl rfl) rfl rfl rfl ?_
   refine WG.step (i := 5) (by kernel_rfl) rfl ?_
   refine WL.callA0 (valueFor (l.getD i HV0) (hok i hlt).1 (hok i hlt).2) call35 rfl rfl rfl fun v5_5 N5_5 hR5_5 hN5_5 => ?_
   obtain ⟨k5, r5, f5, rfl, hi5, hf5⟩ := hR5_5
   have hvo : VOk (l.getD i HV0) (.iface k5 r5) N5_5 := ⟨k5, r5, f5, rfl, hi5, hf5⟩
   refine WL.nil ?_
   refine WE.toG (.tail _ (.head _)) ?_
   refine WG.q 6 [] rfl (.tail _ (.head _)) (fun w0 => oq_build #[_, _] str125 ty125 rfl rfl) rfl rfl rfl ?_
   refine WG.step (i := 7) (by kernel_rfl) rfl ?_
   refine WL.buildSS (#[S (l.getD i HV0).name, .iface k5 r5]) Tryz.underlying62 ty125 rfl (by decide) (by decide) (by kernel_rfl) (by kernel_rfl) rfl rfl fun v5_7 A5_7 ho5_7 hne5_7 => ?_
   refine WL.nil ?_
   refine WE.toG0 (by kernel_rfl) ?_
   refine WG.step (i := 8) (by kernel_rfl) rfl ?_
   refine WL.f3 ?_
   refine WL.appendS ho Tryz.underlying62 ty125 rfl (by decide) rfl rfl ho5_7.rd (.head _) (onePV _ _ _) (by unfold maxLen; omega) (by omega) rfl rfl fun v5b A5b ho5b hne5b => ?_
   refine WL.nil ?_
   refine WE.toG0 (by kernel_rfl) ?_
   refine WG.p 9 rfl (.inl (by kernel_rfl)) (fun w0 => oq_assign rfl) rfl rfl rfl ?_
   refine WG.done (by kernel_rfl) ?_
   refine WE.block_normal (WE.then_normal (WC.sub (fr' := [(3, _), (6, _), (7, _), (8, _)]) ?_ ⟨rfl, rfl, rfl, rfl, trivial⟩))
   refine WC.f4 ?_
   refine WC.f3 ?_
   refine WC.cat ?_
   refine WC.region ?_
   refine WL.q (oq_add rfl rfl (by rw [i64_lo, i64_hi]; (first | omega | (simp only [List.length_cons, List.length_nil, List.length_append, List.length_drop, List.length_take]; omega)))) rfl rfl rfl ?_
   refine WL.q (oq_move rfl) rfl rfl rfl ?_
   refine WL.nil ?_
   refine WE.f2 ?_
   refine WE.forget ho5_7.fresh ?_
   refine WE.f2 ?_
   refine WE.lose ho5 ?_
   refine WE.f2 ?_
   refine WE.f1 ?_
   refine WE.f2 ?_
   refine WE.again (i + 1, _, _, _, ps ++ [⟨(l.getD i HV0).name, k5, r5⟩]) ?_ ?_ ⟨rfl, rfl, rfl, rfl, trivial⟩ (List.Perm.refl _)
   ·try dsimp only
    exact ⟨by omega, fresh_cat hN5_5 hZ, by have h2 := ho5b; rw [recsPV_snoc ps ⟨_, _, _⟩] at h2; simpa using h2, hp.snoc hlt hvo⟩
   ·(try dsimp only); omega
  ·
   try simp only [Z1, Z2, Z3, Z4, Z5, Z6, Z7, Z8, Z9, Z0] at q3
   refine WC.exit (WE.then_exit (WE.then_exit (WE.block_same (WE.then_normal (WC.sub (fr' := [(3, _)]) ?_ ⟨rfl, trivial⟩)))))
   refine WC.seq ?_
   obtain rfl : i = l.length := by omega
   rw [List.take_length] at hp
   refine WC.region ?_
   refine WL.q (oq_move rfl) rfl rfl rfl ?_
   refine WL.q (oq_assign rfl) rfl rfl rfl ?_
   refine WL.nil (WE.then_normal (WC.sub (fr' := [(2, _)]) ?_ ⟨rfl, trivial⟩))
   refine WC.ret ?_
   refine WE.cat ?_
   refine WE.endA (.inl rfl) (res1 Tryz.results31 rfl) ?_ (fresh_cat (ho.fresh) (hZ))
   exact ⟨ps, _, _, rfl, ho.rd, hp⟩
def hdr (h : HV) : List UInt8 := UInt8.ofNat h.name.length :: (h.name ++ enc h)
def hdrs (l : List HV) : List UInt8 := l.flatMap hdr
def badH (h : HV) : Bool := decide (255 < h.name.length) || badT h
def szH (h : HV) : Nat := h.name.length + h.text.length + 12
def szL (l : List HV) : Nat := (l.map szH).sum
theorem enc_len {h : HV} (hf : fineV h) : (enc h).length ≤ h.text.length + 11 := by
 obtain ⟨_, _, h1, _, _⟩ := hf
 unfold enc
 split
 ·rename_i hk
  have := h1 hk
  rw [List.length_cons, be_len]; omega
 ·split
  ·simp [be_len]; omega
  ·split
   ·simp [be_len]; omega
   ·split
    ·simp [be_len]
    ·split <;> simp
theorem hdr_len {h : HV} (hf : fineV h) : (hdr h).length ≤ szH h := by
 have := enc_len hf
 unfold hdr szH; simp; omega
theorem take_snoc {l : List HV} {i : Nat} (hi : i < l.length) : l.take (i + 1) = l.take i ++ [l.getD i HV0] := by
 rw [List.take_add_one, List.getD_eq_getElem?_getD, List.getElem?_eq_getElem hi]; rfl
theorem hdrs_snoc {l : List HV} {i : Nat} (hi : i < l.length) : hdrs (l.take (i + 1)) = hdrs (l.take i) ++ hdr (l.getD i HV0) := by
 rw [take_snoc hi]; simp [hdrs]
theorem szL_snoc {l : List HV} {i : Nat} (hi : i < l.length) : szL (l.take (i + 1)) = szL (l.take i) + szH (l.getD i HV0) := by
 rw [take_snoc hi]; simp [szL]
theorem szL_take (l : List HV) (i : Nat) : szL (l.take i) ≤ szL l := by
 have : szL l = szL (l.take i) + szL (l.drop i) := by unfold szL; rw [← List.sum_append, ← List.map_append, List.take_append_drop]
 omega
theorem hdrs_len {l : List HV} (hok : okH l) : ∀ i, i ≤ l.length → (hdrs (l.take i)).length ≤ szL (l.take i)
 | 0, _ => by simp [hdrs]
 | i + 1, h => by
  rw [hdrs_snoc (by omega), szL_snoc (by omega), List.length_append]
  have h1 := hdrs_len hok i (by omega)
  have h2 := hdr_len (hok i (by omega)).1
  omega
theorem cp_name (nm : List UInt8) (b0 : UInt8) (hn8 : b0.toNat = nm.length) : List.take (0 + 1 + 0) (b0 :: List.replicate 255 0) ++ List.take (min nm.length (b0.toNat - 0)) nm ++ List.drop (0 + 1 + 0 + min nm.length (b0.toNat - 0)) (b0 :: List.replicate 255 0) = b0 :: (nm ++ List.replicate (255 - nm.length) 0) := by
 rw [hn8, Nat.sub_zero, Nat.min_self, List.take_length, show 0 + 1 + 0 + nm.length = nm.length + 1 by omega, List.drop_succ_cons, List.drop_replicate]; rfl
theorem nm_len (nm : List UInt8) (h : nm.length ≤ 255) : (nm ++ List.replicate (255 - nm.length) (0 : UInt8)).length = 255 := by rw [List.length_append, List.length_replicate]; omega
theorem nm_len2 (b0 : UInt8) (nm : List UInt8) (h : nm.length ≤ 255) : (b0 :: (nm ++ List.replicate (255 - nm.length) (0 : UInt8))).length = 256 := by rw [List.length_cons, nm_len nm h]
def HdR (base bb : Nat) (l : List HV) (acc : List UInt8) (M Z : Hp) (w : Value) (Hs : List Hp) : Prop :=
 ∃ G' acc', Hs = [G', M, Z] ∧ BufG base bb acc' G' ∧ if l.any badH then ∃ k e, w = .iface k e else w = .nilIface ∧ acc' = acc ++ hdrs l
theorem any_take {l : List HV} {i : Nat} (hi : i < l.length) (hb : badH (l.getD i HV0) = true) : l.any badH = true := by
 rw [List.any_eq_true]
 refine ⟨l.getD i HV0, ?_, hb⟩
 rw [List.getD_eq_getElem?_getD, List.getElem?_eq_getElem hi]; exact List.getElem_mem hi
theorem any_snoc {l : List HV} {i : Nat} (hi : i < l.length) (h : (l.take i).any badH = false) (hb : badH (l.getD i HV0) = false) : (l.take (i + 1)).any badH = false := by
 rw [take_snoc hi, List.any_append, h, List.any_cons, hb]; rfl
theorem encR_split {base bb : Nat} {h : HV} {acc : List UInt8} {N : Hp} {w : Value} {Hs : List Hp} (hE : EncR base bb h acc N w Hs) : ∃ G', Hs = [G', N] ∧ (w = .nilIface ∨ ∃ k u, w = .iface k u) ∧ (nilI w = true → badT h = false ∧ BufG base bb (acc ++ enc h) G') ∧ (nilI w = false → badT h = true ∧ (∃ k e, w = .iface k e) ∧ BufG base bb acc G') := by
 unfold EncR at hE
 cases hb : badT h with
 | true => rw [hb] at hE; obtain ⟨e, G', rfl, rfl, hG⟩ := hE; exact ⟨G', rfl, (.inr ⟨_, _, rfl⟩), (fun h => nomatch h), (fun _ => ⟨rfl, ⟨_, _, rfl⟩, hG⟩)⟩
 | false => rw [hb] at hE; obtain ⟨G', rfl, rfl, hG⟩ := hE; exact ⟨G', rfl, (.inl rfl), (fun _ => ⟨rfl, hG⟩), (fun h => nomatch h)⟩
theorem encHeaders (base bb : Nat) (acc : List UInt8) (G : Hp) (hG : BufG base bb acc G) (v : Value) (M Z : Hp) (l : List HV) (ps : List PV) (hr : RdS 2 v M ps.length (recsV PV.row ps)) (hp : Pair l ps Z) (hok : okH l) (hn : l.length ≤ 1000) (hsz : acc.length + szL l ≤ 200000) : FnW Tryz.prog 64 [.iface 107 (Pt bb 0), v] base [G, M, Z] (HdR base bb l acc M Z) := by
 have hpl := hp.1
 refine FnW.enter (n := 54) Tryz.func64 rfl rfl fun w0 R0 hbase => ?_
 subst hbase
 show WC _ _ _ _ _ _ _ ([G, M, Z, R0])
 refine WC.sub (fr' := [(0, _), (1, _)]) ?_ ⟨rfl, rfl, trivial⟩
 refine WC.seq (WC.region ?_)
 refine WL.q (oq_assign rfl) rfl rfl rfl ?_
 refine WL.nil (WE.then_normal (WC.sub (fr' := [(0, _), (1, _)]) ?_ ⟨rfl, rfl, trivial⟩))
 refine WC.seq (WC.seq (WC.region ?_))
 refine WL.q (oq_move rfl) rfl rfl rfl ?_
 refine WL.q (oq_len_rd hr Tryz.underlying62 rfl) rfl rfl rfl ?_
 refine WL.q (oq_move rfl) rfl rfl rfl ?_
 refine WL.nil (WE.then_normal (WC.sub (fr' := [(0, _), (10, _), (11, _), (12, _)]) ?_ ⟨rfl, rfl, rfl, rfl, trivial⟩))
 refine WC.block ?_
 refine WC.loop (ι := Nat × Hp) (fun i_ => (fun (i : Nat) (X : Hp) => [(0, .iface 107 (Pt bb 0)), (10, v), (11, I (ps.length : Int)), (12, I (i : Int))]) i_.1 i_.2) (fun i_ => (fun (i : Nat) (X : Hp) => [X, M, Z, R0]) i_.1 i_.2) (fun i_ => (fun (i : Nat) (X : Hp) => i ≤ l.length ∧ (l.take i).any badH = false ∧ BufG w0.heap.size bb (acc ++ hdrs (l.take i)) X) i_.1 i_.2) (fun i_ => (fun (i : Nat) (X : Hp) => l.length - i) i_.1 i_.2) ((0, G)) ?_ ⟨rfl, rfl, rfl, rfl, trivial⟩ (List.Perm.refl _) ?_
 ·try dsimp only
  exact ⟨by omega, rfl, by simpa [hdrs] using hG⟩
 ·rintro ⟨i, X⟩ hp
  try dsimp only at hp
  obtain ⟨hi, hno, hX⟩ := hp
  show WC _ _ _ _ _ _ ([(0, .iface 107 (Pt bb 0)), (10, v), (11, I (ps.length : Int)), (12, I (i : Int))]) ([X, M, Z, R0])
  refine WC.seq (WC.region ?_)
  refine WL.q (oq_lss rfl rfl) rfl rfl rfl ?_
  refine WL.nil (WE.then_normal (WC.sub (fr' := [(0, _), (10, _), (11, _), (12, _), (13, _)]) ?_ ⟨rfl, rfl, rfl, rfl, rfl, trivial⟩))
  refine WC.seq ?_
  refine WC.cond rfl (fun q2 => ?_) (fun q2 => ?_)
  ·
   try simp only [Z1, Z2, Z3, Z4, Z5, Z6, Z7, Z8, Z9, Z0] at q2
   refine WC.skip (WE.then_normal (WC.sub (fr' := [(0, _), (10, _), (11, _), (12, _)]) ?_ ⟨rfl, rfl, rfl, rfl, trivial⟩))
   refine WC.seq (WC.block (WC.seq ?_))
   have hlt : i < l.length := by omega
   obtain ⟨hpn, hvo⟩ := hp.2 i hlt
   have hls := szL_take l (i + 1)
   rw [szL_snoc hlt] at hls
   have hll := hdrs_len hok i hi
   have hle : szH (l.getD i HV0) = (l.getD i HV0).name.length + (l.getD i HV0).text.length + 12 := rfl
   refine WC.region ?_
   refine WL.q (oq_ixaddr hr Tryz.underlying62 ty125 rfl rfl (by (first | omega | (simp only [List.length_cons, List.length_nil, List.length_append, List.length_drop, List.length_take]; omega)))) rfl rfl rfl ?_
   refine WL.q (oq_loadEl (f := PV.row) PV0 [_, _] (fun _ => rfl) agg125 ty125 hr (.tail _ (.head _)) rfl (by (first | omega | (simp only [List.length_cons, List.length_nil, List.length_append, List.length_drop, List.length_take]; omega))) (by first | exact Int.toNat_natCast _ | exact rfl) rfl) rfl rfl rfl ?_
   refine WL.alloc ty125 rfl rfl fun o6 ho6 => ?_
   refine WL.storeS #[_, _] ty125 rfl rfl rfl rfl (Nat.le_of_ble_eq_true rfl) rfl rfl ?_
   refine WL.nil (WE.then_normal (WC.sub (fr' := [(0, _), (6, _), (10, _), (11, _), (12, _)]) ?_ ⟨rfl, rfl, rfl, rfl, rfl, trivial⟩))
   refine WC.seq (WC.seq (WC.region ?_))
   refine WL.q (oq_fieldAddr fld125_0 rfl) rfl rfl rfl ?_
   refine WL.q (oq_load flat9 rfl (.head _) (List.mem_singleton.2 rfl) rfl) rfl rfl rfl ?_
   refine WL.q (oq_len_s Tryz.underlying9 rfl) rfl rfl rfl ?_
   refine WL.q (oq_gtr rfl rfl) rfl rfl rfl ?_
   refine WL.nil (WE.then_normal (WC.sub (fr' := [(0, _), (6, _), (10, _), (11, _), (12, _), (19, _)]) ?_ ⟨rfl, rfl, rfl, rfl, rfl, rfl, trivial⟩))
   refine WC.cond rfl (fun q4 => ?_) (fun q4 => ?_)
   ·
    try simp only [Z1, Z2, Z3, Z4, Z5, Z6, Z7, Z8, Z9, Z0] at q4
    refine WC.seq (WC.region ?_)
    refine WL.q (oq_fieldAddr fld125_0 rfl) rfl rfl rfl ?_
    refine WL.q (oq_load flat9 rfl (.head _) (List.mem_singleton.2 rfl) rfl) rfl rfl rfl ?_
    refine WL.q (oq_len_s Tryz.underlying9 rfl) rfl rfl rfl ?_
    refine WL.q (oq_fieldAddr fld125_0 rfl) rfl rfl rfl ?_
    refine WL.q (oq_load flat9 rfl (.head _) (List.mem_singleton.2 rfl) rfl) rfl rfl rfl ?_
    refine WL.q (oq_makeI conc9 rfl) rfl rfl rfl ?_
    refine WL.q (oq_build #[_, _, _, _] str120 ty120 rfl rfl) rfl rfl rfl ?_
    refine WL.q (oq_makeI conc120 rfl) rfl rfl rfl ?_
    refine WL.q (oq_assign rfl) rfl rfl rfl ?_
    refine WL.nil (WE.then_normal (WC.sub (fr' := [(4, _)]) ?_ ⟨rfl, trivial⟩))
    refine WC.ret (WE.then_ret (WE.block_ret (WE.then_ret (WE.then_ret (WE.block_ret (WE.then_ret ?_))))))
    refine WE.lose ho6 ?_
    refine WE.endW3 (.inl rfl) (res1 Tryz.results64 rfl) ?_
    exact ⟨_, _, rfl, hX, by rw [if_pos (any_take hlt (by unfold badH; rw [← hpn, decide_eq_true (by omega)]; rfl))]; exact ⟨_, _, rfl⟩⟩
   ·
    try simp only [Z1, Z2, Z3, Z4, Z5, Z6, Z7, Z8, Z9, Z0] at q4
    refine WC.skip (WE.then_normal (WC.sub (fr' := [(0, _), (6, _), (10, _), (11, _), (12, _)]) ?_ ⟨rfl, rfl, rfl, rfl, rfl, trivial⟩))
    refine WC.seq (WC.region ?_)
    refine WL.q (oq_fieldAddr fld125_0 rfl) rfl rfl rfl ?_
    refine WL.q (oq_load flat9 rfl (.head _) (List.mem_singleton.2 rfl) rfl) rfl rfl rfl ?_
    refine WL.q (oq_len_s Tryz.underlying9 rfl) rfl rfl rfl ?_
    refine WL.q ((oq_conv Tryz.underlying3 Tryz.underlying5 rfl (by rw [u8_lo, u8_hi]; omega)).to (v' := .int .u8 ((UInt8.ofNat (ps.getD i PV0).name.length).toNat : Int)) (by rw [UInt8.toNat_ofNat']; congr 1; omega)) rfl rfl rfl ?_
    refine WL.q (oq_build ((bytesV (UInt8.ofNat (ps.getD i PV0).name.length :: List.replicate 255 0)).toArray) str174 ty174 rfl (by kernel_rfl)) rfl rfl rfl ?_
    refine WL.alloc ty174 rfl rfl fun o7 ho7 => ?_
    refine WL.storeS ((bytesV (UInt8.ofNat (ps.getD i PV0).name.length :: List.replicate 255 0)).toArray) ty174 rfl rfl (by kernel_rfl) (by kernel_rfl) (Nat.le_of_ble_eq_true rfl) (by kernel_rfl) rfl ?_
    refine WL.nil (WE.then_normal (WC.sub (fr' := [(0, _), (6, _), (7, _), (10, _), (11, _), (12, _)]) ?_ ⟨rfl, rfl, rfl, rfl, rfl, rfl, trivial⟩))
    refine WC.seq ?_
    have hn8 : (UInt8.ofNat (ps.getD i PV0).name.length).toNat = (ps.getD i PV0).name.length := by rw [UInt8.toNat_ofNat']; omega
    refine WC.tailM (pl := []) (ql := [_, _, _, _, _, _]) (tl := [_]) [] [0, 1, 2, 3, 4, 5] 6 [] (by kernel_rfl) (by kernel_rfl) (by kernel_rfl) (by kernel_rfl) (by kernel_rfl) (by kernel_rfl) (by decide) rfl rfl rfl (by decide) (by repeat (first | with_reducible exact QOk.body | with_reducible apply QOk.then | with_reducible apply QOk.block | exact QOk.body | apply QOk.then | apply QOk.block)) ?_
    refine WM.nil ?_
    refine WY.q (oq_fieldAddr fld174_1 rfl) rfl rfl rfl ?_
    refine WY.q (oq_fieldAddr fld174_0 rfl) rfl rfl rfl ?_
    refine WY.q (oq_load flat5 rfl (.head _) (List.mem_singleton.2 rfl) rfl) rfl rfl rfl ?_
    refine WY.q (oq_sliceArr (j := (UInt8.ofNat (ps.getD i PV0).name.length).toNat) Tryz.underlying172 ty5 rfl rfl ⟨_, rfl⟩ (by (first | omega | (simp only [List.length_cons, List.length_replicate]; omega))) (by (first | omega | (simp only [List.length_cons, List.length_replicate]; omega)))) rfl rfl rfl ?_
    refine WY.q (oq_fieldAddr fld125_0 rfl) rfl rfl rfl ?_
    refine WY.q (oq_load flat9 rfl (.tail _ (.head _)) (List.mem_singleton.2 rfl) rfl) rfl rfl rfl ?_
    refine WY.nil ?_
    refine WL.copyBS Tryz.underlying28 ty5 rfl rfl (by (first | omega | (simp only [List.length_cons, List.length_replicate]; omega))) rfl rfl ?_
    refine WL.nil (WE.then_normal (WC.sub (fr' := [(0, _), (6, _), (7, _), (10, _), (11, _), (12, _)]) ?_ ⟨rfl, rfl, rfl, rfl, rfl, rfl, trivial⟩))
    refine WC.seq (WC.seq ?_)
    rw [cp_name (ps.getD i PV0).name (UInt8.ofNat (ps.getD i PV0).name.length) hn8]
    refine WC.region ?_
    refine WL.q (oq_loadArr agg174 ty174 ((nm_len2 _ _ (by omega))) rfl (.head _)) rfl rfl rfl ?_
    refine WL.q (oq_move rfl) rfl rfl rfl ?_
    refine WL.f2 ?_
    refine WL.callW1 (nameEnc _ _ _ _ _ (bufWr _ bb) _ X hX (UInt8.ofNat (ps.getD i PV0).name.length) ((ps.getD i PV0).name ++ List.replicate (255 - (ps.getD i PV0).name.length) 0) (nm_len _ (by omega)) (by rw [List.length_append]; omega)) call76 rfl rfl rfl fun v8_2 Hs8_2 hR8_2 => ?_
    obtain ⟨X2, rfl, rfl, hX2⟩ := hR8_2
    refine WL.to1 ?_
    refine WL.q (oq_assign rfl) rfl rfl rfl ?_
    refine WL.nil (WE.then_normal (WC.sub (fr' := [(0, _), (6, _), (8, _), (10, _), (11, _), (12, _)]) ?_ ⟨rfl, rfl, rfl, rfl, rfl, rfl, trivial⟩))
    refine WC.seq (WC.region ?_)
    refine WL.q (oq_move rfl) rfl rfl rfl ?_
    refine WL.q (oq_ineq Tryz.underlying99 rfl (.inl rfl)) rfl rfl rfl ?_
    refine WL.nil (WE.then_normal (WC.sub (fr' := [(0, _), (6, _), (8, _), (10, _), (11, _), (12, _), (44, _)]) ?_ ⟨rfl, rfl, rfl, rfl, rfl, rfl, rfl, trivial⟩))
    refine WC.cond rfl (fun q9 => ?_) (fun q9 => ?_)
    ·
     try simp only [Z1, Z2, Z3, Z4, Z5, Z6, Z7, Z8, Z9, Z0] at q9
     first | contradiction | (exfalso; omega) | (exfalso; simp_all; done)
    ·
     try simp only [Z1, Z2, Z3, Z4, Z5, Z6, Z7, Z8, Z9, Z0] at q9
     refine WC.skip (WE.then_normal (WC.sub (fr' := [(0, _), (6, _), (10, _), (11, _), (12, _)]) ?_ ⟨rfl, rfl, rfl, rfl, rfl, trivial⟩))
     refine WC.seq (WC.region ?_)
     refine WL.q (oq_fieldAddr fld125_1 rfl) rfl rfl rfl ?_
     refine WL.q (oq_load flat60 rfl (.tail _ (.tail _ (.head _))) (List.mem_singleton.2 rfl) rfl) rfl rfl rfl ?_
     refine WL.q (oq_move rfl) rfl rfl rfl ?_
     have hX3 : BufG w0.heap.size bb (acc ++ hdrs (l.take i) ++ (UInt8.ofNat (ps.getD i PV0).name.length :: (ps.getD i PV0).name)) X2 := by
      have e1 : (UInt8.ofNat (ps.getD i PV0).name.length).toNat = (ps.getD i PV0).name.length := by rw [UInt8.toNat_ofNat']; omega
      rw [e1, List.take_left' rfl] at hX2; exact hX2
     obtain ⟨_, _, f5, hkr, hi5, hf5⟩ := hvo
     injection hkr with hk1 hk2
     subst hk1 hk2
     refine WL.f4 ?_
     refine WL.f1 ?_
     refine WL.callWE (fun a w hf => ent_inv1 hi5 rfl rfl hf w) (hf5 _ bb _ X2 hX3 (by simp only [List.length_append, List.length_cons, hpn]; omega)) rfl rfl rfl rfl fun v11_3 Hs11_3 hR11_3 => ?_
     obtain ⟨X4, rfl, hei, he0, he1⟩ := encR_split hR11_3
     refine WL.app2 ?_
     refine WL.q (oq_assign rfl) rfl rfl rfl ?_
     refine WL.nil (WE.then_normal (WC.sub (fr' := [(0, _), (9, _), (10, _), (11, _), (12, _)]) ?_ ⟨rfl, rfl, rfl, rfl, rfl, trivial⟩))
     refine WC.seq (WC.region ?_)
     refine WL.q (oq_move rfl) rfl rfl rfl ?_
     refine WL.q (oq_ineq Tryz.underlying99 rfl (hei)) rfl rfl rfl ?_
     refine WL.nil (WE.then_normal (WC.sub (fr' := [(0, _), (9, _), (10, _), (11, _), (12, _), (51, _)]) ?_ ⟨rfl, rfl, rfl, rfl, rfl, rfl, trivial⟩))
     refine WC.cond rfl (fun q12 => ?_) (fun q12 => ?_)
     ·
      try simp only [Z1, Z2, Z3, Z4, Z5, Z6, Z7, Z8, Z9, Z0] at q12
      refine WC.seq (WC.region ?_)
      refine WL.q (oq_move rfl) rfl rfl rfl ?_
      refine WL.q (oq_assign rfl) rfl rfl rfl ?_
      refine WL.nil (WE.then_normal (WC.sub (fr' := [(4, _)]) ?_ ⟨rfl, trivial⟩))
      refine WC.ret (WE.block_ret (WE.then_ret (WE.then_ret (WE.block_ret (WE.then_ret ?_)))))
      refine WE.f2 ?_
      refine WE.lose ho7 ?_
      refine WE.f2 ?_
      refine WE.lose ho6 ?_
      refine WE.f3 ?_
      refine WE.f2 ?_
      refine WE.f3 ?_
      refine WE.f3 ?_
      refine WE.endW3 (.inl rfl) (res1 Tryz.results64 rfl) ?_
      obtain ⟨hb, ⟨k9, e9, rfl⟩, hG9⟩ := he1 (by simpa using q12)
      exact ⟨_, _, rfl, hG9, by rw [if_pos (any_take hlt (by unfold badH; rw [hb, Bool.or_true]))]; exact ⟨_, _, rfl⟩⟩
     ·
      try simp only [Z1, Z2, Z3, Z4, Z5, Z6, Z7, Z8, Z9, Z0] at q12
      refine WC.skip (WE.block_normal (WE.then_normal (WC.sub (fr' := [(0, _), (10, _), (11, _), (12, _)]) ?_ ⟨rfl, rfl, rfl, rfl, trivial⟩)))
      refine WC.region ?_
      refine WL.q (oq_add rfl rfl (by rw [i64_lo, i64_hi]; (first | omega | (simp only [List.length_cons, List.length_nil, List.length_append, List.length_drop, List.length_take]; omega)))) rfl rfl rfl ?_
      refine WL.q (oq_move rfl) rfl rfl rfl ?_
      refine WL.nil ?_
      refine WE.f2 ?_
      refine WE.lose ho7 ?_
      refine WE.f2 ?_
      refine WE.lose ho6 ?_
      refine WE.f3 ?_
      refine WE.f2 ?_
      refine WE.f3 ?_
      refine WE.f3 ?_
      refine WE.again (i + 1, X4) ?_ ?_ ⟨rfl, rfl, rfl, rfl, trivial⟩ (List.Perm.refl _)
      ·try dsimp only
       have hz := he0 (by simpa using q12)
       refine ⟨by omega, any_snoc hlt hno (by unfold badH; rw [hz.1, ← hpn, decide_eq_false (by omega)]; rfl), ?_⟩
       have hz2 := hz.2
       rw [hpn] at hz2
       rw [hdrs_snoc hlt, ← List.append_assoc]
       simpa [hdr] using hz2
      ·(try dsimp only); omega
  ·
   try simp only [Z1, Z2, Z3, Z4, Z5, Z6, Z7, Z8, Z9, Z0] at q2
   refine WC.exit (WE.then_exit (WE.then_exit (WE.block_same (WE.then_normal (WC.sub (fr' := []) ?_ trivial)))))
   refine WC.seq ?_
   obtain rfl : i = l.length := by omega
   rw [List.take_length] at hX hno
   refine WC.region ?_
   refine WL.q (oq_assign rfl) rfl rfl rfl ?_
   refine WL.nil (WE.then_normal (WC.sub (fr' := [(4, _)]) ?_ ⟨rfl, trivial⟩))
   refine WC.ret ?_
   refine WE.endW3 (.inl rfl) (res1 Tryz.results64 rfl) ?_
   exact ⟨_, _, rfl, hX, by rw [hno, if_neg (by simp)]; exact ⟨rfl, rfl⟩⟩
end EJ
end Go.Proofs.YtodlhaghdplclaaGreatDoor
/- Preludes, many writers, encoders. -/
namespace Go.Proofs.YtodlhaghdplclaaGreatDoor
open Go Go.RowKit V EA EB EC ED EE EF EG EH EI EJ
set_option linter.unusedSimpArgs false
set_option linter.unusedVariables false
set_option maxRecDepth 10000
namespace EK
theorem call62 : Callable Tryz.prog 62 := ⟨_, Tryz.func62, rfl, by kernel_rfl⟩
theorem call69 : Callable Tryz.prog 69 := ⟨_, Tryz.func69, rfl, by kernel_rfl⟩
theorem call70 : Callable Tryz.prog 70 := ⟨_, Tryz.func70, rfl, by kernel_rfl⟩
theorem call77 : Callable Tryz.prog 77 := ⟨_, Tryz.func77, rfl, by kernel_rfl⟩
theorem flat74 : Flat Tryz.prog 74 := ⟨_, Tryz.underlying74, by simp⟩
theorem flat151 : Flat Tryz.prog 151 := ⟨_, Tryz.underlying151, by simp⟩
theorem ty20 : Ty Tryz.prog 20 .nilIface 1 16 := ty_of (by kernel_rfl)
theorem ty74 : Ty Tryz.prog 74 (.int .u32 0) 1 4 := ty_of (by kernel_rfl)
theorem ty149 : Ty Tryz.prog 149 (.agg #[(.pointer none), (.pointer none)]) 2 16 := ty_of (by kernel_rfl)
theorem ty151 : Ty Tryz.prog 151 .nilIface 1 16 := ty_of (by kernel_rfl)
theorem ty177 : Ty Tryz.prog 177 (.pointer none) 1 8 := ty_of (by kernel_rfl)
theorem ty180 : Ty Tryz.prog 180 (.agg #[(.slice none 0 0)]) 1 24 := ty_of (by kernel_rfl)
theorem ty182 : Ty Tryz.prog 182 (.agg #[(.int .u32 0), (.int .u32 0), (.int .u32 0)]) 3 12 := ty_of (by kernel_rfl)
theorem conc74 : Conc Tryz.prog 74 := ⟨_, Tryz.underlying74, by simp⟩
theorem conc177 : Conc Tryz.prog 177 := ⟨_, Tryz.underlying177, by simp⟩
theorem agg182 : Agg Tryz.prog 182 := agg_of Tryz.underlying182
theorem str149 : Str Tryz.prog 149 #[(0, 1), (1, 1)] := ⟨_, Tryz.underlying149, fun w => by kernel_rfl⟩
theorem str180 : Str Tryz.prog 180 #[(0, 1)] := ⟨_, Tryz.underlying180, fun w => by kernel_rfl⟩
theorem str182 : Str Tryz.prog 182 #[(0, 1), (1, 1), (2, 1)] := ⟨_, Tryz.underlying182, fun w => by kernel_rfl⟩
theorem fld182_0 : Fld Tryz.prog 182 0 0 74 := fld_of Tryz.underlying182 rfl rfl rfl ty74 (by decide)
theorem fld182_1 : Fld Tryz.prog 182 1 1 74 := fld_of Tryz.underlying182 rfl rfl rfl ty74 (by decide)
theorem fld182_2 : Fld Tryz.prog 182 2 2 74 := fld_of Tryz.underlying182 rfl rfl rfl ty74 (by decide)
theorem bytesN_1 (d : Num) : bytesN [d] = be d.w d.x := by simp [bytesN]
theorem bytesN_2 (d e : Num) : bytesN [d, e] = be d.w d.x ++ be e.w e.x := by simp [bytesN]
theorem okU (x : Int) : Num.ok ⟨74, .u32, 4, x⟩ := by simp [Num.ok, Num.kinds]
def pre8 (hl pl : Nat) : List UInt8 := be 4 (16 + (hl : Int) + (pl : Int)) ++ be 4 (hl : Int)
def crcB (l : List UInt8) : List UInt8 := be 4 ((crc l).toNat : Int)
abbrev wval (x : TypeId × Value) : Value := .iface x.1 x.2
theorem validLens (n : Nat) (h0 : 0 < n) (a b : Value) : Fn0 Tryz.prog 77 [.agg #[.int .u32 (n : Int), a, b]] (.nilIface) := by
 refine Fn0.enter (n := 11) Tryz.func77 rfl rfl fun w0 => ?_
 refine WC.sub (fr' := [(0, _)]) ?_ ⟨rfl, trivial⟩
 refine WC.seq (WC.region ?_)
 refine WL.box rfl rfl rfl fun b0_0 hb0_0 => ?_
 refine WL.q (oq_assign rfl) rfl rfl rfl ?_
 refine WL.nil (WE.then_normal (WC.sub (fr' := [(1, _)]) ?_ ⟨rfl, trivial⟩))
 refine WC.seq (WC.seq (WC.region ?_))
 refine WL.q (oq_fieldAddr fld182_0 rfl) rfl rfl rfl ?_
 refine WL.q (oq_load flat74 rfl (.head _) (List.mem_singleton.2 rfl) rfl) rfl rfl rfl ?_
 refine WL.q (oq_eql rfl rfl) rfl rfl rfl ?_
 refine WL.nil (WE.then_normal (WC.sub (fr' := [(1, _), (5, _)]) ?_ ⟨rfl, rfl, trivial⟩))
 refine WC.cond rfl (fun q1 => ?_) (fun q1 => ?_)
 ·
  try simp only [Z1, Z2, Z3, Z4, Z5, Z6, Z7, Z8, Z9, Z0] at q1
  first | contradiction | (exfalso; omega) | (exfalso; simp_all; done)
 ·
  try simp only [Z1, Z2, Z3, Z4, Z5, Z6, Z7, Z8, Z9, Z0] at q1
  refine WC.skip (WE.then_normal (WC.sub (fr' := []) ?_ trivial))
  refine WC.seq (WC.region ?_)
  refine WL.q (oq_assign rfl) rfl rfl rfl ?_
  refine WL.nil (WE.then_normal (WC.sub (fr' := [(2, _)]) ?_ ⟨rfl, trivial⟩))
  refine WC.ret ?_
  refine WE.lose hb0_0 ?_
  refine WE.end0 (.inl rfl) (res1 Tryz.results77 rfl) ?_
  rfl
theorem encPrelude (base hb : Nat) (k : TypeId) (r : Value) (f : FuncId) (Wt : List UInt8 → Hp → Prop) (hW : Wr base k r f Wt) (acc0 : List UInt8) (G : Hp) (hG : Wt acc0 G) (hS : ∀ acc G, Wt acc G → FnR Tryz.prog 69 [Pt hb 0] G (U32 (crc acc))) (hl pl : Nat) (hhl : hl ≤ 1000000) (hpl : pl ≤ 1000000) (hal : acc0.length ≤ 200000) : FnW Tryz.prog 67 [.iface k r, Pt hb 0, .int .u32 (hl : Int), .int .u32 (pl : Int)] base [G] (Then Wt (acc0 ++ (pre8 hl pl ++ crcB (acc0 ++ pre8 hl pl))) []) := by
 refine FnW.enter (n := 47) Tryz.func67 rfl rfl fun w0 R0 hbase => ?_
 subst hbase
 show WC _ _ _ _ _ _ _ ([G, R0])
 refine WC.sub (fr' := [(0, _), (1, _), (2, _), (3, _)]) ?_ ⟨rfl, rfl, rfl, rfl, trivial⟩
 refine WC.seq (WC.region ?_)
 refine WL.q (oq_assign rfl) rfl rfl rfl ?_
 refine WL.nil (WE.then_normal (WC.sub (fr' := [(0, _), (1, _), (2, _), (3, _)]) ?_ ⟨rfl, rfl, rfl, rfl, trivial⟩))
 refine WC.seq (WC.region ?_)
 refine WL.q (oq_move rfl) rfl rfl rfl ?_
 refine WL.q (oq_add rfl rfl (by rw [u32_lo, u32_hi]; (first | omega | (simp only [List.length_cons, List.length_nil, List.length_append, List.length_drop, List.length_take]; omega)))) rfl rfl rfl ?_
 refine WL.q (oq_move rfl) rfl rfl rfl ?_
 refine WL.q (oq_add rfl rfl (by rw [u32_lo, u32_hi]; (first | omega | (simp only [List.length_cons, List.length_nil, List.length_append, List.length_drop, List.length_take]; omega)))) rfl rfl rfl ?_
 refine WL.q (oq_move rfl) rfl rfl rfl ?_
 refine WL.q (oq_build #[_, _, _] str182 ty182 rfl rfl) rfl rfl rfl ?_
 refine WL.alloc ty182 rfl rfl fun pb hpb => ?_
 refine WL.storeS #[_, _, _] ty182 rfl rfl rfl rfl (Nat.le_of_ble_eq_true rfl) rfl rfl ?_
 refine WL.nil (WE.then_normal (WC.sub (fr' := [(0, _), (1, _), (9, _)]) ?_ ⟨rfl, rfl, rfl, trivial⟩))
 refine WC.seq (WC.seq (WC.region ?_))
 refine WL.q (oq_loadS [_, _, _] agg182 ty182 rfl (.head _) (List.mem_singleton.2 rfl) rfl rfl) rfl rfl rfl ?_
 refine WL.qc (oq_call (validLens (16 + hl + pl) (by omega) _ _) call77 rfl) rfl rfl rfl ?_
 refine WL.q (oq_assign rfl) rfl rfl rfl ?_
 refine WL.nil (WE.then_normal (WC.sub (fr' := [(0, _), (1, _), (9, _), (10, _)]) ?_ ⟨rfl, rfl, rfl, rfl, trivial⟩))
 refine WC.seq (WC.region ?_)
 refine WL.q (oq_move rfl) rfl rfl rfl ?_
 refine WL.q (oq_ineq Tryz.underlying99 rfl (.inl rfl)) rfl rfl rfl ?_
 refine WL.nil (WE.then_normal (WC.sub (fr' := [(0, _), (1, _), (9, _), (10, _), (21, _)]) ?_ ⟨rfl, rfl, rfl, rfl, rfl, trivial⟩))
 refine WC.cond rfl (fun q3 => ?_) (fun q3 => ?_)
 ·
  try simp only [Z1, Z2, Z3, Z4, Z5, Z6, Z7, Z8, Z9, Z0] at q3
  first | contradiction | (exfalso; omega) | (exfalso; simp_all; done)
 ·
  try simp only [Z1, Z2, Z3, Z4, Z5, Z6, Z7, Z8, Z9, Z0] at q3
  refine WC.skip (WE.then_normal (WC.sub (fr' := [(0, _), (1, _), (9, _)]) ?_ ⟨rfl, rfl, rfl, trivial⟩))
  refine WC.seq (WC.region ?_)
  refine WL.q (oq_move rfl) rfl rfl rfl ?_
  refine WL.q (oq_fieldAddr fld182_0 rfl) rfl rfl rfl ?_
  refine WL.q (oq_load flat74 rfl (.head _) (List.mem_singleton.2 rfl) rfl) rfl rfl rfl ?_
  refine WL.q (oq_makeI conc74 rfl) rfl rfl rfl ?_
  refine WL.q (oq_fieldAddr fld182_1 rfl) rfl rfl rfl ?_
  refine WL.q (oq_load flat74 rfl (.head _) (List.mem_singleton.2 rfl) rfl) rfl rfl rfl ?_
  refine WL.q (oq_makeI conc74 rfl) rfl rfl rfl ?_
  refine WL.buildL Tryz.underlying184 ty20 rfl rfl (by decide) (by decide) rfl rfl rfl fun v5 A5 ho5 hne5 => ?_
  refine WL.f2 ?_
  refine WL.f1 ?_
  refine WL.callW2 (zzWrite _ k r f Wt hW acc0 G hG v5 A5 [⟨74, .u32, 4, 16 + (hl : Int) + (pl : Int)⟩, ⟨74, .u32, 4, (hl : Int)⟩] ho5.rd (ok2 (okU _) (okU _)) (by simp) (by simp; omega)) call70 rfl rfl rfl fun v5_8 Hs5_8 hR5_8 => ?_
  obtain ⟨G2, rfl, rfl, hG2⟩ := hR5_8
  rw [bytesN_2] at hG2
  have hG2 : Wt (acc0 ++ pre8 hl pl) G2 := hG2
  have h8 : (pre8 hl pl).length = 8 := by unfold pre8; rw [List.length_append, be_len, be_len]
  refine WL.to2 ?_
  refine WL.q (oq_assign rfl) rfl rfl rfl ?_
  refine WL.nil (WE.then_normal (WC.sub (fr' := [(0, _), (1, _), (9, _), (11, _)]) ?_ ⟨rfl, rfl, rfl, rfl, trivial⟩))
  refine WC.seq (WC.seq (WC.region ?_))
  refine WL.q (oq_move rfl) rfl rfl rfl ?_
  refine WL.q (oq_ineq Tryz.underlying99 rfl (.inl rfl)) rfl rfl rfl ?_
  refine WL.nil (WE.then_normal (WC.sub (fr' := [(0, _), (1, _), (9, _), (11, _), (33, _)]) ?_ ⟨rfl, rfl, rfl, rfl, rfl, trivial⟩))
  refine WC.cond rfl (fun q6 => ?_) (fun q6 => ?_)
  ·
   try simp only [Z1, Z2, Z3, Z4, Z5, Z6, Z7, Z8, Z9, Z0] at q6
   first | contradiction | (exfalso; omega) | (exfalso; simp_all; done)
  ·
   try simp only [Z1, Z2, Z3, Z4, Z5, Z6, Z7, Z8, Z9, Z0] at q6
   refine WC.skip (WE.then_normal (WC.sub (fr' := [(0, _), (1, _), (9, _)]) ?_ ⟨rfl, rfl, rfl, trivial⟩))
   refine WC.seq (WC.region ?_)
   refine WL.q (oq_move rfl) rfl rfl rfl ?_
   refine WL.qc (oq_callRm (hS _ G2 hG2) (.tail _ (.head _)) call69 rfl) rfl rfl rfl ?_
   refine WL.q (oq_fieldAddr fld182_2 rfl) rfl rfl rfl ?_
   refine WL.f2 ?_
   refine WL.store1 #[_, _, _] ty74 rfl rfl (by first | rfl | exact OwS.one one_) (Nat.lt_of_lt_of_le (Nat.lt_succ_self _) (Nat.le_of_ble_eq_true rfl)) rfl rfl ?_
   refine WL.nil (WE.then_normal (WC.sub (fr' := [(0, _), (9, _)]) ?_ ⟨rfl, rfl, trivial⟩))
   refine WC.seq (WC.region ?_)
   refine WL.q (oq_move rfl) rfl rfl rfl ?_
   refine WL.q (oq_fieldAddr fld182_2 rfl) rfl rfl rfl ?_
   refine WL.q (oq_load flat74 rfl (.head _) (List.mem_singleton.2 rfl) rfl) rfl rfl rfl ?_
   refine WL.q (oq_makeI conc74 rfl) rfl rfl rfl ?_
   refine WL.buildL Tryz.underlying184 ty20 rfl rfl (by decide) (by decide) rfl rfl rfl fun v9 A9 ho9 hne9 => ?_
   refine WL.f3 ?_
   refine WL.f1 ?_
   refine WL.callW2 (zzWrite _ k r f Wt hW _ G2 hG2 v9 A9 [⟨74, .u32, 4, ((crc (acc0 ++ pre8 hl pl)).toNat : Int)⟩] ho9.rd (ok1 (okU _)) (by simp) (by rw [List.length_append]; simp; omega)) call70 rfl rfl rfl fun v9_5 Hs9_5 hR9_5 => ?_
   obtain ⟨G3, rfl, rfl, hG3⟩ := hR9_5
   rw [bytesN_1, List.append_assoc] at hG3
   refine WL.to2 ?_
   refine WL.q (oq_assign rfl) rfl rfl rfl ?_
   refine WL.nil (WE.then_normal (WC.sub (fr' := [(11, _)]) ?_ ⟨rfl, trivial⟩))
   refine WC.seq (WC.seq (WC.region ?_))
   refine WL.q (oq_move rfl) rfl rfl rfl ?_
   refine WL.q (oq_ineq Tryz.underlying99 rfl (.inl rfl)) rfl rfl rfl ?_
   refine WL.nil (WE.then_normal (WC.sub (fr' := [(11, _), (45, _)]) ?_ ⟨rfl, rfl, trivial⟩))
   refine WC.cond rfl (fun q10 => ?_) (fun q10 => ?_)
   ·
    try simp only [Z1, Z2, Z3, Z4, Z5, Z6, Z7, Z8, Z9, Z0] at q10
    first | contradiction | (exfalso; omega) | (exfalso; simp_all; done)
   ·
    try simp only [Z1, Z2, Z3, Z4, Z5, Z6, Z7, Z8, Z9, Z0] at q10
    refine WC.skip (WE.then_normal (WC.sub (fr' := []) ?_ trivial))
    refine WC.seq (WC.region ?_)
    refine WL.q (oq_assign rfl) rfl rfl rfl ?_
    refine WL.nil (WE.then_normal (WC.sub (fr' := [(8, _)]) ?_ ⟨rfl, trivial⟩))
    refine WC.ret ?_
    refine WE.forget ho9.fresh ?_
    refine WE.f1 ?_
    refine WE.lose hpb ?_
    refine WE.f1 ?_
    refine WE.forget ho5.fresh ?_
    refine WE.endW1 (.inl rfl) (res1 Tryz.results67 rfl) ?_
    exact ⟨_, rfl, rfl, hG3⟩
theorem multiWriter (v : Value) (L : Hp) (ws : List (TypeId × Value)) (hr : RdS 1 v L ws.length (ws.map wval)) (hn : ws.length ≤ 100) (hk : ∀ x ∈ ws, x.1 ≠ 177) : FnA Tryz.prog 65 [v] L (fun w N => ∃ mb u Ws, w = .iface 177 (Pt mb 0) ∧ N = [(mb, .cells #[u] 180 (0, 0))] ++ Ws ∧ RdS 1 u Ws ws.length (ws.map wval)) := by
 refine FnA.enter (n := 38) Tryz.func65 rfl rfl fun w0 => ?_
 refine WC.sub (fr' := [(0, _)]) ?_ ⟨rfl, trivial⟩
 refine WC.seq (WC.region ?_)
 refine WL.q (oq_assign rfl) rfl rfl rfl ?_
 refine WL.nil (WE.then_normal (WC.sub (fr' := [(0, _)]) ?_ ⟨rfl, trivial⟩))
 refine WC.seq (WC.region ?_)
 refine WL.q (oq_move rfl) rfl rfl rfl ?_
 refine WL.q (oq_len_rd hr Tryz.underlying176 rfl) rfl rfl rfl ?_
 refine WL.make0 Tryz.underlying176 ty151 rfl rfl (by omega) (by unfold maxLen; omega) rfl rfl fun v1_2 A1_2 ho1_2 hne1_2 => ?_
 refine WL.q (oq_assign rfl) rfl rfl rfl ?_
 refine WL.nil (WE.then_normal (WC.sub (fr' := [(0, _), (3, _)]) ?_ ⟨rfl, rfl, trivial⟩))
 refine WC.seq (WC.seq (WC.region ?_))
 refine WL.q (oq_move rfl) rfl rfl rfl ?_
 refine WL.q (oq_len_rd hr Tryz.underlying176 rfl) rfl rfl rfl ?_
 refine WL.q (oq_move rfl) rfl rfl rfl ?_
 refine WL.nil (WE.then_normal (WC.sub (fr' := [(3, _), (11, _), (12, _), (13, _)]) ?_ ⟨rfl, rfl, rfl, rfl, trivial⟩))
 refine WC.block ?_
 refine WC.loop (ι := Nat × Value × Hp) (fun i_ => (fun (i : Nat) (u : Value) (B : Hp) => [(3, u), (11, v), (12, I (ws.length : Int)), (13, I (i : Int))]) i_.1 i_.2.1 i_.2.2) (fun i_ => (fun (i : Nat) (u : Value) (B : Hp) => [B, L]) i_.1 i_.2.1 i_.2.2) (fun i_ => (fun (i : Nat) (u : Value) (B : Hp) => i ≤ ws.length ∧ OwS w0.heap.size 151 1 u B i ((ws.map wval).take i)) i_.1 i_.2.1 i_.2.2) (fun i_ => (fun (i : Nat) (u : Value) (B : Hp) => ws.length - i) i_.1 i_.2.1 i_.2.2) ((0, _, _)) ?_ ⟨rfl, rfl, rfl, rfl, trivial⟩ (List.Perm.refl _) ?_
 ·try dsimp only
  exact ⟨by omega, by assumption⟩
 ·rintro ⟨i, u, B⟩ hp
  try dsimp only at hp
  obtain ⟨hi, ho⟩ := hp
  show WC _ _ _ _ _ _ ([(3, u), (11, v), (12, I (ws.length : Int)), (13, I (i : Int))]) ([B, L])
  refine WC.seq (WC.region ?_)
  refine WL.q (oq_lss rfl rfl) rfl rfl rfl ?_
  refine WL.nil (WE.then_normal (WC.sub (fr' := [(3, _), (11, _), (12, _), (13, _), (14, _)]) ?_ ⟨rfl, rfl, rfl, rfl, rfl, trivial⟩))
  refine WC.seq ?_
  refine WC.cond rfl (fun q3 => ?_) (fun q3 => ?_)
  ·
   try simp only [Z1, Z2, Z3, Z4, Z5, Z6, Z7, Z8, Z9, Z0] at q3
   refine WC.skip (WE.then_normal (WC.sub (fr' := [(3, _), (11, _), (12, _), (13, _)]) ?_ ⟨rfl, rfl, rfl, rfl, trivial⟩))
   refine WC.seq (WC.block (WC.seq ?_))
   have hlt : i < ws.length := by omega
   refine WC.region ?_
   refine WL.q (oq_ixaddr hr Tryz.underlying176 ty151 rfl rfl (by (first | omega | (simp only [List.length_cons, List.length_nil, List.length_append, List.length_drop, List.length_take]; omega)))) rfl rfl rfl ?_
   refine WL.q (oq_load_el hr (by repeat (first | exact .head _ | apply List.Mem.tail)) flat151 rfl (by omega) (u := wval ws[i]) (by rw [Int.toNat_natCast, List.getElem?_map, List.getElem?_eq_getElem hlt]; rfl)) rfl rfl rfl ?_
   refine WL.q (oq_assign rfl) rfl rfl rfl ?_
   refine WL.nil (WE.then_normal (WC.sub (fr' := [(3, _), (5, _), (11, _), (12, _), (13, _)]) ?_ ⟨rfl, rfl, rfl, rfl, rfl, trivial⟩))
   refine WC.seq (WC.region ?_)
   refine WL.q (oq_move rfl) rfl rfl rfl ?_
   refine WL.q (oq_askG conc177 ty177 rfl) rfl rfl rfl ?_
   refine WL.q (oq_move rfl) rfl rfl rfl ?_
   refine WL.q (oq_extract rfl rfl) rfl rfl rfl ?_
   refine WL.q (oq_extract rfl rfl) rfl rfl rfl ?_
   refine WL.q (oq_assign rfl) rfl rfl rfl ?_
   refine WL.q (oq_assign rfl) rfl rfl rfl ?_
   refine WL.nil (WE.then_normal (WC.sub (fr' := [(3, _), (5, _), (6, _), (7, _), (11, _), (12, _), (13, _)]) ?_ ⟨rfl, rfl, rfl, rfl, rfl, rfl, rfl, trivial⟩))
   refine WC.seq (WC.region ?_)
   refine WL.q (oq_move rfl) rfl rfl rfl ?_
   refine WL.nil (WE.then_normal (WC.sub (fr' := [(3, _), (5, _), (6, _), (11, _), (12, _), (13, _), (22, _)]) ?_ ⟨rfl, rfl, rfl, rfl, rfl, rfl, rfl, trivial⟩))
   refine WC.cond rfl (fun q6 => ?_) (fun q6 => ?_)
   ·
    try simp only [Z1, Z2, Z3, Z4, Z5, Z6, Z7, Z8, Z9, Z0] at q6
    exact absurd q6 (hk _ (List.getElem_mem hlt))
   ·
    try simp only [Z1, Z2, Z3, Z4, Z5, Z6, Z7, Z8, Z9, Z0] at q6
    refine WC.region ?_
    refine WL.q (oq_move rfl) rfl rfl rfl ?_
    refine WL.q (oq_move rfl) rfl rfl rfl ?_
    refine WL.append1 ho Tryz.underlying176 ty151 rfl (by decide) (fun _ => rfl) rfl rfl (by unfold maxLen; omega) (by omega) rfl rfl (fun _ => rfl) rfl fun v8 A8 u8 ho8 hne8 => ?_
    refine WL.q (oq_assign rfl) rfl rfl rfl ?_
    refine WL.nil (WE.block_normal (WE.then_normal (WC.sub (fr' := [(3, _), (11, _), (12, _), (13, _)]) ?_ ⟨rfl, rfl, rfl, rfl, trivial⟩)))
    refine WC.region ?_
    refine WL.q (oq_add rfl rfl (by rw [i64_lo, i64_hi]; (first | omega | (simp only [List.length_cons, List.length_nil, List.length_append, List.length_drop, List.length_take]; omega)))) rfl rfl rfl ?_
    refine WL.q (oq_move rfl) rfl rfl rfl ?_
    refine WL.nil ?_
    refine WE.again (i + 1, _, _) ?_ ?_ ⟨rfl, rfl, rfl, rfl, trivial⟩ (List.Perm.refl _)
    ·try dsimp only
     exact ⟨by omega, by rw [List.take_add_one, List.getElem?_map, List.getElem?_eq_getElem hlt]; exact ho8⟩
    ·(try dsimp only); omega
  ·
   try simp only [Z1, Z2, Z3, Z4, Z5, Z6, Z7, Z8, Z9, Z0] at q3
   refine WC.exit (WE.then_exit (WE.then_exit (WE.block_same (WE.then_normal (WC.sub (fr' := [(3, _)]) ?_ ⟨rfl, trivial⟩)))))
   refine WC.seq ?_
   obtain ⟨pu, cu, rfl⟩ := ho.rd.shape
   refine WC.region ?_
   refine WL.q (oq_move rfl) rfl rfl rfl ?_
   refine WL.q (oq_build #[_] str180 ty180 rfl rfl) rfl rfl rfl ?_
   refine WL.box rfl rfl rfl fun mb hmb => ?_
   refine WL.q (oq_makeI conc177 rfl) rfl rfl rfl ?_
   refine WL.q (oq_assign rfl) rfl rfl rfl ?_
   refine WL.nil (WE.then_normal (WC.sub (fr' := [(2, _)]) ?_ ⟨rfl, trivial⟩))
   refine WC.ret ?_
   refine WE.cat ?_
   refine WE.endA (.inl rfl) (res1 Tryz.results65 rfl) ?_ (fresh_cat (fresh1 hmb) (ho.fresh))
   obtain rfl : i = ws.length := by omega
   rw [List.take_of_length_le (by simp)] at ho
   exact ⟨_, _, _, rfl, rfl, ho.rd⟩
theorem newEncoder  : FnA Tryz.prog 48 [] [] (fun w N => ∃ eb b1 b2, w = Pt eb 0 ∧ N = ([(eb, .cells #[Pt b1 0, Pt b2 0] 149 (0, 0))] ++ BB b1 (.slice none 0 0) 0) ++ BB b2 (.slice none 0 0) 0) := by
 refine FnA.enter0 (n := 5) Tryz.func48 rfl rfl fun w0 => ?_
 refine WC.sub (fr' := []) ?_ trivial
 refine WC.seq (WC.region ?_)
 refine WL.q (oq_assign rfl) rfl rfl rfl ?_
 refine WL.nil (WE.then_normal (WC.sub (fr' := []) ?_ trivial))
 refine WC.seq (WC.region ?_)
 refine WL.callA0 (newBuf) call62 rfl rfl rfl fun v1_0 N1_0 hR1_0 hN1_0 => ?_
 obtain ⟨b0, rfl, rfl⟩ := hR1_0
 refine WL.callA0 (newBuf) call62 rfl rfl rfl fun v1_1 N1_1 hR1_1 hN1_1 => ?_
 obtain ⟨b1, rfl, rfl⟩ := hR1_1
 refine WL.q (oq_build #[_, _] str149 ty149 rfl rfl) rfl rfl rfl ?_
 refine WL.box rfl rfl rfl fun eb heb => ?_
 refine WL.q (oq_assign rfl) rfl rfl rfl ?_
 refine WL.nil (WE.then_normal (WC.sub (fr' := [(0, _)]) ?_ ⟨rfl, trivial⟩))
 refine WC.ret ?_
 refine WE.f1 ?_
 refine WE.f2 ?_
 refine WE.f2 ?_
 refine WE.cat ?_
 refine WE.cat ?_
 refine WE.endA0 (.inl rfl) (res1 Tryz.results48 rfl) ?_ (fresh_cat (fresh_cat (fresh1 heb) (hN1_0)) (hN1_1))
 exact ⟨_, _, _, rfl, rfl⟩
end EK
end Go.Proofs.YtodlhaghdplclaaGreatDoor
/- Writers of many writers, buffers as groups. -/
namespace Go.Proofs.YtodlhaghdplclaaGreatDoor
open Go Go.RowKit V EA EB EC ED EE EF EG EH EI EJ EK
set_option linter.unusedSimpArgs false
set_option linter.unusedVariables false
namespace EL
theorem fw_perm {P : Program} {f : FuncId} {args : List Value} {base : Nat} {Hs Ks : List Hp} {F : Hp} {R R' : Value → List Hp → Prop} (h : FnW P f args base Hs R) (p : Ks.flatten.Perm (Hs.flatten ++ F)) (hr : ∀ v Hs', R v Hs' → ∃ Ks', R' v Ks' ∧ (Hs'.flatten ++ F).Perm Ks'.flatten) : FnW P f args base Ks R' := by
 intro w0 R0 w hb hw
 have e1 : ∀ (X : List Hp) (Y : Hp), (X ++ [Y]).flatten = X.flatten ++ Y := fun X Y => by simp
 have p1 : (Ks ++ [R0]).flatten.Perm (Hs ++ [F ++ R0]).flatten := by
  rw [e1, e1, ← List.append_assoc]; exact p.append_right _
 refine (h w0 (F ++ R0) w hb (hw.perm p1)).mono ?_
 rintro e w' ⟨v, Hs', he, hR, hst⟩
 obtain ⟨Ks', hR', p2⟩ := hr v Hs' hR
 refine ⟨v, Ks', he, hR', hst.perm ?_⟩
 rw [e1, e1, ← List.append_assoc]; exact p2.append_right _
theorem mid1 (W G F C : Hp) : ((W ++ G ++ F) ++ C).Perm ((G ++ C) ++ (W ++ F)) := by
 have h1 : (W ++ G ++ F ++ C).Perm (G ++ W ++ F ++ C) := ((List.perm_append_comm.append_right F).append_right C)
 have h2 : (G ++ W ++ F ++ C).Perm (G ++ C ++ (W ++ F)) := by
  rw [List.append_assoc G W F, List.append_assoc G (W ++ F) C, List.append_assoc G C]
  exact List.Perm.append_left _ List.perm_append_comm
 exact h1.trans h2
abbrev Hash (hb : Nat) (c : BitVec 32) : Hp := [(hb, .cells #[U32 c] 155 (0, 0))]
theorem midWr (base bb : Nat) (W F : Hp) : Wr base 107 (Pt bb 0) 134 (fun acc X => ∃ Gb, BufG base bb acc Gb ∧ X = (W ++ Gb) ++ F) := by
 refine ⟨invBW, nokBW _, ?_⟩
 rintro acc G s C data ⟨Gb, hG, rfl⟩ hr hl h0
 refine fw_perm (F := W ++ F) ((bufWr base bb).run acc Gb s C data hG hr hl h0) ?_ ?_
 ·simp only [List.flatten_cons, List.flatten_nil, List.append_nil]
  exact mid1 W Gb F C
 ·rintro v Hs ⟨G', rfl, rfl, hG'⟩
  refine ⟨_, ⟨_, rfl, rfl, G', hG', rfl⟩, ?_⟩
  simp only [List.flatten_cons, List.flatten_nil, List.append_nil]
  exact (mid1 W G' F C).symm
/-! ### A writer of two: a buffer and a sum -/
def MwG (base mb : Nat) (u : Value) (Ws : Hp) (bb hb : Nat) (acc : List UInt8) (X : Hp) : Prop := ∃ Gb, BufG base bb acc Gb ∧ X = (([(mb, .cells #[u] 180 (0, 0))] ++ Ws) ++ Gb) ++ Hash hb (crc acc)
def St2 (base bb hb : Nat) (acc data : List UInt8) (i : Nat) (X : Hp) : Prop := ∃ Gb, BufG base bb (if i = 0 then acc else acc ++ data) Gb ∧ X = Gb ++ Hash hb (crc (if i ≤ 1 then acc else acc ++ data))
theorem st_step (base bb hb : Nat) (acc data : List UInt8) (s : Value) (C : Hp) (hr : RdS 1 s C data.length (bytesV data)) (hl : acc.length + data.length ≤ 400000) (h0 : 0 < acc.length + data.length) :
  MwStep base [.iface 107 (Pt bb 0), .iface 153 (Pt hb 0)] s C data.length (St2 base bb hb acc data) := by
 intro i hi
 match i, hi with
 | 0, _ =>
  refine ⟨_, _, _, rfl, invBW, ?_⟩
  rintro G ⟨Gb, hG, rfl⟩
  rw [if_pos rfl] at hG
  refine fw_perm (F := Hash hb (crc acc)) ((bufWr base bb).run acc Gb s C data hG hr hl h0) ?_ ?_
  ·simpa using mid1 [] Gb (Hash hb (crc acc)) C
  ·rintro v Hs ⟨G', rfl, rfl, hG'⟩
   exact ⟨_, ⟨_, rfl, rfl, G', hG', rfl⟩, by simpa using (mid1 [] G' (Hash hb (crc acc)) C).symm⟩
 | 1, _ =>
  refine ⟨_, _, _, rfl, invCW, ?_⟩
  rintro G ⟨Gb, hG, rfl⟩
  rw [if_neg (by decide)] at hG
  have hh : crc (if (1 : Nat) ≤ 1 then acc else acc ++ data) = crc acc := rfl
  rw [hh]
  refine fw_perm (F := Gb) (crcWrite base hb acc s C data hr (by omega)) ?_ ?_
  ·simpa using mid1 Gb (Hash hb (crc acc)) [] C
  ·rintro v Hs ⟨rfl, rfl⟩
   exact ⟨_, ⟨_, rfl, rfl, Gb, hG, rfl⟩, by simpa using (mid1 Gb (Hash hb (crc (acc ++ data))) [] C).symm⟩
theorem mwWr (base mb : Nat) (u : Value) (Ws : Hp) (bb hb : Nat) (hw : RdS 1 u Ws 2 [.iface 107 (Pt bb 0), .iface 153 (Pt hb 0)]) : Wr base 177 (Pt mb 0) 197 (MwG base mb u Ws bb hb) := by
 refine ⟨invMW, nokMW _, ?_⟩
 rintro acc G s C data ⟨Gb, hG, rfl⟩ hr hl h0
 have h := mwWrite base mb u Ws [.iface 107 (Pt bb 0), .iface 153 (Pt hb 0)] hw (by simp) s C data hr (by omega) (St2 base bb hb acc data) (st_step base bb hb acc data s C hr hl h0) (Gb ++ Hash hb (crc acc)) ⟨Gb, hG, rfl⟩
 refine fw_perm (F := []) h ?_ ?_
 ·simp
 ·rintro v Hs ⟨G2, rfl, rfl, G', hG', rfl⟩
  exact ⟨_, ⟨_, rfl, rfl, G', hG', rfl⟩, by simp⟩
theorem mwSum (base mb : Nat) (u : Value) (Ws : Hp) (bb hb : Nat) (acc : List UInt8) (G : Hp) (h : MwG base mb u Ws bb hb acc G) : FnR Tryz.prog 69 [Pt hb 0] G (U32 (crc acc)) := by
 obtain ⟨Gb, _, rfl⟩ := h
 exact (sum32 hb (crc acc)).wide (List.perm_append_comm)
/-! ### Buffers as groups -/
theorem bufReset (base bb : Nat) (acc : List UInt8) (G : Hp) (h : BufG base bb acc G) : FnW Tryz.prog 63 [Pt bb 0] base [G] (fun w Hs => ∃ G', w = .tuple #[] ∧ Hs = [G'] ∧ BufG base bb [] G') := by
 obtain ⟨v, lr, A, rfl, hb⟩ := h
 rcases hb with ⟨rfl, rfl, rfl⟩ | ⟨B, cap, L, rfl, rfl, hB, hL, hc, hc0, hm, ht⟩
 ·refine fw_perm (F := []) (reset0 base bb lr 0) (by simp) ?_
  rintro v Hs ⟨rfl, rfl⟩
  exact ⟨_, ⟨_, rfl, rfl, _, 0, [], rfl, .inl ⟨rfl, rfl, rfl⟩⟩, by simp⟩
 ·refine fw_perm (F := Bf B 5 L) (reset1 base bb lr 0 B acc.length cap hc hc0) (by simp) ?_
  rintro v Hs ⟨rfl, rfl⟩
  exact ⟨_, ⟨_, rfl, rfl, _, 0, _, rfl, .inr ⟨B, cap, L, rfl, rfl, hB, hL, Nat.zero_le _, hc0, hm, rfl⟩⟩, by simp⟩
theorem bufLenG (base bb : Nat) (acc : List UInt8) (G : Hp) (h : BufG base bb acc G) (hl : acc.length ≤ 1000000) : FnR Tryz.prog 66 [Pt bb 0] G (I (acc.length : Int)) := by
 obtain ⟨v, lr, A, rfl, hb⟩ := h
 rcases hb with ⟨rfl, rfl, rfl⟩ | ⟨B, cap, L, rfl, rfl, hB, hL, hc, hc0, hm, ht⟩
 ·exact (bufLen bb 0 0 none lr (by omega)).wide (List.Perm.refl _)
 ·exact (bufLen bb acc.length cap (some ⟨B, 0, none⟩) lr (by omega)).wide (List.Perm.refl _)
theorem bytesG (base bb : Nat) (acc : List UInt8) (G : Hp) (h : BufG base bb acc G) : ∃ v, FnR Tryz.prog 47 [Pt bb 0] G v ∧ RdS 1 v G acc.length (bytesV acc) := by
 obtain ⟨v, lr, A, rfl, hb⟩ := h
 rcases hb with ⟨rfl, rfl, rfl⟩ | ⟨B, cap, L, rfl, rfl, hB, hL, hc, hc0, hm, ht⟩
 ·exact ⟨_, (bufBytes0 bb lr).wide (List.Perm.refl _), rfl, .inl ⟨rfl, _, _, rfl⟩⟩
 ·refine ⟨_, (bufBytes bb B acc.length cap lr hc hc0).wide (List.Perm.refl _), ?_⟩
  have h1 : RdS 1 (Sl B 0 acc.length cap) (Bf B 5 L) acc.length (bytesV acc) := by have := Sl.rd (b := B) (off := 0) (n := acc.length) (c := cap) (e := 5) (l := L) (by omega) hc; rw [List.drop_zero, ht] at this; exact this
  exact h1.weaken fun x hx => List.mem_append_right _ hx
theorem copyG (base : Nat) (k : TypeId) (r : Value) (f : FuncId) (Wt : List UInt8 → Hp → Prop) (hW : Wr base k r f Wt) (acc0 : List UInt8) (G : Hp) (hG : Wt acc0 G) (bb : Nat) (acc : List UInt8) (B : Hp) (hB : BufG base bb acc B) (ha : 0 < acc.length) (hal : acc0.length + acc.length ≤ 400000) :
  FnW Tryz.prog 68 [.iface k r, .iface 107 (Pt bb 0)] base [B, G] (fun w Hs => ∃ B' G', w = .tuple #[I (acc.length : Int), .nilIface] ∧ Hs = [B', G'] ∧ BufG base bb [] B' ∧ Wt (acc0 ++ acc) G') := by
 obtain ⟨v, lr, A, rfl, hb⟩ := hB
 rcases hb with ⟨rfl, rfl, rfl⟩ | ⟨B, cap, L, rfl, rfl, hB, hL, hc, hc0, hm, ht⟩
 ·cases ha
 ·refine fw_perm (F := []) (copy_ base k r f Wt hW acc0 G hG bb B cap lr L acc hB hL hc hc0 hm ht ha hal) (by simp) ?_
  rintro v Hs ⟨G2, rfl, rfl, hG2⟩
  exact ⟨_, ⟨_, _, rfl, rfl, ⟨_, 0, _, rfl, .inr ⟨B, cap, L, rfl, rfl, hB, hL, Nat.zero_le _, hc0, hm, rfl⟩⟩, hG2⟩, by simp⟩
end EL
end Go.Proofs.YtodlhaghdplclaaGreatDoor
/- The engine, part 18: package variables that hold sentinels, or tables of numbers; slices of bytes that come in. Over any program. -/
namespace Go.Proofs.YtodlhaghdplclaaGreatDoor.V
open Go Go.RowKit Go.ChangeShapes Go.WideShapes
set_option linter.unusedSimpArgs false
set_option linter.unusedVariables false
theorem var_heap {P : Program} {w : World} {n : String} {g : Nat} {cs : Array Value} (hg : P.globalNamed n = some g) (hv : w.var? P n = some cs) : ∃ t f, w.heap[g]? = some (.cells cs t f) := by
 simp only [World.var?, hg, Option.bind_some] at hv
 split at hv
 ·rename_i c t f h; simp at hv; subst hv; exact ⟨_, _, h⟩
 ·cases hv
section
variable {H : Type} {enc : TypeId × Value → H} {P : Program} {w : World} {base : Nat}
theorem arg_bytes {t e : TypeId} {r : Reach} {v : Value} {d : DataW H} {ps : List MemPlace} (ht : P.underlying t = some (.slice e)) (he : P.underlying e = some (.int .u8)) (hc : P.cellsOf e = 1) (hval : Value.okWide P w r base t v) (h : DataW.Trod enc P w 0 (fun _ => true) true t v d ps) :
  ∃ l A, Has A w ∧ RdS 1 v A l.length (bytesV l) ∧ l.length ≤ maxLen := by
 obtain ⟨zs, A, hA, hr, hl, hb⟩ := arg_ints ht he hc hval h
 have e1 : intsV .u8 zs = bytesV (zs.map fun z => UInt8.ofNat z.toNat) := by
  unfold intsV bytesV
  rw [List.map_map]
  refine List.map_congr_left fun z hz => ?_
  have hz2 := hb z hz
  rw [u8_lo, u8_hi] at hz2
  show Value.int .u8 z = Value.int .u8 (((UInt8.ofNat z.toNat).toNat : Nat) : Int)
  rw [byte_back z (by omega) (by omega)]
 refine ⟨zs.map fun z => UInt8.ofNat z.toNat, A, hA, ?_, by rw [List.length_map]; exact hl⟩
 rw [List.length_map, ← e1]; exact hr
end
end Go.Proofs.YtodlhaghdplclaaGreatDoor.V
/- The engine, part 28: arguments that come in: slices whose elements hold slices, structs. Over any program. -/
namespace Go.Proofs.YtodlhaghdplclaaGreatDoor.V
open Go Go.RowKit Go.ChangeShapes Go.WideShapes
set_option linter.unusedSimpArgs false
set_option linter.unusedVariables false
theorem has_list {W : World} : ∀ (As : List Hp), (∀ A ∈ As, Has A W) → ∃ C, Has C W ∧ ∀ A ∈ As, ∀ x ∈ A, x ∈ C
 | [], _ => ⟨[], Has.nil W, fun _ h => nomatch h⟩
 | A :: r, h => by
  obtain ⟨C, hC, h1⟩ := has_list r fun B hB => h B (List.mem_cons_of_mem _ hB)
  obtain ⟨D, hD, h2, h3⟩ := has_two (h A List.mem_cons_self) hC
  refine ⟨D, hD, fun B hB x hx => ?_⟩
  rcases List.mem_cons.1 hB with rfl | hB
  ·exact h2 x hx
  ·exact h3 x (h1 B hB x hx)
section
variable {H : Type} {enc : TypeId × Value → H} {P : Program} {w : World}
end
end Go.Proofs.YtodlhaghdplclaaGreatDoor.V
/- The engine, part 29: sentinels that are told apart, fields of own elements, told worlds at a function's begin. Over any program. -/
namespace Go.Proofs.YtodlhaghdplclaaGreatDoor.V
open Go Go.RowKit
set_option linter.unusedSimpArgs false
set_option linter.unusedVariables false
section
variable {P : Program} {n : Nat} {w0 : World} {ds : List Deferred} {fr : Fr} {H : List Hp} {dst : Option Tmp} {ty : TypeId} {pos : String} {aft : Array Edge} {g : Option (Nat × Bool)} {ops : Array Oper} {Q : Post} {rest : List Oper}
theorem equal_iother {t k e : TypeId} {ms : Array (String × TypeId)} {a b : Addr} {ca cb : Array Value} {ta tb : TypeId} (ht : P.underlying t = some (.interface ms)) (hk : Comp P k e) (hne : a ≠ b) (w : World) (ha : w.heap[a.block]? = some (.cells ca ta (0, 0))) (hb : w.heap[b.block]? = some (.cells cb tb (0, 0))) :
  (Op.equal t (.iface k (.pointer (some a))) (.iface k (.pointer (some b)))).run P w = .ok false w := by
 obtain ⟨hk, ⟨inf, hi, hc⟩, z, size, bytes, hty, h0⟩ := hk
 unfold Op.equal Op.maxDepth Op.equalIn
 rw [Sem.run_bind, run_underlying ht]
 simp only [Result.andThen_ok]
 simp only [ne_eq, not_true_eq_false, ↓reduceIte, Sem.run_bind, typeInfo, run_program, hi, Result.andThen_ok, Sem.run_pure, hc, Bool.not_true, Bool.false_eq_true]
 unfold Op.equalIn
 rw [Sem.run_bind, run_underlying hk]
 simp [run_size hty, h0, run_sameAddr_other w hne ha hb]
theorem oq_iother {t t' k e : TypeId} {ms : Array (String × TypeId)} {a b : Addr} {ca cb : Array Value} {ta tb : TypeId} {A B : Hp} {x y : Operand} (hk : Comp P k e) (ht : P.underlying t = some (.interface ms)) (hne : a ≠ b) (hA : A ∈ H) (ha : (a.block, .cells ca ta (0, 0)) ∈ A) (hB : B ∈ H) (hb : (b.block, .cells cb tb (0, 0)) ∈ B)
  (hx : ev fr x = some (.iface k (.pointer (some a)))) (hy : ev fr y = some (.iface k (.pointer (some b)))) : OV P n w0 ⟨dst, .binOp .eql t x y t', ty, pos, aft, g⟩ (.bool false) ds fr H :=
 oq_of_run fun a' w hf hw => by
  have he := equal_iother ht hk hne w (hw.now _ _ (mem_flat hA ha)) (hw.now _ _ (mem_flat hB hb))
  simp [execOp, hf.eval hx, hf.eval hy, eqGuard, binOp, he]
theorem oq_niother {t t' k : TypeId} {ms : Array (String × TypeId)} {v : Value} {x y : Operand} (ht : P.underlying t = some (.interface ms)) (hx : ev fr x = some .nilIface) (hy : ev fr y = some (.iface k v)) : OV P n w0 ⟨dst, .binOp .eql t x y t', ty, pos, aft, g⟩ (.bool false) ds fr H :=
 oq_of_run fun a w hf _ => by
  have he : (Op.equal t .nilIface (.iface k v)).run P w = .ok false w := by
   unfold Op.equal Op.maxDepth Op.equalIn
   rw [Sem.run_bind, run_underlying ht]; rfl
  simp [execOp, hf.eval hx, hf.eval hy, eqGuard, binOp, he]
theorem oq_nilI {k : TypeId} {v : Value} {x : Operand} (hx : ev fr x = some (.iface k v)) : OV P n w0 ⟨dst, .nilCheck x, ty, pos, aft, g⟩ (.iface k v) ds fr H :=
 oq_of_run fun a w hf _ => by simp [execOp, hf.eval hx]
theorem oq_sliceNil2 {t e : TypeId} {x y y2 : Operand} {z : Value} {bytes : Nat} (ht : P.underlying t = some (.slice e)) (hty : Ty P e z 1 bytes) (hx : ev fr x = some (.slice none 0 0)) (hy : ev fr y = some (I 0)) (hy2 : ev fr y2 = some (I 0)) : OV P n w0 ⟨dst, .slice t x (some y) (some y2) none, ty, pos, aft, g⟩ (.slice none 0 0) ds fr H :=
 oq_of_run fun a w hf _ => by
  have h0 : (0 : Int) ≤ (0 : Int) ∧ (0 : Int) ≤ ((0 : Nat) : Int) := by omega
  have hb : ∀ c w, (Instr.sliceBound (.int .i64 0) 0 c).run P w = .ok 0 w := fun c w => run_sliceBound h0
  simp [execOp, hf.eval hx, hf.eval hy, hf.eval hy2, Instr.sliceAt, Instr.slice, Instr.sliceBounds, run_underlying ht, run_size hty, hb]
theorem WL.storeOwF {t e : TypeId} {x y : Operand} {m i off sz : Nat} {v u z : Value} {A : Hp} {xs : List Value} {bytes : Nat} (ho : OwS w0.heap.size e sz v A m xs) (hty : Ty P t z 1 bytes) (hx : ev fr x = some (adOff (elAddr sz v (i : Int)) off)) (hy : ev fr y = some u) (h1 : u.oneCell' = true) (hi : i < m) (hoff : off < sz)
  (hg : gd ops fr ⟨none, .store t x y, ty, pos, aft, g⟩ = some true) (hk : ∀ A', OwS w0.heap.size e sz v A' m (xs.set (i * sz + off) u) → WL P n w0 ops Q rest ds fr (A' :: H)) : WL P n w0 ops Q (⟨none, .store t x y, ty, pos, aft, g⟩ :: rest) ds fr (A :: H) := by
 have hlt : i * sz + off < m * sz := by
  have : (i + 1) * sz ≤ m * sz := Nat.mul_le_mul_right _ hi
  rw [Nat.succ_mul] at this; omega
 rcases ho.2 with ⟨_, _, rfl⟩ | ⟨b, cap, cur, rfl, rfl, hb, hmc, hcm, hcs, hct⟩
 ·omega
 ·have hms : m * sz ≤ cap * sz := Nat.mul_le_mul_right _ hmc
  have hxa : ev fr x = some (Pt b (i * sz + off)) := by rw [hx]; simp [elAddr, adOff, Addr.add]
  refine WL.store hty hxa hy h1 (by rw [hcs]; omega) (by simp) hg (hk _ ⟨by rw [List.length_set]; exact ho.1, .inr ⟨b, cap, _, rfl, rfl, hb, hmc, hcm, by simp [hcs], ?_⟩⟩)
  rw [Array.toList_setIfInBounds, listSet_take _ _ _ _ (by omega), hct]
theorem FnA.enterH {f : FuncId} {fn : Func} {c : Code} {args : List Value} {Hr : Hp} {R : Value → Hp → Prop} {n : Nat} (hf : P.funcs[f]? = some fn) (hb : fn.body = some c) (hn : args.length + (fn.ntmps - args.length) = n)
  (h : ∀ w0, Has Hr w0 → WC P n w0 c (bodyPost P fn (postA w0 Hr R)) [] (args.zipIdx.map fun (v, i) => (i, v)) [Hr]) : FnA P f args Hr R := by
 intro w hw
 exact calls_of_wp hf hb (h w hw _ w (args_fit hn) (by simpa using hw.st))
theorem Has.lt {A : Hp} {w : World} (h : Has A w) {b : Nat} {o : Obj} (hb : (b, o) ∈ A) : b < w.heap.size := (Array.getElem?_eq_some_iff.1 (h.now b o hb)).1
def putB (L : List UInt8) (off : Nat) (x : List UInt8) : List UInt8 := L.take off ++ x ++ L.drop (off + x.length)
theorem putB_nil (L : List UInt8) (off : Nat) : putB L off [] = L := by unfold putB; simp
theorem putB_len {L x : List UInt8} {off : Nat} (h : off + x.length ≤ L.length) : (putB L off x).length = L.length := by unfold putB; simp; omega
theorem putB_two {L x y : List UInt8} {off : Nat} (h : off + x.length + y.length ≤ L.length) : putB (putB L off x) (off + x.length) y = putB L off (x ++ y) := by
 unfold putB
 have h1 : (L.take off ++ x).length = off + x.length := by simp; omega
 rw [List.take_left' h1, ← List.drop_drop, List.drop_left' h1, List.drop_drop, List.length_append, Nat.add_assoc]
 simp
theorem putB_all {L x : List UInt8} (h : x.length = L.length) : putB L 0 x = x := by unfold putB; simp [h]
end
end Go.Proofs.YtodlhaghdplclaaGreatDoor.V
/- Readers of bytes. -/
namespace Go.Proofs.YtodlhaghdplclaaGreatDoor
open Go Go.RowKit V EA EB EC ED EL
set_option linter.unusedSimpArgs false
set_option linter.unusedVariables false
set_option maxRecDepth 10000
namespace DC
theorem flat2 : Flat Tryz.prog 2 := ⟨_, Tryz.underlying2, by simp⟩
theorem flat28 : Flat Tryz.prog 28 := ⟨_, Tryz.underlying28, by simp⟩
theorem flat99 : Flat Tryz.prog 99 := ⟨_, Tryz.underlying99, by simp⟩
theorem ty2 : Ty Tryz.prog 2 (.int .i64 0) 1 8 := ty_of (by kernel_rfl)
theorem ty3 : Ty Tryz.prog 3 (.int .i64 0) 1 8 := ty_of (by kernel_rfl)
theorem ty5 : Ty Tryz.prog 5 (.int .u8 0) 1 1 := ty_of (by kernel_rfl)
theorem ty28 : Ty Tryz.prog 28 (.slice none 0 0) 1 24 := ty_of (by kernel_rfl)
theorem fld163_0 : Fld Tryz.prog 163 0 0 28 := fld_of Tryz.underlying163 rfl rfl rfl ty28 (by decide)
theorem fld163_1 : Fld Tryz.prog 163 1 1 2 := fld_of Tryz.underlying163 rfl rfl rfl ty2 (by decide)
theorem fld163_2 : Fld Tryz.prog 163 2 2 3 := fld_of Tryz.underlying163 rfl rfl rfl ty3 (by decide)
abbrev RB (rb : Nat) (sv : Value) (i pr : Int) : Hp := [(rb, .cells #[sv, I i, I pr] 163 (0, 0))]
def lenE : Value := .agg #[S [109, 101, 115, 115, 97, 103, 101, 32, 112, 114, 101, 108, 117, 100, 101], I 16, I 0, .nilIface]
def erv (k : TypeId) (pE pU : Addr) (ob : Nat) : Nat → Value
 | 0 => .nilIface
 | 1 => .iface k (.pointer (some pE))
 | 2 => .iface k (.pointer (some pU))
 | 3 => .iface 118 (.agg #[])
 | 4 => .iface 120 lenE
 | _ => .iface k (Pt ob 0)
theorem erv_or (k : TypeId) (pE pU : Addr) (ob c : Nat) : erv k pE pU ob c = .nilIface ∨ ∃ k' u, erv k pE pU ob c = .iface k' u := by
 match c with
 | 0 => exact .inl rfl
 | 1 => exact .inr ⟨_, _, rfl⟩
 | 2 => exact .inr ⟨_, _, rfl⟩
 | 3 => exact .inr ⟨_, _, rfl⟩
 | 4 => exact .inr ⟨_, _, rfl⟩
 | _ + 5 => exact .inr ⟨_, _, rfl⟩
theorem erv_nil (k : TypeId) (pE pU : Addr) (ob c : Nat) : nilI (erv k pE pU ob c) = decide (c = 0) := by
 match c with
 | 0 => rfl
 | 1 => rfl
 | 2 => rfl
 | 3 => rfl
 | 4 => rfl
 | _ + 5 => rfl
structure Sn (E : Hp) (kE : TypeId) (pE pU : Addr) : Prop where
 comp : ∃ e, Comp Tryz.prog kE e
 eof : ∃ t f, (0, .cells #[.iface kE (.pointer (some pE))] t f) ∈ E
 uex : ∃ t f, (1, .cells #[.iface kE (.pointer (some pU))] t f) ∈ E
 shb : ∃ k p t f, (4, .cells #[.iface k (.pointer (some p))] t f) ∈ E
 ne : pE ≠ pU
 bE : ∃ c t, (pE.block, .cells c t (0, 0)) ∈ E
 bU : ∃ c t, (pU.block, .cells c t (0, 0)) ∈ E
 kd : kE = 248
theorem Sn.weaken {E C : Hp} {k : TypeId} {p u : Addr} (h : Sn E k p u) (hs : ∀ x ∈ E, x ∈ C) : Sn C k p u := by
 obtain ⟨h1, ⟨t, f, h2⟩, ⟨t3, f3, h3⟩, ⟨k4, p4, t4, f4, h4⟩, h5, ⟨c6, t6, h6⟩, ⟨c7, t7, h7⟩, h8⟩ := h
 exact ⟨h1, ⟨t, f, hs _ h2⟩, ⟨t3, f3, hs _ h3⟩, ⟨k4, p4, t4, f4, hs _ h4⟩, h5, ⟨c6, t6, hs _ h6⟩, ⟨c7, t7, hs _ h7⟩, h8⟩
section
variable {n : Nat} {w0 : World} {ds : List Deferred} {fr : Fr} {H : List Hp} {dst : Option Tmp} {ty : TypeId} {pos : String} {aft : Array Edge} {g : Option (Nat × Bool)} {E : Hp} {kE : TypeId} {pE pU : Addr} {ob c : Nat} {t t' : TypeId} {ms : Array (String × TypeId)} {x y : Operand}
theorem oq_erE (hS : Sn E kE pE pU) (hE : E ∈ H) (hob : c < 5 ∨ ∃ X ∈ H, ∃ cs u, (ob, .cells cs u (0, 0)) ∈ X ∧ ob ≠ pE.block) (ht : Tryz.prog.underlying t = some (.interface ms)) (hx : ev fr x = some (erv kE pE pU ob c)) (hy : ev fr y = some (.iface kE (.pointer (some pE)))) :
  OV Tryz.prog n w0 ⟨dst, .binOp .eql t x y t', ty, pos, aft, g⟩ (.bool (decide (c = 1))) ds fr H := by
 obtain ⟨e, hk⟩ := hS.comp
 obtain ⟨c1, t1, h1⟩ := hS.bE
 obtain ⟨c2, t2, h2⟩ := hS.bU
 match c, hx, hob with
 | 0, hx, _ => exact oq_niother ht hx hy
 | 1, hx, _ => exact oq_isame hk ht hx hy
 | 2, hx, _ => exact oq_iother hk ht (Ne.symm hS.ne) hE h2 hE h1 hx hy
 | 3, hx, _ => exact oq_eqI (eqI_other ht (by rw [hS.kd]; decide) _ _) hx hy
 | 4, hx, _ => exact oq_eqI (eqI_other ht (by rw [hS.kd]; decide) _ _) hx hy
 | m + 5, hx, .inl h => exact absurd h (by omega)
 | m + 5, hx, .inr ⟨X, hX, cs, u, hm, hne⟩ => exact oq_iother (a := ⟨ob, 0, none⟩) hk ht (fun e => hne (by rw [← e])) hX hm hE h1 hx hy
theorem oq_erU (hS : Sn E kE pE pU) (hE : E ∈ H) (hob : c < 5 ∨ ∃ X ∈ H, ∃ cs u, (ob, .cells cs u (0, 0)) ∈ X ∧ ob ≠ pU.block) (ht : Tryz.prog.underlying t = some (.interface ms)) (hx : ev fr x = some (erv kE pE pU ob c)) (hy : ev fr y = some (.iface kE (.pointer (some pU)))) :
  OV Tryz.prog n w0 ⟨dst, .binOp .eql t x y t', ty, pos, aft, g⟩ (.bool (decide (c = 2))) ds fr H := by
 obtain ⟨e, hk⟩ := hS.comp
 obtain ⟨c1, t1, h1⟩ := hS.bE
 obtain ⟨c2, t2, h2⟩ := hS.bU
 match c, hx, hob with
 | 0, hx, _ => exact oq_niother ht hx hy
 | 1, hx, _ => exact oq_iother hk ht hS.ne hE h1 hE h2 hx hy
 | 2, hx, _ => exact oq_isame hk ht hx hy
 | 3, hx, _ => exact oq_eqI (eqI_other ht (by rw [hS.kd]; decide) _ _) hx hy
 | 4, hx, _ => exact oq_eqI (eqI_other ht (by rw [hS.kd]; decide) _ _) hx hy
 | m + 5, hx, .inl h => exact absurd h (by omega)
 | m + 5, hx, .inr ⟨X, hX, cs, u, hm, hne⟩ => exact oq_iother (a := ⟨ob, 0, none⟩) hk ht (fun e => hne (by rw [← e])) hX hm hE h2 hx hy
end
structure Rr (base : Nat) (k : TypeId) (r : Value) (f : FuncId) (E : Hp) (kE : TypeId) (pE pU : Addr) (Rt : List UInt8 → Hp → Prop) : Prop where
 inv : Inv1 Tryz.prog k "Read" f
 nok : NilOk Tryz.prog k r "Read"
 run : ∀ (rs : List UInt8) (G : Hp) (bb : Nat) (e : TypeId) (L : List UInt8) (off m c : Nat), Rt rs G → 0 < m → off + m ≤ L.length → m ≤ c → L.length ≤ 9223372036854775807 → rs.length ≤ 1000000 →
  FnW Tryz.prog f [r, Sl bb off m c] base [G, Bf bb e L, E] (fun w Hs => ∃ G', w = .tuple #[I ((min m rs.length : Nat) : Int), erv kE pE pU 0 (if rs = [] then 1 else 0)] ∧ Hs = [G', Bf bb e (putB L off (rs.take m)), E] ∧ Rt (rs.drop m) G')
theorem rd_at {v : Value} {A : Hp} {xs : List UInt8} (i : Nat) (h : i ≤ xs.length) (hr : RdS 1 v A ((xs.length : Int) - (i : Int)).toNat (cut (bytesV xs) ((i : Int) * ((1 : Nat) : Int)) ((xs.length : Int) * ((1 : Nat) : Int)))) : RdS 1 v A (xs.length - i) (bytesV (xs.drop i)) := by
 rw [cut_bytes] at hr
 have e : cut xs ((i : Int) * ((1 : Nat) : Int)) ((xs.length : Int) * ((1 : Nat) : Int)) = xs.drop i := by
  unfold cut
  rw [show ((xs.length : Int) * ((1 : Nat) : Int)).toNat = xs.length by omega, show ((i : Int) * ((1 : Nat) : Int)).toNat = i by omega, List.take_length]
 rw [e, show ((xs.length : Int) - (i : Int)).toNat = xs.length - i by omega] at hr
 exact hr
theorem take_min (l : List UInt8) (m : Nat) : l.take (min l.length m) = l.take m := by
 rcases Nat.le_total l.length m with h | h
 ·rw [Nat.min_eq_left h, List.take_length, List.take_of_length_le h]
 ·rw [Nat.min_eq_right h]
theorem put_eq (L : List UInt8) (off : Nat) (x : List UInt8) (n : Nat) (h : n = x.length) : L.take off ++ x ++ L.drop (off + n) = putB L off x := by subst h; rfl
theorem brRead (base rb bb off m c : Nat) (e : TypeId) (L : List UInt8) (E : Hp) (kE : TypeId) (pE pU : Addr) (hS : Sn E kE pE pU) (xs : List UInt8) (sv : Value) (hr : RdS 1 sv E xs.length (bytesV xs)) (hx : xs.length ≤ 1000000) (i : Nat) (pr : Int) (hi : i ≤ xs.length) (hm0 : 0 < m) (hm : off + m ≤ L.length) (hmc : m ≤ c) (hl : L.length ≤ 9223372036854775807) : FnW Tryz.prog 149 [Pt rb 0, Sl bb off m c] base [[(rb, .cells #[sv, I (i : Int), I pr] 163 (0, 0))], Bf bb e L, E] (fun v Hs => ∃ pr2, v = .tuple #[I ((min m (xs.drop i).length : Nat) : Int), erv kE pE pU 0 (if xs.drop i = [] then 1 else 0)] ∧ Hs = [RB rb sv ((i + min m (xs.drop i).length : Nat) : Int) pr2, Bf bb e (putB L off ((xs.drop i).take m)), E]) := by
 obtain ⟨tE, fE, hEm⟩ := hS.eof
 have hdl : (xs.drop i).length = xs.length - i := List.length_drop
 refine FnW.enter (n := 39) Tryz.func149 rfl rfl fun w0 R0 hbase => ?_
 subst hbase
 show WC _ _ _ _ _ _ _ ([[(rb, .cells #[sv, I (i : Int), I pr] 163 (0, 0))], Bf bb e L, E, R0])
 refine WC.sub (fr' := [(0, _), (1, _)]) ?_ ⟨rfl, rfl, trivial⟩
 refine WC.seq (WC.region ?_)
 refine WL.q (oq_assign rfl) rfl rfl rfl ?_
 refine WL.q (oq_assign rfl) rfl rfl rfl ?_
 refine WL.nil (WE.then_normal (WC.sub (fr' := [(0, _), (1, _), (5, _)]) ?_ ⟨rfl, rfl, rfl, trivial⟩))
 refine WC.seq (WC.seq (WC.quiet (by kernel_rfl) (by kernel_rfl) ?_))
 refine WQ.q (oq_move rfl) rfl rfl rfl ?_
 refine WQ.q (oq_nilCheck rfl) rfl rfl rfl ?_
 refine WQ.q (oq_fieldAddr fld163_1 rfl) rfl rfl rfl ?_
 refine WQ.q (oq_load flat2 rfl (.head _) (List.mem_singleton.2 rfl) rfl) rfl rfl rfl ?_
 refine WQ.q (oq_move rfl) rfl rfl rfl ?_
 refine WQ.q (oq_nilCheck rfl) rfl rfl rfl ?_
 refine WQ.q (oq_fieldAddr fld163_0 rfl) rfl rfl rfl ?_
 refine WQ.q (oq_load flat28 rfl (.head _) (List.mem_singleton.2 rfl) rfl) rfl rfl rfl ?_
 refine WQ.q (oq_len_rd hr Tryz.underlying28 rfl) rfl rfl rfl ?_
 refine WQ.q (oq_geq rfl rfl) rfl rfl rfl ?_
 refine WQ.nil (WE.then_normal (WC.sub (fr' := [(0, _), (1, _), (5, _), (15, _)]) ?_ ⟨rfl, rfl, rfl, rfl, trivial⟩))
 refine WC.cond rfl (fun q1 => ?_) (fun q1 => ?_)
 ·
  try simp only [Z1, Z2, Z3, Z4, Z5, Z6, Z7, Z8, Z9, Z0] at q1
  refine WC.seq (WC.quiet (by kernel_rfl) (by kernel_rfl) ?_)
  refine WQ.q (oq_load flat99 rfl (.tail _ (.tail _ (.head _))) hEm rfl) rfl rfl rfl ?_
  refine WQ.q (oq_assign rfl) rfl rfl rfl ?_
  refine WQ.q (oq_assign rfl) rfl rfl rfl ?_
  refine WQ.nil (WE.then_normal (WC.sub (fr' := [(4, _), (5, _)]) ?_ ⟨rfl, rfl, trivial⟩))
  refine WC.ret (WE.then_ret ?_)
  refine WE.endW3 (.inl rfl) (res2 Tryz.results149 rfl rfl) ?_
  have h0 : xs.drop i = [] := List.drop_eq_nil_of_le (by omega)
  rw [h0, if_pos rfl]
  exact ⟨pr, by simp; rfl, by simp [putB_nil]⟩
 ·
  try simp only [Z1, Z2, Z3, Z4, Z5, Z6, Z7, Z8, Z9, Z0] at q1
  refine WC.skip (WE.then_normal (WC.sub (fr' := [(0, _), (1, _), (5, _)]) ?_ ⟨rfl, rfl, rfl, trivial⟩))
  refine WC.seq (WC.region ?_)
  refine WL.q (oq_move rfl) rfl rfl rfl ?_
  refine WL.q (oq_nilCheck rfl) rfl rfl rfl ?_
  refine WL.q (oq_fieldAddr fld163_2 rfl) rfl rfl rfl ?_
  refine WL.store1 #[_, _, _] ty3 rfl rfl (by first | rfl | exact OwS.one one_) (Nat.lt_of_lt_of_le (Nat.lt_succ_self _) (Nat.le_of_ble_eq_true rfl)) rfl rfl ?_
  refine WL.nil (WE.then_normal (WC.sub (fr' := [(0, _), (1, _), (5, _)]) ?_ ⟨rfl, rfl, rfl, trivial⟩))
  refine WC.seq ?_
  obtain ⟨v2, hv2, hov⟩ := slice_val (i := (i : Int)) (j := (xs.length : Int)) hr ty5 (by omega)
  have hrx := rd_at i (by omega) hv2
  refine WC.tailM (pl := []) (ql := [_, _, _, _, _, _, _, _, _, _]) (tl := [_, _]) [] [0, 1, 2, 3, 4, 5, 6, 7, 8, 9] 10 [11] (by kernel_rfl) (by kernel_rfl) (by kernel_rfl) (by kernel_rfl) (by kernel_rfl) (by kernel_rfl) (by decide) rfl rfl rfl (by decide) (by repeat (first | with_reducible exact QOk.body | with_reducible apply QOk.then | with_reducible apply QOk.block | exact QOk.body | apply QOk.then | apply QOk.block)) ?_
  refine WM.nil ?_
  refine WY.q (oq_move rfl) rfl rfl rfl ?_
  refine WY.q (oq_move rfl) rfl rfl rfl ?_
  refine WY.q (oq_nilCheck rfl) rfl rfl rfl ?_
  refine WY.q (oq_fieldAddr fld163_0 rfl) rfl rfl rfl ?_
  refine WY.q (oq_load flat28 rfl (.head _) (List.mem_singleton.2 rfl) rfl) rfl rfl rfl ?_
  refine WY.q (oq_move rfl) rfl rfl rfl ?_
  refine WY.q (oq_nilCheck rfl) rfl rfl rfl ?_
  refine WY.q (oq_fieldAddr fld163_1 rfl) rfl rfl rfl ?_
  refine WY.q (oq_load flat2 rfl (.head _) (List.mem_singleton.2 rfl) rfl) rfl rfl rfl ?_
  refine WY.q (hov Tryz.underlying28 rfl ⟨_, rfl⟩ rfl) rfl rfl rfl ?_
  refine WY.nil ?_
  refine WL.f1 ?_
  refine WL.copyB Tryz.underlying28 ty5 rfl rfl hrx (.tail _ (.head _)) (by omega) rfl rfl ?_
  refine WL.q (oq_assign rfl) rfl rfl rfl ?_
  refine WL.nil (WE.then_normal (WC.sub (fr' := [(0, _), (4, _), (5, _)]) ?_ ⟨rfl, rfl, rfl, trivial⟩))
  refine WC.seq (WC.region ?_)
  refine WL.q (oq_move rfl) rfl rfl rfl ?_
  refine WL.q (oq_nilCheck rfl) rfl rfl rfl ?_
  refine WL.q (oq_fieldAddr fld163_1 rfl) rfl rfl rfl ?_
  refine WL.q (oq_load flat2 rfl (.tail _ (.head _)) (List.mem_singleton.2 rfl) rfl) rfl rfl rfl ?_
  refine WL.q (oq_move rfl) rfl rfl rfl ?_
  refine WL.q (oq_add rfl rfl (by rw [i64_lo, i64_hi]; (first | omega | (simp only [List.length_cons, List.length_nil, List.length_append, List.length_drop, List.length_take]; omega)))) rfl rfl rfl ?_
  refine WL.q (oq_nilCheck rfl) rfl rfl rfl ?_
  refine WL.q (oq_fieldAddr fld163_1 rfl) rfl rfl rfl ?_
  refine WL.f1 ?_
  refine WL.store1 #[_, _, _] ty2 rfl rfl (by first | rfl | exact OwS.one one_) (Nat.lt_of_lt_of_le (Nat.lt_succ_self _) (Nat.le_of_ble_eq_true rfl)) rfl rfl ?_
  refine WL.nil (WE.then_normal (WC.sub (fr' := [(4, _), (5, _)]) ?_ ⟨rfl, rfl, trivial⟩))
  refine WC.ret ?_
  refine WE.endW3 (.inl rfl) (res2 Tryz.results149 rfl rfl) ?_
  have h0 : xs.drop i ≠ [] := fun h => by have := congrArg List.length h; rw [hdl] at this; simp at this; omega
  rw [if_neg h0]
  refine ⟨-1, ?_, ?_⟩
  ·rw [hdl, Nat.min_comm]; rfl
  ·rw [hdl, Nat.min_comm m, Int.natCast_add, ← hdl, take_min, put_eq _ _ _ _ (by rw [List.length_take, Nat.min_comm])]
def BrG (rb : Nat) (sv : Value) (all rs : List UInt8) (G : Hp) : Prop := ∃ dn pr, all = dn ++ rs ∧ G = RB rb sv (dn.length : Nat) pr
theorem invBR : Inv1 Tryz.prog 110 "Read" 149 := fun x a w => by kernel_rfl
theorem nokBR (p : Addr) : NilOk Tryz.prog 110 (.pointer (some p)) "Read" := fun w => by kernel_rfl
theorem brRr (base rb : Nat) (sv : Value) (E : Hp) (all : List UInt8) (hr : RdS 1 sv E all.length (bytesV all)) (hl : all.length ≤ 1000000) (kE : TypeId) (pE pU : Addr) (hS : Sn E kE pE pU) : Rr base 110 (Pt rb 0) 149 E kE pE pU (BrG rb sv all) := by
 refine ⟨invBR, nokBR _, ?_⟩
 rintro rs G bb e L off m c ⟨dn, pr, rfl, rfl⟩ h0 hm hmc hL _
 have hd : (dn ++ rs).drop dn.length = rs := List.drop_left' rfl
 refine fw_perm (F := []) (brRead base rb bb off m c e L E kE pE pU hS (dn ++ rs) sv hr hl dn.length pr (by simp) h0 hm hmc hL) (by simp) ?_
 rw [hd]
 rintro v Hs ⟨pr2, rfl, rfl⟩
 refine ⟨_, ⟨_, rfl, rfl, dn ++ rs.take m, pr2, by rw [List.append_assoc, List.take_append_drop], rfl⟩, ?_⟩
 have e1 : (dn ++ rs.take m).length = dn.length + min m rs.length := by rw [List.length_append, List.length_take]
 rw [e1]
 simp
end DC
end Go.Proofs.YtodlhaghdplclaaGreatDoor
