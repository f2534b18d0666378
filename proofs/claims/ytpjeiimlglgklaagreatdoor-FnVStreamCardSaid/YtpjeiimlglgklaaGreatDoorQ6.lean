/- The encoder, for any message. -/
import Derived.Test.YtpjeiimlglgklaaGreatDoorQ5
import Derived.Test.YtpjeiimlglgklaaGreatDoorQ2
import Derived.LaidLaws
import Derived.LaidHandle
import Derived.MakeChecks
import Derived.Test.YtpjeiimlglgklaaGreatDoorRows
namespace Go.Proofs.YtpjeiimlglgklaaGreatDoor
open Go Go.RowKit V EA EB EC ED EE EF EG EH EI EJ EK EL EM EN FA FB
set_option linter.unusedSimpArgs false
set_option linter.unusedVariables false
set_option maxRecDepth 10000
namespace FC
theorem call24 : Callable Tryz.prog 24 := ⟨_, Tryz.func24, rfl, by kernel_rfl⟩
theorem call25 : Callable Tryz.prog 25 := ⟨_, Tryz.func25, rfl, by kernel_rfl⟩
theorem call26 : Callable Tryz.prog 26 := ⟨_, Tryz.func26, rfl, by kernel_rfl⟩
theorem call27 : Callable Tryz.prog 27 := ⟨_, Tryz.func27, rfl, by kernel_rfl⟩
theorem call28 : Callable Tryz.prog 28 := ⟨_, Tryz.func28, rfl, by kernel_rfl⟩
theorem call29 : Callable Tryz.prog 29 := ⟨_, Tryz.func29, rfl, by kernel_rfl⟩
theorem call30 : Callable Tryz.prog 30 := ⟨_, Tryz.func30, rfl, by kernel_rfl⟩
theorem call31 : Callable Tryz.prog 31 := ⟨_, Tryz.func31, rfl, by kernel_rfl⟩
theorem flat25 : Flat Tryz.prog 25 := ⟨_, Tryz.underlying25, by simp⟩
theorem flat45 : Flat Tryz.prog 45 := ⟨_, Tryz.underlying45, by simp⟩
theorem flat47 : Flat Tryz.prog 47 := ⟨_, Tryz.underlying47, by simp⟩
theorem ty20 : Ty Tryz.prog 20 .nilIface 1 16 := ty_of (by kernel_rfl)
theorem ty25 : Ty Tryz.prog 25 (.slice none 0 0) 1 24 := ty_of (by kernel_rfl)
theorem ty45 : Ty Tryz.prog 45 (.pointer none) 1 8 := ty_of (by kernel_rfl)
theorem ty47 : Ty Tryz.prog 47 (.slice none 0 0) 1 24 := ty_of (by kernel_rfl)
theorem ty72 : Ty Tryz.prog 72 .nilIface 1 16 := ty_of (by kernel_rfl)
theorem ty77 : Ty Tryz.prog 77 (.agg #[(.int .u32 0)]) 1 4 := ty_of (by kernel_rfl)
theorem conc45 : Conc Tryz.prog 45 := ⟨_, Tryz.underlying45, by simp⟩
theorem conc74 : Conc Tryz.prog 74 := ⟨_, Tryz.underlying74, by simp⟩
theorem conc75 : Conc Tryz.prog 75 := ⟨_, Tryz.underlying75, by simp⟩
theorem str77 : Str Tryz.prog 77 #[(0, 1)] := ⟨_, Tryz.underlying77, fun w => by kernel_rfl⟩
theorem fld50_0 : Fld Tryz.prog 50 0 0 47 := fld_of Tryz.underlying50 rfl rfl rfl ty47 (by decide)
theorem fld50_1 : Fld Tryz.prog 50 1 1 25 := fld_of Tryz.underlying50 rfl rfl rfl ty25 (by decide)
theorem fld70_0 : Fld Tryz.prog 70 0 0 45 := fld_of Tryz.underlying70 rfl rfl rfl ty45 (by decide)
theorem fld70_1 : Fld Tryz.prog 70 1 1 45 := fld_of Tryz.underlying70 rfl rfl rfl ty45 (by decide)
def MsgW (base eb b1 b2 ob : Nat) (M Z Pg : Hp) (w : Value) (Hs : List Hp) : Prop :=
 ∃ B1 B2 O c1 c2 c3, Hs = [EncB eb b1 b2, B1, B2, O, M, Z, Pg] ∧ BufG base b1 c1 B1 ∧ BufG base b2 c2 B2 ∧ BufG base ob c3 O ∧ NE w
theorem wrap_pos {n : Nat} (h : 0 < IntKind.u32.wrap (n : Int)) : 0 < n := by
 rcases Nat.eq_zero_or_pos n with rfl | h2
 ·exact absurd h (by decide)
 ·exact h2
set_option maxHeartbeats 2000000 in
theorem encodeW (base eb b1 b2 ob : Nat) (a1 a2 acc0 : List UInt8) (B1 B2 O : Hp) (h1 : BufG base b1 a1 B1) (h2 : BufG base b2 a2 B2) (hO : BufG base ob acc0 O) (vh : Value) (M Z : Hp) (l : List HV) (ps : List PV) (hr : RdS 2 vh M ps.length (recsV PV.row ps)) (hp : Pair l ps Z) (hok : okE l) (hn : l.length ≤ 2147483647) (vp : Value) (Pg : Hp) (data : List UInt8) (hrp : RdS 1 vp Pg data.length (bytesV data)) (hpl : data.length ≤ 2147483647) (hal : acc0.length ≤ 100000) : FnW Tryz.prog 14 [Pt eb 0, .iface 45 (Pt ob 0), .agg #[vh, vp]] base [EncB eb b1 b2, B1, B2, O, M, Z, Pg] (MsgW base eb b1 b2 ob M Z Pg) := by
 refine FnW.enter (n := 113) Tryz.func14 rfl rfl fun w0 R0 hbase => ?_
 subst hbase
 show WC _ _ _ _ _ _ _ ([EncB eb b1 b2, B1, B2, O, M, Z, Pg, R0])
 refine WC.sub (fr' := [(0, _), (1, _), (2, _)]) ?_ ⟨rfl, rfl, rfl, trivial⟩
 refine WC.seq (WC.region ?_)
 refine WL.box rfl rfl rfl fun xb hxb => ?_
 refine WL.q (oq_assign rfl) rfl rfl rfl ?_
 refine WL.nil (WE.then_normal (WC.sub (fr' := [(0, _), (1, _), (5, _)]) ?_ ⟨rfl, rfl, rfl, trivial⟩))
 refine WC.seq (WC.region ?_)
 refine WL.q (oq_move rfl) rfl rfl rfl ?_
 refine WL.q (oq_nilCheck rfl) rfl rfl rfl ?_
 refine WL.q (oq_fieldAddr fld70_0 rfl) rfl rfl rfl ?_
 refine WL.q (oq_load flat45 rfl (.tail _ (.head _)) (List.mem_singleton.2 rfl) rfl) rfl rfl rfl ?_
 refine WL.f2 ?_
 refine WL.callW1 (bufReset _ b1 a1 B1 h1) call24 rfl rfl rfl fun v1_4 Hs1_4 hR1_4 => ?_
 obtain ⟨B1_, rfl, rfl, h1_⟩ := hR1_4
 refine WL.to1 ?_
 refine WL.nil (WE.then_normal (WC.sub (fr' := [(0, _), (1, _), (5, _)]) ?_ ⟨rfl, rfl, rfl, trivial⟩))
 refine WC.seq (WC.region ?_)
 refine WL.q (oq_move rfl) rfl rfl rfl ?_
 refine WL.q (oq_nilCheck rfl) rfl rfl rfl ?_
 refine WL.q (oq_fieldAddr fld70_1 rfl) rfl rfl rfl ?_
 refine WL.q (oq_load flat45 rfl (.tail _ (.tail _ (.head _))) (List.mem_singleton.2 rfl) rfl) rfl rfl rfl ?_
 refine WL.f3 ?_
 refine WL.callW1 (bufReset _ b2 a2 B2 h2) call24 rfl rfl rfl fun v2_4 Hs2_4 hR2_4 => ?_
 obtain ⟨B2_, rfl, rfl, h2_⟩ := hR2_4
 refine WL.to1 ?_
 refine WL.nil (WE.then_normal (WC.sub (fr' := [(0, _), (1, _), (5, _)]) ?_ ⟨rfl, rfl, rfl, trivial⟩))
 refine WC.seq (WC.region ?_)
 refine WL.q (oq_move rfl) rfl rfl rfl ?_
 refine WL.q (oq_nilCheck rfl) rfl rfl rfl ?_
 refine WL.q (oq_fieldAddr fld70_1 rfl) rfl rfl rfl ?_
 refine WL.q (oq_load flat45 rfl (.tail _ (.tail _ (.tail _ (.head _)))) (List.mem_singleton.2 rfl) rfl) rfl rfl rfl ?_
 refine WL.q (oq_makeI conc45 rfl) rfl rfl rfl ?_
 refine WL.q (oq_assign rfl) rfl rfl rfl ?_
 refine WL.nil (WE.then_normal (WC.sub (fr' := [(0, _), (1, _), (5, _), (7, _)]) ?_ ⟨rfl, rfl, rfl, rfl, trivial⟩))
 refine WC.seq (WC.seq ?_)
 refine WC.tailM (pl := []) (ql := [_, _, _, _, _, _, _]) (tl := [_, _]) [] [0, 1, 2, 3, 4, 5, 6] 7 [8] (by kernel_rfl) (by kernel_rfl) (by kernel_rfl) (by kernel_rfl) (by kernel_rfl) (by kernel_rfl) (by decide) rfl rfl rfl (by decide) (by repeat (first | with_reducible exact QOk.body | with_reducible apply QOk.then | with_reducible apply QOk.block | exact QOk.body | apply QOk.then | apply QOk.block)) ?_
 refine WM.nil ?_
 refine WY.q (oq_move rfl) rfl rfl rfl ?_
 refine WY.q (oq_nilCheck rfl) rfl rfl rfl ?_
 refine WY.q (oq_fieldAddr fld70_0 rfl) rfl rfl rfl ?_
 refine WY.q (oq_load flat45 rfl (.tail _ (.tail _ (.tail _ (.head _)))) (List.mem_singleton.2 rfl) rfl) rfl rfl rfl ?_
 refine WY.q (oq_makeI conc45 rfl) rfl rfl rfl ?_
 refine WY.q (oq_fieldAddr fld50_0 rfl) rfl rfl rfl ?_
 refine WY.q (oq_load flat47 rfl (.tail _ (.tail _ (.head _))) (List.mem_singleton.2 rfl) rfl) rfl rfl rfl ?_
 refine WY.nil ?_
 refine WL.f6 ?_
 refine WL.f6 ?_
 refine WL.f3 ?_
 refine WL.callW3 (encHeaders _ b1 [] B1_ h1_ vh M Z l ps hr hp hok hn (by rw [List.length_nil]; omega)) call25 rfl rfl rfl fun v4_7 Hs4_7 hR4_7 => ?_
 obtain ⟨X1, c1, rfl, hc1, hei, he0, he1⟩ := hdR_split hR4_7
 refine WL.to3 ?_
 refine WL.q (oq_assign rfl) rfl rfl rfl ?_
 refine WL.nil (WE.then_normal (WC.sub (fr' := [(0, _), (1, _), (5, _), (6, _), (7, _)]) ?_ ⟨rfl, rfl, rfl, rfl, rfl, trivial⟩))
 refine WC.seq (WC.region ?_)
 refine WL.q (oq_move rfl) rfl rfl rfl ?_
 refine WL.q (oq_ineq Tryz.underlying41 rfl (hei)) rfl rfl rfl ?_
 refine WL.nil (WE.then_normal (WC.sub (fr' := [(0, _), (1, _), (5, _), (6, _), (7, _), (38, _)]) ?_ ⟨rfl, rfl, rfl, rfl, rfl, rfl, trivial⟩))
 refine WC.cond rfl (fun q5 => ?_) (fun q5 => ?_)
 ·
  try simp only [Z1, Z2, Z3, Z4, Z5, Z6, Z7, Z8, Z9, Z0] at q5
  refine WC.seq (WC.region ?_)
  refine WL.q (oq_move rfl) rfl rfl rfl ?_
  refine WL.q (oq_assign rfl) rfl rfl rfl ?_
  refine WL.nil (WE.then_normal (WC.sub (fr' := [(6, _)]) ?_ ⟨rfl, trivial⟩))
  refine WC.ret (WE.then_ret ?_)
  refine WE.f4 ?_
  refine WE.lose hxb ?_
  refine WE.f7 ?_
  refine WE.f7 ?_
  refine WE.f4 ?_
  refine WE.f4 ?_
  refine WE.f7 ?_
  refine WE.f6 ?_
  refine WE.f6 ?_
  refine WE.f7 ?_
  refine WE.endW7 (.inl rfl) (res1 Tryz.results14 rfl) ?_
  obtain ⟨hb, k9, e9, hv⟩ := he1 (by simpa using q5)
  exact ⟨_, _, _, _, _, _, rfl, hc1, h2_, hO, .inr ⟨_, _, hv⟩⟩
 ·
  try simp only [Z1, Z2, Z3, Z4, Z5, Z6, Z7, Z8, Z9, Z0] at q5
  refine WC.skip (WE.then_normal (WC.sub (fr' := [(0, _), (1, _), (5, _), (7, _)]) ?_ ⟨rfl, rfl, rfl, rfl, trivial⟩))
  refine WC.seq ?_
  obtain ⟨hnb, hX1⟩ := he0 (by simpa using q5)
  rw [List.nil_append] at hX1
  have hdl : (hdrs l).length ≤ 33100 * l.length := by have := hdrs_len2 hok l.length (Nat.le_refl _) (by rw [List.take_length]; exact hnb); rw [List.take_length] at this; exact this
  refine WC.region ?_
  refine WL.q (oq_build #[_] str77 ty77 rfl rfl) rfl rfl rfl ?_
  refine WL.box rfl rfl rfl fun hb hhb => ?_
  refine WL.q (oq_assign rfl) rfl rfl rfl ?_
  refine WL.nil (WE.then_normal (WC.sub (fr' := [(0, _), (1, _), (5, _), (7, _), (8, _)]) ?_ ⟨rfl, rfl, rfl, rfl, rfl, trivial⟩))
  refine WC.seq (WC.region ?_)
  refine WL.q (oq_move rfl) rfl rfl rfl ?_
  refine WL.q (oq_move rfl) rfl rfl rfl ?_
  refine WL.q (oq_makeI conc74 rfl) rfl rfl rfl ?_
  refine WL.buildL Tryz.underlying102 ty72 rfl rfl (by decide) (by decide) rfl rfl rfl fun v8 A8 ho8 hne8 => ?_
  refine WL.callA (multiWriter v8 A8 [(45, Pt b2 0), (74, Pt hb 0)] ho8.rd (by simp) (by simp)) call26 rfl rfl rfl fun v8_4 N8_4 hR8_4 hN8_4 => ?_
  obtain ⟨mb, u, Ws, rfl, rfl, hwr⟩ := hR8_4
  refine WL.q (oq_assign rfl) rfl rfl rfl ?_
  refine WL.nil (WE.then_normal (WC.sub (fr' := [(0, _), (1, _), (5, _), (7, _), (8, _), (9, _)]) ?_ ⟨rfl, rfl, rfl, rfl, rfl, rfl, trivial⟩))
  refine WC.seq ?_
  refine WC.f2 ?_
  refine WC.f6 ?_
  refine WC.f2 ?_
  have hMw : MwG w0.heap.size mb u Ws b2 hb [] ((([(mb, .cells #[u] 106 (0, 0))] ++ Ws) ++ B2_) ++ Hash hb (crc [])) := ⟨_, h2_, rfl⟩
  refine WC.cat (WC.cat ?_)
  refine WC.region ?_
  refine WL.q (oq_move rfl) rfl rfl rfl ?_
  refine WL.q (oq_nilCheck rfl) rfl rfl rfl ?_
  refine WL.q (oq_fieldAddr fld70_0 rfl) rfl rfl rfl ?_
  refine WL.q (oq_load flat45 rfl (.tail _ (.tail _ (.tail _ (.tail _ (.tail _ (.tail _ (.head _))))))) (List.mem_singleton.2 rfl) rfl) rfl rfl rfl ?_
  refine WL.qc (oq_callRm (bufLenG _ b1 (hdrs l) X1 hX1 (by omega)) (.tail _ (.tail _ (.head _))) call27 rfl) rfl rfl rfl ?_
  refine WL.q (oq_convw Tryz.underlying3 Tryz.underlying75 rfl) rfl rfl rfl ?_
  refine WL.q (oq_assign rfl) rfl rfl rfl ?_
  refine WL.nil (WE.then_normal (WC.sub (fr' := [(0, _), (1, _), (5, _), (7, _), (8, _), (9, _), (10, _)]) ?_ ⟨rfl, rfl, rfl, rfl, rfl, rfl, rfl, trivial⟩))
  refine WC.seq (WC.region ?_)
  refine WL.q (oq_fieldAddr fld50_1 rfl) rfl rfl rfl ?_
  refine WL.q (oq_load flat25 rfl (.tail _ (.tail _ (.tail _ (.tail _ (.tail _ (.head _)))))) (List.mem_singleton.2 rfl) rfl) rfl rfl rfl ?_
  refine WL.q (oq_len_rd hrp Tryz.underlying25 rfl) rfl rfl rfl ?_
  refine WL.q (oq_conv Tryz.underlying3 Tryz.underlying75 rfl (by rw [u32_lo, u32_hi]; (first | omega | (simp only [List.length_cons, List.length_nil, List.length_append, List.length_drop, List.length_take]; omega)))) rfl rfl rfl ?_
  refine WL.q (oq_assign rfl) rfl rfl rfl ?_
  refine WL.nil (WE.then_normal (WC.sub (fr' := [(0, _), (1, _), (5, _), (7, _), (8, _), (9, _), (10, _), (11, _)]) ?_ ⟨rfl, rfl, rfl, rfl, rfl, rfl, rfl, rfl, trivial⟩))
  refine WC.seq (WC.seq (WC.region ?_))
  refine WL.q (oq_move rfl) rfl rfl rfl ?_
  refine WL.q (oq_move rfl) rfl rfl rfl ?_
  refine WL.q (oq_move rfl) rfl rfl rfl ?_
  refine WL.q (oq_move rfl) rfl rfl rfl ?_
  refine WL.callW1 (encPreludeW _ hb _ _ _ _ (mwWr _ mb u Ws b2 hb hwr) [] _ hMw (mwSum _ mb u Ws b2 hb) (IntKind.u32.wrap ((hdrs l).length : Int)) (data.length : Int) (by simp)) call28 rfl rfl rfl fun v11_4 Hs11_4 hR11_4 => ?_
  obtain ⟨g2, p12, rfl, hg2, hp12, hpe⟩ := hR11_4
  rw [List.length_nil] at hp12
  obtain ⟨Gb2, hGb2, hge2⟩ := mw_mid hg2
  refine WL.to1 ?_
  refine WL.q (oq_assign rfl) rfl rfl rfl ?_
  refine WL.nil (WE.then_normal (WC.sub (fr' := [(0, _), (1, _), (5, _), (6, _), (7, _), (8, _), (9, _), (10, _), (11, _)]) ?_ ⟨rfl, rfl, rfl, rfl, rfl, rfl, rfl, rfl, rfl, trivial⟩))
  refine WC.seq (WC.region ?_)
  refine WL.q (oq_move rfl) rfl rfl rfl ?_
  refine WL.q (oq_ineq Tryz.underlying41 rfl ((by rcases hpe with h | h; exact .inl h; exact .inr h))) rfl rfl rfl ?_
  refine WL.nil (WE.then_normal (WC.sub (fr' := [(0, _), (1, _), (5, _), (6, _), (7, _), (8, _), (9, _), (10, _), (11, _), (63, _)]) ?_ ⟨rfl, rfl, rfl, rfl, rfl, rfl, rfl, rfl, rfl, rfl, trivial⟩))
  refine WC.cond rfl (fun q12 => ?_) (fun q12 => ?_)
  ·
   try simp only [Z1, Z2, Z3, Z4, Z5, Z6, Z7, Z8, Z9, Z0] at q12
   refine WC.seq ?_
   rw [hge2]
   refine WC.reg (reg_out (mid2 _ Gb2 _)) ?_
   refine WC.region ?_
   refine WL.q (oq_move rfl) rfl rfl rfl ?_
   refine WL.q (oq_assign rfl) rfl rfl rfl ?_
   refine WL.nil (WE.then_normal (WC.sub (fr' := [(6, _)]) ?_ ⟨rfl, trivial⟩))
   refine WC.ret (WE.then_ret ?_)
   refine WE.f1 ?_
   refine WE.forget (fresh_cat hN8_4 (fresh1 hhb)) ?_
   refine WE.f1 ?_
   refine WE.forget ho8.fresh ?_
   refine WE.f4 ?_
   refine WE.lose hxb ?_
   refine WE.f7 ?_
   refine WE.f7 ?_
   refine WE.f5 ?_
   refine WE.f5 ?_
   refine WE.f7 ?_
   refine WE.f5 ?_
   refine WE.f6 ?_
   refine WE.f7 ?_
   refine WE.endW7 (.inl rfl) (res1 Tryz.results14 rfl) ?_
   exact ⟨_, _, _, _, _, _, rfl, hX1, hGb2, hO, hpe⟩
  ·
   try simp only [Z1, Z2, Z3, Z4, Z5, Z6, Z7, Z8, Z9, Z0] at q12
   refine WC.skip (WE.then_normal (WC.sub (fr' := [(0, _), (1, _), (5, _), (7, _), (8, _), (9, _), (10, _), (11, _)]) ?_ ⟨rfl, rfl, rfl, rfl, rfl, rfl, rfl, rfl, trivial⟩))
   refine WC.cut (ι := Hp × Hp × (List UInt8) × (List UInt8)) (fun i_ => (fun (X1 : Hp) (g : Hp) (cx : List UInt8) (ca : List UInt8) => [(0, Pt eb 0), (1, .iface 45 (Pt ob 0)), (5, Pt xb 0), (7, .iface 45 (Pt b2 0)), (8, Pt hb 0), (9, .iface 103 (Pt mb 0)), (11, .int .u32 (data.length : Int))]) i_.1 i_.2.1 i_.2.2.1 i_.2.2.2) (fun i_ => (fun (X1 : Hp) (g : Hp) (cx : List UInt8) (ca : List UInt8) => [EncB eb b1 b2, [(xb, .cells #[vh, vp] 50 (0, 0))], X1, g, O, M, Z, Pg, R0]) i_.1 i_.2.1 i_.2.2.1 i_.2.2.2) (fun i_ => (fun (X1 : Hp) (g : Hp) (cx : List UInt8) (ca : List UInt8) => BufG w0.heap.size b1 cx X1 ∧ MwG w0.heap.size mb u Ws b2 hb ca g ∧ ca.length ≤ 12 + 33100 * l.length) i_.1 i_.2.1 i_.2.2.1 i_.2.2.2) ?_ ?_
   ·
    refine WC.seq (WC.region ?_)
    refine WL.q (oq_move rfl) rfl rfl rfl ?_
    refine WL.q (oq_gtr rfl rfl) rfl rfl rfl ?_
    refine WL.nil (WE.then_normal (WC.sub (fr' := [(0, _), (1, _), (5, _), (7, _), (8, _), (9, _), (11, _), (66, _)]) ?_ ⟨rfl, rfl, rfl, rfl, rfl, rfl, rfl, rfl, trivial⟩))
    refine WC.cond rfl (fun q14 => ?_) (fun q14 => ?_)
    ·
     try simp only [Z1, Z2, Z3, Z4, Z5, Z6, Z7, Z8, Z9, Z0] at q14
     refine WC.seq (WC.region ?_)
     refine WL.q (oq_move rfl) rfl rfl rfl ?_
     refine WL.q (oq_move rfl) rfl rfl rfl ?_
     refine WL.q (oq_nilCheck rfl) rfl rfl rfl ?_
     refine WL.q (oq_fieldAddr fld70_0 rfl) rfl rfl rfl ?_
     refine WL.q (oq_load flat45 rfl (.tail _ (.tail _ (.tail _ (.tail _ (.tail _ (.tail _ (.head _))))))) (List.mem_singleton.2 rfl) rfl) rfl rfl rfl ?_
     refine WL.q (oq_makeI conc45 rfl) rfl rfl rfl ?_
     refine WL.f2 ?_
     refine WL.callW2 (copyG _ _ _ _ _ (mwWr _ mb u Ws b2 hb hwr) _ g2 hg2 b1 (hdrs l) X1 hX1 (wrap_pos q14) (by omega)) call29 rfl rfl rfl fun v15_6 Hs15_6 hR15_6 => ?_
     obtain ⟨X2, g3, rfl, rfl, hX2, hg3⟩ := hR15_6
     refine WL.to2 ?_
     refine WL.q (oq_move rfl) rfl rfl rfl ?_
     refine WL.q (oq_extract rfl rfl) rfl rfl rfl ?_
     refine WL.q (oq_extract rfl rfl) rfl rfl rfl ?_
     refine WL.q (oq_assign rfl) rfl rfl rfl ?_
     refine WL.nil (WE.then_normal (WC.sub (fr' := [(0, _), (1, _), (5, _), (6, _), (7, _), (8, _), (9, _), (11, _)]) ?_ ⟨rfl, rfl, rfl, rfl, rfl, rfl, rfl, rfl, trivial⟩))
     refine WC.seq (WC.region ?_)
     refine WL.q (oq_move rfl) rfl rfl rfl ?_
     refine WL.q (oq_ineq Tryz.underlying41 rfl (.inl rfl)) rfl rfl rfl ?_
     refine WL.nil (WE.then_normal (WC.sub (fr' := [(0, _), (1, _), (5, _), (6, _), (7, _), (8, _), (9, _), (11, _), (78, _)]) ?_ ⟨rfl, rfl, rfl, rfl, rfl, rfl, rfl, rfl, rfl, trivial⟩))
     refine WC.cond rfl (fun q16 => ?_) (fun q16 => ?_)
     ·
      try simp only [Z1, Z2, Z3, Z4, Z5, Z6, Z7, Z8, Z9, Z0] at q16
      first | contradiction | (exfalso; omega) | (exfalso; simp_all; done)
     ·
      try simp only [Z1, Z2, Z3, Z4, Z5, Z6, Z7, Z8, Z9, Z0] at q16
      refine WC.skip ?_
      refine WE.f2 ?_
      refine WE.forget ho8.fresh ?_
      refine WE.f8 ?_
      refine WE.f8 ?_
      refine WE.f5 ?_
      refine WE.f5 ?_
      refine WE.f8 ?_
      refine WE.f6 ?_
      refine WE.f6 ?_
      refine WE.f7 ?_
      refine WE.f8 ?_
      refine WE.meet (X2, g3, [], p12 ++ hdrs l) ?_ ⟨rfl, rfl, rfl, rfl, rfl, rfl, rfl, trivial⟩ (List.Perm.refl _)
      try dsimp only
      exact ⟨hX2, hg3, by rw [List.length_append]; omega⟩
    ·
     try simp only [Z1, Z2, Z3, Z4, Z5, Z6, Z7, Z8, Z9, Z0] at q14
     refine WC.skip ?_
     refine WE.f1 ?_
     refine WE.forget ho8.fresh ?_
     refine WE.f8 ?_
     refine WE.f8 ?_
     refine WE.f5 ?_
     refine WE.f5 ?_
     refine WE.f8 ?_
     refine WE.f5 ?_
     refine WE.f6 ?_
     refine WE.f7 ?_
     refine WE.f8 ?_
     refine WE.meet (X1, g2, hdrs l, p12) ?_ ⟨rfl, rfl, rfl, rfl, rfl, rfl, rfl, trivial⟩ (List.Perm.refl _)
     try dsimp only
     exact ⟨hX1, hg2, by omega⟩
   ·rintro ⟨X1, g, cx, ca⟩ hp
    try dsimp only at hp
    obtain ⟨hX1, hg, hcl⟩ := hp
    show WC _ _ _ _ _ _ ([(0, Pt eb 0), (1, .iface 45 (Pt ob 0)), (5, Pt xb 0), (7, .iface 45 (Pt b2 0)), (8, Pt hb 0), (9, .iface 103 (Pt mb 0)), (11, .int .u32 (data.length : Int))]) ([EncB eb b1 b2, [(xb, .cells #[vh, vp] 50 (0, 0))], X1, g, O, M, Z, Pg, R0])
    refine WC.cut (ι := Hp × Hp × (List UInt8) × (List UInt8)) (fun i_ => (fun (X1 : Hp) (g : Hp) (cx : List UInt8) (ca : List UInt8) => [(0, Pt eb 0), (1, .iface 45 (Pt ob 0)), (7, .iface 45 (Pt b2 0)), (8, Pt hb 0)]) i_.1 i_.2.1 i_.2.2.1 i_.2.2.2) (fun i_ => (fun (X1 : Hp) (g : Hp) (cx : List UInt8) (ca : List UInt8) => [EncB eb b1 b2, [(xb, .cells #[vh, vp] 50 (0, 0))], X1, g, O, M, Z, Pg, R0]) i_.1 i_.2.1 i_.2.2.1 i_.2.2.2) (fun i_ => (fun (X1 : Hp) (g : Hp) (cx : List UInt8) (ca : List UInt8) => BufG w0.heap.size b1 cx X1 ∧ MwG w0.heap.size mb u Ws b2 hb ca g ∧ ca.length ≤ 12 + 33100 * l.length + data.length) i_.1 i_.2.1 i_.2.2.1 i_.2.2.2) ?_ ?_
    ·
     refine WC.seq (WC.region ?_)
     refine WL.q (oq_move rfl) rfl rfl rfl ?_
     refine WL.q (oq_gtr rfl rfl) rfl rfl rfl ?_
     refine WL.nil (WE.then_normal (WC.sub (fr' := [(0, _), (1, _), (5, _), (7, _), (8, _), (9, _), (81, _)]) ?_ ⟨rfl, rfl, rfl, rfl, rfl, rfl, rfl, trivial⟩))
     refine WC.cond rfl (fun q18 => ?_) (fun q18 => ?_)
     ·
      try simp only [Z1, Z2, Z3, Z4, Z5, Z6, Z7, Z8, Z9, Z0] at q18
      refine WC.seq (WC.region ?_)
      refine WL.q (oq_move rfl) rfl rfl rfl ?_
      refine WL.q (oq_fieldAddr fld50_1 rfl) rfl rfl rfl ?_
      refine WL.q (oq_load flat25 rfl (.tail _ (.head _)) (List.mem_singleton.2 rfl) rfl) rfl rfl rfl ?_
      refine WL.f7 ?_
      refine WL.f4 ?_
      refine WL.callWE (fun a w hf => ent_inv1 invMW rfl rfl hf w) ((mwWr _ mb u Ws b2 hb hwr).run ca g vp Pg data hg hrp (by omega) (by omega)) rfl rfl rfl rfl fun v19_3 Hs19_3 hR19_3 => ?_
      obtain ⟨g4, rfl, rfl, hg4⟩ := hR19_3
      refine WL.app2 ?_
      refine WL.q (oq_move rfl) rfl rfl rfl ?_
      refine WL.q (oq_extract rfl rfl) rfl rfl rfl ?_
      refine WL.q (oq_extract rfl rfl) rfl rfl rfl ?_
      refine WL.q (oq_assign rfl) rfl rfl rfl ?_
      refine WL.nil (WE.then_normal (WC.sub (fr' := [(0, _), (1, _), (6, _), (7, _), (8, _)]) ?_ ⟨rfl, rfl, rfl, rfl, rfl, trivial⟩))
      refine WC.seq (WC.region ?_)
      refine WL.q (oq_move rfl) rfl rfl rfl ?_
      refine WL.q (oq_ineq Tryz.underlying41 rfl (.inl rfl)) rfl rfl rfl ?_
      refine WL.nil (WE.then_normal (WC.sub (fr' := [(0, _), (1, _), (6, _), (7, _), (8, _), (90, _)]) ?_ ⟨rfl, rfl, rfl, rfl, rfl, rfl, trivial⟩))
      refine WC.cond rfl (fun q20 => ?_) (fun q20 => ?_)
      ·
       try simp only [Z1, Z2, Z3, Z4, Z5, Z6, Z7, Z8, Z9, Z0] at q20
       first | contradiction | (exfalso; omega) | (exfalso; simp_all; done)
      ·
       try simp only [Z1, Z2, Z3, Z4, Z5, Z6, Z7, Z8, Z9, Z0] at q20
       refine WC.skip ?_
       refine WE.f8 ?_
       refine WE.f2 ?_
       refine WE.f8 ?_
       refine WE.f8 ?_
       refine WE.f8 ?_
       refine WE.f5 ?_
       refine WE.f8 ?_
       refine WE.f8 ?_
       refine WE.f8 ?_
       refine WE.meet (X1, g4, cx, ca ++ data) ?_ ⟨rfl, rfl, rfl, rfl, trivial⟩ (List.Perm.refl _)
       try dsimp only
       exact ⟨hX1, hg4, by rw [List.length_append]; omega⟩
     ·
      try simp only [Z1, Z2, Z3, Z4, Z5, Z6, Z7, Z8, Z9, Z0] at q18
      refine WC.skip ?_
      refine WE.meet (X1, g, cx, ca) ?_ ⟨rfl, rfl, rfl, rfl, trivial⟩ (List.Perm.refl _)
      try dsimp only
      exact ⟨hX1, hg, by omega⟩
    ·rintro ⟨X1, g, cx, ca⟩ hp
     try dsimp only at hp
     obtain ⟨hX1, hg, hcl⟩ := hp
     show WC _ _ _ _ _ _ ([(0, Pt eb 0), (1, .iface 45 (Pt ob 0)), (7, .iface 45 (Pt b2 0)), (8, Pt hb 0)]) ([EncB eb b1 b2, [(xb, .cells #[vh, vp] 50 (0, 0))], X1, g, O, M, Z, Pg, R0])
     refine WC.seq ?_
     have hml : (ca ++ crcB ca).length = ca.length + 4 := by unfold crcB; rw [List.length_append, be_len]
     refine WC.region ?_
     refine WL.q (oq_move rfl) rfl rfl rfl ?_
     refine WL.qc (oq_callRm (mwSum _ mb u Ws b2 hb ca g hg) (.tail _ (.tail _ (.tail _ (.head _)))) call30 rfl) rfl rfl rfl ?_
     refine WL.q (oq_assign rfl) rfl rfl rfl ?_
     refine WL.nil (WE.then_normal (WC.sub (fr' := [(0, _), (1, _), (7, _), (12, _)]) ?_ ⟨rfl, rfl, rfl, rfl, trivial⟩))
     refine WC.seq (WC.seq (WC.region ?_))
     refine WL.q (oq_move rfl) rfl rfl rfl ?_
     refine WL.q (oq_move rfl) rfl rfl rfl ?_
     refine WL.q (oq_makeI conc75 rfl) rfl rfl rfl ?_
     refine WL.buildL Tryz.underlying111 ty20 rfl rfl (by decide) (by decide) rfl rfl rfl fun v23 A23 ho23 hne23 => ?_
     refine WL.f4 ?_
     refine WL.f1 ?_
     refine WL.callW2 (zzWrite _ _ _ _ _ (midWr _ b2 ([(mb, Obj.cells #[u] 106 (0, 0))] ++ Ws) (Hash hb (crc ca))) ca g hg v23 A23 [⟨75, .u32, 4, ((crc ca).toNat : Int)⟩] ho23.rd (ok1 (okU _)) (by simp) (by simp; omega)) call31 rfl rfl rfl fun v23_4 Hs23_4 hR23_4 => ?_
     obtain ⟨g5, rfl, rfl, Gb, hGb, rfl⟩ := hR23_4
     rw [bytesN_1] at hGb
     have hGb : BufG w0.heap.size b2 (ca ++ crcB ca) Gb := hGb
     refine WL.to2 ?_
     refine WL.q (oq_assign rfl) rfl rfl rfl ?_
     refine WL.nil (WE.then_normal (WC.sub (fr' := [(0, _), (1, _), (13, _)]) ?_ ⟨rfl, rfl, rfl, trivial⟩))
     refine WC.seq (WC.region ?_)
     refine WL.q (oq_move rfl) rfl rfl rfl ?_
     refine WL.q (oq_ineq Tryz.underlying41 rfl (.inl rfl)) rfl rfl rfl ?_
     refine WL.nil (WE.then_normal (WC.sub (fr' := [(0, _), (1, _), (13, _), (100, _)]) ?_ ⟨rfl, rfl, rfl, rfl, trivial⟩))
     refine WC.cond rfl (fun q24 => ?_) (fun q24 => ?_)
     ·
      try simp only [Z1, Z2, Z3, Z4, Z5, Z6, Z7, Z8, Z9, Z0] at q24
      first | contradiction | (exfalso; omega) | (exfalso; simp_all; done)
     ·
      try simp only [Z1, Z2, Z3, Z4, Z5, Z6, Z7, Z8, Z9, Z0] at q24
      refine WC.skip (WE.then_normal (WC.sub (fr' := [(0, _), (1, _)]) ?_ ⟨rfl, rfl, trivial⟩))
      refine WC.seq ?_
      refine WC.f1 ?_
      refine WC.reg (reg_out (mid2 _ Gb _)) ?_
      refine WC.region ?_
      refine WL.q (oq_move rfl) rfl rfl rfl ?_
      refine WL.q (oq_move rfl) rfl rfl rfl ?_
      refine WL.q (oq_nilCheck rfl) rfl rfl rfl ?_
      refine WL.q (oq_fieldAddr fld70_1 rfl) rfl rfl rfl ?_
      refine WL.q (oq_load flat45 rfl (.tail _ (.tail _ (.tail _ (.head _)))) (List.mem_singleton.2 rfl) rfl) rfl rfl rfl ?_
      refine WL.q (oq_makeI conc45 rfl) rfl rfl rfl ?_
      refine WL.f6 ?_
      refine WL.f1 ?_
      refine WL.callW2 (copyG _ _ _ _ _ (bufWr _ ob) acc0 O hO b2 (ca ++ crcB ca) Gb hGb (by rw [hml]; omega) (by rw [hml]; omega)) call29 rfl rfl rfl fun v26_6 Hs26_6 hR26_6 => ?_
      obtain ⟨Y2, O2, rfl, rfl, hY2, hO2⟩ := hR26_6
      refine WL.to2 ?_
      refine WL.q (oq_move rfl) rfl rfl rfl ?_
      refine WL.q (oq_extract rfl rfl) rfl rfl rfl ?_
      refine WL.q (oq_extract rfl rfl) rfl rfl rfl ?_
      refine WL.q (oq_assign rfl) rfl rfl rfl ?_
      refine WL.nil (WE.then_normal (WC.sub (fr' := [(6, _)]) ?_ ⟨rfl, trivial⟩))
      refine WC.seq (WC.region ?_)
      refine WL.q (oq_move rfl) rfl rfl rfl ?_
      refine WL.q (oq_assign rfl) rfl rfl rfl ?_
      refine WL.nil (WE.then_normal (WC.sub (fr' := [(6, _)]) ?_ ⟨rfl, trivial⟩))
      refine WC.ret ?_
      refine WE.f2 ?_
      refine WE.forget (fresh_cat hN8_4 (fresh1 hhb)) ?_
      refine WE.f2 ?_
      refine WE.forget ho23.fresh ?_
      refine WE.f3 ?_
      refine WE.lose hxb ?_
      refine WE.f7 ?_
      refine WE.f7 ?_
      refine WE.f7 ?_
      refine WE.f7 ?_
      refine WE.f5 ?_
      refine WE.f5 ?_
      refine WE.f7 ?_
      refine WE.f7 ?_
      refine WE.endW7 (.inl rfl) (res1 Tryz.results14 rfl) ?_
      exact ⟨_, _, _, _, _, _, rfl, hX1, hY2, hO2, .inl rfl⟩
end FC
end Go.Proofs.YtpjeiimlglgklaaGreatDoor
/- VEncode, for any message. -/
namespace Go.Proofs.YtpjeiimlglgklaaGreatDoor
open Go Go.RowKit V EA EB EC ED EE EF EG EH EI EJ EK EL EM EN FA FB FC
set_option linter.unusedSimpArgs false
set_option linter.unusedVariables false
set_option maxRecDepth 10000
namespace FD
theorem call13 : Callable Tryz.prog 13 := ⟨_, Tryz.func13, rfl, by kernel_rfl⟩
theorem call14 : Callable Tryz.prog 14 := ⟨_, Tryz.func14, rfl, by kernel_rfl⟩
theorem call15 : Callable Tryz.prog 15 := ⟨_, Tryz.func15, rfl, by kernel_rfl⟩
theorem call16 : Callable Tryz.prog 16 := ⟨_, Tryz.func16, rfl, by kernel_rfl⟩
theorem flat25 : Flat Tryz.prog 25 := ⟨_, Tryz.underlying25, by simp⟩
theorem flat28 : Flat Tryz.prog 28 := ⟨_, Tryz.underlying28, by simp⟩
theorem ty25 : Ty Tryz.prog 25 (.slice none 0 0) 1 24 := ty_of (by kernel_rfl)
theorem ty28 : Ty Tryz.prog 28 (.slice none 0 0) 1 24 := ty_of (by kernel_rfl)
theorem ty39 : Ty Tryz.prog 39 (.agg #[(.slice none 0 0), (.int .i64 0), (.int .i8 0)]) 3 40 := ty_of (by kernel_rfl)
theorem ty50 : Ty Tryz.prog 50 (.agg #[(.slice none 0 0), (.slice none 0 0)]) 2 48 := ty_of (by kernel_rfl)
theorem conc45 : Conc Tryz.prog 45 := ⟨_, Tryz.underlying45, by simp⟩
theorem str50 : Str Tryz.prog 50 #[(0, 1), (1, 1)] := ⟨_, Tryz.underlying50, fun w => by kernel_rfl⟩
theorem fld30_0 : Fld Tryz.prog 30 0 0 28 := fld_of Tryz.underlying30 rfl rfl rfl ty28 (by decide)
theorem fld30_1 : Fld Tryz.prog 30 1 1 25 := fld_of Tryz.underlying30 rfl rfl rfl ty25 (by decide)
theorem encodeGW (base eb ob : Nat) (acc0 : List UInt8) (EG O : Hp) (hE : EncG base eb EG) (hO : BufG base ob acc0 O) (vh : Value) (HZ : Hp) (l : List HV) (hh : HsOk l vh HZ) (hok : okE l) (hn : l.length ≤ 2147483647) (vp : Value) (Pg : Hp) (data : List UInt8) (hrp : RdS 1 vp Pg data.length (bytesV data)) (hpl : data.length ≤ 2147483647) (hal : acc0.length ≤ 100000) :
  FnW Tryz.prog 14 [Pt eb 0, .iface 45 (Pt ob 0), .agg #[vh, vp]] base [EG, O, HZ, Pg] (fun w Hs => ∃ EG2 O2 c, Hs = [EG2, O2, HZ, Pg] ∧ EncG base eb EG2 ∧ BufG base ob c O2 ∧ NE w) := by
 obtain ⟨b1, b2, B1, B2, a1, a2, rfl, h1, h2, g1, g2⟩ := hE
 obtain ⟨ps, M, Z, rfl, hr, hp⟩ := hh
 refine fw_perm (F := []) (encodeW base eb b1 b2 ob a1 a2 acc0 B1 B2 O h1 h2 hO vh M Z l ps hr hp hok hn vp Pg data hrp hpl hal) (by simp) ?_
 rintro w Hs ⟨B1', B2', O', c1, c2, c3, rfl, hb1, hb2, hO2, h⟩
 exact ⟨_, ⟨(EncB eb b1 b2 ++ B1') ++ B2', O', c3, rfl, ⟨_, _, _, _, _, _, rfl, hb1, hb2, g1, g2⟩, hO2, h⟩, by simp⟩
def AnyR (w : Value) (N : Hp) : Prop := ∃ p n c x b, w = .tuple #[.slice p n c, .bool b] ∧ RdS 1 (.slice p n c) N n (bytesV x) ∧ x.length = n
theorem anyR_bad : AnyR (.tuple #[.slice none 0 0, .bool false]) [] := ⟨none, 0, 0, [], false, rfl, ⟨rfl, .inl ⟨rfl, _, _, rfl⟩⟩, rfl⟩
theorem anyR_ok {v : Value} {N : Hp} {x : List UInt8} (h : RdS 1 v N x.length (bytesV x)) : AnyR (.tuple #[v, .bool true]) N := by
 obtain ⟨p, c, rfl⟩ := h.shape
 exact ⟨p, _, c, x, true, rfl, h, rfl⟩
theorem vEncodeW (vh : Value) (A : Hp) (l : List HV) (hr : RdS 5 vh A l.length (recsV HV.row l)) (hint : ∀ i, i < l.length → -9223372036854775808 ≤ (l.getD i HV0).int ∧ (l.getD i HV0).int ≤ 9223372036854775807) (htx : ∀ i, i < l.length → (l.getD i HV0).text.length ≤ 4000000000) (hn : l.length ≤ 2147483647) (pp : Option Addr) (pc : Nat) (data : List UInt8) (hrp : RdS 1 (.slice pp data.length pc) A data.length (bytesV data)) (hpl : data.length ≤ 2147483647) : FnA Tryz.prog 6 [.agg #[vh, .slice pp data.length pc]] A (AnyR) := by
 refine FnA.enter (n := 16) Tryz.func6 rfl rfl fun w0 => ?_
 refine WC.sub (fr' := [(0, _)]) ?_ ⟨rfl, trivial⟩
 refine WC.seq (WC.region ?_)
 refine WL.box rfl rfl rfl fun xb hxb => ?_
 refine WL.q (oq_assign rfl) rfl rfl rfl ?_
 refine WL.q (oq_assign rfl) rfl rfl rfl ?_
 refine WL.nil (WE.then_normal (WC.sub (fr' := [(1, _)]) ?_ ⟨rfl, trivial⟩))
 refine WC.seq (WC.region ?_)
 refine WL.alloc ty39 rfl rfl fun ob hob => ?_
 refine WL.nil (WE.then_normal (WC.sub (fr' := [(1, _), (4, _)]) ?_ ⟨rfl, rfl, trivial⟩))
 refine WC.seq (WC.seq ?_)
 refine WC.gate 8 ([(xb, .cells #[vh, .slice pp data.length pc] 30 (0, 0))]) (by kernel_rfl) ?_
 refine WG.q 1 [] rfl (.tail _ (.head _)) (fun w0 => oq_makeI conc45 rfl) rfl rfl rfl ?_
 refine WG.q 2 [4, 3] rfl (.tail _ (.head _)) (fun w0 => oq_fieldAddr fld30_0 rfl) rfl rfl rfl ?_
 refine WG.q 3 [4] rfl (.tail _ (.head _)) (fun w0 => oq_load flat28 rfl (.head _) (List.mem_singleton.2 rfl) rfl) rfl rfl rfl ?_
 refine WG.q 5 [7, 6] rfl (.tail _ (.head _)) (fun w0 => oq_fieldAddr fld30_1 rfl) rfl rfl rfl ?_
 refine WG.q 6 [7] rfl (.tail _ (.head _)) (fun w0 => oq_load flat25 rfl (.head _) (List.mem_singleton.2 rfl) rfl) rfl rfl rfl ?_
 refine WG.step (i := 0) (by kernel_rfl) rfl ?_
 refine WL.callA0 (newEncoder) call13 rfl rfl rfl fun v2_0 N2_0 hR2_0 hN2_0 => ?_
 obtain ⟨eb, b1, b2, rfl, rfl⟩ := hR2_0
 have heb := hN2_0 eb _ (List.mem_append_left _ (List.mem_append_left _ (List.mem_singleton.2 rfl)))
 have hb1 := hN2_0 b1 _ (List.mem_append_left _ (List.mem_append_right _ (List.mem_singleton.2 rfl)))
 have hb2 := hN2_0 b2 _ (List.mem_append_right _ (List.mem_singleton.2 rfl))
 refine WL.nil ?_
 refine WE.toG (.tail _ (.tail _ (.head _))) ?_
 refine WG.step (i := 4) (by kernel_rfl) rfl ?_
 refine WL.f3 ?_
 refine WL.callA (headersForG vh A l hr hint htx hn) call15 rfl rfl rfl fun v2_4 N2_4 hR2_4 hN2_4 => ?_
 obtain ⟨ps0, M0, Z0, hN0, hr0, hp0⟩ := hR2_4
 obtain ⟨pv, cv, rfl⟩ := hr0.shape
 have hR2_4 : HsOk (l.map nrm) (.slice pv ps0.length cv) N2_4 := ⟨ps0, M0, Z0, hN0, hr0, hp0⟩
 refine WL.nil ?_
 refine WE.toG (.tail _ (.tail _ (.tail _ (.tail _ (.head _))))) ?_
 refine WG.q 7 [] rfl (.tail _ (.tail _ (.tail _ (.tail _ (.head _))))) (fun w0 => oq_build #[_, _] str50 ty50 rfl rfl) rfl rfl rfl ?_
 refine WG.step (i := 8) (by kernel_rfl) rfl ?_
 refine WL.f1 ?_
 refine WL.f1 ?_
 refine WL.f3 ?_
 refine WL.f3 ?_
 refine WL.callW4 (encodeGW _ eb ob [] _ _ ⟨b1, b2, _, _, [], [], rfl, bufG_nil _ b1 0, bufG_nil _ b2 0, hb1, hb2⟩ (bufG_nil _ ob 0) _ _ (l.map nrm) hR2_4 (nrm_okE htx) (by rw [List.length_map]; exact hn) (.slice pp data.length pc) A data hrp hpl (by simp)) call14 rfl rfl rfl fun v2_8 Hs2_8 hR2_8 => ?_
 obtain ⟨EG2, O2, c, rfl, hEG, hOc, hei⟩ := hR2_8
 refine WL.to4 ?_
 refine WL.nil ?_
 refine WE.toG0 (by kernel_rfl) ?_
 refine WG.p 9 rfl (.inl (by kernel_rfl)) (fun w0 => oq_ineq Tryz.underlying41 rfl ((by rcases hei with h | h; exact .inl h; exact .inr h))) rfl rfl rfl ?_
 refine WG.done (by kernel_rfl) ?_
 refine WE.then_normal (WC.sub (fr' := [(4, _), (14, _)]) ?_ ⟨rfl, rfl, trivial⟩)
 refine WC.cond rfl (fun q2 => ?_) (fun q2 => ?_)
 ·
  try simp only [Z1, Z2, Z3, Z4, Z5, Z6, Z7, Z8, Z9, Z0] at q2
  refine WC.seq (WC.region ?_)
  refine WL.q (oq_assign rfl) rfl rfl rfl ?_
  refine WL.q (oq_assign rfl) rfl rfl rfl ?_
  refine WL.nil (WE.then_normal (WC.sub (fr' := [(2, _), (3, _)]) ?_ ⟨rfl, rfl, trivial⟩))
  refine WC.ret (WE.then_ret ?_)
  refine WE.forget (hEG.fresh heb) ?_
  refine WE.forget (bufG_fresh hOc hob) ?_
  refine WE.forget hN2_4 ?_
  refine WE.f1 ?_
  refine WE.lose hxb ?_
  refine WE.add0 ?_
  refine WE.endA (.inl rfl) (res2 Tryz.results6 rfl rfl) ?_ fresh0
  exact anyR_bad
 ·
  try simp only [Z1, Z2, Z3, Z4, Z5, Z6, Z7, Z8, Z9, Z0] at q2
  refine WC.skip (WE.then_normal (WC.sub (fr' := [(4, _)]) ?_ ⟨rfl, trivial⟩))
  refine WC.seq ?_
  obtain ⟨bv, hbf, hbr⟩ := bytesG _ ob _ O2 hOc
  refine WC.region ?_
  refine WL.qc (oq_callRm (hbf) (.tail _ (.head _)) call16 rfl) rfl rfl rfl ?_
  refine WL.q (oq_assign rfl) rfl rfl rfl ?_
  refine WL.q (oq_assign rfl) rfl rfl rfl ?_
  refine WL.nil (WE.then_normal (WC.sub (fr' := [(2, _), (3, _)]) ?_ ⟨rfl, rfl, trivial⟩))
  refine WC.ret ?_
  refine WE.forget (hEG.fresh heb) ?_
  refine WE.f1 ?_
  refine WE.forget hN2_4 ?_
  refine WE.f2 ?_
  refine WE.lose hxb ?_
  refine WE.endA (.inl rfl) (res2 Tryz.results6 rfl rfl) ?_ ((bufG_fresh hOc hob))
  exact anyR_ok hbr
end FD
end Go.Proofs.YtpjeiimlglgklaaGreatDoor
/- Any message, lists of messages. -/
namespace Go.Proofs.YtpjeiimlglgklaaGreatDoor
open Go Go.RowKit V EA EB EC ED EL DC DD DA DE EE EH EI EJ DF DG DH DI EM DJ DK DL DM DB EF EG EK EN EO ER ES DP DO DQ ET DR FA FB FC FD
set_option linter.unusedSimpArgs false
set_option linter.unusedVariables false
set_option maxRecDepth 10000
namespace FE
theorem call12 : Callable Tryz.prog 12 := ⟨_, Tryz.func12, rfl, by kernel_rfl⟩
theorem ty30 : Ty Tryz.prog 30 (.agg #[(.slice none 0 0), (.slice none 0 0)]) 2 48 := ty_of (by kernel_rfl)
theorem agg30 : Agg Tryz.prog 30 := agg_of Tryz.underlying30
def fitM (m : MV) : Bool := fitL m.l && decide (m.data.length ≤ 2147483647)
abbrev MV0 : MV := ⟨.slice none 0 0, [], none, 0, []⟩
def OkM (l : List HV) (data : List UInt8) : Prop := okH l ∧ l.length ≤ 1000 ∧ szL l ≤ 100000 ∧ data.length ≤ 50000
def EncAny (l : List HV) (data : List UInt8) (w : Value) (N : Hp) : Prop := ∃ p n c x b, w = .tuple #[.slice p n c, .bool b] ∧ RdS 1 (.slice p n c) N n (bytesV x) ∧ x.length = n ∧ (OkM l data → b = !(l.any badH) ∧ (b = true → x = msgB l data))
theorem vEncodeAny (vh : Value) (A : Hp) (l : List HV) (hr : RdS 5 vh A l.length (recsV HV.row l)) (hint : intOk l) (hf : fitL l = true) (pp : Option Addr) (pc : Nat) (data : List UInt8) (hrp : RdS 1 (.slice pp data.length pc) A data.length (bytesV data)) (hpl : data.length ≤ 2147483647) :
  FnA Tryz.prog 6 [.agg #[vh, .slice pp data.length pc]] A (EncAny l data) := by
 have hln := fitL_len hf
 by_cases hc : OkM l data
 ·obtain ⟨h1, h2, h3, h4⟩ := hc
  refine (vEncode vh A l hr h1 h2 h3 pp pc data hrp h4).mono ?_
  rintro w N ⟨sv, rfl, hs⟩
  obtain ⟨p, c, rfl⟩ := hs.shape
  refine ⟨p, _, c, _, _, rfl, hs, rfl, fun _ => ⟨rfl, fun hb => ?_⟩⟩
  cases hbb : l.any badH with
  | true => rw [hbb] at hb; cases hb
  | false => rfl
 ·refine (vEncodeW vh A l hr (fun i hi => ⟨(hint i hi).1, (hint i hi).2.1⟩) (fun i hi => by have := (fitL_get hf hi).2; omega) hln pp pc data hrp hpl).mono ?_
  rintro w N ⟨p, n, c, x, b, rfl, hs, hx⟩
  exact ⟨p, n, c, x, b, rfl, hs, hx, fun h => absurd h hc⟩
theorem allM_get {l : List MV} {f : MV → Bool} (h : l.all f = true) {i : Nat} (hi : i < l.length) : f (l.getD i MV0) = true := by
 rw [List.all_eq_true] at h
 refine h _ ?_
 rw [List.getD_eq_getElem?_getD, List.getElem?_eq_getElem hi]; exact List.getElem_mem hi
theorem allM_not {l : List MV} {f : MV → Bool} {i : Nat} (hi : i < l.length) (h : f (l.getD i MV0) = false) : l.all f = false := by
 cases hb : l.all f with
 | false => rfl
 | true => rw [allM_get hb hi] at h; cases h
theorem takeM_snoc {l : List MV} {i : Nat} (hi : i < l.length) : l.take (i + 1) = l.take i ++ [l.getD i MV0] := by
 rw [List.take_add_one, List.getD_eq_getElem?_getD, List.getElem?_eq_getElem hi]; rfl
theorem allM_snoc {l : List MV} {f : MV → Bool} {i : Nat} (hi : i < l.length) (h : (l.take i).all f = true) (hb : f (l.getD i MV0) = true) : (l.take (i + 1)).all f = true := by
 rw [takeM_snoc hi, List.all_append, h, List.all_cons, hb]; rfl
def MsIn (ms : List MV) (A : Hp) : Prop := ∀ i, i < ms.length → MvIn (ms.getD i MV0) A
theorem fits7 (v : Value) (A : Hp) (ms : List MV) (hr : RdS 2 v A ms.length (recsV MV.row ms)) (hms : MsIn ms A) : FnR Tryz.prog 4 [v] A (.bool (decide (ms.length ≤ 2147483647) && ms.all fitM)) := by
 refine FnR.enter (n := 18) Tryz.func4 rfl rfl fun w0 => ?_
 refine WC.sub (fr' := [(0, _)]) ?_ ⟨rfl, trivial⟩
 refine WC.seq (WC.region ?_)
 refine WL.q (oq_assign rfl) rfl rfl rfl ?_
 refine WL.nil (WE.then_normal (WC.sub (fr' := [(0, _)]) ?_ ⟨rfl, trivial⟩))
 refine WC.seq (WC.seq (WC.region ?_))
 refine WL.q (oq_move rfl) rfl rfl rfl ?_
 refine WL.q (oq_len_rd hr Tryz.underlying22 rfl) rfl rfl rfl ?_
 refine WL.q (oq_gtr rfl rfl) rfl rfl rfl ?_
 refine WL.nil (WE.then_normal (WC.sub (fr' := [(0, _), (7, _)]) ?_ ⟨rfl, rfl, trivial⟩))
 refine WC.cond rfl (fun q1 => ?_) (fun q1 => ?_)
 ·
  try simp only [Z1, Z2, Z3, Z4, Z5, Z6, Z7, Z8, Z9, Z0] at q1
  refine WC.seq (WC.region ?_)
  refine WL.q (oq_assign rfl) rfl rfl rfl ?_
  refine WL.nil (WE.then_normal (WC.sub (fr' := [(2, _)]) ?_ ⟨rfl, trivial⟩))
  refine WC.ret (WE.then_ret ?_)
  refine WE.endR (.inl rfl) (res1 Tryz.results4 rfl) ?_
  rw [decide_eq_false (by omega)]; rfl
 ·
  try simp only [Z1, Z2, Z3, Z4, Z5, Z6, Z7, Z8, Z9, Z0] at q1
  refine WC.skip (WE.then_normal (WC.sub (fr' := [(0, _)]) ?_ ⟨rfl, trivial⟩))
  refine WC.seq (WC.seq (WC.region ?_))
  refine WL.q (oq_move rfl) rfl rfl rfl ?_
  refine WL.q (oq_len_rd hr Tryz.underlying22 rfl) rfl rfl rfl ?_
  refine WL.q (oq_move rfl) rfl rfl rfl ?_
  refine WL.nil (WE.then_normal (WC.sub (fr' := [(8, _), (9, _), (10, _)]) ?_ ⟨rfl, rfl, rfl, trivial⟩))
  refine WC.block ?_
  refine WC.loop (ι := Nat) (fun (i : Nat) => [(8, v), (9, I (ms.length : Int)), (10, I (i : Int))]) (fun (i : Nat) => [A]) (fun (i : Nat) => i ≤ ms.length ∧ (ms.take i).all fitM = true) (fun (i : Nat) => ms.length - i) (0) ?_ ⟨rfl, rfl, rfl, trivial⟩ (List.Perm.refl _) ?_
  ·try dsimp only
   exact ⟨by omega, rfl⟩
  ·rintro i hp
   try dsimp only at hp
   obtain ⟨hi, hall⟩ := hp
   show WC _ _ _ _ _ _ ([(8, v), (9, I (ms.length : Int)), (10, I (i : Int))]) ([A])
   refine WC.seq (WC.region ?_)
   refine WL.q (oq_lss rfl rfl) rfl rfl rfl ?_
   refine WL.nil (WE.then_normal (WC.sub (fr' := [(8, _), (9, _), (10, _), (11, _)]) ?_ ⟨rfl, rfl, rfl, rfl, trivial⟩))
   refine WC.seq ?_
   refine WC.cond rfl (fun q4 => ?_) (fun q4 => ?_)
   ·
    try simp only [Z1, Z2, Z3, Z4, Z5, Z6, Z7, Z8, Z9, Z0] at q4
    refine WC.skip (WE.then_normal (WC.sub (fr' := [(8, _), (9, _), (10, _)]) ?_ ⟨rfl, rfl, rfl, trivial⟩))
    refine WC.seq (WC.block (WC.seq ?_))
    have o1 : (ms.getD i MV0).vh.oneCell' = true := by
     obtain ⟨pv5, cv5, hv5⟩ := (hms i (by omega)).rd.shape
     rw [hv5]; rfl
    refine WC.region ?_
    refine WL.q (oq_ixaddr hr Tryz.underlying22 ty30 rfl rfl (by (first | omega | (simp only [List.length_cons, List.length_nil, List.length_append, List.length_drop, List.length_take]; omega)))) rfl rfl rfl ?_
    refine WL.q (oq_loadEl (f := MV.row) MV0 [_, _] (fun _ => rfl) agg30 ty30 hr (.head _) rfl (by (first | omega | (simp only [List.length_cons, List.length_nil, List.length_append, List.length_drop, List.length_take]; omega))) (by first | exact Int.toNat_natCast _ | exact rfl) rfl) rfl rfl rfl ?_
    refine WL.alloc ty30 rfl rfl fun b5_2 hb5_2 => ?_
    refine WL.storeS (#[(ms.getD i MV0).vh, .slice (ms.getD i MV0).pp (ms.getD i MV0).data.length (ms.getD i MV0).pc]) ty30 rfl rfl rfl (by show (_ && (_ && true)) = true; rw [o1]; rfl) (Nat.le_of_ble_eq_true rfl) rfl rfl ?_
    refine WL.nil (WE.then_normal (WC.sub (fr' := [(4, _), (8, _), (9, _), (10, _)]) ?_ ⟨rfl, rfl, rfl, rfl, trivial⟩))
    refine WC.seq (WC.region ?_)
    refine WL.q (oq_loadS [_, _] agg30 ty30 rfl (.head _) (List.mem_singleton.2 rfl) rfl rfl) rfl rfl rfl ?_
    refine WL.qc (oq_callRm (fits3 (ms.getD i MV0).vh A (ms.getD i MV0).l (hms i (by omega)).rd (ms.getD i MV0).pp (ms.getD i MV0).pc (ms.getD i MV0).data.length) (.tail _ (.head _)) call12 rfl) rfl rfl rfl ?_
    refine WL.q (oq_not rfl) rfl rfl rfl ?_
    refine WL.nil (WE.then_normal (WC.sub (fr' := [(8, _), (9, _), (10, _), (16, _)]) ?_ ⟨rfl, rfl, rfl, rfl, trivial⟩))
    refine WC.cond rfl (fun q6 => ?_) (fun q6 => ?_)
    ·
     try simp only [Z1, Z2, Z3, Z4, Z5, Z6, Z7, Z8, Z9, Z0] at q6
     refine WC.seq (WC.region ?_)
     refine WL.q (oq_assign rfl) rfl rfl rfl ?_
     refine WL.nil (WE.then_normal (WC.sub (fr' := [(2, _)]) ?_ ⟨rfl, trivial⟩))
     refine WC.ret (WE.block_ret (WE.then_ret (WE.then_ret (WE.block_ret (WE.then_ret ?_)))))
     refine WE.lose hb5_2 ?_
     refine WE.endR (.inl rfl) (res1 Tryz.results4 rfl) ?_
     rw [allM_not (show i < ms.length by omega) q6, Bool.and_false]
    ·
     try simp only [Z1, Z2, Z3, Z4, Z5, Z6, Z7, Z8, Z9, Z0] at q6
     refine WC.skip (WE.block_normal (WE.then_normal (WC.sub (fr' := [(8, _), (9, _), (10, _)]) ?_ ⟨rfl, rfl, rfl, trivial⟩)))
     refine WC.region ?_
     refine WL.q (oq_add rfl rfl (by rw [i64_lo, i64_hi]; (first | omega | (simp only [List.length_cons, List.length_nil, List.length_append, List.length_drop, List.length_take]; omega)))) rfl rfl rfl ?_
     refine WL.q (oq_move rfl) rfl rfl rfl ?_
     refine WL.nil ?_
     refine WE.lose hb5_2 ?_
     refine WE.again (i + 1) ?_ ?_ ⟨rfl, rfl, rfl, trivial⟩ (List.Perm.refl _)
     ·try dsimp only
      exact ⟨by omega, allM_snoc (by omega) hall q6⟩
     ·(try dsimp only); omega
   ·
    try simp only [Z1, Z2, Z3, Z4, Z5, Z6, Z7, Z8, Z9, Z0] at q4
    refine WC.exit (WE.then_exit (WE.then_exit (WE.block_same (WE.then_normal (WC.sub (fr' := []) ?_ trivial)))))
    refine WC.seq (WC.region ?_)
    refine WL.q (oq_assign rfl) rfl rfl rfl ?_
    refine WL.nil (WE.then_normal (WC.sub (fr' := [(2, _)]) ?_ ⟨rfl, trivial⟩))
    refine WC.ret ?_
    refine WE.endR (.inl rfl) (res1 Tryz.results4 rfl) ?_
    obtain rfl : i = ms.length := by omega
    rw [List.take_length] at hall
    rw [hall, decide_eq_true (by omega)]; rfl
end FE
end Go.Proofs.YtpjeiimlglgklaaGreatDoor
/- The law: messages, one behind the other. -/
namespace Go.Proofs.YtpjeiimlglgklaaGreatDoor
open Go Go.RowKit V EA EB EC ED EL DC DD DA DE EE EH EI EJ DF DG DH DI EM DJ DK DL DM DB EF EG EK EN EO ER ES DP DO DQ ET DR FA FB FC FD FE DO
set_option linter.unusedSimpArgs false
set_option linter.unusedVariables false
set_option maxRecDepth 10000
namespace FF
theorem call4 : Callable Tryz.prog 4 := ⟨_, Tryz.func4, rfl, by kernel_rfl⟩
theorem call5 : Callable Tryz.prog 5 := ⟨_, Tryz.func5, rfl, by kernel_rfl⟩
theorem call6 : Callable Tryz.prog 6 := ⟨_, Tryz.func6, rfl, by kernel_rfl⟩
theorem call7 : Callable Tryz.prog 7 := ⟨_, Tryz.func7, rfl, by kernel_rfl⟩
theorem call8 : Callable Tryz.prog 8 := ⟨_, Tryz.func8, rfl, by kernel_rfl⟩
theorem call9 : Callable Tryz.prog 9 := ⟨_, Tryz.func9, rfl, by kernel_rfl⟩
theorem call10 : Callable Tryz.prog 10 := ⟨_, Tryz.func10, rfl, by kernel_rfl⟩
theorem call11 : Callable Tryz.prog 11 := ⟨_, Tryz.func11, rfl, by kernel_rfl⟩
theorem flat25 : Flat Tryz.prog 25 := ⟨_, Tryz.underlying25, by simp⟩
theorem flat28 : Flat Tryz.prog 28 := ⟨_, Tryz.underlying28, by simp⟩
theorem ty5 : Ty Tryz.prog 5 (.int .u8 0) 1 1 := ty_of (by kernel_rfl)
theorem ty25 : Ty Tryz.prog 25 (.slice none 0 0) 1 24 := ty_of (by kernel_rfl)
theorem ty28 : Ty Tryz.prog 28 (.slice none 0 0) 1 24 := ty_of (by kernel_rfl)
theorem ty30 : Ty Tryz.prog 30 (.agg #[(.slice none 0 0), (.slice none 0 0)]) 2 48 := ty_of (by kernel_rfl)
theorem agg30 : Agg Tryz.prog 30 := agg_of Tryz.underlying30
theorem fld30_0 : Fld Tryz.prog 30 0 0 28 := fld_of Tryz.underlying30 rfl rfl rfl ty28 (by decide)
theorem fld30_1 : Fld Tryz.prog 30 1 1 25 := fld_of Tryz.underlying30 rfl rfl rfl ty25 (by decide)
def cat (ms : List MV) : List UInt8 := ms.flatMap fun m => msgB m.l m.data
theorem cat_snoc {ms : List MV} {i : Nat} (hi : i < ms.length) : cat (ms.take (i + 1)) = cat (ms.take i) ++ msgB (ms.getD i MV0).l (ms.getD i MV0).data := by
 rw [takeM_snoc hi]; simp [cat]
theorem cat_drop {ms : List MV} {i : Nat} (hi : i < ms.length) : cat (ms.drop i) = msgB (ms.getD i MV0).l (ms.getD i MV0).data ++ cat (ms.drop (i + 1)) := by
 rw [List.drop_eq_getElem_cons hi, List.getD_eq_getElem?_getD, List.getElem?_eq_getElem hi]; rfl
def GoodM (m : MV) : Prop := OkM m.l m.data ∧ UnL m.l ∧ m.l.any badH = false ∧ (msgB m.l m.data).length ≤ 80000
theorem cat_len {ms : List MV} : ∀ (n : Nat), n ≤ ms.length → (∀ j, j < ms.length → GoodM (ms.getD j MV0)) → (cat (ms.drop (ms.length - n))).length ≤ 80000 * n
 | 0, _, _ => by rw [Nat.sub_zero, List.drop_length]; simp [cat]
 | n + 1, h, hg => by
  have h1 := cat_len n (by omega) hg
  rw [cat_drop (show ms.length - (n + 1) < ms.length by omega), List.length_append, show ms.length - (n + 1) + 1 = ms.length - n by omega]
  have h2 := (hg (ms.length - (n + 1)) (by omega)).2.2.2
  omega
theorem own_cat {base m : Nat} {u : Value} {B : Hp} {a x : List UInt8} (h : OwS base 5 1 u B m (bytesV a ++ bytesV x)) (hm : m = (a ++ x).length) : OwS base 5 1 u B (a ++ x).length (bytesV (a ++ x)) := by
 subst hm
 have e : bytesV (a ++ x) = bytesV a ++ bytesV x := by simp [bytesV]
 rw [e]; exact h
theorem sl_b2 {v : Value} {A : Hp} {a x : List UInt8} (hr : RdS 1 v A (a ++ x).length (bytesV (a ++ x))) : ∃ v', RdS 1 v' A x.length (bytesV x) ∧
  ∀ {n : Nat} {w0 : World} {ds : List Deferred} {fr : Fr} {H : List Hp} {dst : Option Tmp} {ty : TypeId} {pos : String} {aft : Array Edge} {g : Option (Nat × Bool)} {t : TypeId} {y : Operand} {lo hi : Option Operand}, Tryz.prog.underlying t = some (.slice 5) → ev fr y = some v →
   (match lo with | none => (a.length : Int) = 0 | some y => ∃ k, ev fr y = some (.int k (a.length : Int))) → (match hi with | none => ((a ++ x).length : Int) = (a ++ x).length | some y => ∃ k, ev fr y = some (.int k ((a ++ x).length : Int))) → OV Tryz.prog n w0 ⟨dst, .slice t y lo hi none, ty, pos, aft, g⟩ v' ds fr H := by
 obtain ⟨v', h1, h2⟩ := slice_val (i := (a.length : Int)) (j := ((a ++ x).length : Int)) hr ty5 (by rw [List.length_append]; omega)
 refine ⟨v', ?_, h2⟩
 rw [cut_bytes] at h1
 have e : cut (a ++ x) ((a.length : Int) * ((1 : Nat) : Int)) (((a ++ x).length : Int) * ((1 : Nat) : Int)) = x := by
  unfold cut
  rw [show (((a ++ x).length : Int) * ((1 : Nat) : Int)).toNat = (a ++ x).length by omega, show ((a.length : Int) * ((1 : Nat) : Int)).toNat = a.length by omega, List.take_length, List.drop_left]
 rw [e] at h1
 have hl : x.length = (((a ++ x).length : Int) - (a.length : Int)).toNat := by rw [List.length_append]; omega
 rw [hl]; exact h1
theorem good_mk {m : MV} (hok : okH m.l) (hsz : sumH m.l ≤ 70000) (hn : m.l.length ≤ 100) (hd : m.data.length ≤ 5000) (hu : UnL m.l) (hb : m.l.any badH = false) : GoodM m := by
 have hs : szL m.l ≤ 71200 := by rw [szL_sum]; omega
 have hdl : (hdrs m.l).length ≤ szL m.l := by have := hdrs_len hok m.l.length (Nat.le_refl _); rw [List.take_length] at this; exact this
 refine ⟨⟨hok, by omega, by omega, by omega⟩, hu, hb, ?_⟩
 rw [msgB_pos]; omega
set_option maxHeartbeats 4000000 in
theorem lawStream (v : Value) (A : Hp) (ms : List MV) (hr : RdS 2 v A ms.length (recsV MV.row ms)) (hms : MsIn ms A) (kE : TypeId) (pE pU : Addr) (hS : Sn A kE pE pU) : FnR Tryz.prog 3 [v] A (.bool true) := by
 refine FnR.enter (n := 130) Tryz.func3 rfl rfl fun w0 => ?_
 refine WC.sub (fr' := [(0, _)]) ?_ ⟨rfl, trivial⟩
 refine WC.seq (WC.region ?_)
 refine WL.q (oq_assign rfl) rfl rfl rfl ?_
 refine WL.nil (WE.then_normal (WC.sub (fr' := [(0, _)]) ?_ ⟨rfl, trivial⟩))
 refine WC.seq (WC.seq (WC.region ?_))
 refine WL.q (oq_move rfl) rfl rfl rfl ?_
 refine WL.qc (oq_callRm (fits7 v A ms hr hms) (.head _) call4 rfl) rfl rfl rfl ?_
 refine WL.q (oq_not rfl) rfl rfl rfl ?_
 refine WL.nil (WE.then_normal (WC.sub (fr' := [(0, _), (16, _)]) ?_ ⟨rfl, rfl, trivial⟩))
 refine WC.cond rfl (fun q1 => ?_) (fun q1 => ?_)
 ·
  try simp only [Z1, Z2, Z3, Z4, Z5, Z6, Z7, Z8, Z9, Z0] at q1
  refine WC.seq (WC.region ?_)
  refine WL.q (oq_assign rfl) rfl rfl rfl ?_
  refine WL.nil (WE.then_normal (WC.sub (fr' := [(2, _)]) ?_ ⟨rfl, trivial⟩))
  refine WC.ret (WE.then_ret ?_)
  refine WE.endR (.inl rfl) (res1 Tryz.results3 rfl) ?_
  first | rfl | (exfalso; exact s21_3 rfl)
 ·
  try simp only [Z1, Z2, Z3, Z4, Z5, Z6, Z7, Z8, Z9, Z0] at q1
  refine WC.skip (WE.then_normal (WC.sub (fr' := [(0, _)]) ?_ ⟨rfl, trivial⟩))
  refine WC.seq (WC.seq ?_)
  have hfm : ms.all fitM = true := by
   have := q1
   rw [Bool.and_eq_true] at this
   exact this.2
  refine WC.region ?_
  refine WL.q (oq_move rfl) rfl rfl rfl ?_
  refine WL.q (oq_len_rd hr Tryz.underlying22 rfl) rfl rfl rfl ?_
  refine WL.q (oq_gtr rfl rfl) rfl rfl rfl ?_
  refine WL.nil (WE.then_normal (WC.sub (fr' := [(0, _), (19, _)]) ?_ ⟨rfl, rfl, trivial⟩))
  refine WC.cond rfl (fun q3 => ?_) (fun q3 => ?_)
  ·
   try simp only [Z1, Z2, Z3, Z4, Z5, Z6, Z7, Z8, Z9, Z0] at q3
   refine WC.seq (WC.region ?_)
   refine WL.qc (oq_call (vAwake) call5 rfl) rfl rfl rfl ?_
   refine WL.q (oq_assign rfl) rfl rfl rfl ?_
   refine WL.nil (WE.then_normal (WC.sub (fr' := [(2, _)]) ?_ ⟨rfl, trivial⟩))
   refine WC.ret (WE.then_ret ?_)
   refine WE.endR (.inl rfl) (res1 Tryz.results3 rfl) ?_
   first | rfl | (exfalso; exact s21_3 rfl)
  ·
   try simp only [Z1, Z2, Z3, Z4, Z5, Z6, Z7, Z8, Z9, Z0] at q3
   refine WC.skip (WE.then_normal (WC.sub (fr' := [(0, _)]) ?_ ⟨rfl, trivial⟩))
   refine WC.seq ?_
   refine WC.add0 ?_
   refine WC.region ?_
   refine WL.q (oq_assign rfl) rfl rfl rfl ?_
   refine WL.nil (WE.then_normal (WC.sub (fr' := [(0, _), (3, _)]) ?_ ⟨rfl, rfl, trivial⟩))
   refine WC.seq (WC.seq (WC.region ?_))
   refine WL.q (oq_assign rfl) rfl rfl rfl ?_
   refine WL.nil (WE.then_normal (WC.sub (fr' := [(0, _), (3, _), (4, _)]) ?_ ⟨rfl, rfl, rfl, trivial⟩))
   refine WC.block ?_
   refine WC.loop (ι := Nat × Value × Hp × (List UInt8)) (fun i_ => (fun (i : Nat) (u : Value) (B : Hp) (acc : List UInt8) => [(0, v), (3, u), (4, I (i : Int))]) i_.1 i_.2.1 i_.2.2.1 i_.2.2.2) (fun i_ => (fun (i : Nat) (u : Value) (B : Hp) (acc : List UInt8) => [B, A]) i_.1 i_.2.1 i_.2.2.1 i_.2.2.2) (fun i_ => (fun (i : Nat) (u : Value) (B : Hp) (acc : List UInt8) => i ≤ ms.length ∧ OwS w0.heap.size 5 1 u B acc.length (bytesV acc) ∧ acc = cat (ms.take i) ∧ (∀ j, j < i → GoodM (ms.getD j MV0)) ∧ acc.length ≤ 80000 * i) i_.1 i_.2.1 i_.2.2.1 i_.2.2.2) (fun i_ => (fun (i : Nat) (u : Value) (B : Hp) (acc : List UInt8) => ms.length - i) i_.1 i_.2.1 i_.2.2.1 i_.2.2.2) ((0, _, _, [])) ?_ ⟨rfl, rfl, rfl, trivial⟩ (List.Perm.refl _) ?_
   ·try dsimp only
    exact ⟨by omega, OwS.nil _ _ _, rfl, (fun j h => by omega), by simp⟩
   ·rintro ⟨i, u, B, acc⟩ hp
    try dsimp only at hp
    obtain ⟨hi, ho, hacc, hgs, hal⟩ := hp
    show WC _ _ _ _ _ _ ([(0, v), (3, u), (4, I (i : Int))]) ([B, A])
    refine WC.seq (WC.seq (WC.region ?_))
    refine WL.q (oq_move rfl) rfl rfl rfl ?_
    refine WL.q (oq_move rfl) rfl rfl rfl ?_
    refine WL.q (oq_len_rd hr Tryz.underlying22 rfl) rfl rfl rfl ?_
    refine WL.q (oq_lss rfl rfl) rfl rfl rfl ?_
    refine WL.nil (WE.then_normal (WC.sub (fr' := [(0, _), (3, _), (4, _), (24, _)]) ?_ ⟨rfl, rfl, rfl, rfl, trivial⟩))
    refine WC.cond rfl (fun q7 => ?_) (fun q7 => ?_)
    ·
     try simp only [Z1, Z2, Z3, Z4, Z5, Z6, Z7, Z8, Z9, Z0] at q7
     refine WC.skip (WE.then_normal (WC.sub (fr' := [(0, _), (3, _), (4, _)]) ?_ ⟨rfl, rfl, rfl, trivial⟩))
     refine WC.seq (WC.block (WC.seq ?_))
     have hlt : i < ms.length := by omega
     have him := hms i hlt
     have hft := allM_get hfm hlt
     unfold fitM at hft
     rw [Bool.and_eq_true, decide_eq_true_eq] at hft
     obtain ⟨hfl, hdl⟩ := hft
     refine WC.region ?_
     refine WL.q (oq_move rfl) rfl rfl rfl ?_
     refine WL.q (oq_move rfl) rfl rfl rfl ?_
     refine WL.q (oq_ixaddr hr Tryz.underlying22 ty30 rfl rfl (by (first | omega | (simp only [List.length_cons, List.length_nil, List.length_append, List.length_drop, List.length_take]; omega)))) rfl rfl rfl ?_
     refine WL.q (oq_loadEl (f := MV.row) MV0 [_, _] (fun _ => rfl) agg30 ty30 hr (.tail _ (.head _)) rfl (by (first | omega | (simp only [List.length_cons, List.length_nil, List.length_append, List.length_drop, List.length_take]; omega))) (by first | exact Int.toNat_natCast _ | exact rfl) rfl) rfl rfl rfl ?_
     refine WL.f1 ?_
     refine WL.callA (vEncodeAny (ms.getD i MV0).vh A (ms.getD i MV0).l him.rd him.int hfl (ms.getD i MV0).pp (ms.getD i MV0).pc (ms.getD i MV0).data him.rdp hdl) call6 rfl rfl rfl fun v9_4 N9_4 hR9_4 hN9_4 => ?_
     obtain ⟨p9, n9, c9, x9, b9, rfl, hr9, hx9, hex9⟩ := hR9_4
     refine WL.q (oq_move rfl) rfl rfl rfl ?_
     refine WL.q (oq_extract rfl rfl) rfl rfl rfl ?_
     refine WL.q (oq_extract rfl rfl) rfl rfl rfl ?_
     refine WL.q (oq_assign rfl) rfl rfl rfl ?_
     refine WL.q (oq_assign rfl) rfl rfl rfl ?_
     refine WL.nil (WE.then_normal (WC.sub (fr' := [(0, _), (3, _), (4, _), (5, _), (6, _)]) ?_ ⟨rfl, rfl, rfl, rfl, rfl, trivial⟩))
     refine WC.seq (WC.seq (WC.region ?_))
     refine WL.q (oq_move rfl) rfl rfl rfl ?_
     refine WL.q (oq_move rfl) rfl rfl rfl ?_
     refine WL.q (oq_ixaddr hr Tryz.underlying22 ty30 rfl rfl (by (first | omega | (simp only [List.length_cons, List.length_nil, List.length_append, List.length_drop, List.length_take]; omega)))) rfl rfl rfl ?_
     refine WL.q (oq_loadEl (f := MV.row) MV0 [_, _] (fun _ => rfl) agg30 ty30 hr (.tail _ (.head _)) rfl (by (first | omega | (simp only [List.length_cons, List.length_nil, List.length_append, List.length_drop, List.length_take]; omega))) (by first | exact Int.toNat_natCast _ | exact rfl) rfl) rfl rfl rfl ?_
     refine WL.qc (oq_callRm (sized (ms.getD i MV0).vh A (ms.getD i MV0).l him.rd (ms.getD i MV0).pp (ms.getD i MV0).pc (ms.getD i MV0).data.length hfl) (.tail _ (.head _)) call7 rfl) rfl rfl rfl ?_
     refine WL.q (oq_not rfl) rfl rfl rfl ?_
     refine WL.q (oq_move rfl) rfl rfl rfl ?_
     refine WL.split 41 rfl (fun s10_6 => ?_) (fun s10_6 => ?_)
     ·
      try simp only [Z1, Z2, Z3, Z4, Z5, Z6, Z7, Z8, Z9, Z0] at s10_6
      refine WL.skip rfl rfl rfl ?_
      refine WL.skip rfl rfl rfl ?_
      refine WL.skip rfl rfl rfl ?_
      refine WL.skip rfl rfl rfl ?_
      refine WL.skip rfl rfl rfl ?_
      refine WL.skip rfl rfl rfl ?_
      refine WL.skip rfl rfl rfl ?_
      refine WL.q (oq_pick_t rfl rfl) rfl rfl rfl ?_
      refine WL.q (oq_move rfl) rfl rfl rfl ?_
      refine WL.skip rfl rfl rfl ?_
      refine WL.skip rfl rfl rfl ?_
      refine WL.skip rfl rfl rfl ?_
      refine WL.skip rfl rfl rfl ?_
      refine WL.skip rfl rfl rfl ?_
      refine WL.skip rfl rfl rfl ?_
      refine WL.skip rfl rfl rfl ?_
      refine WL.q (oq_pick_t rfl rfl) rfl rfl rfl ?_
      refine WL.q (oq_move rfl) rfl rfl rfl ?_
      refine WL.skip rfl rfl rfl ?_
      refine WL.skip rfl rfl rfl ?_
      refine WL.q (oq_pick_t rfl rfl) rfl rfl rfl ?_
      refine WL.nil (WE.then_normal (WC.sub (fr' := [(0, _), (3, _), (4, _), (5, _), (62, _)]) ?_ ⟨rfl, rfl, rfl, rfl, rfl, trivial⟩))
      refine WC.cond_t rfl ?_
      refine WC.seq (WC.region ?_)
      refine WL.qc (oq_call (vAwake) call5 rfl) rfl rfl rfl ?_
      refine WL.q (oq_assign rfl) rfl rfl rfl ?_
      refine WL.nil (WE.then_normal (WC.sub (fr' := [(2, _)]) ?_ ⟨rfl, trivial⟩))
      refine WC.ret (WE.then_ret (WE.block_ret (WE.then_ret (WE.then_ret (WE.block_ret (WE.then_ret ?_))))))
      refine WE.forget hN9_4 ?_
      refine WE.f1 ?_
      refine WE.forget ho.fresh ?_
      refine WE.endR (.inl rfl) (res1 Tryz.results3 rfl) ?_
      first | rfl | (exfalso; exact s21_3 rfl)
     ·
      try simp only [Z1, Z2, Z3, Z4, Z5, Z6, Z7, Z8, Z9, Z0] at s10_6
      refine WL.q (oq_move rfl) rfl rfl rfl ?_
      refine WL.q (oq_move rfl) rfl rfl rfl ?_
      refine WL.q (oq_ixaddr hr Tryz.underlying22 ty30 rfl rfl (by (first | omega | (simp only [List.length_cons, List.length_nil, List.length_append, List.length_drop, List.length_take]; omega)))) rfl rfl rfl ?_
      refine WL.q (oq_fldEl fld30_0 hr rfl (by (first | omega | (simp only [List.length_cons, List.length_nil, List.length_append, List.length_drop, List.length_take]; omega)))) rfl rfl rfl ?_
      refine WL.q (oq_loadF (f := MV.row) MV0 (fun _ => rfl) flat28 hr (.tail _ (.head _)) rfl (by (first | omega | (simp only [List.length_cons, List.length_nil, List.length_append, List.length_drop, List.length_take]; omega))) (by first | exact Int.toNat_natCast _ | exact rfl) (by decide) rfl) rfl rfl rfl ?_
      obtain ⟨hl1, hsu, hda⟩ := sized_of s10_6
      have hln : (ms.getD i MV0).l.length ≤ 1000 := by omega
      refine WL.qc (oq_callRm (vFine (ms.getD i MV0).vh A (ms.getD i MV0).l him.rd him.int hln) (.tail _ (.head _)) call8 rfl) rfl rfl rfl ?_
      refine WL.q (oq_not rfl) rfl rfl rfl ?_
      refine WL.q (oq_pick_f rfl rfl) rfl rfl rfl ?_
      refine WL.q (oq_move rfl) rfl rfl rfl ?_
      refine WL.split 50 rfl (fun s10_15 => ?_) (fun s10_15 => ?_)
      ·
       try simp only [Z1, Z2, Z3, Z4, Z5, Z6, Z7, Z8, Z9, Z0] at s10_15
       refine WL.skip rfl rfl rfl ?_
       refine WL.skip rfl rfl rfl ?_
       refine WL.skip rfl rfl rfl ?_
       refine WL.skip rfl rfl rfl ?_
       refine WL.skip rfl rfl rfl ?_
       refine WL.skip rfl rfl rfl ?_
       refine WL.skip rfl rfl rfl ?_
       refine WL.q (oq_pick_t rfl rfl) rfl rfl rfl ?_
       refine WL.q (oq_move rfl) rfl rfl rfl ?_
       refine WL.skip rfl rfl rfl ?_
       refine WL.skip rfl rfl rfl ?_
       refine WL.q (oq_pick_t rfl rfl) rfl rfl rfl ?_
       refine WL.nil (WE.then_normal (WC.sub (fr' := [(0, _), (3, _), (4, _), (5, _), (62, _)]) ?_ ⟨rfl, rfl, rfl, rfl, rfl, trivial⟩))
       refine WC.cond_t rfl ?_
       refine WC.seq (WC.region ?_)
       refine WL.qc (oq_call (vAwake) call5 rfl) rfl rfl rfl ?_
       refine WL.q (oq_assign rfl) rfl rfl rfl ?_
       refine WL.nil (WE.then_normal (WC.sub (fr' := [(2, _)]) ?_ ⟨rfl, trivial⟩))
       refine WC.ret (WE.then_ret (WE.block_ret (WE.then_ret (WE.then_ret (WE.block_ret (WE.then_ret ?_))))))
       refine WE.forget hN9_4 ?_
       refine WE.f1 ?_
       refine WE.forget ho.fresh ?_
       refine WE.endR (.inl rfl) (res1 Tryz.results3 rfl) ?_
       first | rfl | (exfalso; exact s21_3 rfl)
      ·
       try simp only [Z1, Z2, Z3, Z4, Z5, Z6, Z7, Z8, Z9, Z0] at s10_15
       refine WL.q (oq_move rfl) rfl rfl rfl ?_
       refine WL.q (oq_move rfl) rfl rfl rfl ?_
       refine WL.q (oq_ixaddr hr Tryz.underlying22 ty30 rfl rfl (by (first | omega | (simp only [List.length_cons, List.length_nil, List.length_append, List.length_drop, List.length_take]; omega)))) rfl rfl rfl ?_
       refine WL.q (oq_fldEl fld30_0 hr rfl (by (first | omega | (simp only [List.length_cons, List.length_nil, List.length_append, List.length_drop, List.length_take]; omega)))) rfl rfl rfl ?_
       refine WL.q (oq_loadF (f := MV.row) MV0 (fun _ => rfl) flat28 hr (.tail _ (.head _)) rfl (by (first | omega | (simp only [List.length_cons, List.length_nil, List.length_append, List.length_drop, List.length_take]; omega))) (by first | exact Int.toNat_natCast _ | exact rfl) (by decide) rfl) rfl rfl rfl ?_
       refine WL.qc (oq_callRm (vUnlike (ms.getD i MV0).vh A (ms.getD i MV0).l him.rd him.int hln) (.tail _ (.head _)) call9 rfl) rfl rfl rfl ?_
       refine WL.q (oq_not rfl) rfl rfl rfl ?_
       refine WL.q (oq_pick_f rfl rfl) rfl rfl rfl ?_
       refine WL.q (oq_move rfl) rfl rfl rfl ?_
       refine WL.split 59 rfl (fun s10_24 => ?_) (fun s10_24 => ?_)
       ·
        try simp only [Z1, Z2, Z3, Z4, Z5, Z6, Z7, Z8, Z9, Z0] at s10_24
        refine WL.skip rfl rfl rfl ?_
        refine WL.skip rfl rfl rfl ?_
        refine WL.q (oq_pick_t rfl rfl) rfl rfl rfl ?_
        refine WL.nil (WE.then_normal (WC.sub (fr' := [(0, _), (3, _), (4, _), (5, _), (62, _)]) ?_ ⟨rfl, rfl, rfl, rfl, rfl, trivial⟩))
        refine WC.cond_t rfl ?_
        refine WC.seq (WC.region ?_)
        refine WL.qc (oq_call (vAwake) call5 rfl) rfl rfl rfl ?_
        refine WL.q (oq_assign rfl) rfl rfl rfl ?_
        refine WL.nil (WE.then_normal (WC.sub (fr' := [(2, _)]) ?_ ⟨rfl, trivial⟩))
        refine WC.ret (WE.then_ret (WE.block_ret (WE.then_ret (WE.then_ret (WE.block_ret (WE.then_ret ?_))))))
        refine WE.forget hN9_4 ?_
        refine WE.f1 ?_
        refine WE.forget ho.fresh ?_
        refine WE.endR (.inl rfl) (res1 Tryz.results3 rfl) ?_
        first | rfl | (exfalso; exact s21_3 rfl)
       ·
        try simp only [Z1, Z2, Z3, Z4, Z5, Z6, Z7, Z8, Z9, Z0] at s10_24
        refine WL.q (oq_move rfl) rfl rfl rfl ?_
        refine WL.q (oq_not rfl) rfl rfl rfl ?_
        refine WL.q (oq_pick_f rfl rfl) rfl rfl rfl ?_
        refine WL.nil (WE.then_normal (WC.sub (fr' := [(0, _), (3, _), (4, _), (5, _), (62, _)]) ?_ ⟨rfl, rfl, rfl, rfl, rfl, trivial⟩))
        refine WC.cond rfl (fun q10 => ?_) (fun q10 => ?_)
        ·
         try simp only [Z1, Z2, Z3, Z4, Z5, Z6, Z7, Z8, Z9, Z0] at q10
         refine WC.seq (WC.region ?_)
         refine WL.qc (oq_call (vAwake) call5 rfl) rfl rfl rfl ?_
         refine WL.q (oq_assign rfl) rfl rfl rfl ?_
         refine WL.nil (WE.then_normal (WC.sub (fr' := [(2, _)]) ?_ ⟨rfl, trivial⟩))
         refine WC.ret (WE.then_ret (WE.block_ret (WE.then_ret (WE.then_ret (WE.block_ret (WE.then_ret ?_))))))
         refine WE.forget hN9_4 ?_
         refine WE.f1 ?_
         refine WE.forget ho.fresh ?_
         refine WE.endR (.inl rfl) (res1 Tryz.results3 rfl) ?_
         first | rfl | (exfalso; exact s21_3 rfl)
        ·
         try simp only [Z1, Z2, Z3, Z4, Z5, Z6, Z7, Z8, Z9, Z0] at q10
         refine WC.skip (WE.then_normal (WC.sub (fr' := [(0, _), (3, _), (4, _), (5, _)]) ?_ ⟨rfl, rfl, rfl, rfl, trivial⟩))
         have hok := fine_ok s10_15 hsu
         have hszl : szL (ms.getD i MV0).l ≤ 71200 := by rw [szL_sum]; omega
         obtain ⟨hb9, hx9m⟩ := hex9 ⟨hok, by omega, by omega, by omega⟩
         have hnb : (ms.getD i MV0).l.any badH = false := by rw [q10] at hb9; simpa using hb9.symm
         have hxe := hx9m q10
         have hgood := good_mk hok hsu hl1 hda s10_24 hnb
         have hgl : n9 ≤ 80000 := by rw [← hx9, hxe]; exact hgood.2.2.2
         refine WC.region ?_
         refine WL.q (oq_move rfl) rfl rfl rfl ?_
         refine WL.q (oq_move rfl) rfl rfl rfl ?_
         refine WL.f2 ?_
         refine WL.appendS ho Tryz.underlying25 ty5 rfl (by decide) rfl rfl hr9 (.head _) (bytesV_one _) (by unfold maxLen; omega) (by omega) rfl rfl fun vc Ac hoc hnec => ?_
         refine WL.q (oq_assign rfl) rfl rfl rfl ?_
         refine WL.nil (WE.block_normal (WE.then_normal (WC.sub (fr' := [(0, _), (3, _), (4, _)]) ?_ ⟨rfl, rfl, rfl, trivial⟩)))
         refine WC.region ?_
         refine WL.q (oq_move rfl) rfl rfl rfl ?_
         refine WL.q (oq_add rfl rfl (by rw [i64_lo, i64_hi]; (first | omega | (simp only [List.length_cons, List.length_nil, List.length_append, List.length_drop, List.length_take]; omega)))) rfl rfl rfl ?_
         refine WL.q (oq_assign rfl) rfl rfl rfl ?_
         refine WL.nil ?_
         refine WE.f1 ?_
         refine WE.forget hN9_4 ?_
         refine WE.again (i + 1, _, _, acc ++ x9) ?_ ?_ ⟨rfl, rfl, rfl, trivial⟩ (List.Perm.refl _)
         ·try dsimp only
          exact ⟨by omega, own_cat hoc (by rw [List.length_append, hx9]), by rw [cat_snoc hlt, ← hacc, hxe], (fun j hj => by rcases Nat.lt_or_ge j i with h | h; exact hgs j h; rw [show j = i by omega]; exact hgood), by rw [List.length_append, hx9]; omega⟩
         ·(try dsimp only); omega
    ·
     try simp only [Z1, Z2, Z3, Z4, Z5, Z6, Z7, Z8, Z9, Z0] at q7
     refine WC.exit (WE.then_exit (WE.then_exit (WE.block_same (WE.then_normal (WC.sub (fr' := [(0, _), (3, _)]) ?_ ⟨rfl, rfl, trivial⟩)))))
     refine WC.seq (WC.seq ?_)
     obtain rfl : i = ms.length := by omega
     rw [List.take_length] at hacc
     refine WC.region ?_
     refine WL.q (oq_assign rfl) rfl rfl rfl ?_
     refine WL.nil (WE.then_normal (WC.sub (fr' := [(0, _), (3, _), (7, _)]) ?_ ⟨rfl, rfl, rfl, trivial⟩))
     refine WC.block ?_
     refine WC.loop (ι := Nat × Value × (List UInt8)) (fun i_ => (fun (k : Nat) (w : Value) (rs : List UInt8) => [(0, v), (3, w), (7, I (k : Int))]) i_.1 i_.2.1 i_.2.2) (fun i_ => (fun (k : Nat) (w : Value) (rs : List UInt8) => [B, A]) i_.1 i_.2.1 i_.2.2) (fun i_ => (fun (k : Nat) (w : Value) (rs : List UInt8) => k ≤ ms.length ∧ RdS 1 w B rs.length (bytesV rs) ∧ rs = cat (ms.drop k)) i_.1 i_.2.1 i_.2.2) (fun i_ => (fun (k : Nat) (w : Value) (rs : List UInt8) => ms.length - k) i_.1 i_.2.1 i_.2.2) ((0, _, acc)) ?_ ⟨rfl, rfl, rfl, trivial⟩ (List.Perm.refl _) ?_
     ·try dsimp only
      exact ⟨by omega, ho.rd, by rw [hacc]; rfl⟩
     ·rintro ⟨k, w, rs⟩ hp
      try dsimp only at hp
      obtain ⟨hk, hw, hrs⟩ := hp
      show WC _ _ _ _ _ _ ([(0, v), (3, w), (7, I (k : Int))]) ([B, A])
      refine WC.seq (WC.seq (WC.region ?_))
      refine WL.q (oq_move rfl) rfl rfl rfl ?_
      refine WL.q (oq_move rfl) rfl rfl rfl ?_
      refine WL.q (oq_len_rd hr Tryz.underlying22 rfl) rfl rfl rfl ?_
      refine WL.q (oq_lss rfl rfl) rfl rfl rfl ?_
      refine WL.nil (WE.then_normal (WC.sub (fr' := [(0, _), (3, _), (7, _), (70, _)]) ?_ ⟨rfl, rfl, rfl, rfl, trivial⟩))
      refine WC.cond rfl (fun q14 => ?_) (fun q14 => ?_)
      ·
       try simp only [Z1, Z2, Z3, Z4, Z5, Z6, Z7, Z8, Z9, Z0] at q14
       refine WC.skip (WE.then_normal (WC.sub (fr' := [(0, _), (3, _), (7, _)]) ?_ ⟨rfl, rfl, rfl, trivial⟩))
       refine WC.seq (WC.block (WC.seq ?_))
       have hlt : k < ms.length := by omega
       have him := hms k hlt
       obtain ⟨⟨hok, hl10, hsz, hdd⟩, hu, hnb, hml⟩ := hgs k hlt
       have hlen := cat_len (ms.length - k) (by omega) hgs
       rw [show ms.length - (ms.length - k) = k by omega, ← hrs] at hlen
       obtain rfl : rs = msgB (ms.getD k MV0).l (ms.getD k MV0).data ++ (cat (ms.drop (k + 1))) := hrs.trans (cat_drop hlt)
       have h32 : 16 + (hdrs (ms.getD k MV0).l).length + (ms.getD k MV0).data.length < 4294967296 := by rw [msgB_pos] at hml; omega
       have hdec := dec_msg (beh := (cat (ms.drop (k + 1)))) (back_of hok him.int hu) hnb h32
       obtain ⟨pp8, pc8, rfl⟩ := hw.shape
       have hrd9 := hw.weaken (C := B ++ A) (fun x hx => List.mem_append_left _ hx)
       have hS2 := hS.weaken (C := B ++ A) (fun x hx => List.mem_append_right _ hx)
       refine WC.region ?_
       refine WL.q (oq_move rfl) rfl rfl rfl ?_
       refine WL.f1 ?_
       refine WL.f1 ?_
       refine WL.cat ?_
       refine WL.callA (vDecode _ kE pE pU hS2 pp8 pc8 (msgB (ms.getD k MV0).l (ms.getD k MV0).data ++ (cat (ms.drop (k + 1)))) hrd9 (by omega) (fun _ => wf_msg (ms.getD k MV0).l (ms.getD k MV0).data _ h32)) call10 rfl rfl rfl fun v16_1 N16_1 hR16_1 hN16_1 => ?_
       unfold DecR at hR16_1
       rw [hdec] at hR16_1
       dsimp only at hR16_1
       obtain ⟨mv8, n8, rfl, hv8, pv8, rfl, o1, o2, hok8⟩ := hR16_1
       obtain ⟨hrh8, hrp8, rfl, _⟩ := hok8 rfl
       obtain ⟨pp9, pc9, rfl⟩ := hrp8.shape
       refine WL.q (oq_move rfl) rfl rfl rfl ?_
       refine WL.q (oq_extract rfl rfl) rfl rfl rfl ?_
       refine WL.q (oq_extract rfl rfl) rfl rfl rfl ?_
       refine WL.q (oq_extract rfl rfl) rfl rfl rfl ?_
       refine WL.alloc ty30 rfl rfl fun m8 hm8 => ?_
       refine WL.storeS (#[hv8, .slice pp9 (ms.getD k MV0).data.length pc9]) ty30 rfl rfl rfl (by show (_ && (_ && true)) = true; rw [o1]; rfl) (Nat.le_of_ble_eq_true rfl) rfl rfl ?_
       refine WL.q (oq_assign rfl) rfl rfl rfl ?_
       refine WL.q (oq_assign rfl) rfl rfl rfl ?_
       refine WL.nil (WE.then_normal (WC.sub (fr' := [(0, _), (3, _), (7, _), (8, _), (9, _), (10, _)]) ?_ ⟨rfl, rfl, rfl, rfl, rfl, rfl, trivial⟩))
       refine WC.seq (WC.seq ?_)
       have hm16 := msgB_pos (ms.getD k MV0).l (ms.getD k MV0).data
       have hrC := hr.weaken (C := ([(m8, .cells #[hv8, .slice pp9 (ms.getD k MV0).data.length pc9] 30 (0, 0))] ++ N16_1) ++ (B ++ A)) (fun x hx => List.mem_append_right _ (List.mem_append_right _ hx))
       have hrhC := hrh8.weaken (C := ([(m8, .cells #[hv8, .slice pp9 (ms.getD k MV0).data.length pc9] 30 (0, 0))] ++ N16_1) ++ (B ++ A)) (fun x hx => List.mem_append_left _ (List.mem_append_right _ hx))
       have hrpC := hrp8.weaken (C := ([(m8, .cells #[hv8, .slice pp9 (ms.getD k MV0).data.length pc9] 30 (0, 0))] ++ N16_1) ++ (B ++ A)) (fun x hx => List.mem_append_left _ (List.mem_append_right _ hx))
       have himC := him.rd.weaken (C := ([(m8, .cells #[hv8, .slice pp9 (ms.getD k MV0).data.length pc9] 30 (0, 0))] ++ N16_1) ++ (B ++ A)) (fun x hx => List.mem_append_right _ (List.mem_append_right _ hx))
       have himpC := him.rdp.weaken (C := ([(m8, .cells #[hv8, .slice pp9 (ms.getD k MV0).data.length pc9] 30 (0, 0))] ++ N16_1) ++ (B ++ A)) (fun x hx => List.mem_append_right _ (List.mem_append_right _ hx))
       refine WC.f2 ?_
       refine WC.f2 ?_
       refine WC.f2 ?_
       refine WC.cat ?_
       refine WC.cat ?_
       refine WC.quiet (by kernel_rfl) (by kernel_rfl) ?_
       refine WQ.q (oq_move rfl) rfl rfl rfl ?_
       refine WQ.q (oq_neq rfl rfl) rfl rfl rfl ?_
       refine WQ.q (oq_move rfl) rfl rfl rfl ?_
       refine WQ.split 81 rfl (fun s17_2 => ?_) (fun s17_2 => ?_)
       ·
        try simp only [Z1, Z2, Z3, Z4, Z5, Z6, Z7, Z8, Z9, Z0] at s17_2
        refine WQ.skip rfl rfl rfl ?_
        refine WQ.skip rfl rfl rfl ?_
        refine WQ.skip rfl rfl rfl ?_
        refine WQ.skip rfl rfl rfl ?_
        refine WQ.q (oq_pick_t rfl rfl) rfl rfl rfl ?_
        refine WQ.q (oq_move rfl) rfl rfl rfl ?_
        refine WQ.skip rfl rfl rfl ?_
        refine WQ.skip rfl rfl rfl ?_
        refine WQ.q (oq_pick_t rfl rfl) rfl rfl rfl ?_
        refine WQ.q (oq_move rfl) rfl rfl rfl ?_
        refine WQ.skip rfl rfl rfl ?_
        refine WQ.skip rfl rfl rfl ?_
        refine WQ.skip rfl rfl rfl ?_
        refine WQ.skip rfl rfl rfl ?_
        refine WQ.skip rfl rfl rfl ?_
        refine WQ.skip rfl rfl rfl ?_
        refine WQ.skip rfl rfl rfl ?_
        refine WQ.skip rfl rfl rfl ?_
        refine WQ.skip rfl rfl rfl ?_
        refine WQ.q (oq_pick_t rfl rfl) rfl rfl rfl ?_
        refine WQ.q (oq_move rfl) rfl rfl rfl ?_
        refine WQ.skip rfl rfl rfl ?_
        refine WQ.skip rfl rfl rfl ?_
        refine WQ.skip rfl rfl rfl ?_
        refine WQ.skip rfl rfl rfl ?_
        refine WQ.skip rfl rfl rfl ?_
        refine WQ.skip rfl rfl rfl ?_
        refine WQ.skip rfl rfl rfl ?_
        refine WQ.skip rfl rfl rfl ?_
        refine WQ.skip rfl rfl rfl ?_
        refine WQ.skip rfl rfl rfl ?_
        refine WQ.q (oq_pick_t rfl rfl) rfl rfl rfl ?_
        refine WQ.nil (WE.then_normal (WC.sub (fr' := [(0, _), (3, _), (7, _), (10, _), (113, _)]) ?_ ⟨rfl, rfl, rfl, rfl, rfl, trivial⟩))
        refine WC.cond_t rfl ?_
        refine WC.seq ?_
        first | contradiction | omega | (exfalso; simp_all; done)
       ·
        try simp only [Z1, Z2, Z3, Z4, Z5, Z6, Z7, Z8, Z9, Z0] at s17_2
        refine WQ.q (oq_move rfl) rfl rfl rfl ?_
        refine WQ.q (oq_move rfl) rfl rfl rfl ?_
        refine WQ.q (oq_len_rd hw Tryz.underlying25 rfl) rfl rfl rfl ?_
        refine WQ.q (oq_gtr rfl rfl) rfl rfl rfl ?_
        refine WQ.q (oq_pick_f rfl rfl) rfl rfl rfl ?_
        refine WQ.q (oq_move rfl) rfl rfl rfl ?_
        refine WQ.split 87 rfl (fun s17_8 => ?_) (fun s17_8 => ?_)
        ·
         try simp only [Z1, Z2, Z3, Z4, Z5, Z6, Z7, Z8, Z9, Z0] at s17_8
         refine WQ.skip rfl rfl rfl ?_
         refine WQ.skip rfl rfl rfl ?_
         refine WQ.q (oq_pick_t rfl rfl) rfl rfl rfl ?_
         refine WQ.q (oq_move rfl) rfl rfl rfl ?_
         refine WQ.skip rfl rfl rfl ?_
         refine WQ.skip rfl rfl rfl ?_
         refine WQ.skip rfl rfl rfl ?_
         refine WQ.skip rfl rfl rfl ?_
         refine WQ.skip rfl rfl rfl ?_
         refine WQ.skip rfl rfl rfl ?_
         refine WQ.skip rfl rfl rfl ?_
         refine WQ.skip rfl rfl rfl ?_
         refine WQ.skip rfl rfl rfl ?_
         refine WQ.q (oq_pick_t rfl rfl) rfl rfl rfl ?_
         refine WQ.q (oq_move rfl) rfl rfl rfl ?_
         refine WQ.skip rfl rfl rfl ?_
         refine WQ.skip rfl rfl rfl ?_
         refine WQ.skip rfl rfl rfl ?_
         refine WQ.skip rfl rfl rfl ?_
         refine WQ.skip rfl rfl rfl ?_
         refine WQ.skip rfl rfl rfl ?_
         refine WQ.skip rfl rfl rfl ?_
         refine WQ.skip rfl rfl rfl ?_
         refine WQ.skip rfl rfl rfl ?_
         refine WQ.skip rfl rfl rfl ?_
         refine WQ.q (oq_pick_t rfl rfl) rfl rfl rfl ?_
         refine WQ.nil (WE.then_normal (WC.sub (fr' := [(0, _), (3, _), (7, _), (10, _), (113, _)]) ?_ ⟨rfl, rfl, rfl, rfl, rfl, trivial⟩))
         refine WC.cond_t rfl ?_
         refine WC.seq ?_
         first | contradiction | omega | (exfalso; simp_all; done)
        ·
         try simp only [Z1, Z2, Z3, Z4, Z5, Z6, Z7, Z8, Z9, Z0] at s17_8
         refine WQ.q (oq_move rfl) rfl rfl rfl ?_
         refine WQ.q (oq_lss rfl rfl) rfl rfl rfl ?_
         refine WQ.q (oq_pick_f rfl rfl) rfl rfl rfl ?_
         refine WQ.q (oq_move rfl) rfl rfl rfl ?_
         refine WQ.split 91 rfl (fun s17_12 => ?_) (fun s17_12 => ?_)
         ·
          try simp only [Z1, Z2, Z3, Z4, Z5, Z6, Z7, Z8, Z9, Z0] at s17_12
          refine WQ.skip rfl rfl rfl ?_
          refine WQ.skip rfl rfl rfl ?_
          refine WQ.skip rfl rfl rfl ?_
          refine WQ.skip rfl rfl rfl ?_
          refine WQ.skip rfl rfl rfl ?_
          refine WQ.skip rfl rfl rfl ?_
          refine WQ.skip rfl rfl rfl ?_
          refine WQ.skip rfl rfl rfl ?_
          refine WQ.skip rfl rfl rfl ?_
          refine WQ.q (oq_pick_t rfl rfl) rfl rfl rfl ?_
          refine WQ.q (oq_move rfl) rfl rfl rfl ?_
          refine WQ.skip rfl rfl rfl ?_
          refine WQ.skip rfl rfl rfl ?_
          refine WQ.skip rfl rfl rfl ?_
          refine WQ.skip rfl rfl rfl ?_
          refine WQ.skip rfl rfl rfl ?_
          refine WQ.skip rfl rfl rfl ?_
          refine WQ.skip rfl rfl rfl ?_
          refine WQ.skip rfl rfl rfl ?_
          refine WQ.skip rfl rfl rfl ?_
          refine WQ.skip rfl rfl rfl ?_
          refine WQ.q (oq_pick_t rfl rfl) rfl rfl rfl ?_
          refine WQ.nil (WE.then_normal (WC.sub (fr' := [(0, _), (3, _), (7, _), (10, _), (113, _)]) ?_ ⟨rfl, rfl, rfl, rfl, rfl, trivial⟩))
          refine WC.cond_t rfl ?_
          refine WC.seq ?_
          first | contradiction | omega | (exfalso; simp_all; done)
         ·
          try simp only [Z1, Z2, Z3, Z4, Z5, Z6, Z7, Z8, Z9, Z0] at s17_12
          refine WQ.q (oq_fieldAddr fld30_0 rfl) rfl rfl rfl ?_
          refine WQ.q (oq_load flat28 rfl (.head _) (List.mem_append_left _ (List.mem_append_left _ (.head _))) rfl) rfl rfl rfl ?_
          refine WQ.q (oq_move rfl) rfl rfl rfl ?_
          refine WQ.q (oq_move rfl) rfl rfl rfl ?_
          refine WQ.q (oq_ixaddr hrC Tryz.underlying22 ty30 rfl rfl (by (first | omega | (simp only [List.length_cons, List.length_nil, List.length_append, List.length_drop, List.length_take]; omega)))) rfl rfl rfl ?_
          refine WQ.q (oq_fldEl fld30_0 hrC rfl (by (first | omega | (simp only [List.length_cons, List.length_nil, List.length_append, List.length_drop, List.length_take]; omega)))) rfl rfl rfl ?_
          refine WQ.q (oq_loadF (f := MV.row) MV0 (fun _ => rfl) flat28 hrC (.head _) rfl (by (first | omega | (simp only [List.length_cons, List.length_nil, List.length_append, List.length_drop, List.length_take]; omega))) (by first | exact Int.toNat_natCast _ | exact rfl) (by decide) rfl) rfl rfl rfl ?_
          refine WQ.qc (oq_callRall (vSame _ _ _ (ms.getD k MV0).l (ms.getD k MV0).l (rd_flat hrhC (by repeat (first | exact .head _ | apply List.Mem.tail))) (rd_flat himC (by repeat (first | exact .head _ | apply List.Mem.tail))) (by omega)) call11 rfl) rfl rfl rfl ?_
          refine WQ.q (oq_not rfl) rfl rfl rfl ?_
          refine WQ.q (oq_pick_f rfl rfl) rfl rfl rfl ?_
          refine WQ.q (oq_move rfl) rfl rfl rfl ?_
          refine WQ.split 102 rfl (fun s17_23 => ?_) (fun s17_23 => ?_)
          ·
           try simp only [Z1, Z2, Z3, Z4, Z5, Z6, Z7, Z8, Z9, Z0] at s17_23
           refine WQ.skip rfl rfl rfl ?_
           refine WQ.skip rfl rfl rfl ?_
           refine WQ.skip rfl rfl rfl ?_
           refine WQ.skip rfl rfl rfl ?_
           refine WQ.skip rfl rfl rfl ?_
           refine WQ.skip rfl rfl rfl ?_
           refine WQ.skip rfl rfl rfl ?_
           refine WQ.skip rfl rfl rfl ?_
           refine WQ.skip rfl rfl rfl ?_
           refine WQ.skip rfl rfl rfl ?_
           refine WQ.q (oq_pick_t rfl rfl) rfl rfl rfl ?_
           refine WQ.nil (WE.then_normal (WC.sub (fr' := [(0, _), (3, _), (7, _), (10, _), (113, _)]) ?_ ⟨rfl, rfl, rfl, rfl, rfl, trivial⟩))
           refine WC.cond_t rfl ?_
           refine WC.seq ?_
           first | contradiction | omega | (exfalso; simp_all; done)
          ·
           try simp only [Z1, Z2, Z3, Z4, Z5, Z6, Z7, Z8, Z9, Z0] at s17_23
           refine WQ.q (oq_fieldAddr fld30_1 rfl) rfl rfl rfl ?_
           refine WQ.q (oq_load flat25 rfl (.head _) (List.mem_append_left _ (List.mem_append_left _ (.head _))) rfl) rfl rfl rfl ?_
           refine WQ.q (oq_bytesStr hrpC (.head _) Tryz.underlying9 Tryz.underlying25 Tryz.underlying5 rfl) rfl rfl rfl ?_
           refine WQ.q (oq_move rfl) rfl rfl rfl ?_
           refine WQ.q (oq_move rfl) rfl rfl rfl ?_
           refine WQ.q (oq_ixaddr hrC Tryz.underlying22 ty30 rfl rfl (by (first | omega | (simp only [List.length_cons, List.length_nil, List.length_append, List.length_drop, List.length_take]; omega)))) rfl rfl rfl ?_
           refine WQ.q (oq_fldEl fld30_1 hrC rfl (by (first | omega | (simp only [List.length_cons, List.length_nil, List.length_append, List.length_drop, List.length_take]; omega)))) rfl rfl rfl ?_
           refine WQ.q (oq_loadF (f := MV.row) MV0 (fun _ => rfl) flat25 hrC (.head _) rfl (by (first | omega | (simp only [List.length_cons, List.length_nil, List.length_append, List.length_drop, List.length_take]; omega))) (by first | exact Int.toNat_natCast _ | exact rfl) (by decide) rfl) rfl rfl rfl ?_
           refine WQ.q (oq_bytesStr himpC (.head _) Tryz.underlying9 Tryz.underlying25 Tryz.underlying5 rfl) rfl rfl rfl ?_
           refine WQ.q (oq_sneq rfl rfl) rfl rfl rfl ?_
           refine WQ.q (oq_pick_f rfl rfl) rfl rfl rfl ?_
           refine WQ.nil (WE.then_normal (WC.sub (fr' := [(0, _), (3, _), (7, _), (10, _), (113, _)]) ?_ ⟨rfl, rfl, rfl, rfl, rfl, trivial⟩))
           refine WC.cond rfl (fun q17 => ?_) (fun q17 => ?_)
           ·
            try simp only [Z1, Z2, Z3, Z4, Z5, Z6, Z7, Z8, Z9, Z0] at q17
            refine WC.seq ?_
            first | contradiction | omega | (exfalso; simp_all; done)
           ·
            try simp only [Z1, Z2, Z3, Z4, Z5, Z6, Z7, Z8, Z9, Z0] at q17
            refine WC.skip (WE.then_normal (WC.sub (fr' := [(0, _), (3, _), (7, _), (10, _)]) ?_ ⟨rfl, rfl, rfl, rfl, trivial⟩))
            obtain ⟨w19, h19, o19⟩ := sl_b2 hw
            refine WC.reg (reg_out List.perm_append_comm) ?_
            refine WC.reg (reg_out (List.Perm.refl _)) ?_
            refine WC.region ?_
            refine WL.q (oq_move rfl) rfl rfl rfl ?_
            refine WL.q (oq_move rfl) rfl rfl rfl ?_
            refine WL.q (o19 Tryz.underlying25 rfl ⟨_, rfl⟩ rfl) rfl rfl rfl ?_
            refine WL.q (oq_assign rfl) rfl rfl rfl ?_
            refine WL.nil (WE.block_normal (WE.then_normal (WC.sub (fr' := [(0, _), (3, _), (7, _)]) ?_ ⟨rfl, rfl, rfl, trivial⟩)))
            refine WC.region ?_
            refine WL.q (oq_move rfl) rfl rfl rfl ?_
            refine WL.q (oq_add rfl rfl (by rw [i64_lo, i64_hi]; (first | omega | (simp only [List.length_cons, List.length_nil, List.length_append, List.length_drop, List.length_take]; omega)))) rfl rfl rfl ?_
            refine WL.q (oq_assign rfl) rfl rfl rfl ?_
            refine WL.nil ?_
            refine WE.f2 ?_
            refine WE.forget (fresh_cat (fresh1 hm8) hN16_1) ?_
            refine WE.again (k + 1, _, cat (ms.drop (k + 1))) ?_ ?_ ⟨rfl, rfl, rfl, trivial⟩ (List.Perm.refl _)
            ·try dsimp only
             exact ⟨by omega, h19, rfl⟩
            ·(try dsimp only); omega
      ·
       try simp only [Z1, Z2, Z3, Z4, Z5, Z6, Z7, Z8, Z9, Z0] at q14
       refine WC.exit (WE.then_exit (WE.then_exit (WE.block_same (WE.then_normal (WC.sub (fr' := [(3, _)]) ?_ ⟨rfl, trivial⟩)))))
       refine WC.seq ?_
       obtain rfl : k = ms.length := by omega
       rw [List.drop_length] at hrs
       obtain rfl : rs = [] := hrs
       obtain ⟨pp8, pc8, rfl⟩ := hw.shape
       have hrd9 := hw.weaken (C := B ++ A) (fun x hx => List.mem_append_left _ hx)
       have hS2 := hS.weaken (C := B ++ A) (fun x hx => List.mem_append_right _ hx)
       refine WC.region ?_
       refine WL.q (oq_move rfl) rfl rfl rfl ?_
       refine WL.f1 ?_
       refine WL.f1 ?_
       refine WL.cat ?_
       refine WL.callA (vDecode _ kE pE pU hS2 pp8 pc8 [] hrd9 (by decide) (fun h => absurd h (by decide))) call10 rfl rfl rfl fun v20_1 N20_1 hR20_1 hN20_1 => ?_
       have e0 : (dec []).1 = 1 := by decide
       unfold DecR at hR20_1
       rw [e0] at hR20_1
       obtain ⟨mv11, n11, rfl, hv11, pv11, rfl, o11, o12, _⟩ := hR20_1
       refine WL.q (oq_move rfl) rfl rfl rfl ?_
       refine WL.q (oq_extract rfl rfl) rfl rfl rfl ?_
       refine WL.q (oq_extract rfl rfl) rfl rfl rfl ?_
       refine WL.q (oq_extract rfl rfl) rfl rfl rfl ?_
       refine WL.alloc ty30 rfl rfl fun m11 hm11 => ?_
       refine WL.storeS (#[hv11, pv11]) ty30 rfl rfl rfl (by simp [Value.cells, o11, o12]) (Nat.le_of_ble_eq_true rfl) rfl rfl ?_
       refine WL.q (oq_assign rfl) rfl rfl rfl ?_
       refine WL.q (oq_assign rfl) rfl rfl rfl ?_
       refine WL.nil (WE.then_normal (WC.sub (fr' := [(3, _), (12, _)]) ?_ ⟨rfl, rfl, trivial⟩))
       refine WC.seq ?_
       refine WC.f2 ?_
       refine WC.reg (reg_out (List.Perm.refl _)) ?_
       refine WC.region ?_
       refine WL.q (oq_move rfl) rfl rfl rfl ?_
       refine WL.q (oq_len_rd hw Tryz.underlying25 rfl) rfl rfl rfl ?_
       refine WL.q (oq_eql rfl rfl) rfl rfl rfl ?_
       refine WL.q (oq_move rfl) rfl rfl rfl ?_
       refine WL.split 126 rfl (fun s21_3 => ?_) (fun s21_3 => ?_)
       ·
        try simp only [Z1, Z2, Z3, Z4, Z5, Z6, Z7, Z8, Z9, Z0] at s21_3
        refine WL.q (oq_move rfl) rfl rfl rfl ?_
        refine WL.q (oq_eql rfl rfl) rfl rfl rfl ?_
        refine WL.q (oq_pick_t rfl rfl) rfl rfl rfl ?_
        refine WL.q (oq_assign rfl) rfl rfl rfl ?_
        refine WL.nil (WE.then_normal (WC.sub (fr' := [(2, _)]) ?_ ⟨rfl, trivial⟩))
        refine WC.ret ?_
        refine WE.forget ho.fresh ?_
        refine WE.f1 ?_
        refine WE.lose hm11 ?_
        refine WE.f1 ?_
        refine WE.forget hN20_1 ?_
        refine WE.endR (.inl rfl) (res1 Tryz.results3 rfl) ?_
        first | rfl | (exfalso; exact s21_3 rfl)
       ·
        try simp only [Z1, Z2, Z3, Z4, Z5, Z6, Z7, Z8, Z9, Z0] at s21_3
        refine WL.skip rfl rfl rfl ?_
        refine WL.skip rfl rfl rfl ?_
        refine WL.q (oq_pick_f rfl rfl) rfl rfl rfl ?_
        refine WL.q (oq_assign rfl) rfl rfl rfl ?_
        refine WL.nil (WE.then_normal (WC.sub (fr' := [(2, _)]) ?_ ⟨rfl, trivial⟩))
        refine WC.ret ?_
        refine WE.forget ho.fresh ?_
        refine WE.f1 ?_
        refine WE.lose hm11 ?_
        refine WE.f1 ?_
        refine WE.forget hN20_1 ?_
        refine WE.endR (.inl rfl) (res1 Tryz.results3 rfl) ?_
        first | rfl | (exfalso; exact s21_3 rfl)
end FF
end Go.Proofs.YtpjeiimlglgklaaGreatDoor
/- Lists of messages that come in. -/
namespace Go.Proofs.YtpjeiimlglgklaaGreatDoor
open Go Go.RowKit V EA EB EC ED EL DC DD DA DE EE EH EI EJ DF DG DH DI EM DJ DK DL DM DB EF EG EK EN EO ER ES DP DO DQ ET DR FA FB FC FD FE DO FF ET
set_option linter.unusedSimpArgs false
set_option linter.unusedVariables false
set_option maxRecDepth 10000
namespace FG
open Go.ChangeShapes Go.WideShapes
structure MsRd (v : Value) (ms : List MV) (A : Hp) : Prop where
 rd : RdS 2 v A ms.length (recsV MV.row ms)
 ins : MsIn ms A
theorem MsRd.weaken {v : Value} {ms : List MV} {A C : Hp} (h : MsRd v ms A) (hs : ∀ x ∈ A, x ∈ C) : MsRd v ms C := ⟨h.rd.weaken hs, fun i hi => (h.ins i hi).weaken hs⟩
set_option maxRecDepth 100000 in
theorem ms_cells {H : Type} {enc : TypeId × Value → H} {W : World} {n : Nat} {cs : List Value} {y : DataW H × List MemPlace} (h : DataW.trod enc Tryz.prog W 0 (fun _ => true) true n 22 cs = some y) :
  ∃ (v : Value) (l : List MV) (A : Hp), cs = [v] ∧ Has A W ∧ RdS 2 v A l.length (recsV MV.row l) ∧ l.length ≤ maxLen ∧ ∀ x ∈ l, MvIn x A :=
 trod_sl MV.row (fun x C => MvIn x C) (fun _ _ _ h hs => h.weaken hs) (fun _ => rfl) (by decide) Tryz.underlying22 ET.cM ET.mv_cells h
set_option maxRecDepth 100000 in
theorem arg_ms {H : Type} {enc : TypeId × Value → H} {W : World} {base : Nat} {r : Reach} {v : Value} {d : DataW H} {ps : List MemPlace} (hval : Value.okWide Tryz.prog W r base 22 v) (h : DataW.Trod enc Tryz.prog W 0 (fun _ => true) true 22 v d ps) :
  ∃ (l : List MV) (A : Hp), Has A W ∧ MsRd v l A := by
 obtain ⟨a, len, cap, rfl⟩ := okWide_slice Tryz.underlying22 hval
 obtain ⟨fuel, hfu⟩ := h
 obtain ⟨v, l, A, e, hA, hr, hl, hok⟩ := ms_cells hfu
 simp [Value.cells] at e
 subst e
 exact ⟨l, A, hA, hr, fun i hi => hok _ (by rw [List.getD_eq_getElem?_getD, List.getElem?_eq_getElem hi]; exact List.getElem_mem hi)⟩
end FG
end Go.Proofs.YtpjeiimlglgklaaGreatDoor
/- The engine, part 30: sentinels of errors with their texts. Over any program. -/
namespace Go.Proofs.YtpjeiimlglgklaaGreatDoor.V
open Go Go.RowKit Go.ChangeShapes Go.WideShapes
set_option linter.unusedSimpArgs false
set_option linter.unusedVariables false
theorem laid_err {P : Program} {w : World} {n nm : String} {text : List UInt8} {g : Nat} {t k te ts : TypeId} {f : Field} {r : List (String × DataW Unit)} {ps : List MemPlace} {ms : Array (String × TypeId)} (h : DataW.LaidVars P w ((n, .iface nm (.ptr (.agg [.lit (.string text)]))) :: r) ps)
  (hall : ∀ b off, MemPlace.cell b off ∈ ps → (∃ c t, w.heap[b]? = some (.cells c t (0, 0))) ∧ ∀ u v, w.cell? ⟨b, off, none⟩ = some (.iface u v) → Value.okWide P w .any 0 u v) (hg : P.globalNamed n = some g) (ht : (P.globals[g]?).map (·.type) = some t)
  (hi : P.underlying t = some (.interface ms)) (hrow : ∀ u, P.typeName? 3 u = some nm → u = k) (hp : P.underlying k = some (.pointer te)) (he : P.underlying te = some (.struct #[f])) (hft : f.type = ts) (hfo : f.offset = 0) (hs : P.underlying ts = some .string) (hc : P.cellsOf te = 1) (hcs : P.cellsOf ts = 1) :
  (∃ (a : Addr) (s : ByteArray) (c0 : Array Value) (t0 tg : TypeId) (fg : Nat × Nat), w.heap[g]? = some (.cells #[.iface k (.pointer (some a))] tg fg) ∧ w.cell? a = some (.string s) ∧ s.data.toList = text ∧ w.heap[a.block]? = some (.cells c0 t0 (0, 0))) ∧
  ∃ q, DataW.LaidVars P w r q ∧ ∀ b off, MemPlace.cell b off ∈ q → (∃ c t, w.heap[b]? = some (.cells c t (0, 0))) ∧ ∀ u v, w.cell? ⟨b, off, none⟩ = some (.iface u v) → Value.okWide P w .any 0 u v := by
 obtain ⟨g', t', cs, fuel, p, q, hg', ht', hv, hd, hr, rfl⟩ := h
 obtain rfl := Option.some.inj (hg.symm.trans hg')
 obtain rfl := Option.some.inj (ht.symm.trans ht')
 obtain ⟨l⟩ := cs
 have ok : ∀ u v, l = [.iface u v] → Value.okWide P w .any 0 u v := fun u v e => by
  subst e
  exact (hall g 0 (by simp [MemPlace.row])).2 u v (by simpa using World.var?_cell hg hv 0)
 obtain ⟨a, s, hl, hcell, hst, _, rfl⟩ := errorString_of_trod hi hrow hp he hft hfo hs hc hcs hd ok
 obtain ⟨tg, fg, hh⟩ := var_heap hg hv
 have hl2 : l = [.iface k (.pointer (some a))] := hl
 subst hl2
 obtain ⟨c0, t0, hb⟩ := (hall a.block a.off (by simp [MemPlace.row])).1
 exact ⟨⟨a, s, c0, t0, tg, fg, hh, hcell, hst, hb⟩, q, hr, fun b off hm => hall b off (List.mem_append_right _ hm)⟩
end Go.Proofs.YtpjeiimlglgklaaGreatDoor.V
/- What the listed variables hold. -/
namespace Go.Proofs.YtpjeiimlglgklaaGreatDoor
open Go Go.RowKit V DC
set_option linter.unusedVariables false
namespace DN
theorem star : "*" ++ "errors.errorString" = "*errors.errorString" := by decide
theorem rowE (u : TypeId) (h : Tryz.prog.typeName? 3 u = some "*errors.errorString") : u = 196 :=
 typeName_ptr_named (nm := "errors.errorString") (by rw [star]; kernel_rfl) (by kernel_rfl) (by decide) u (by rw [star]; exact h)
theorem tyE : Ty Tryz.prog 198 (.agg #[S []]) 1 16 := ty_of (by kernel_rfl)
theorem compE : Comp Tryz.prog 196 198 := by
 refine ⟨Tryz.underlying196, ?_, _, _, _, tyE, by decide⟩
 cases hi : Tryz.prog.info? 196 with
 | none =>
  have h : (Tryz.prog.info? 196).isSome = true := by kernel_rfl
  rw [hi] at h; cases h
 | some inf =>
  exact ⟨inf, rfl, by
   have h : (Tryz.prog.info? 196).map (·.comparable) = some true := by kernel_rfl
   rw [hi] at h; simpa using h⟩
theorem g0 : Tryz.prog.globalNamed "io.EOF" = some 0 := by kernel_rfl
theorem g1 : Tryz.prog.globalNamed "io.ErrUnexpectedEOF" = some 1 := by kernel_rfl
theorem g2 : Tryz.prog.globalNamed "io.errInvalidWrite" = some 2 := by kernel_rfl
theorem g3 : Tryz.prog.globalNamed "io.ErrShortWrite" = some 3 := by kernel_rfl
theorem g4 : Tryz.prog.globalNamed "io.ErrShortBuffer" = some 4 := by kernel_rfl
theorem t0 : (Tryz.prog.globals[0]?).map (·.type) = some 41 := by kernel_rfl
theorem t1 : (Tryz.prog.globals[1]?).map (·.type) = some 41 := by kernel_rfl
theorem t2 : (Tryz.prog.globals[2]?).map (·.type) = some 41 := by kernel_rfl
theorem t3 : (Tryz.prog.globals[3]?).map (·.type) = some 41 := by kernel_rfl
theorem t4 : (Tryz.prog.globals[4]?).map (·.type) = some 41 := by kernel_rfl
theorem cE : Tryz.prog.cellsOf 198 = 1 := by kernel_rfl
theorem cS : Tryz.prog.cellsOf 9 = 1 := by kernel_rfl
set_option maxRecDepth 100000 in
theorem sn_laid {W : World} (h : laidMetH Tryz.prog Rows.fnVStreamRow.laid W) : ∃ G pE pU, Has G W ∧ Sn G 196 pE pU := by
 rw [Go.MakeChecks.laidMetH_plain _ _ _ (by kernel_rfl)] at h
 obtain ⟨ps, hl, _, hall⟩ := h
 obtain ⟨_, q3, hl, hall⟩ := laid_err hl hall g3 t3 Tryz.underlying41 rowE Tryz.underlying196 Tryz.underlying198 rfl rfl Tryz.underlying9 cE cS
 obtain ⟨_, q2, hl, hall⟩ := laid_err hl hall g2 t2 Tryz.underlying41 rowE Tryz.underlying196 Tryz.underlying198 rfl rfl Tryz.underlying9 cE cS
 obtain ⟨⟨a4, s4, c4, u4, k4, f4, h4, x4, y4, z4⟩, q4, hl, hall⟩ := laid_err hl hall g4 t4 Tryz.underlying41 rowE Tryz.underlying196 Tryz.underlying198 rfl rfl Tryz.underlying9 cE cS
 obtain ⟨⟨a0, s0, c0, u0, k0, f0, h0, x0, y0, z0⟩, q0, hl, hall⟩ := laid_err hl hall g0 t0 Tryz.underlying41 rowE Tryz.underlying196 Tryz.underlying198 rfl rfl Tryz.underlying9 cE cS
 obtain ⟨⟨a1, s1, c1, u1, k1, f1, h1, x1, y1, z1⟩, q1, hl, hall⟩ := laid_err hl hall g1 t1 Tryz.underlying41 rowE Tryz.underlying196 Tryz.underlying198 rfl rfl Tryz.underlying9 cE cS
 have one : ∀ b o, W.heap[b]? = some o → Has [(b, o)] W := fun b o hb => ⟨fun b' o' hm => by rw [List.mem_singleton] at hm; cases hm; exact hb, by simp⟩
 obtain ⟨C, hC, hin⟩ := has_list (W := W) [[(0, _)], [(1, _)], [(4, _)], [(a0.block, _)], [(a1.block, _)]] (by
  intro A hA
  simp only [List.mem_cons, List.not_mem_nil, or_false] at hA
  rcases hA with rfl | rfl | rfl | rfl | rfl
  ·exact one _ _ h0
  ·exact one _ _ h1
  ·exact one _ _ h4
  ·exact one _ _ z0
  ·exact one _ _ z1)
 refine ⟨C, a0, a1, hC, ⟨⟨_, compE⟩, ⟨_, _, hin _ (.head _) _ (.head _)⟩, ⟨_, _, hin _ (.tail _ (.head _)) _ (.head _)⟩, ⟨_, _, _, _, hin _ (.tail _ (.tail _ (.head _))) _ (.head _)⟩, ?_, ⟨_, _, hin _ (.tail _ (.tail _ (.tail _ (.head _)))) _ (.head _)⟩, ⟨_, _, hin _ (.tail _ (.tail _ (.tail _ (.tail _ (.head _))))) _ (.head _)⟩, rfl⟩⟩
 rintro rfl
 rw [x0] at x1
 injection x1 with x1
 injection x1 with x1
 rw [← x1, y0] at y1
 exact absurd y1 (by decide)
end DN
end Go.Proofs.YtpjeiimlglgklaaGreatDoor
