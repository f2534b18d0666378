/- The encoder. -/
import Derived.Test.YtpjeiimlglgklaaGreatDoorQ2
namespace Go.Proofs.YtpjeiimlglgklaaGreatDoor
open Go Go.RowKit V EA EB EC ED EE EF EG EH EI EJ EK EL
set_option linter.unusedSimpArgs false
set_option linter.unusedVariables false
set_option maxRecDepth 10000
namespace EM
theorem call24 : Callable Tryz.prog 24 := ⟨_, Tryz.func24, rfl, by kernel_rfl⟩
theorem call25 : Callable Tryz.prog 25 := ⟨_, Tryz.func25, rfl, by kernel_rfl⟩
theorem call26 : Callable Tryz.prog 26 := ⟨_, Tryz.func26, rfl, by kernel_rfl⟩
theorem call27 : Callable Tryz.prog 27 := ⟨_, Tryz.func27, rfl, by kernel_rfl⟩
theorem call28 : Callable Tryz.prog 28 := ⟨_, Tryz.func28, rfl, by kernel_rfl⟩
theorem call29 : Callable Tryz.prog 29 := ⟨_, Tryz.func29, rfl, by kernel_rfl⟩
theorem call30 : Callable Tryz.prog 30 := ⟨_, Tryz.func30, rfl, by kernel_rfl⟩
theorem call31 : Callable Tryz.prog 31 := ⟨_, Tryz.func31, rfl, by kernel_rfl⟩
theorem flat25 : Flat Tryz.prog 25 := ⟨_, Tryz.underlying25, by simp⟩
theorem flat45 : Flat Tryz.prog 45 := ⟨_, Tryz.underlying45, by simp⟩
theorem flat47 : Flat Tryz.prog 47 := ⟨_, Tryz.underlying47, by simp⟩
theorem ty20 : Ty Tryz.prog 20 .nilIface 1 16 := ty_of (by kernel_rfl)
theorem ty25 : Ty Tryz.prog 25 (.slice none 0 0) 1 24 := ty_of (by kernel_rfl)
theorem ty45 : Ty Tryz.prog 45 (.pointer none) 1 8 := ty_of (by kernel_rfl)
theorem ty47 : Ty Tryz.prog 47 (.slice none 0 0) 1 24 := ty_of (by kernel_rfl)
theorem ty72 : Ty Tryz.prog 72 .nilIface 1 16 := ty_of (by kernel_rfl)
theorem ty77 : Ty Tryz.prog 77 (.agg #[(.int .u32 0)]) 1 4 := ty_of (by kernel_rfl)
theorem conc45 : Conc Tryz.prog 45 := ⟨_, Tryz.underlying45, by simp⟩
theorem conc74 : Conc Tryz.prog 74 := ⟨_, Tryz.underlying74, by simp⟩
theorem conc75 : Conc Tryz.prog 75 := ⟨_, Tryz.underlying75, by simp⟩
theorem str77 : Str Tryz.prog 77 #[(0, 1)] := ⟨_, Tryz.underlying77, fun w => by kernel_rfl⟩
theorem fld50_0 : Fld Tryz.prog 50 0 0 47 := fld_of Tryz.underlying50 rfl rfl rfl ty47 (by decide)
theorem fld50_1 : Fld Tryz.prog 50 1 1 25 := fld_of Tryz.underlying50 rfl rfl rfl ty25 (by decide)
theorem fld70_0 : Fld Tryz.prog 70 0 0 45 := fld_of Tryz.underlying70 rfl rfl rfl ty45 (by decide)
theorem fld70_1 : Fld Tryz.prog 70 1 1 45 := fld_of Tryz.underlying70 rfl rfl rfl ty45 (by decide)
theorem hdR_split {base bb : Nat} {l : List HV} {acc : List UInt8} {M Z : Hp} {w : Value} {Hs : List Hp} (h : HdR base bb l acc M Z w Hs) : ∃ G' acc', Hs = [G', M, Z] ∧ BufG base bb acc' G' ∧ (w = .nilIface ∨ ∃ k u, w = .iface k u) ∧ (nilI w = true → l.any badH = false ∧ BufG base bb (acc ++ hdrs l) G') ∧ (nilI w = false → l.any badH = true ∧ ∃ k e, w = .iface k e) := by
 obtain ⟨G', acc', rfl, hB, h⟩ := h
 refine ⟨G', acc', rfl, hB, ?_⟩
 cases hb : l.any badH with
 | true => rw [hb] at h; obtain ⟨k, e, rfl⟩ := h; exact ⟨(.inr ⟨_, _, rfl⟩), (fun h => nomatch h), (fun _ => ⟨rfl, _, _, rfl⟩)⟩
 | false => rw [hb] at h; obtain ⟨rfl, rfl⟩ := h; exact ⟨(.inl rfl), (fun _ => ⟨rfl, hB⟩), (fun h => nomatch h)⟩
theorem app_nil {a b : List UInt8} (h : b = []) : a ++ b = a := by rw [h, List.append_nil]
theorem mid2 (W G F : Hp) : ((W ++ G) ++ F).Perm (G ++ (W ++ F)) := by simpa using mid1 W G F []
def pre12 (hl pl : Nat) : List UInt8 := pre8 hl pl ++ crcB (pre8 hl pl)
theorem pre12_len (hl pl : Nat) : (pre12 hl pl).length = 12 := by unfold pre12 pre8 crcB; simp [be_len]
def msg0 (l : List HV) (data : List UInt8) : List UInt8 := pre12 (hdrs l).length data.length ++ hdrs l ++ data
def msgB (l : List HV) (data : List UInt8) : List UInt8 := msg0 l data ++ crcB (msg0 l data)
abbrev EncB (eb b1 b2 : Nat) : Hp := [(eb, .cells #[Pt b1 0, Pt b2 0] 70 (0, 0))]
def MsgR (base eb b1 b2 ob : Nat) (l : List HV) (data acc : List UInt8) (M Z Pg : Hp) (w : Value) (Hs : List Hp) : Prop :=
 ∃ B1 B2 O c1 c2 c3, Hs = [EncB eb b1 b2, B1, B2, O, M, Z, Pg] ∧ BufG base b1 c1 B1 ∧ BufG base b2 c2 B2 ∧ BufG base ob c3 O ∧ if l.any badH then ∃ k e, w = .iface k e else w = .nilIface ∧ c3 = acc ++ msgB l data
theorem encode (base eb b1 b2 ob : Nat) (a1 a2 acc0 : List UInt8) (B1 B2 O : Hp) (h1 : BufG base b1 a1 B1) (h2 : BufG base b2 a2 B2) (hO : BufG base ob acc0 O) (vh : Value) (M Z : Hp) (l : List HV) (ps : List PV) (hr : RdS 2 vh M ps.length (recsV PV.row ps)) (hp : Pair l ps Z) (hok : okH l) (hn : l.length ≤ 1000) (hsz : szL l ≤ 100000) (vp : Value) (Pg : Hp) (data : List UInt8) (hrp : RdS 1 vp Pg data.length (bytesV data)) (hpl : data.length ≤ 50000) (hal : acc0.length ≤ 100000) : FnW Tryz.prog 14 [Pt eb 0, .iface 45 (Pt ob 0), .agg #[vh, vp]] base [EncB eb b1 b2, B1, B2, O, M, Z, Pg] (MsgR base eb b1 b2 ob l data acc0 M Z Pg) := by
 have hdl : (hdrs l).length ≤ szL l := by have := hdrs_len hok l.length (Nat.le_refl _); rw [List.take_length] at this; exact this
 have h12 := pre12_len (hdrs l).length data.length
 refine FnW.enter (n := 113) Tryz.func14 rfl rfl fun w0 R0 hbase => ?_
 subst hbase
 show WC _ _ _ _ _ _ _ ([EncB eb b1 b2, B1, B2, O, M, Z, Pg, R0])
 refine WC.sub (fr' := [(0, _), (1, _), (2, _)]) ?_ ⟨rfl, rfl, rfl, trivial⟩
 refine WC.seq (WC.region ?_)
 refine WL.box rfl rfl rfl fun xb hxb => ?_
 refine WL.q (oq_assign rfl) rfl rfl rfl ?_
 refine WL.nil (WE.then_normal (WC.sub (fr' := [(0, _), (1, _), (5, _)]) ?_ ⟨rfl, rfl, rfl, trivial⟩))
 refine WC.seq (WC.region ?_)
 refine WL.q (oq_move rfl) rfl rfl rfl ?_
 refine WL.q (oq_nilCheck rfl) rfl rfl rfl ?_
 refine WL.q (oq_fieldAddr fld70_0 rfl) rfl rfl rfl ?_
 refine WL.q (oq_load flat45 rfl (.tail _ (.head _)) (List.mem_singleton.2 rfl) rfl) rfl rfl rfl ?_
 refine WL.f2 ?_
 refine WL.callW1 (bufReset _ b1 a1 B1 h1) call24 rfl rfl rfl fun v1_4 Hs1_4 hR1_4 => ?_
 obtain ⟨B1_, rfl, rfl, h1_⟩ := hR1_4
 refine WL.to1 ?_
 refine WL.nil (WE.then_normal (WC.sub (fr' := [(0, _), (1, _), (5, _)]) ?_ ⟨rfl, rfl, rfl, trivial⟩))
 refine WC.seq (WC.region ?_)
 refine WL.q (oq_move rfl) rfl rfl rfl ?_
 refine WL.q (oq_nilCheck rfl) rfl rfl rfl ?_
 refine WL.q (oq_fieldAddr fld70_1 rfl) rfl rfl rfl ?_
 refine WL.q (oq_load flat45 rfl (.tail _ (.tail _ (.head _))) (List.mem_singleton.2 rfl) rfl) rfl rfl rfl ?_
 refine WL.f3 ?_
 refine WL.callW1 (bufReset _ b2 a2 B2 h2) call24 rfl rfl rfl fun v2_4 Hs2_4 hR2_4 => ?_
 obtain ⟨B2_, rfl, rfl, h2_⟩ := hR2_4
 refine WL.to1 ?_
 refine WL.nil (WE.then_normal (WC.sub (fr' := [(0, _), (1, _), (5, _)]) ?_ ⟨rfl, rfl, rfl, trivial⟩))
 refine WC.seq (WC.region ?_)
 refine WL.q (oq_move rfl) rfl rfl rfl ?_
 refine WL.q (oq_nilCheck rfl) rfl rfl rfl ?_
 refine WL.q (oq_fieldAddr fld70_1 rfl) rfl rfl rfl ?_
 refine WL.q (oq_load flat45 rfl (.tail _ (.tail _ (.tail _ (.head _)))) (List.mem_singleton.2 rfl) rfl) rfl rfl rfl ?_
 refine WL.q (oq_makeI conc45 rfl) rfl rfl rfl ?_
 refine WL.q (oq_assign rfl) rfl rfl rfl ?_
 refine WL.nil (WE.then_normal (WC.sub (fr' := [(0, _), (1, _), (5, _), (7, _)]) ?_ ⟨rfl, rfl, rfl, rfl, trivial⟩))
 refine WC.seq (WC.seq ?_)
 refine WC.tailM (pl := []) (ql := [_, _, _, _, _, _, _]) (tl := [_, _]) [] [0, 1, 2, 3, 4, 5, 6] 7 [8] (by kernel_rfl) (by kernel_rfl) (by kernel_rfl) (by kernel_rfl) (by kernel_rfl) (by kernel_rfl) (by decide) rfl rfl rfl (by decide) (by repeat (first | with_reducible exact QOk.body | with_reducible apply QOk.then | with_reducible apply QOk.block | exact QOk.body | apply QOk.then | apply QOk.block)) ?_
 refine WM.nil ?_
 refine WY.q (oq_move rfl) rfl rfl rfl ?_
 refine WY.q (oq_nilCheck rfl) rfl rfl rfl ?_
 refine WY.q (oq_fieldAddr fld70_0 rfl) rfl rfl rfl ?_
 refine WY.q (oq_load flat45 rfl (.tail _ (.tail _ (.tail _ (.head _)))) (List.mem_singleton.2 rfl) rfl) rfl rfl rfl ?_
 refine WY.q (oq_makeI conc45 rfl) rfl rfl rfl ?_
 refine WY.q (oq_fieldAddr fld50_0 rfl) rfl rfl rfl ?_
 refine WY.q (oq_load flat47 rfl (.tail _ (.tail _ (.head _))) (List.mem_singleton.2 rfl) rfl) rfl rfl rfl ?_
 refine WY.nil ?_
 refine WL.f6 ?_
 refine WL.f6 ?_
 refine WL.f3 ?_
 refine WL.callW3 (encHeaders _ b1 [] B1_ h1_ vh M Z l ps hr hp (okE_of hok) (by omega) (by rw [List.length_nil]; omega)) call25 rfl rfl rfl fun v4_7 Hs4_7 hR4_7 => ?_
 obtain ⟨X1, c1, rfl, hc1, hei, he0, he1⟩ := hdR_split hR4_7
 refine WL.to3 ?_
 refine WL.q (oq_assign rfl) rfl rfl rfl ?_
 refine WL.nil (WE.then_normal (WC.sub (fr' := [(0, _), (1, _), (5, _), (6, _), (7, _)]) ?_ ⟨rfl, rfl, rfl, rfl, rfl, trivial⟩))
 refine WC.seq (WC.region ?_)
 refine WL.q (oq_move rfl) rfl rfl rfl ?_
 refine WL.q (oq_ineq Tryz.underlying41 rfl (hei)) rfl rfl rfl ?_
 refine WL.nil (WE.then_normal (WC.sub (fr' := [(0, _), (1, _), (5, _), (6, _), (7, _), (38, _)]) ?_ ⟨rfl, rfl, rfl, rfl, rfl, rfl, trivial⟩))
 refine WC.cond rfl (fun q5 => ?_) (fun q5 => ?_)
 ·
  try simp only [Z1, Z2, Z3, Z4, Z5, Z6, Z7, Z8, Z9, Z0] at q5
  refine WC.seq (WC.region ?_)
  refine WL.q (oq_move rfl) rfl rfl rfl ?_
  refine WL.q (oq_assign rfl) rfl rfl rfl ?_
  refine WL.nil (WE.then_normal (WC.sub (fr' := [(6, _)]) ?_ ⟨rfl, trivial⟩))
  refine WC.ret (WE.then_ret ?_)
  refine WE.f4 ?_
  refine WE.lose hxb ?_
  refine WE.f7 ?_
  refine WE.f7 ?_
  refine WE.f4 ?_
  refine WE.f4 ?_
  refine WE.f7 ?_
  refine WE.f6 ?_
  refine WE.f6 ?_
  refine WE.f7 ?_
  refine WE.endW7 (.inl rfl) (res1 Tryz.results14 rfl) ?_
  obtain ⟨hb, k9, e9, hv⟩ := he1 (by simpa using q5)
  exact ⟨_, _, _, _, _, _, rfl, hc1, h2_, hO, by rw [if_pos hb]; exact ⟨_, _, hv⟩⟩
 ·
  try simp only [Z1, Z2, Z3, Z4, Z5, Z6, Z7, Z8, Z9, Z0] at q5
  refine WC.skip (WE.then_normal (WC.sub (fr' := [(0, _), (1, _), (5, _), (7, _)]) ?_ ⟨rfl, rfl, rfl, rfl, trivial⟩))
  refine WC.seq ?_
  obtain ⟨hnb, hX1⟩ := he0 (by simpa using q5)
  rw [List.nil_append] at hX1
  refine WC.region ?_
  refine WL.q (oq_build #[_] str77 ty77 rfl rfl) rfl rfl rfl ?_
  refine WL.box rfl rfl rfl fun hb hhb => ?_
  refine WL.q (oq_assign rfl) rfl rfl rfl ?_
  refine WL.nil (WE.then_normal (WC.sub (fr' := [(0, _), (1, _), (5, _), (7, _), (8, _)]) ?_ ⟨rfl, rfl, rfl, rfl, rfl, trivial⟩))
  refine WC.seq (WC.region ?_)
  refine WL.q (oq_move rfl) rfl rfl rfl ?_
  refine WL.q (oq_move rfl) rfl rfl rfl ?_
  refine WL.q (oq_makeI conc74 rfl) rfl rfl rfl ?_
  refine WL.buildL Tryz.underlying102 ty72 rfl rfl (by decide) (by decide) rfl rfl rfl fun v8 A8 ho8 hne8 => ?_
  refine WL.callA (multiWriter v8 A8 [(45, Pt b2 0), (74, Pt hb 0)] ho8.rd (by simp) (by simp)) call26 rfl rfl rfl fun v8_4 N8_4 hR8_4 hN8_4 => ?_
  obtain ⟨mb, u, Ws, rfl, rfl, hwr⟩ := hR8_4
  refine WL.q (oq_assign rfl) rfl rfl rfl ?_
  refine WL.nil (WE.then_normal (WC.sub (fr' := [(0, _), (1, _), (5, _), (7, _), (8, _), (9, _)]) ?_ ⟨rfl, rfl, rfl, rfl, rfl, rfl, trivial⟩))
  refine WC.seq ?_
  refine WC.f2 ?_
  refine WC.f6 ?_
  refine WC.f2 ?_
  have hMw : MwG w0.heap.size mb u Ws b2 hb [] ((([(mb, .cells #[u] 106 (0, 0))] ++ Ws) ++ B2_) ++ Hash hb (crc [])) := ⟨_, h2_, rfl⟩
  refine WC.cat (WC.cat ?_)
  refine WC.region ?_
  refine WL.q (oq_move rfl) rfl rfl rfl ?_
  refine WL.q (oq_nilCheck rfl) rfl rfl rfl ?_
  refine WL.q (oq_fieldAddr fld70_0 rfl) rfl rfl rfl ?_
  refine WL.q (oq_load flat45 rfl (.tail _ (.tail _ (.tail _ (.tail _ (.tail _ (.tail _ (.head _))))))) (List.mem_singleton.2 rfl) rfl) rfl rfl rfl ?_
  refine WL.qc (oq_callRm (bufLenG _ b1 (hdrs l) X1 hX1 (by omega)) (.tail _ (.tail _ (.head _))) call27 rfl) rfl rfl rfl ?_
  refine WL.q (oq_conv Tryz.underlying3 Tryz.underlying75 rfl (by rw [u32_lo, u32_hi]; (first | omega | (simp only [List.length_cons, List.length_nil, List.length_append, List.length_drop, List.length_take]; omega)))) rfl rfl rfl ?_
  refine WL.q (oq_assign rfl) rfl rfl rfl ?_
  refine WL.nil (WE.then_normal (WC.sub (fr' := [(0, _), (1, _), (5, _), (7, _), (8, _), (9, _), (10, _)]) ?_ ⟨rfl, rfl, rfl, rfl, rfl, rfl, rfl, trivial⟩))
  refine WC.seq (WC.region ?_)
  refine WL.q (oq_fieldAddr fld50_1 rfl) rfl rfl rfl ?_
  refine WL.q (oq_load flat25 rfl (.tail _ (.tail _ (.tail _ (.tail _ (.tail _ (.head _)))))) (List.mem_singleton.2 rfl) rfl) rfl rfl rfl ?_
  refine WL.q (oq_len_rd hrp Tryz.underlying25 rfl) rfl rfl rfl ?_
  refine WL.q (oq_conv Tryz.underlying3 Tryz.underlying75 rfl (by rw [u32_lo, u32_hi]; (first | omega | (simp only [List.length_cons, List.length_nil, List.length_append, List.length_drop, List.length_take]; omega)))) rfl rfl rfl ?_
  refine WL.q (oq_assign rfl) rfl rfl rfl ?_
  refine WL.nil (WE.then_normal (WC.sub (fr' := [(0, _), (1, _), (5, _), (7, _), (8, _), (9, _), (10, _), (11, _)]) ?_ ⟨rfl, rfl, rfl, rfl, rfl, rfl, rfl, rfl, trivial⟩))
  refine WC.seq (WC.seq (WC.region ?_))
  refine WL.q (oq_move rfl) rfl rfl rfl ?_
  refine WL.q (oq_move rfl) rfl rfl rfl ?_
  refine WL.q (oq_move rfl) rfl rfl rfl ?_
  refine WL.q (oq_move rfl) rfl rfl rfl ?_
  refine WL.callW1 (encPrelude _ hb _ _ _ _ (mwWr _ mb u Ws b2 hb hwr) [] _ hMw (mwSum _ mb u Ws b2 hb) (hdrs l).length data.length (by omega) (by omega) (by simp)) call28 rfl rfl rfl fun v11_4 Hs11_4 hR11_4 => ?_
  obtain ⟨g2, rfl, rfl, hg2⟩ := hR11_4
  have hg2 : MwG w0.heap.size mb u Ws b2 hb (pre12 (hdrs l).length data.length) g2 := hg2
  refine WL.to1 ?_
  refine WL.q (oq_assign rfl) rfl rfl rfl ?_
  refine WL.nil (WE.then_normal (WC.sub (fr' := [(0, _), (1, _), (5, _), (6, _), (7, _), (8, _), (9, _), (10, _), (11, _)]) ?_ ⟨rfl, rfl, rfl, rfl, rfl, rfl, rfl, rfl, rfl, trivial⟩))
  refine WC.seq (WC.region ?_)
  refine WL.q (oq_move rfl) rfl rfl rfl ?_
  refine WL.q (oq_ineq Tryz.underlying41 rfl (.inl rfl)) rfl rfl rfl ?_
  refine WL.nil (WE.then_normal (WC.sub (fr' := [(0, _), (1, _), (5, _), (6, _), (7, _), (8, _), (9, _), (10, _), (11, _), (63, _)]) ?_ ⟨rfl, rfl, rfl, rfl, rfl, rfl, rfl, rfl, rfl, rfl, trivial⟩))
  refine WC.cond rfl (fun q12 => ?_) (fun q12 => ?_)
  ·
   try simp only [Z1, Z2, Z3, Z4, Z5, Z6, Z7, Z8, Z9, Z0] at q12
   first | contradiction | (exfalso; omega) | (exfalso; simp_all; done)
  ·
   try simp only [Z1, Z2, Z3, Z4, Z5, Z6, Z7, Z8, Z9, Z0] at q12
   refine WC.skip (WE.then_normal (WC.sub (fr' := [(0, _), (1, _), (5, _), (7, _), (8, _), (9, _), (10, _), (11, _)]) ?_ ⟨rfl, rfl, rfl, rfl, rfl, rfl, rfl, rfl, trivial⟩))
   refine WC.cut (ι := Hp × Hp) (fun i_ => (fun (X1 : Hp) (g : Hp) => [(0, Pt eb 0), (1, .iface 45 (Pt ob 0)), (5, Pt xb 0), (7, .iface 45 (Pt b2 0)), (8, Pt hb 0), (9, .iface 103 (Pt mb 0)), (11, .int .u32 (data.length : Int))]) i_.1 i_.2) (fun i_ => (fun (X1 : Hp) (g : Hp) => [EncB eb b1 b2, [(xb, .cells #[vh, vp] 50 (0, 0))], X1, g, O, M, Z, Pg, R0]) i_.1 i_.2) (fun i_ => (fun (X1 : Hp) (g : Hp) => BufG w0.heap.size b1 [] X1 ∧ MwG w0.heap.size mb u Ws b2 hb (pre12 (hdrs l).length data.length ++ hdrs l) g) i_.1 i_.2) ?_ ?_
   ·
    refine WC.seq (WC.region ?_)
    refine WL.q (oq_move rfl) rfl rfl rfl ?_
    refine WL.q (oq_gtr rfl rfl) rfl rfl rfl ?_
    refine WL.nil (WE.then_normal (WC.sub (fr' := [(0, _), (1, _), (5, _), (7, _), (8, _), (9, _), (11, _), (66, _)]) ?_ ⟨rfl, rfl, rfl, rfl, rfl, rfl, rfl, rfl, trivial⟩))
    refine WC.cond rfl (fun q14 => ?_) (fun q14 => ?_)
    ·
     try simp only [Z1, Z2, Z3, Z4, Z5, Z6, Z7, Z8, Z9, Z0] at q14
     refine WC.seq (WC.region ?_)
     refine WL.q (oq_move rfl) rfl rfl rfl ?_
     refine WL.q (oq_move rfl) rfl rfl rfl ?_
     refine WL.q (oq_nilCheck rfl) rfl rfl rfl ?_
     refine WL.q (oq_fieldAddr fld70_0 rfl) rfl rfl rfl ?_
     refine WL.q (oq_load flat45 rfl (.tail _ (.tail _ (.tail _ (.tail _ (.tail _ (.tail _ (.head _))))))) (List.mem_singleton.2 rfl) rfl) rfl rfl rfl ?_
     refine WL.q (oq_makeI conc45 rfl) rfl rfl rfl ?_
     refine WL.f2 ?_
     refine WL.callW2 (copyG _ _ _ _ _ (mwWr _ mb u Ws b2 hb hwr) _ g2 hg2 b1 (hdrs l) X1 hX1 (by omega) (by omega)) call29 rfl rfl rfl fun v15_6 Hs15_6 hR15_6 => ?_
     obtain ⟨X2, g3, rfl, rfl, hX2, hg3⟩ := hR15_6
     refine WL.to2 ?_
     refine WL.q (oq_move rfl) rfl rfl rfl ?_
     refine WL.q (oq_extract rfl rfl) rfl rfl rfl ?_
     refine WL.q (oq_extract rfl rfl) rfl rfl rfl ?_
     refine WL.q (oq_assign rfl) rfl rfl rfl ?_
     refine WL.nil (WE.then_normal (WC.sub (fr' := [(0, _), (1, _), (5, _), (6, _), (7, _), (8, _), (9, _), (11, _)]) ?_ ⟨rfl, rfl, rfl, rfl, rfl, rfl, rfl, rfl, trivial⟩))
     refine WC.seq (WC.region ?_)
     refine WL.q (oq_move rfl) rfl rfl rfl ?_
     refine WL.q (oq_ineq Tryz.underlying41 rfl (.inl rfl)) rfl rfl rfl ?_
     refine WL.nil (WE.then_normal (WC.sub (fr' := [(0, _), (1, _), (5, _), (6, _), (7, _), (8, _), (9, _), (11, _), (78, _)]) ?_ ⟨rfl, rfl, rfl, rfl, rfl, rfl, rfl, rfl, rfl, trivial⟩))
     refine WC.cond rfl (fun q16 => ?_) (fun q16 => ?_)
     ·
      try simp only [Z1, Z2, Z3, Z4, Z5, Z6, Z7, Z8, Z9, Z0] at q16
      first | contradiction | (exfalso; omega) | (exfalso; simp_all; done)
     ·
      try simp only [Z1, Z2, Z3, Z4, Z5, Z6, Z7, Z8, Z9, Z0] at q16
      refine WC.skip ?_
      refine WE.f2 ?_
      refine WE.forget ho8.fresh ?_
      refine WE.f8 ?_
      refine WE.f8 ?_
      refine WE.f5 ?_
      refine WE.f5 ?_
      refine WE.f8 ?_
      refine WE.f6 ?_
      refine WE.f6 ?_
      refine WE.f7 ?_
      refine WE.f8 ?_
      refine WE.meet (X2, g3) ?_ ⟨rfl, rfl, rfl, rfl, rfl, rfl, rfl, trivial⟩ (List.Perm.refl _)
      try dsimp only
      exact ⟨hX2, hg3⟩
    ·
     try simp only [Z1, Z2, Z3, Z4, Z5, Z6, Z7, Z8, Z9, Z0] at q14
     refine WC.skip ?_
     have h0 : hdrs l = [] := List.eq_nil_of_length_eq_zero (by omega)
     have hX1b : BufG w0.heap.size b1 [] X1 := by rw [h0] at hX1; exact hX1
     have hg2b : MwG w0.heap.size mb u Ws b2 hb (pre12 (hdrs l).length data.length ++ hdrs l) g2 := by rw [app_nil h0]; exact hg2
     refine WE.f1 ?_
     refine WE.forget ho8.fresh ?_
     refine WE.f8 ?_
     refine WE.f8 ?_
     refine WE.f5 ?_
     refine WE.f5 ?_
     refine WE.f8 ?_
     refine WE.f5 ?_
     refine WE.f6 ?_
     refine WE.f7 ?_
     refine WE.f8 ?_
     refine WE.meet (X1, g2) ?_ ⟨rfl, rfl, rfl, rfl, rfl, rfl, rfl, trivial⟩ (List.Perm.refl _)
     try dsimp only
     exact ⟨hX1b, hg2b⟩
   ·rintro ⟨X1, g⟩ hp
    try dsimp only at hp
    obtain ⟨hX1, hg⟩ := hp
    show WC _ _ _ _ _ _ ([(0, Pt eb 0), (1, .iface 45 (Pt ob 0)), (5, Pt xb 0), (7, .iface 45 (Pt b2 0)), (8, Pt hb 0), (9, .iface 103 (Pt mb 0)), (11, .int .u32 (data.length : Int))]) ([EncB eb b1 b2, [(xb, .cells #[vh, vp] 50 (0, 0))], X1, g, O, M, Z, Pg, R0])
    refine WC.cut (ι := Hp × Hp) (fun i_ => (fun (X1 : Hp) (g : Hp) => [(0, Pt eb 0), (1, .iface 45 (Pt ob 0)), (7, .iface 45 (Pt b2 0)), (8, Pt hb 0)]) i_.1 i_.2) (fun i_ => (fun (X1 : Hp) (g : Hp) => [EncB eb b1 b2, [(xb, .cells #[vh, vp] 50 (0, 0))], X1, g, O, M, Z, Pg, R0]) i_.1 i_.2) (fun i_ => (fun (X1 : Hp) (g : Hp) => BufG w0.heap.size b1 [] X1 ∧ MwG w0.heap.size mb u Ws b2 hb (msg0 l data) g) i_.1 i_.2) ?_ ?_
    ·
     refine WC.seq (WC.region ?_)
     refine WL.q (oq_move rfl) rfl rfl rfl ?_
     refine WL.q (oq_gtr rfl rfl) rfl rfl rfl ?_
     refine WL.nil (WE.then_normal (WC.sub (fr' := [(0, _), (1, _), (5, _), (7, _), (8, _), (9, _), (81, _)]) ?_ ⟨rfl, rfl, rfl, rfl, rfl, rfl, rfl, trivial⟩))
     refine WC.cond rfl (fun q18 => ?_) (fun q18 => ?_)
     ·
      try simp only [Z1, Z2, Z3, Z4, Z5, Z6, Z7, Z8, Z9, Z0] at q18
      refine WC.seq (WC.region ?_)
      refine WL.q (oq_move rfl) rfl rfl rfl ?_
      refine WL.q (oq_fieldAddr fld50_1 rfl) rfl rfl rfl ?_
      refine WL.q (oq_load flat25 rfl (.tail _ (.head _)) (List.mem_singleton.2 rfl) rfl) rfl rfl rfl ?_
      refine WL.f7 ?_
      refine WL.f4 ?_
      refine WL.callWE (fun a w hf => ent_inv1 invMW rfl rfl hf w) ((mwWr _ mb u Ws b2 hb hwr).run _ g vp Pg data hg hrp (by rw [List.length_append, h12]; omega) (by rw [List.length_append, h12]; omega)) rfl rfl rfl rfl fun v19_3 Hs19_3 hR19_3 => ?_
      obtain ⟨g4, rfl, rfl, hg4⟩ := hR19_3
      refine WL.app2 ?_
      refine WL.q (oq_move rfl) rfl rfl rfl ?_
      refine WL.q (oq_extract rfl rfl) rfl rfl rfl ?_
      refine WL.q (oq_extract rfl rfl) rfl rfl rfl ?_
      refine WL.q (oq_assign rfl) rfl rfl rfl ?_
      refine WL.nil (WE.then_normal (WC.sub (fr' := [(0, _), (1, _), (6, _), (7, _), (8, _)]) ?_ ⟨rfl, rfl, rfl, rfl, rfl, trivial⟩))
      refine WC.seq (WC.region ?_)
      refine WL.q (oq_move rfl) rfl rfl rfl ?_
      refine WL.q (oq_ineq Tryz.underlying41 rfl (.inl rfl)) rfl rfl rfl ?_
      refine WL.nil (WE.then_normal (WC.sub (fr' := [(0, _), (1, _), (6, _), (7, _), (8, _), (90, _)]) ?_ ⟨rfl, rfl, rfl, rfl, rfl, rfl, trivial⟩))
      refine WC.cond rfl (fun q20 => ?_) (fun q20 => ?_)
      ·
       try simp only [Z1, Z2, Z3, Z4, Z5, Z6, Z7, Z8, Z9, Z0] at q20
       first | contradiction | (exfalso; omega) | (exfalso; simp_all; done)
      ·
       try simp only [Z1, Z2, Z3, Z4, Z5, Z6, Z7, Z8, Z9, Z0] at q20
       refine WC.skip ?_
       refine WE.f8 ?_
       refine WE.f2 ?_
       refine WE.f8 ?_
       refine WE.f8 ?_
       refine WE.f8 ?_
       refine WE.f5 ?_
       refine WE.f8 ?_
       refine WE.f8 ?_
       refine WE.f8 ?_
       refine WE.meet (X1, g4) ?_ ⟨rfl, rfl, rfl, rfl, trivial⟩ (List.Perm.refl _)
       try dsimp only
       exact ⟨hX1, hg4⟩
     ·
      try simp only [Z1, Z2, Z3, Z4, Z5, Z6, Z7, Z8, Z9, Z0] at q18
      refine WC.skip ?_
      have h0 : data = [] := List.eq_nil_of_length_eq_zero (by omega)
      have hgb : MwG w0.heap.size mb u Ws b2 hb (msg0 l data) g := by unfold msg0; rw [app_nil h0]; exact hg
      refine WE.meet (X1, g) ?_ ⟨rfl, rfl, rfl, rfl, trivial⟩ (List.Perm.refl _)
      try dsimp only
      exact ⟨hX1, hgb⟩
    ·rintro ⟨X1, g⟩ hp
     try dsimp only at hp
     obtain ⟨hX1, hg⟩ := hp
     show WC _ _ _ _ _ _ ([(0, Pt eb 0), (1, .iface 45 (Pt ob 0)), (7, .iface 45 (Pt b2 0)), (8, Pt hb 0)]) ([EncB eb b1 b2, [(xb, .cells #[vh, vp] 50 (0, 0))], X1, g, O, M, Z, Pg, R0])
     refine WC.seq ?_
     have hm0 : (msg0 l data).length = 12 + (hdrs l).length + data.length := by unfold msg0; rw [List.length_append, List.length_append, h12]
     have hml : (msgB l data).length = 16 + (hdrs l).length + data.length := by unfold msgB crcB; rw [List.length_append, be_len, hm0]; omega
     refine WC.region ?_
     refine WL.q (oq_move rfl) rfl rfl rfl ?_
     refine WL.qc (oq_callRm (mwSum _ mb u Ws b2 hb (msg0 l data) g hg) (.tail _ (.tail _ (.tail _ (.head _)))) call30 rfl) rfl rfl rfl ?_
     refine WL.q (oq_assign rfl) rfl rfl rfl ?_
     refine WL.nil (WE.then_normal (WC.sub (fr' := [(0, _), (1, _), (7, _), (12, _)]) ?_ ⟨rfl, rfl, rfl, rfl, trivial⟩))
     refine WC.seq (WC.seq (WC.region ?_))
     refine WL.q (oq_move rfl) rfl rfl rfl ?_
     refine WL.q (oq_move rfl) rfl rfl rfl ?_
     refine WL.q (oq_makeI conc75 rfl) rfl rfl rfl ?_
     refine WL.buildL Tryz.underlying111 ty20 rfl rfl (by decide) (by decide) rfl rfl rfl fun v23 A23 ho23 hne23 => ?_
     refine WL.f4 ?_
     refine WL.f1 ?_
     refine WL.callW2 (zzWrite _ _ _ _ _ (midWr _ b2 ([(mb, Obj.cells #[u] 106 (0, 0))] ++ Ws) (Hash hb (crc (msg0 l data)))) (msg0 l data) g hg v23 A23 [⟨75, .u32, 4, ((crc (msg0 l data)).toNat : Int)⟩] ho23.rd (ok1 (okU _)) (by simp) (by rw [hm0]; simp; omega)) call31 rfl rfl rfl fun v23_4 Hs23_4 hR23_4 => ?_
     obtain ⟨g5, rfl, rfl, Gb, hGb, rfl⟩ := hR23_4
     rw [bytesN_1] at hGb
     have hGb : BufG w0.heap.size b2 (msgB l data) Gb := hGb
     refine WL.to2 ?_
     refine WL.q (oq_assign rfl) rfl rfl rfl ?_
     refine WL.nil (WE.then_normal (WC.sub (fr' := [(0, _), (1, _), (13, _)]) ?_ ⟨rfl, rfl, rfl, trivial⟩))
     refine WC.seq (WC.region ?_)
     refine WL.q (oq_move rfl) rfl rfl rfl ?_
     refine WL.q (oq_ineq Tryz.underlying41 rfl (.inl rfl)) rfl rfl rfl ?_
     refine WL.nil (WE.then_normal (WC.sub (fr' := [(0, _), (1, _), (13, _), (100, _)]) ?_ ⟨rfl, rfl, rfl, rfl, trivial⟩))
     refine WC.cond rfl (fun q24 => ?_) (fun q24 => ?_)
     ·
      try simp only [Z1, Z2, Z3, Z4, Z5, Z6, Z7, Z8, Z9, Z0] at q24
      first | contradiction | (exfalso; omega) | (exfalso; simp_all; done)
     ·
      try simp only [Z1, Z2, Z3, Z4, Z5, Z6, Z7, Z8, Z9, Z0] at q24
      refine WC.skip (WE.then_normal (WC.sub (fr' := [(0, _), (1, _)]) ?_ ⟨rfl, rfl, trivial⟩))
      refine WC.seq ?_
      refine WC.f1 ?_
      refine WC.reg (reg_out (mid2 _ Gb _)) ?_
      refine WC.region ?_
      refine WL.q (oq_move rfl) rfl rfl rfl ?_
      refine WL.q (oq_move rfl) rfl rfl rfl ?_
      refine WL.q (oq_nilCheck rfl) rfl rfl rfl ?_
      refine WL.q (oq_fieldAddr fld70_1 rfl) rfl rfl rfl ?_
      refine WL.q (oq_load flat45 rfl (.tail _ (.tail _ (.tail _ (.head _)))) (List.mem_singleton.2 rfl) rfl) rfl rfl rfl ?_
      refine WL.q (oq_makeI conc45 rfl) rfl rfl rfl ?_
      refine WL.f6 ?_
      refine WL.f1 ?_
      refine WL.callW2 (copyG _ _ _ _ _ (bufWr _ ob) acc0 O hO b2 (msgB l data) Gb hGb (by rw [hml]; omega) (by rw [hml]; omega)) call29 rfl rfl rfl fun v26_6 Hs26_6 hR26_6 => ?_
      obtain ⟨Y2, O2, rfl, rfl, hY2, hO2⟩ := hR26_6
      refine WL.to2 ?_
      refine WL.q (oq_move rfl) rfl rfl rfl ?_
      refine WL.q (oq_extract rfl rfl) rfl rfl rfl ?_
      refine WL.q (oq_extract rfl rfl) rfl rfl rfl ?_
      refine WL.q (oq_assign rfl) rfl rfl rfl ?_
      refine WL.nil (WE.then_normal (WC.sub (fr' := [(6, _)]) ?_ ⟨rfl, trivial⟩))
      refine WC.seq (WC.region ?_)
      refine WL.q (oq_move rfl) rfl rfl rfl ?_
      refine WL.q (oq_assign rfl) rfl rfl rfl ?_
      refine WL.nil (WE.then_normal (WC.sub (fr' := [(6, _)]) ?_ ⟨rfl, trivial⟩))
      refine WC.ret ?_
      refine WE.f2 ?_
      refine WE.forget (fresh_cat hN8_4 (fresh1 hhb)) ?_
      refine WE.f2 ?_
      refine WE.forget ho23.fresh ?_
      refine WE.f3 ?_
      refine WE.lose hxb ?_
      refine WE.f7 ?_
      refine WE.f7 ?_
      refine WE.f7 ?_
      refine WE.f7 ?_
      refine WE.f5 ?_
      refine WE.f5 ?_
      refine WE.f7 ?_
      refine WE.f7 ?_
      refine WE.endW7 (.inl rfl) (res1 Tryz.results14 rfl) ?_
      exact ⟨_, _, _, _, _, _, rfl, hX1, hY2, hO2, by rw [if_neg (by rw [hnb]; simp)]; exact ⟨rfl, rfl⟩⟩
end EM
end Go.Proofs.YtpjeiimlglgklaaGreatDoor
/- Plain words on messages that are read: what bytes say. -/
namespace Go.Proofs.YtpjeiimlglgklaaGreatDoor
open Go V EI EJ EK EM
set_option linter.unusedSimpArgs false
set_option linter.unusedVariables false
namespace DA
def nm (l : List UInt8) : Nat := l.foldl (fun n b => n * 256 + b.toNat) 0
theorem nm_foldl : ∀ (l : List UInt8) (a : Nat), l.foldl (fun n b => n * 256 + b.toNat) a = a * 256 ^ l.length + nm l
 | [], a => by simp [nm]
 | b :: l, a => by
  have h1 := nm_foldl l (a * 256 + b.toNat)
  have h2 := nm_foldl l (0 * 256 + b.toNat)
  unfold nm at h1 h2 ⊢
  rw [List.foldl_cons, List.foldl_cons, h1, h2, List.length_cons, Nat.pow_succ, Nat.zero_mul, Nat.zero_add, Nat.add_mul, Nat.mul_assoc, Nat.mul_comm 256]
  omega
theorem nm_cons (b : UInt8) (l : List UInt8) : nm (b :: l) = b.toNat * 256 ^ l.length + nm l := by
 have h := nm_foldl l (0 * 256 + b.toNat)
 rw [Nat.zero_mul, Nat.zero_add] at h
 unfold nm at h ⊢
 rw [List.foldl_cons, Nat.zero_mul, Nat.zero_add, h]
theorem nm_lt : ∀ (l : List UInt8), nm l < 256 ^ l.length
 | [] => by simp [nm]
 | b :: l => by
  have h := nm_lt l
  have hb := b.toNat_lt
  rw [nm_cons, List.length_cons, Nat.pow_succ]
  have : b.toNat * 256 ^ l.length + 256 ^ l.length ≤ 256 ^ l.length * 256 := by
   rw [← Nat.succ_mul, Nat.mul_comm]
   exact Nat.mul_le_mul_left _ hb
  omega
theorem nm_be : ∀ (w : Nat) (x : Int), ((nm (be w x) : Nat) : Int) = x % 2 ^ (8 * w)
 | 0, x => by simp [be, nm]
 | w + 1, x => by
  rw [be, nm_cons, be_len]
  have h1 := nm_be w x
  have h2 := beB_nat w x
  rw [Int.natCast_add, Int.natCast_mul, h1, h2, show 8 * (w + 1) = 8 * w + 8 by omega, Int.pow_add]
  have h3 : ((256 ^ w : Nat) : Int) = 2 ^ (8 * w) := by
   rw [Int.pow_mul]; simp
  rw [h3]
  have hp : (0 : Int) < 2 ^ (8 * w) := Int.pow_pos (by decide)
  generalize (2 : Int) ^ (8 * w) = p at hp ⊢
  have e1 := Int.emod_add_mul_ediv x p
  have e2 := Int.emod_add_mul_ediv (x / p) 256
  have e3 := Int.emod_lt_of_pos (x / p) (show (0 : Int) < 256 by decide)
  have e4 := Int.emod_nonneg (x / p) (show (256 : Int) ≠ 0 by decide)
  have e5 := Int.emod_lt_of_pos x hp
  have e6 := Int.emod_nonneg x (show p ≠ 0 by omega)
  generalize x / p / 256 = q at *
  generalize x / p % 256 = r at *
  generalize x % p = s at *
  have hx : x = (r * p + s) + p * 256 * q := by
   rw [← e1, ← e2, Int.mul_add, Int.mul_comm r p, Int.mul_assoc p 256 q]; omega
  have hlt : r * p + s < p * 256 := by
   have : r * p ≤ 255 * p := Int.mul_le_mul_of_nonneg_right (by omega) (by omega)
   omega
  have hge : 0 ≤ r * p + s := by
   have : 0 ≤ r * p := Int.mul_nonneg e4 (by omega)
   omega
  rw [hx, show (2 : Int) ^ 8 = 256 by decide, Int.add_mul_emod_self_left, Int.emod_eq_of_lt hge hlt]
inductive VR where
 | short
 | other
 | ok (kind width int : Int) (text rest : List UInt8)
def vInt (w : Nat) (ik : IntKind) (r : List UInt8) : VR := if r.length < w then .short else .ok 1 (8 * w) (ik.wrap (nm (r.take w))) [] (r.drop w)
def vTxt (k : Int) (r : List UInt8) : VR := if r.length < 2 then .short else if (r.drop 2).length < nm (r.take 2) then .short else .ok k 0 0 ((r.drop 2).take (nm (r.take 2))) ((r.drop 2).drop (nm (r.take 2)))
def val (k : UInt8) (r : List UInt8) : VR :=
 if k = 0 then .ok 0 0 1 [] r
 else if k = 1 then .ok 0 0 0 [] r
 else if k = 2 then vInt 1 .i8 r
 else if k = 3 then vInt 2 .i16 r
 else if k = 4 then vInt 4 .i32 r
 else if k = 5 then vInt 8 .i64 r
 else if k = 6 then vTxt 2 r
 else if k = 7 then vTxt 3 r
 else if k = 8 then (if r.length < 8 then .short else .ok 4 0 (IntKind.i64.wrap (nm (r.take 8))) [] (r.drop 8))
 else if k = 9 then (if r.length < 16 then .short else .ok 5 0 0 (r.take 16) (r.drop 16))
 else .other
def put : List HV → HV → List HV
 | [], h => [h]
 | x :: l, h => if x.name = h.name then h :: l else x :: put l h
inductive TR where
 | ok (l : List HV)
 | opn (l : List HV)
 | short
 | other
def tkF : Nat → List UInt8 → List HV → TR
 | 0, _, _ => .other
 | _ + 1, [], acc => .ok acc
 | f + 1, n :: r, acc => if r = [] ∧ 0 < n.toNat then .opn acc else if r.length < n.toNat + 1 then .short else
  match val (r.getD n.toNat 0) (r.drop (n.toNat + 1)) with
  | .short => .short
  | .other => .other
  | .ok kd w i t r' => tkF f r' (put acc ⟨r.take n.toNat, kd, w, i, t⟩)
def tk (r : List UInt8) (acc : List HV) : TR := tkF (r.length + 1) r acc
theorem vInt_len {w : Nat} {ik : IntKind} {r r' : List UInt8} {a b c : Int} {t : List UInt8} (h : vInt w ik r = .ok a b c t r') : r'.length ≤ r.length := by
 unfold vInt at h; split at h
 ·cases h
 ·injection h with _ _ _ _ h; rw [← h, List.length_drop]; omega
theorem vTxt_len {k : Int} {r r' : List UInt8} {a b c : Int} {t : List UInt8} (h : vTxt k r = .ok a b c t r') : r'.length ≤ r.length := by
 unfold vTxt at h; split at h
 ·cases h
 ·split at h
  ·cases h
  ·injection h with _ _ _ _ h; rw [← h, List.length_drop, List.length_drop]; omega
theorem val_len {k : UInt8} {r r' : List UInt8} {a b c : Int} {t : List UInt8} (h : val k r = .ok a b c t r') : r'.length ≤ r.length := by
 unfold val at h
 split at h
 ·injection h with _ _ _ _ h; subst h; exact Nat.le_refl _
 split at h
 ·injection h with _ _ _ _ h; subst h; exact Nat.le_refl _
 split at h
 ·exact vInt_len h
 split at h
 ·exact vInt_len h
 split at h
 ·exact vInt_len h
 split at h
 ·exact vInt_len h
 split at h
 ·exact vTxt_len h
 split at h
 ·exact vTxt_len h
 split at h
 ·split at h
  ·cases h
  ·injection h with _ _ _ _ h; rw [← h, List.length_drop]; omega
 split at h
 ·split at h
  ·cases h
  ·injection h with _ _ _ _ h; rw [← h, List.length_drop]; omega
 cases h
theorem tkF_more : ∀ (f g : Nat) (r : List UInt8) (acc : List HV), r.length < f → r.length < g → tkF f r acc = tkF g r acc
 | 0, _, _, _, h, _ => by cases h
 | _, 0, _, _, _, h => by cases h
 | _ + 1, _ + 1, [], _, _, _ => rfl
 | f + 1, g + 1, n :: r, acc, h1, h2 => by
  unfold tkF
  split
  ·rfl
  ·split
   ·rfl
   ·cases hv : val (r.getD n.toNat 0) (r.drop (n.toNat + 1)) with
    | short => rfl
    | other => rfl
    | ok kd w i t r' =>
     have hl := val_len hv
     rw [List.length_drop] at hl
     rw [List.length_cons] at h1 h2
     exact tkF_more f g r' _ (by omega) (by omega)
theorem tk_nil (acc : List HV) : tk [] acc = .ok acc := rfl
theorem tk_opn {n : UInt8} {acc : List HV} (h : 0 < n.toNat) : tk [n] acc = .opn acc := by
 unfold tk tkF; rw [if_pos ⟨rfl, h⟩]
theorem tk_short {n : UInt8} {r : List UInt8} {acc : List HV} (h0 : ¬ (r = [] ∧ 0 < n.toNat)) (h : r.length < n.toNat + 1) : tk (n :: r) acc = .short := by
 unfold tk tkF; rw [if_neg h0, if_pos h]
theorem tk_val {n : UInt8} {r : List UInt8} {acc : List HV} (h : ¬ r.length < n.toNat + 1) : tk (n :: r) acc =
  match val (r.getD n.toNat 0) (r.drop (n.toNat + 1)) with
  | .short => .short
  | .other => .other
  | .ok kd w i t r' => tk r' (put acc ⟨r.take n.toNat, kd, w, i, t⟩) := by
 show tkF (r.length + 1 + 1) (n :: r) acc = _
 rw [tkF, if_neg (by rintro ⟨rfl, h2⟩; simp at h), if_neg h]
 cases hv : val (r.getD n.toNat 0) (r.drop (n.toNat + 1)) with
 | short => rfl
 | other => rfl
 | ok kd w i t r' =>
  have hl := val_len hv
  rw [List.length_drop] at hl
  exact tkF_more _ _ r' _ (by omega) (by omega)
abbrev DR := Nat × List HV × List UInt8 × Nat
def err (c : Nat) : DR := (c, [], [], 0)
def totl (b : List UInt8) : Nat := nm (b.take 4)
def head (b : List UInt8) : Nat := nm ((b.drop 4).take 4)
def sumOk (b : List UInt8) : Bool := decide ((crc (b.take 8)).toNat = nm ((b.drop 8).take 4))
def tailR (b : List UInt8) (l : List HV) : DR :=
 if b.length < totl b then err 2
 else if (crc (b.take (totl b - 4))).toNat ≠ nm ((b.drop (totl b - 4)).take 4) then err 3
 else (0, l, (b.drop (12 + head b)).take (totl b - 16 - head b), totl b)
def dec (b : List UInt8) : DR :=
 if b = [] then err 1
 else if b.length < 8 then err 2
 else if totl b = 0 then err 4
 else if b.length < 12 then err 2
 else if sumOk b = false then err 3
 else match tk ((b.drop 12).take (head b)) [] with
  | .short => err 2
  | .other => err 5
  | .ok l => tailR b l
  | .opn l => tailR b l
end DA
end Go.Proofs.YtpjeiimlglgklaaGreatDoor
/- Numbers that are read. -/
namespace Go.Proofs.YtpjeiimlglgklaaGreatDoor
open Go Go.RowKit V EA EB EC ED EL DC DD DA
set_option linter.unusedSimpArgs false
set_option linter.unusedVariables false
set_option maxRecDepth 10000
namespace DE
theorem call57 : Callable Tryz.prog 57 := ⟨_, Tryz.func57, rfl, by kernel_rfl⟩
theorem call58 : Callable Tryz.prog 58 := ⟨_, Tryz.func58, rfl, by kernel_rfl⟩
theorem call71 : Callable Tryz.prog 71 := ⟨_, Tryz.func71, rfl, by kernel_rfl⟩
theorem call78 : Callable Tryz.prog 78 := ⟨_, Tryz.func78, rfl, by kernel_rfl⟩
theorem flat5 : Flat Tryz.prog 5 := ⟨_, Tryz.underlying5, by simp⟩
theorem ty5 : Ty Tryz.prog 5 (.int .u8 0) 1 1 := ty_of (by kernel_rfl)
theorem ty164 : Ty Tryz.prog 164 (.agg #[(.int .u8 0), (.int .u8 0), (.int .u8 0), (.int .u8 0)]) 4 4 := ty_of (by kernel_rfl)
theorem ty181 : Ty Tryz.prog 181 (.agg #[(.int .u8 0)]) 1 1 := ty_of (by kernel_rfl)
theorem ty199 : Ty Tryz.prog 199 (.agg #[(.int .u8 0), (.int .u8 0)]) 2 2 := ty_of (by kernel_rfl)
theorem ty200 : Ty Tryz.prog 200 (.agg #[(.int .u8 0), (.int .u8 0), (.int .u8 0), (.int .u8 0), (.int .u8 0), (.int .u8 0), (.int .u8 0), (.int .u8 0)]) 8 8 := ty_of (by kernel_rfl)
theorem erv0 {k : TypeId} {pE pU : Addr} {ob c : Nat} (h : nilI (erv k pE pU ob c) = true) : c = 0 := by rw [erv_nil] at h; exact of_decide_eq_true h
theorem ervN {k : TypeId} {pE pU : Addr} {ob c : Nat} (h : nilI (erv k pE pU ob c) = false) : c ≠ 0 := by rw [erv_nil] at h; exact of_decide_eq_false h
theorem rdc0 {n : Nat} {rs : List UInt8} (h : rdc n rs = 0) : n ≤ rs.length := by
 unfold rdc at h; split at h
 ·assumption
 ·split at h <;> cases h
theorem rdcN {n : Nat} {rs : List UInt8} (h : rdc n rs ≠ 0) : rs.length < n ∧ (rdc n rs = 1 ∨ rdc n rs = 2) := by
 unfold rdc at h ⊢; split at h
 ·exact absurd rfl h
 ·rename_i h1
  refine ⟨by omega, ?_⟩
  rw [if_neg h1]; split
  ·exact .inl rfl
  ·exact .inr rfl
theorem rdc_le {n : Nat} {rs : List UInt8} (h : n ≤ rs.length) : rdc n rs = 0 := if_pos h
theorem nm_split (a b : List UInt8) : nm (a ++ b) = nm a * 256 ^ b.length + nm b := by
 have h := nm_foldl b (nm a)
 unfold nm at h ⊢
 rw [List.foldl_append, h]
theorem nm_lt' {l : List UInt8} {n : Nat} (h : l.length ≤ n) : nm l < 256 ^ n := Nat.lt_of_lt_of_le (nm_lt l) (Nat.pow_le_pow_right (by decide) h)
theorem nm1 {l : List UInt8} (h : 1 ≤ l.length) : ((nm (l.take 1) : Nat) : Int) = byteAt l 0 := by
 match l, h with
 | a :: _, _ => simp [nm, byteAt]
theorem nm2 {l : List UInt8} (h : 2 ≤ l.length) : ((nm (l.take 2) : Nat) : Int) = byteAt l 0 * 256 + byteAt l 1 := by
 match l, h with
 | a :: b :: _, _ => simp [nm, byteAt]
theorem nm4 {l : List UInt8} (h : 4 ≤ l.length) : nm (l.take 4) = nm (l.take 2) * 65536 + nm ((l.drop 2).take 2) := by
 rw [show 4 = 2 + 2 by rfl, List.take_add, nm_split, List.length_take, List.length_drop, show min 2 (l.length - 2) = 2 by omega]
theorem nm8 {l : List UInt8} (h : 8 ≤ l.length) : nm (l.take 8) = nm (l.take 4) * 4294967296 + nm ((l.drop 4).take 4) := by
 rw [show 8 = 4 + 4 by rfl, List.take_add, nm_split, List.length_take, List.length_drop, show min 4 (l.length - 4) = 4 by omega]
theorem rd_whole {xb e n : Nat} {l : List UInt8} (h : l.length = n) : RdS 1 (Sl xb 0 n n) (Bf xb e l) l.length (bytesV l) := by
 have h1 := Sl.rd (b := xb) (off := 0) (n := n) (c := n) (e := e) (l := l) (by omega) (by omega)
 rw [List.drop_zero, List.take_of_length_le (by omega)] at h1; rw [h]; exact h1
theorem put_take {n : Nat} {rs : List UInt8} (h : n ≤ rs.length) : putB (List.replicate n 0) 0 (rs.take n) = rs.take n := putB_all (by rw [List.length_take, List.length_replicate]; omega)
theorem get16 (v : Value) (A : Hp) (l : List UInt8) (hr : RdS 1 v A l.length (bytesV l)) (hl : 2 ≤ l.length) : FnR Tryz.prog 71 [v] A (.int .u16 (nm (l.take 2) : Nat)) := by
 have h2 := nm2 hl
 refine FnR.enter (n := 13) Tryz.func71 rfl rfl fun w0 => ?_
 refine WC.sub (fr' := [(0, _)]) ?_ ⟨rfl, trivial⟩
 refine WC.seq (WC.region ?_)
 refine WL.q (oq_assign rfl) rfl rfl rfl ?_
 refine WL.nil (WE.then_normal (WC.sub (fr' := [(0, _)]) ?_ ⟨rfl, trivial⟩))
 refine WC.seq (WC.quiet (by kernel_rfl) (by kernel_rfl) ?_)
 refine WQ.q (oq_move rfl) rfl rfl rfl ?_
 refine WQ.q (oq_ixaddr hr Tryz.underlying25 ty5 rfl rfl (by omega)) rfl rfl rfl ?_
 refine WQ.load_byte hr (.head _) flat5 rfl (by omega) rfl rfl fun c1_2 hc1_2 hc1_2l hc1_2u => ?_
 refine WQ.q (oq_conv Tryz.underlying5 Tryz.underlying115 rfl (by rw [u16_lo, u16_hi]; (first | omega | (simp only [List.length_cons, List.length_nil, List.length_append, List.length_drop, List.length_take]; omega)))) rfl rfl rfl ?_
 refine WQ.q (oq_shll 256 rfl rfl (by decide) (by decide) (by rw [u16_lo, u16_hi]; (first | omega | (simp only [List.length_cons, List.length_nil, List.length_append, List.length_drop, List.length_take]; omega)))) rfl rfl rfl ?_
 refine WQ.q (oq_move rfl) rfl rfl rfl ?_
 refine WQ.q (oq_ixaddr hr Tryz.underlying25 ty5 rfl rfl (by omega)) rfl rfl rfl ?_
 refine WQ.load_byte hr (.head _) flat5 rfl (by omega) rfl rfl fun c1_7 hc1_7 hc1_7l hc1_7u => ?_
 refine WQ.q (oq_conv Tryz.underlying5 Tryz.underlying115 rfl (by rw [u16_lo, u16_hi]; (first | omega | (simp only [List.length_cons, List.length_nil, List.length_append, List.length_drop, List.length_take]; omega)))) rfl rfl rfl ?_
 refine WQ.q (oq_orl 8 rfl rfl (by omega) (by omega) (by omega) (by rw [u16_hi]; omega)) rfl rfl rfl ?_
 refine WQ.q (oq_assign rfl) rfl rfl rfl ?_
 refine WQ.nil (WE.then_normal (WC.sub (fr' := [(2, _)]) ?_ ⟨rfl, trivial⟩))
 refine WC.ret ?_
 refine WE.endR (.inl rfl) (res1 Tryz.results71 rfl) ?_
 rw [h2, hc1_2, hc1_7]
theorem get32 (v : Value) (A : Hp) (l : List UInt8) (hr : RdS 1 v A l.length (bytesV l)) (hl : 4 ≤ l.length) : FnR Tryz.prog 58 [v] A (.int .u32 (nm (l.take 4) : Nat)) := by
 have hdl : (l.drop 2).length = l.length - 2 := List.length_drop
 obtain ⟨v2, hv2, hov⟩ := slice_val (i := 2) (j := (l.length : Int)) hr ty5 (by omega)
 have hr2 : RdS 1 v2 A (l.drop 2).length (bytesV (l.drop 2)) := by rw [hdl]; exact rd_at 2 (by omega) hv2
 have b1 : nm (l.take 2) < 65536 := nm_lt' (n := 2) (by rw [List.length_take]; omega)
 have b2 : nm ((l.drop 2).take 2) < 65536 := nm_lt' (n := 2) (by rw [List.length_take]; omega)
 have h4 := nm4 hl
 refine FnR.enter (n := 12) Tryz.func58 rfl rfl fun w0 => ?_
 refine WC.sub (fr' := [(0, _)]) ?_ ⟨rfl, trivial⟩
 refine WC.seq (WC.region ?_)
 refine WL.q (oq_assign rfl) rfl rfl rfl ?_
 refine WL.nil (WE.then_normal (WC.sub (fr' := [(0, _)]) ?_ ⟨rfl, trivial⟩))
 refine WC.seq (WC.quiet (by kernel_rfl) (by kernel_rfl) ?_)
 refine WQ.q (oq_move rfl) rfl rfl rfl ?_
 refine WQ.qc (oq_callRm (get16 v A l hr (by omega)) (by repeat (first | exact .head _ | apply List.Mem.tail)) call71 rfl) rfl rfl rfl ?_
 refine WQ.q (oq_conv Tryz.underlying115 Tryz.underlying75 rfl (by rw [u32_lo, u32_hi]; (first | omega | (simp only [List.length_cons, List.length_nil, List.length_append, List.length_drop, List.length_take]; omega)))) rfl rfl rfl ?_
 refine WQ.q (oq_shll 65536 rfl rfl (by decide) (by decide) (by rw [u32_lo, u32_hi]; (first | omega | (simp only [List.length_cons, List.length_nil, List.length_append, List.length_drop, List.length_take]; omega)))) rfl rfl rfl ?_
 refine WQ.q (oq_move rfl) rfl rfl rfl ?_
 refine WQ.q (hov Tryz.underlying25 rfl ⟨_, rfl⟩ rfl) rfl rfl rfl ?_
 refine WQ.qc (oq_callRm (get16 v2 A (l.drop 2) hr2 (by omega)) (by repeat (first | exact .head _ | apply List.Mem.tail)) call71 rfl) rfl rfl rfl ?_
 refine WQ.q (oq_conv Tryz.underlying115 Tryz.underlying75 rfl (by rw [u32_lo, u32_hi]; (first | omega | (simp only [List.length_cons, List.length_nil, List.length_append, List.length_drop, List.length_take]; omega)))) rfl rfl rfl ?_
 refine WQ.q (oq_orl 16 rfl rfl (by omega) (by omega) (by omega) (by rw [u32_hi]; omega)) rfl rfl rfl ?_
 refine WQ.q (oq_assign rfl) rfl rfl rfl ?_
 refine WQ.nil (WE.then_normal (WC.sub (fr' := [(2, _)]) ?_ ⟨rfl, trivial⟩))
 refine WC.ret ?_
 refine WE.endR (.inl rfl) (res1 Tryz.results58 rfl) ?_
 congr 1; rw [h4]; omega
theorem get64 (v : Value) (A : Hp) (l : List UInt8) (hr : RdS 1 v A l.length (bytesV l)) (hl : 8 ≤ l.length) : FnR Tryz.prog 78 [v] A (.int .u64 (nm (l.take 8) : Nat)) := by
 have hdl : (l.drop 4).length = l.length - 4 := List.length_drop
 obtain ⟨v2, hv2, hov⟩ := slice_val (i := 4) (j := (l.length : Int)) hr ty5 (by omega)
 have hr2 : RdS 1 v2 A (l.drop 4).length (bytesV (l.drop 4)) := by rw [hdl]; exact rd_at 4 (by omega) hv2
 have b1 : nm (l.take 4) < 4294967296 := nm_lt' (n := 4) (by rw [List.length_take]; omega)
 have b2 : nm ((l.drop 4).take 4) < 4294967296 := nm_lt' (n := 4) (by rw [List.length_take]; omega)
 have h4 := nm8 hl
 refine FnR.enter (n := 12) Tryz.func78 rfl rfl fun w0 => ?_
 refine WC.sub (fr' := [(0, _)]) ?_ ⟨rfl, trivial⟩
 refine WC.seq (WC.region ?_)
 refine WL.q (oq_assign rfl) rfl rfl rfl ?_
 refine WL.nil (WE.then_normal (WC.sub (fr' := [(0, _)]) ?_ ⟨rfl, trivial⟩))
 refine WC.seq (WC.quiet (by kernel_rfl) (by kernel_rfl) ?_)
 refine WQ.q (oq_move rfl) rfl rfl rfl ?_
 refine WQ.qc (oq_callRm (get32 v A l hr (by omega)) (by repeat (first | exact .head _ | apply List.Mem.tail)) call58 rfl) rfl rfl rfl ?_
 refine WQ.q (oq_conv Tryz.underlying75 Tryz.underlying112 rfl (by rw [u64_lo, u64_hi]; (first | omega | (simp only [List.length_cons, List.length_nil, List.length_append, List.length_drop, List.length_take]; omega)))) rfl rfl rfl ?_
 refine WQ.q (oq_shll 4294967296 rfl rfl (by decide) (by decide) (by rw [u64_lo, u64_hi]; (first | omega | (simp only [List.length_cons, List.length_nil, List.length_append, List.length_drop, List.length_take]; omega)))) rfl rfl rfl ?_
 refine WQ.q (oq_move rfl) rfl rfl rfl ?_
 refine WQ.q (hov Tryz.underlying25 rfl ⟨_, rfl⟩ rfl) rfl rfl rfl ?_
 refine WQ.qc (oq_callRm (get32 v2 A (l.drop 4) hr2 (by omega)) (by repeat (first | exact .head _ | apply List.Mem.tail)) call58 rfl) rfl rfl rfl ?_
 refine WQ.q (oq_conv Tryz.underlying75 Tryz.underlying112 rfl (by rw [u64_lo, u64_hi]; (first | omega | (simp only [List.length_cons, List.length_nil, List.length_append, List.length_drop, List.length_take]; omega)))) rfl rfl rfl ?_
 refine WQ.q (oq_orl 32 rfl rfl (by omega) (by omega) (by omega) (by rw [u64_hi]; omega)) rfl rfl rfl ?_
 refine WQ.q (oq_assign rfl) rfl rfl rfl ?_
 refine WQ.nil (WE.then_normal (WC.sub (fr' := [(2, _)]) ?_ ⟨rfl, trivial⟩))
 refine WC.ret ?_
 refine WE.endR (.inl rfl) (res1 Tryz.results78 rfl) ?_
 congr 1; rw [h4]; omega
theorem dec8 (base : Nat) (E : Hp) (kE : TypeId) (pE pU : Addr) (hS : Sn E kE pE pU) (k : TypeId) (r : Value) (f : FuncId) (Rt : List UInt8 → Hp → Prop) (hR : Rr base k r f E kE pE pU Rt) (rs : List UInt8) (X : Hp) (hX : Rt rs X) (hrs : rs.length ≤ 1000000) (hnb : AskNo Tryz.prog k 178) : FnW Tryz.prog 59 [.iface k r] base [X, E] (fun w Hs => ∃ X2 b, w = .tuple #[.int .u8 ((b : UInt8).toNat : Int), erv kE pE pU 0 (rdc 1 rs)] ∧ Hs = [X2, E] ∧ Rt (rs.drop 1) X2 ∧ (0 < rs.length → b = rs.getD 0 0)) := by
 refine FnW.enter (n := 33) Tryz.func59 rfl rfl fun w0 R0 hbase => ?_
 subst hbase
 show WC _ _ _ _ _ _ _ ([X, E, R0])
 refine WC.sub (fr' := [(0, _)]) ?_ ⟨rfl, trivial⟩
 refine WC.seq (WC.region ?_)
 refine WL.q (oq_assign rfl) rfl rfl rfl ?_
 refine WL.q (oq_assign rfl) rfl rfl rfl ?_
 refine WL.nil (WE.then_normal (WC.sub (fr' := [(0, _)]) ?_ ⟨rfl, trivial⟩))
 refine WC.seq (WC.seq (WC.region ?_))
 refine WL.q (oq_move rfl) rfl rfl rfl ?_
 refine WL.q (oq_askNo hnb rfl) rfl rfl rfl ?_
 refine WL.q (oq_move rfl) rfl rfl rfl ?_
 refine WL.q (oq_extract rfl rfl) rfl rfl rfl ?_
 refine WL.q (oq_extract rfl rfl) rfl rfl rfl ?_
 refine WL.q (oq_assign rfl) rfl rfl rfl ?_
 refine WL.q (oq_assign rfl) rfl rfl rfl ?_
 refine WL.nil (WE.then_normal (WC.sub (fr' := [(0, _), (4, _), (5, _)]) ?_ ⟨rfl, rfl, rfl, trivial⟩))
 refine WC.seq (WC.region ?_)
 refine WL.q (oq_move rfl) rfl rfl rfl ?_
 refine WL.nil (WE.then_normal (WC.sub (fr' := [(0, _), (4, _), (16, _)]) ?_ ⟨rfl, rfl, rfl, trivial⟩))
 refine WC.cond rfl (fun q2 => ?_) (fun q2 => ?_)
 ·
  try simp only [Z1, Z2, Z3, Z4, Z5, Z6, Z7, Z8, Z9, Z0] at q2
  first | contradiction | (exfalso; omega) | (exfalso; simp_all; done)
 ·
  try simp only [Z1, Z2, Z3, Z4, Z5, Z6, Z7, Z8, Z9, Z0] at q2
  refine WC.skip (WE.then_normal (WC.sub (fr' := [(0, _)]) ?_ ⟨rfl, trivial⟩))
  refine WC.seq (WC.region ?_)
  refine WL.alloc ty181 rfl rfl fun xb hxb => ?_
  refine WL.asB (List.replicate 1 0) rfl ?_
  refine WL.nil (WE.then_normal (WC.sub (fr' := [(0, _), (8, _)]) ?_ ⟨rfl, rfl, trivial⟩))
  refine WC.seq (WC.region ?_)
  refine WL.q (oq_move rfl) rfl rfl rfl ?_
  refine WL.q (oq_sliceArr Tryz.underlying181 ty5 rfl rfl rfl (by (first | omega | (simp; done) | (rw [putB_len (by simp; omega)]; simp))) (by (first | omega | (simp; done) | (rw [putB_len (by simp; omega)]; simp)))) rfl rfl rfl ?_
  refine WL.f2 ?_
  refine WL.f1 ?_
  refine WL.f2 ?_
  refine WL.callW3 (readFull _ E kE pE pU hS k r f Rt hR xb 0 1 1 _ (List.replicate 1 0) (by simp) (by omega) (by simp; try omega) rs X hX hrs) call57 rfl rfl rfl fun v6_2 Hs6_2 hR6_2 => ?_
  obtain ⟨X2, vn, rfl, rfl, hX2⟩ := hR6_2
  refine WL.to3 ?_
  refine WL.q (oq_move rfl) rfl rfl rfl ?_
  refine WL.q (oq_extract rfl rfl) rfl rfl rfl ?_
  refine WL.q (oq_extract rfl rfl) rfl rfl rfl ?_
  refine WL.q (oq_assign rfl) rfl rfl rfl ?_
  refine WL.q (oq_assign rfl) rfl rfl rfl ?_
  refine WL.nil (WE.then_normal (WC.sub (fr' := [(8, _), (10, _)]) ?_ ⟨rfl, rfl, trivial⟩))
  refine WC.seq (WC.region ?_)
  refine WL.q (oq_ixArr (i := 0) Tryz.underlying181 ty5 rfl rfl (by (first | omega | (simp; done) | (rw [putB_len (by simp; omega)]; simp)))) rfl rfl rfl ?_
  refine WL.loadB flat5 rfl (.tail _ (.head _)) (by (first | omega | (simp; done) | (rw [putB_len (by simp; omega)]; simp))) rfl rfl fun c7_1 hc7_1 hc7_1l hc7_1u => ?_
  refine WL.q (oq_move rfl) rfl rfl rfl ?_
  refine WL.q (oq_assign rfl) rfl rfl rfl ?_
  refine WL.q (oq_assign rfl) rfl rfl rfl ?_
  refine WL.nil (WE.then_normal (WC.sub (fr' := [(2, _), (3, _)]) ?_ ⟨rfl, rfl, trivial⟩))
  refine WC.ret ?_
  refine WE.f1 ?_
  refine WE.lose hxb ?_
  refine WE.endW2 (.inl rfl) (res2 Tryz.results59 rfl rfl) ?_
  refine ⟨X2, (putB (List.replicate 1 0) 0 (rs.take 1)).getD 0 0, by rw [hc7_1]; rfl, rfl, hX2, fun h => ?_⟩
  rw [put_take (by omega)]
  match rs, h with
  | a :: _, _ => rfl
theorem dec16 (base : Nat) (E : Hp) (kE : TypeId) (pE pU : Addr) (hS : Sn E kE pE pU) (k : TypeId) (r : Value) (f : FuncId) (Rt : List UInt8 → Hp → Prop) (hR : Rr base k r f E kE pE pU Rt) (rs : List UInt8) (X : Hp) (hX : Rt rs X) (hrs : rs.length ≤ 1000000) : FnW Tryz.prog 72 [.iface k r] base [X, E] (fun w Hs => ∃ X2 x, w = .tuple #[.int .u16 ((x : Nat) : Int), erv kE pE pU 0 (rdc 2 rs)] ∧ Hs = [X2, E] ∧ Rt (rs.drop 2) X2 ∧ (2 ≤ rs.length → x = nm (rs.take 2)) ∧ x < 65536) := by
 refine FnW.enter (n := 20) Tryz.func72 rfl rfl fun w0 R0 hbase => ?_
 subst hbase
 show WC _ _ _ _ _ _ _ ([X, E, R0])
 refine WC.sub (fr' := [(0, _)]) ?_ ⟨rfl, trivial⟩
 refine WC.seq (WC.region ?_)
 refine WL.q (oq_assign rfl) rfl rfl rfl ?_
 refine WL.q (oq_assign rfl) rfl rfl rfl ?_
 refine WL.nil (WE.then_normal (WC.sub (fr' := [(0, _)]) ?_ ⟨rfl, trivial⟩))
 refine WC.seq (WC.region ?_)
 refine WL.alloc ty199 rfl rfl fun xb hxb => ?_
 refine WL.asB (List.replicate 2 0) rfl ?_
 refine WL.nil (WE.then_normal (WC.sub (fr' := [(0, _), (4, _)]) ?_ ⟨rfl, rfl, trivial⟩))
 refine WC.seq (WC.region ?_)
 refine WL.q (oq_sliceArr Tryz.underlying199 ty5 rfl rfl rfl (by (first | omega | (simp; done))) (by (first | omega | (simp; done)))) rfl rfl rfl ?_
 refine WL.q (oq_assign rfl) rfl rfl rfl ?_
 refine WL.nil (WE.then_normal (WC.sub (fr' := [(0, _), (5, _)]) ?_ ⟨rfl, rfl, trivial⟩))
 refine WC.seq (WC.region ?_)
 refine WL.q (oq_move rfl) rfl rfl rfl ?_
 refine WL.q (oq_move rfl) rfl rfl rfl ?_
 refine WL.f2 ?_
 refine WL.f1 ?_
 refine WL.f2 ?_
 refine WL.callW3 (readFull _ E kE pE pU hS k r f Rt hR xb 0 2 2 _ (List.replicate 2 0) (by simp) (by omega) (by simp; try omega) rs X hX hrs) call57 rfl rfl rfl fun v3_2 Hs3_2 hR3_2 => ?_
 obtain ⟨X2, vn, rfl, rfl, hX2⟩ := hR3_2
 refine WL.to3 ?_
 refine WL.q (oq_move rfl) rfl rfl rfl ?_
 refine WL.q (oq_extract rfl rfl) rfl rfl rfl ?_
 refine WL.q (oq_extract rfl rfl) rfl rfl rfl ?_
 refine WL.q (oq_assign rfl) rfl rfl rfl ?_
 refine WL.q (oq_assign rfl) rfl rfl rfl ?_
 refine WL.nil (WE.then_normal (WC.sub (fr' := [(5, _), (7, _)]) ?_ ⟨rfl, rfl, trivial⟩))
 refine WC.seq (WC.seq (WC.region ?_))
 refine WL.q (oq_move rfl) rfl rfl rfl ?_
 refine WL.q (oq_ineq Tryz.underlying41 rfl (erv_or _ _ _ _ _)) rfl rfl rfl ?_
 refine WL.nil (WE.then_normal (WC.sub (fr' := [(5, _), (7, _), (16, _)]) ?_ ⟨rfl, rfl, rfl, trivial⟩))
 refine WC.cond rfl (fun q4 => ?_) (fun q4 => ?_)
 ·
  try simp only [Z1, Z2, Z3, Z4, Z5, Z6, Z7, Z8, Z9, Z0] at q4
  refine WC.seq (WC.region ?_)
  refine WL.q (oq_move rfl) rfl rfl rfl ?_
  refine WL.q (oq_assign rfl) rfl rfl rfl ?_
  refine WL.q (oq_assign rfl) rfl rfl rfl ?_
  refine WL.nil (WE.then_normal (WC.sub (fr' := [(2, _), (3, _)]) ?_ ⟨rfl, rfl, trivial⟩))
  refine WC.ret (WE.then_ret ?_)
  refine WE.f1 ?_
  refine WE.lose hxb ?_
  refine WE.endW2 (.inl rfl) (res2 Tryz.results72 rfl rfl) ?_
  have hne := rdcN (ervN (by simpa using q4))
  exact ⟨X2, 0, rfl, rfl, hX2, fun h => (by omega), by decide⟩
 ·
  try simp only [Z1, Z2, Z3, Z4, Z5, Z6, Z7, Z8, Z9, Z0] at q4
  refine WC.skip (WE.then_normal (WC.sub (fr' := [(5, _)]) ?_ ⟨rfl, trivial⟩))
  refine WC.seq ?_
  have hle : 2 ≤ rs.length := rdc0 (erv0 (by simpa using q4))
  rw [put_take hle]
  have htl : (rs.take 2).length = 2 := by rw [List.length_take]; omega
  have hrd : RdS 1 (Sl xb (0 + 0) (2 - 0) (2 - 0)) (Bf xb 199 (rs.take 2)) (rs.take 2).length (bytesV (rs.take 2)) := by
   exact rd_whole htl
  have hrc := rdc_le hle
  refine WC.region ?_
  refine WL.q (oq_move rfl) rfl rfl rfl ?_
  refine WL.qc (oq_callRm (get16 _ _ (rs.take 2) hrd (by omega)) (.tail _ (.head _)) call71 rfl) rfl rfl rfl ?_
  refine WL.q (oq_assign rfl) rfl rfl rfl ?_
  refine WL.q (oq_assign rfl) rfl rfl rfl ?_
  refine WL.nil (WE.then_normal (WC.sub (fr' := [(2, _), (3, _)]) ?_ ⟨rfl, rfl, trivial⟩))
  refine WC.ret ?_
  refine WE.f1 ?_
  refine WE.lose hxb ?_
  refine WE.endW2 (.inl rfl) (res2 Tryz.results72 rfl rfl) ?_
  rw [hrc]
  exact ⟨X2, _, rfl, rfl, hX2, fun _ => by rw [List.take_take, Nat.min_self], nm_lt' (n := 2) (by rw [List.length_take]; omega)⟩
theorem dec32 (base : Nat) (E : Hp) (kE : TypeId) (pE pU : Addr) (hS : Sn E kE pE pU) (k : TypeId) (r : Value) (f : FuncId) (Rt : List UInt8 → Hp → Prop) (hR : Rr base k r f E kE pE pU Rt) (rs : List UInt8) (X : Hp) (hX : Rt rs X) (hrs : rs.length ≤ 1000000) : FnW Tryz.prog 51 [.iface k r] base [X, E] (fun w Hs => ∃ X2 x, w = .tuple #[.int .u32 ((x : Nat) : Int), erv kE pE pU 0 (rdc 4 rs)] ∧ Hs = [X2, E] ∧ Rt (rs.drop 4) X2 ∧ (4 ≤ rs.length → x = nm (rs.take 4)) ∧ x < 4294967296) := by
 refine FnW.enter (n := 20) Tryz.func51 rfl rfl fun w0 R0 hbase => ?_
 subst hbase
 show WC _ _ _ _ _ _ _ ([X, E, R0])
 refine WC.sub (fr' := [(0, _)]) ?_ ⟨rfl, trivial⟩
 refine WC.seq (WC.region ?_)
 refine WL.q (oq_assign rfl) rfl rfl rfl ?_
 refine WL.q (oq_assign rfl) rfl rfl rfl ?_
 refine WL.nil (WE.then_normal (WC.sub (fr' := [(0, _)]) ?_ ⟨rfl, trivial⟩))
 refine WC.seq (WC.region ?_)
 refine WL.alloc ty164 rfl rfl fun xb hxb => ?_
 refine WL.asB (List.replicate 4 0) rfl ?_
 refine WL.nil (WE.then_normal (WC.sub (fr' := [(0, _), (4, _)]) ?_ ⟨rfl, rfl, trivial⟩))
 refine WC.seq (WC.region ?_)
 refine WL.q (oq_sliceArr Tryz.underlying164 ty5 rfl rfl rfl (by (first | omega | (simp; done))) (by (first | omega | (simp; done)))) rfl rfl rfl ?_
 refine WL.q (oq_assign rfl) rfl rfl rfl ?_
 refine WL.nil (WE.then_normal (WC.sub (fr' := [(0, _), (5, _)]) ?_ ⟨rfl, rfl, trivial⟩))
 refine WC.seq (WC.region ?_)
 refine WL.q (oq_move rfl) rfl rfl rfl ?_
 refine WL.q (oq_move rfl) rfl rfl rfl ?_
 refine WL.f2 ?_
 refine WL.f1 ?_
 refine WL.f2 ?_
 refine WL.callW3 (readFull _ E kE pE pU hS k r f Rt hR xb 0 4 4 _ (List.replicate 4 0) (by simp) (by omega) (by simp; try omega) rs X hX hrs) call57 rfl rfl rfl fun v3_2 Hs3_2 hR3_2 => ?_
 obtain ⟨X2, vn, rfl, rfl, hX2⟩ := hR3_2
 refine WL.to3 ?_
 refine WL.q (oq_move rfl) rfl rfl rfl ?_
 refine WL.q (oq_extract rfl rfl) rfl rfl rfl ?_
 refine WL.q (oq_extract rfl rfl) rfl rfl rfl ?_
 refine WL.q (oq_assign rfl) rfl rfl rfl ?_
 refine WL.q (oq_assign rfl) rfl rfl rfl ?_
 refine WL.nil (WE.then_normal (WC.sub (fr' := [(5, _), (7, _)]) ?_ ⟨rfl, rfl, trivial⟩))
 refine WC.seq (WC.seq (WC.region ?_))
 refine WL.q (oq_move rfl) rfl rfl rfl ?_
 refine WL.q (oq_ineq Tryz.underlying41 rfl (erv_or _ _ _ _ _)) rfl rfl rfl ?_
 refine WL.nil (WE.then_normal (WC.sub (fr' := [(5, _), (7, _), (16, _)]) ?_ ⟨rfl, rfl, rfl, trivial⟩))
 refine WC.cond rfl (fun q4 => ?_) (fun q4 => ?_)
 ·
  try simp only [Z1, Z2, Z3, Z4, Z5, Z6, Z7, Z8, Z9, Z0] at q4
  refine WC.seq (WC.region ?_)
  refine WL.q (oq_move rfl) rfl rfl rfl ?_
  refine WL.q (oq_assign rfl) rfl rfl rfl ?_
  refine WL.q (oq_assign rfl) rfl rfl rfl ?_
  refine WL.nil (WE.then_normal (WC.sub (fr' := [(2, _), (3, _)]) ?_ ⟨rfl, rfl, trivial⟩))
  refine WC.ret (WE.then_ret ?_)
  refine WE.f1 ?_
  refine WE.lose hxb ?_
  refine WE.endW2 (.inl rfl) (res2 Tryz.results51 rfl rfl) ?_
  have hne := rdcN (ervN (by simpa using q4))
  exact ⟨X2, 0, rfl, rfl, hX2, fun h => (by omega), by decide⟩
 ·
  try simp only [Z1, Z2, Z3, Z4, Z5, Z6, Z7, Z8, Z9, Z0] at q4
  refine WC.skip (WE.then_normal (WC.sub (fr' := [(5, _)]) ?_ ⟨rfl, trivial⟩))
  refine WC.seq ?_
  have hle : 4 ≤ rs.length := rdc0 (erv0 (by simpa using q4))
  rw [put_take hle]
  have htl : (rs.take 4).length = 4 := by rw [List.length_take]; omega
  have hrd : RdS 1 (Sl xb (0 + 0) (4 - 0) (4 - 0)) (Bf xb 164 (rs.take 4)) (rs.take 4).length (bytesV (rs.take 4)) := by
   exact rd_whole htl
  have hrc := rdc_le hle
  refine WC.region ?_
  refine WL.q (oq_move rfl) rfl rfl rfl ?_
  refine WL.qc (oq_callRm (get32 _ _ (rs.take 4) hrd (by omega)) (.tail _ (.head _)) call58 rfl) rfl rfl rfl ?_
  refine WL.q (oq_assign rfl) rfl rfl rfl ?_
  refine WL.q (oq_assign rfl) rfl rfl rfl ?_
  refine WL.nil (WE.then_normal (WC.sub (fr' := [(2, _), (3, _)]) ?_ ⟨rfl, rfl, trivial⟩))
  refine WC.ret ?_
  refine WE.f1 ?_
  refine WE.lose hxb ?_
  refine WE.endW2 (.inl rfl) (res2 Tryz.results51 rfl rfl) ?_
  rw [hrc]
  exact ⟨X2, _, rfl, rfl, hX2, fun _ => by rw [List.take_take, Nat.min_self], nm_lt' (n := 4) (by rw [List.length_take]; omega)⟩
theorem dec64 (base : Nat) (E : Hp) (kE : TypeId) (pE pU : Addr) (hS : Sn E kE pE pU) (k : TypeId) (r : Value) (f : FuncId) (Rt : List UInt8 → Hp → Prop) (hR : Rr base k r f E kE pE pU Rt) (rs : List UInt8) (X : Hp) (hX : Rt rs X) (hrs : rs.length ≤ 1000000) : FnW Tryz.prog 73 [.iface k r] base [X, E] (fun w Hs => ∃ X2 x, w = .tuple #[.int .u64 ((x : Nat) : Int), erv kE pE pU 0 (rdc 8 rs)] ∧ Hs = [X2, E] ∧ Rt (rs.drop 8) X2 ∧ (8 ≤ rs.length → x = nm (rs.take 8)) ∧ x < 18446744073709551616) := by
 refine FnW.enter (n := 20) Tryz.func73 rfl rfl fun w0 R0 hbase => ?_
 subst hbase
 show WC _ _ _ _ _ _ _ ([X, E, R0])
 refine WC.sub (fr' := [(0, _)]) ?_ ⟨rfl, trivial⟩
 refine WC.seq (WC.region ?_)
 refine WL.q (oq_assign rfl) rfl rfl rfl ?_
 refine WL.q (oq_assign rfl) rfl rfl rfl ?_
 refine WL.nil (WE.then_normal (WC.sub (fr' := [(0, _)]) ?_ ⟨rfl, trivial⟩))
 refine WC.seq (WC.region ?_)
 refine WL.alloc ty200 rfl rfl fun xb hxb => ?_
 refine WL.asB (List.replicate 8 0) rfl ?_
 refine WL.nil (WE.then_normal (WC.sub (fr' := [(0, _), (4, _)]) ?_ ⟨rfl, rfl, trivial⟩))
 refine WC.seq (WC.region ?_)
 refine WL.q (oq_sliceArr Tryz.underlying200 ty5 rfl rfl rfl (by (first | omega | (simp; done))) (by (first | omega | (simp; done)))) rfl rfl rfl ?_
 refine WL.q (oq_assign rfl) rfl rfl rfl ?_
 refine WL.nil (WE.then_normal (WC.sub (fr' := [(0, _), (5, _)]) ?_ ⟨rfl, rfl, trivial⟩))
 refine WC.seq (WC.region ?_)
 refine WL.q (oq_move rfl) rfl rfl rfl ?_
 refine WL.q (oq_move rfl) rfl rfl rfl ?_
 refine WL.f2 ?_
 refine WL.f1 ?_
 refine WL.f2 ?_
 refine WL.callW3 (readFull _ E kE pE pU hS k r f Rt hR xb 0 8 8 _ (List.replicate 8 0) (by simp) (by omega) (by simp; try omega) rs X hX hrs) call57 rfl rfl rfl fun v3_2 Hs3_2 hR3_2 => ?_
 obtain ⟨X2, vn, rfl, rfl, hX2⟩ := hR3_2
 refine WL.to3 ?_
 refine WL.q (oq_move rfl) rfl rfl rfl ?_
 refine WL.q (oq_extract rfl rfl) rfl rfl rfl ?_
 refine WL.q (oq_extract rfl rfl) rfl rfl rfl ?_
 refine WL.q (oq_assign rfl) rfl rfl rfl ?_
 refine WL.q (oq_assign rfl) rfl rfl rfl ?_
 refine WL.nil (WE.then_normal (WC.sub (fr' := [(5, _), (7, _)]) ?_ ⟨rfl, rfl, trivial⟩))
 refine WC.seq (WC.seq (WC.region ?_))
 refine WL.q (oq_move rfl) rfl rfl rfl ?_
 refine WL.q (oq_ineq Tryz.underlying41 rfl (erv_or _ _ _ _ _)) rfl rfl rfl ?_
 refine WL.nil (WE.then_normal (WC.sub (fr' := [(5, _), (7, _), (16, _)]) ?_ ⟨rfl, rfl, rfl, trivial⟩))
 refine WC.cond rfl (fun q4 => ?_) (fun q4 => ?_)
 ·
  try simp only [Z1, Z2, Z3, Z4, Z5, Z6, Z7, Z8, Z9, Z0] at q4
  refine WC.seq (WC.region ?_)
  refine WL.q (oq_move rfl) rfl rfl rfl ?_
  refine WL.q (oq_assign rfl) rfl rfl rfl ?_
  refine WL.q (oq_assign rfl) rfl rfl rfl ?_
  refine WL.nil (WE.then_normal (WC.sub (fr' := [(2, _), (3, _)]) ?_ ⟨rfl, rfl, trivial⟩))
  refine WC.ret (WE.then_ret ?_)
  refine WE.f1 ?_
  refine WE.lose hxb ?_
  refine WE.endW2 (.inl rfl) (res2 Tryz.results73 rfl rfl) ?_
  have hne := rdcN (ervN (by simpa using q4))
  exact ⟨X2, 0, rfl, rfl, hX2, fun h => (by omega), by decide⟩
 ·
  try simp only [Z1, Z2, Z3, Z4, Z5, Z6, Z7, Z8, Z9, Z0] at q4
  refine WC.skip (WE.then_normal (WC.sub (fr' := [(5, _)]) ?_ ⟨rfl, trivial⟩))
  refine WC.seq ?_
  have hle : 8 ≤ rs.length := rdc0 (erv0 (by simpa using q4))
  rw [put_take hle]
  have htl : (rs.take 8).length = 8 := by rw [List.length_take]; omega
  have hrd : RdS 1 (Sl xb (0 + 0) (8 - 0) (8 - 0)) (Bf xb 200 (rs.take 8)) (rs.take 8).length (bytesV (rs.take 8)) := by
   exact rd_whole htl
  have hrc := rdc_le hle
  refine WC.region ?_
  refine WL.q (oq_move rfl) rfl rfl rfl ?_
  refine WL.qc (oq_callRm (get64 _ _ (rs.take 8) hrd (by omega)) (.tail _ (.head _)) call78 rfl) rfl rfl rfl ?_
  refine WL.q (oq_assign rfl) rfl rfl rfl ?_
  refine WL.q (oq_assign rfl) rfl rfl rfl ?_
  refine WL.nil (WE.then_normal (WC.sub (fr' := [(2, _), (3, _)]) ?_ ⟨rfl, rfl, trivial⟩))
  refine WC.ret ?_
  refine WE.f1 ?_
  refine WE.lose hxb ?_
  refine WE.endW2 (.inl rfl) (res2 Tryz.results73 rfl rfl) ?_
  rw [hrc]
  exact ⟨X2, _, rfl, rfl, hX2, fun _ => by rw [List.take_take, Nat.min_self], nm_lt' (n := 8) (by rw [List.length_take]; omega)⟩
end DE
end Go.Proofs.YtpjeiimlglgklaaGreatDoor
/- Values that are read. -/
namespace Go.Proofs.YtpjeiimlglgklaaGreatDoor
open Go Go.RowKit V EA EB EC ED EL DC DD DA DE EE EH EI EJ
set_option linter.unusedSimpArgs false
set_option linter.unusedVariables false
set_option maxRecDepth 10000
namespace DF
theorem call50 : Callable Tryz.prog 50 := ⟨_, Tryz.func50, rfl, by kernel_rfl⟩
theorem call51 : Callable Tryz.prog 51 := ⟨_, Tryz.func51, rfl, by kernel_rfl⟩
theorem call57 : Callable Tryz.prog 57 := ⟨_, Tryz.func57, rfl, by kernel_rfl⟩
theorem call59 : Callable Tryz.prog 59 := ⟨_, Tryz.func59, rfl, by kernel_rfl⟩
theorem call72 : Callable Tryz.prog 72 := ⟨_, Tryz.func72, rfl, by kernel_rfl⟩
theorem call73 : Callable Tryz.prog 73 := ⟨_, Tryz.func73, rfl, by kernel_rfl⟩
theorem call74 : Callable Tryz.prog 74 := ⟨_, Tryz.func74, rfl, by kernel_rfl⟩
theorem call75 : Callable Tryz.prog 75 := ⟨_, Tryz.func75, rfl, by kernel_rfl⟩
theorem call76 : Callable Tryz.prog 76 := ⟨_, Tryz.func76, rfl, by kernel_rfl⟩
theorem call77 : Callable Tryz.prog 77 := ⟨_, Tryz.func77, rfl, by kernel_rfl⟩
theorem call79 : Callable Tryz.prog 79 := ⟨_, Tryz.func79, rfl, by kernel_rfl⟩
theorem call80 : Callable Tryz.prog 80 := ⟨_, Tryz.func80, rfl, by kernel_rfl⟩
theorem flat115 : Flat Tryz.prog 115 := ⟨_, Tryz.underlying115, by simp⟩
theorem ty3 : Ty Tryz.prog 3 (.int .i64 0) 1 8 := ty_of (by kernel_rfl)
theorem ty5 : Ty Tryz.prog 5 (.int .u8 0) 1 1 := ty_of (by kernel_rfl)
theorem ty9 : Ty Tryz.prog 9 (S []) 1 16 := ty_of (by kernel_rfl)
theorem ty114 : Ty Tryz.prog 114 (.int .i8 0) 1 1 := ty_of (by kernel_rfl)
theorem ty115 : Ty Tryz.prog 115 (.int .u16 0) 1 2 := ty_of (by kernel_rfl)
theorem ty117 : Ty Tryz.prog 117 (.int .i16 0) 1 2 := ty_of (by kernel_rfl)
theorem ty118 : Ty Tryz.prog 118 (.int .i32 0) 1 4 := ty_of (by kernel_rfl)
theorem ty119 : Ty Tryz.prog 119 (.int .i64 0) 1 8 := ty_of (by kernel_rfl)
theorem ty120 : Ty Tryz.prog 120 (.slice none 0 0) 1 24 := ty_of (by kernel_rfl)
theorem ty121 : Ty Tryz.prog 121 (S []) 1 16 := ty_of (by kernel_rfl)
theorem ty123 : Ty Tryz.prog 123 (.agg #[(.int .i64 0), (.int .i32 0), (S []), (.int .i64 0)]) 4 40 := ty_of (by kernel_rfl)
theorem ty124 : Ty Tryz.prog 124 (.agg #[(.int .i64 0), (.int .i32 0), (S []), (.int .i64 0)]) 4 40 := ty_of (by kernel_rfl)
theorem ty170 : Ty Tryz.prog 170 (.agg #[(.int .u8 0), (.int .u16 0), (.slice none 0 0)]) 3 32 := ty_of (by kernel_rfl)
theorem ty198 : Ty Tryz.prog 198 (.agg #[(S [])]) 1 16 := ty_of (by kernel_rfl)
theorem conc196 : Conc Tryz.prog 196 := ⟨_, Tryz.underlying196, by simp⟩
theorem agg124 : Agg Tryz.prog 124 := agg_of Tryz.underlying124
theorem str124 : Str Tryz.prog 124 #[(0, 1), (1, 1), (2, 1), (3, 1)] := ⟨_, Tryz.underlying124, fun w => by kernel_rfl⟩
theorem str198 : Str Tryz.prog 198 #[(0, 1)] := ⟨_, Tryz.underlying198, fun w => by kernel_rfl⟩
theorem fld124_2 : Fld Tryz.prog 124 2 2 9 := fld_of Tryz.underlying124 rfl rfl rfl ty9 (by decide)
theorem fld124_3 : Fld Tryz.prog 124 3 3 3 := fld_of Tryz.underlying124 rfl rfl rfl ty3 (by decide)
theorem fld170_1 : Fld Tryz.prog 170 1 1 115 := fld_of Tryz.underlying170 rfl rfl rfl ty115 (by decide)
def VBk (h : HV) (v : Value) (N : Hp) : Prop :=
 (h.kind = 0 ∧ h.width = 0 ∧ h.text = [] ∧ (h.int = 0 ∨ h.int = 1) ∧ v = .iface 128 (.bool (decide (h.int = 1)))) ∨
 (h.kind = 1 ∧ h.text = [] ∧ h.width = 8 ∧ (-128 ≤ h.int ∧ h.int ≤ 127) ∧ v = .iface 114 (.int .i8 h.int)) ∨
 (h.kind = 1 ∧ h.text = [] ∧ h.width = 16 ∧ (-32768 ≤ h.int ∧ h.int ≤ 32767) ∧ v = .iface 117 (.int .i16 h.int)) ∨
 (h.kind = 1 ∧ h.text = [] ∧ h.width = 32 ∧ (-2147483648 ≤ h.int ∧ h.int ≤ 2147483647) ∧ v = .iface 118 (.int .i32 h.int)) ∨
 (h.kind = 1 ∧ h.text = [] ∧ h.width = 64 ∧ (-9223372036854775808 ≤ h.int ∧ h.int ≤ 9223372036854775807) ∧ v = .iface 119 (.int .i64 h.int)) ∨
 (h.kind = 2 ∧ h.width = 0 ∧ h.int = 0 ∧ ∃ s, v = .iface 120 s ∧ RdS 1 s N h.text.length (bytesV h.text)) ∨
 (h.kind = 3 ∧ h.width = 0 ∧ h.int = 0 ∧ v = .iface 121 (S h.text)) ∨
 (h.kind = 4 ∧ h.width = 0 ∧ h.text = [] ∧ (-9223372036854775808 ≤ h.int ∧ h.int ≤ 9223372036854775807) ∧ v = .iface 123 (msV h.int)) ∨
 (h.kind = 5 ∧ h.width = 0 ∧ h.int = 0 ∧ h.text.length = 16 ∧ v = .iface 127 (.agg (bytesV h.text).toArray))
theorem VBk.weaken {h : HV} {v : Value} {A C : Hp} (hv : VBk h v A) (hs : ∀ x ∈ A, x ∈ C) : VBk h v C := by
 rcases hv with h | h | h | h | h | ⟨h1, h2, h3, s, h4, h5⟩ | h | h | h
 ·exact .inl h
 ·exact .inr (.inl h)
 ·exact .inr (.inr (.inl h))
 ·exact .inr (.inr (.inr (.inl h)))
 ·exact .inr (.inr (.inr (.inr (.inl h))))
 ·exact .inr (.inr (.inr (.inr (.inr (.inl ⟨h1, h2, h3, s, h4, h5.weaken hs⟩)))))
 ·exact .inr (.inr (.inr (.inr (.inr (.inr (.inl h))))))
 ·exact .inr (.inr (.inr (.inr (.inr (.inr (.inr (.inl h)))))))
 ·exact .inr (.inr (.inr (.inr (.inr (.inr (.inr (.inr h)))))))
theorem wrap_bnd (k : IntKind) (i : Int) : k.min ≤ k.wrap i ∧ k.wrap i ≤ k.max := by
 cases k <;> simp only [IntKind.wrap, IntKind.signed, IntKind.bits, IntKind.min, IntKind.max, Bool.true_and, Bool.false_and, decide_eq_true_eq] <;> split <;> (try contradiction) <;> simp at * <;> omega
def ValR (base : Nat) (kE : TypeId) (pE pU : Addr) (E : Hp) (Rt : List UInt8 → Hp → Prop) (R : VR) (w : Value) (Hs : List Hp) : Prop :=
 ∃ X2 N v c ob, w = .tuple #[v, erv kE pE pU ob c] ∧ Hs = [X2, N, E] ∧ (∀ b o, (b, o) ∈ N → base ≤ b) ∧ match R with
  | .short => (c = 1 ∨ c = 2) ∧ ∃ rs', Rt rs' X2
  | .other => c = 5 ∧ (∃ cs t, (ob, .cells cs t (0, 0)) ∈ N) ∧ ∃ rs', Rt rs' X2
  | .ok kd wd i t r' => c = 0 ∧ VBk ⟨[], kd, wd, i, t⟩ v N ∧ Rt r' X2
def hval (rs : List UInt8) : VR := if rs = [] then .short else val (rs.getD 0 0) (rs.drop 1)
theorem hval_of {rs : List UInt8} {b : UInt8} (h : 0 < rs.length) (hb : b = rs.getD 0 0) : hval rs = val b (rs.drop 1) := by
 unfold hval; rw [if_neg (fun e => by rw [e] at h; simp at h), hb]
theorem u8n {b : UInt8} {n : Nat} (hn : n < 256) (h : (b.toNat : Int) = (n : Int)) : b = UInt8.ofNat n := by
 apply UInt8.toNat_inj.1; rw [UInt8.toNat_ofNat']; omega
theorem val_big {b : UInt8} {r : List UInt8} (h : 9 < b.toNat) : val b r = .other := by
 have ne : ∀ n : Nat, n ≤ 9 → b ≠ UInt8.ofNat n := fun n hn e => by rw [e, UInt8.toNat_ofNat'] at h; omega
 unfold val
 rw [if_neg (show b ≠ 0 from ne 0 (by decide)), if_neg (show b ≠ 1 from ne 1 (by decide)), if_neg (show b ≠ 2 from ne 2 (by decide)), if_neg (show b ≠ 3 from ne 3 (by decide)), if_neg (show b ≠ 4 from ne 4 (by decide)), if_neg (show b ≠ 5 from ne 5 (by decide)), if_neg (show b ≠ 6 from ne 6 (by decide)), if_neg (show b ≠ 7 from ne 7 (by decide)), if_neg (show b ≠ 8 from ne 8 (by decide)), if_neg (show b ≠ 9 from ne 9 (by decide))]
theorem vInt_n {w : Nat} {ik : IntKind} {r : List UInt8} : (∀ h : r.length < w, vInt w ik r = .short) ∧ (w ≤ r.length → vInt w ik r = .ok 1 (8 * w) (ik.wrap (nm (r.take w))) [] (r.drop w)) := ⟨fun h => if_pos h, fun h => if_neg (by omega)⟩
def DBR (base : Nat) (kE : TypeId) (pE pU : Addr) (E : Hp) (Rt : List UInt8 → Hp → Prop) (rs : List UInt8) (W : Value → List UInt8 → Nat → Value → Prop) (w : Value) (Hs : List Hp) : Prop :=
 ∃ X2 N sv c t, W w t c sv ∧ Hs = [X2, N, E] ∧ (∀ b o, (b, o) ∈ N → base ≤ b) ∧ RdS 1 sv N t.length (bytesV t) ∧
  ((c = 0 ∧ 2 ≤ rs.length ∧ nm (rs.take 2) ≤ (rs.drop 2).length ∧ t = (rs.drop 2).take (nm (rs.take 2)) ∧ Rt ((rs.drop 2).drop (nm (rs.take 2))) X2) ∨ ((c = 1 ∨ c = 2) ∧ (rs.length < 2 ∨ (rs.drop 2).length < nm (rs.take 2)) ∧ t = [] ∧ ∃ rs', Rt rs' X2))
theorem vTxt_s {k : Int} {r : List UInt8} (h : r.length < 2 ∨ (r.drop 2).length < nm (r.take 2)) : vTxt k r = .short := by
 unfold vTxt
 by_cases h1 : r.length < 2
 ·rw [if_pos h1]
 ·rw [if_neg h1, if_pos (h.resolve_left h1)]
theorem vTxt_k {k : Int} {r : List UInt8} (h : 2 ≤ r.length) (h2 : nm (r.take 2) ≤ (r.drop 2).length) : vTxt k r = .ok k 0 0 ((r.drop 2).take (nm (r.take 2))) ((r.drop 2).drop (nm (r.take 2))) := by
 unfold vTxt; rw [if_neg (by omega), if_neg (by omega)]
theorem msv_in {ms : Int} (h1 : -9223372036854775808 ≤ ms) (h2 : ms ≤ 9223372036854775807) : tmV (ms.tdiv 1000 + ms.tmod 1000 * 1000000 / 1000000000 + 62135596800) (ms.tmod 1000 * 1000000 % 1000000000) = msV ms := by
 have hk := tdiv_b ms 1000 (by decide)
 have hm := tmod_b ms 1000 (by decide)
 generalize ms.tdiv 1000 = q at *
 generalize ms.tmod 1000 = m at *
 exact tm_eq (by omega) (by omega)
theorem decInt8Value (tv : Nat) (z : Int) (base : Nat) (E : Hp) (kE : TypeId) (pE pU : Addr) (hS : Sn E kE pE pU) (k : TypeId) (r : Value) (f : FuncId) (Rt : List UInt8 → Hp → Prop) (hR : Rr base k r f E kE pE pU Rt) (rs : List UInt8) (X : Hp) (hX : Rt rs X) (hrs : rs.length ≤ 1000000) (hnb : AskNo Tryz.prog k 178) : FnW Tryz.prog 60 [Pt tv 0, .iface k r] base [[(tv, .cells #[.int .i8 z] 114 (0, 0))], X, E] (fun w Hs => ∃ X2 y, w = erv kE pE pU 0 (rdc 1 rs) ∧ Hs = [[(tv, .cells #[.int .i8 y] 114 (0, 0))], X2, E] ∧ Rt (rs.drop 1) X2 ∧ (1 ≤ rs.length → y = IntKind.i8.wrap (nm (rs.take 1)))) := by
 refine FnW.enter (n := 19) Tryz.func60 rfl rfl fun w0 R0 hbase => ?_
 subst hbase
 show WC _ _ _ _ _ _ _ ([[(tv, .cells #[.int .i8 z] 114 (0, 0))], X, E, R0])
 refine WC.sub (fr' := [(0, _), (1, _)]) ?_ ⟨rfl, rfl, trivial⟩
 refine WC.seq (WC.region ?_)
 refine WL.q (oq_assign rfl) rfl rfl rfl ?_
 refine WL.nil (WE.then_normal (WC.sub (fr' := [(0, _), (1, _)]) ?_ ⟨rfl, rfl, trivial⟩))
 refine WC.seq (WC.region ?_)
 refine WL.q (oq_move rfl) rfl rfl rfl ?_
 refine WL.f2 ?_
 refine WL.f2 ?_
 refine WL.callW2 (dec8 _ E kE pE pU hS k r f Rt hR rs X hX hrs hnb) call59 rfl rfl rfl fun v1_1 Hs1_1 hR1_1 => ?_
 obtain ⟨X2, b, rfl, rfl, hX2, hb⟩ := hR1_1
 refine WL.to2 ?_
 refine WL.q (oq_move rfl) rfl rfl rfl ?_
 refine WL.q (oq_extract rfl rfl) rfl rfl rfl ?_
 refine WL.q (oq_extract rfl rfl) rfl rfl rfl ?_
 refine WL.q (oq_assign rfl) rfl rfl rfl ?_
 refine WL.q (oq_assign rfl) rfl rfl rfl ?_
 refine WL.nil (WE.then_normal (WC.sub (fr' := [(0, _), (5, _), (6, _)]) ?_ ⟨rfl, rfl, rfl, trivial⟩))
 refine WC.seq (WC.seq (WC.region ?_))
 refine WL.q (oq_move rfl) rfl rfl rfl ?_
 refine WL.q (oq_ineq Tryz.underlying41 rfl (erv_or _ _ _ _ _)) rfl rfl rfl ?_
 refine WL.nil (WE.then_normal (WC.sub (fr' := [(0, _), (5, _), (6, _), (13, _)]) ?_ ⟨rfl, rfl, rfl, rfl, trivial⟩))
 refine WC.cond rfl (fun q2 => ?_) (fun q2 => ?_)
 ·
  try simp only [Z1, Z2, Z3, Z4, Z5, Z6, Z7, Z8, Z9, Z0] at q2
  refine WC.seq (WC.region ?_)
  refine WL.q (oq_move rfl) rfl rfl rfl ?_
  refine WL.q (oq_assign rfl) rfl rfl rfl ?_
  refine WL.nil (WE.then_normal (WC.sub (fr' := [(4, _)]) ?_ ⟨rfl, trivial⟩))
  refine WC.ret (WE.then_ret ?_)
  refine WE.f3 ?_
  refine WE.f2 ?_
  refine WE.f2 ?_
  refine WE.f3 ?_
  refine WE.endW3 (.inl rfl) (res1 Tryz.results60 rfl) ?_
  have hne := rdcN (ervN (by simpa using q2))
  exact ⟨X2, z, rfl, rfl, hX2, fun h => (by omega)⟩
 ·
  try simp only [Z1, Z2, Z3, Z4, Z5, Z6, Z7, Z8, Z9, Z0] at q2
  refine WC.skip (WE.then_normal (WC.sub (fr' := [(0, _), (5, _)]) ?_ ⟨rfl, rfl, trivial⟩))
  refine WC.seq (WC.region ?_)
  refine WL.q (oq_move rfl) rfl rfl rfl ?_
  refine WL.q (oq_move rfl) rfl rfl rfl ?_
  refine WL.q (oq_convw Tryz.underlying5 Tryz.underlying114 rfl) rfl rfl rfl ?_
  refine WL.q (oq_nilCheck rfl) rfl rfl rfl ?_
  refine WL.f2 ?_
  refine WL.store ty114 rfl rfl rfl (by exact Nat.zero_lt_one) (by simp) rfl ?_
  refine WL.nil (WE.then_normal (WC.sub (fr' := []) ?_ trivial))
  refine WC.seq (WC.region ?_)
  refine WL.q (oq_assign rfl) rfl rfl rfl ?_
  refine WL.nil (WE.then_normal (WC.sub (fr' := [(4, _)]) ?_ ⟨rfl, trivial⟩))
  refine WC.ret ?_
  refine WE.endW3 (.inl rfl) (res1 Tryz.results60 rfl) ?_
  have hle := rdc0 (erv0 (by simpa using q2))
  rw [rdc_le hle]
  refine ⟨X2, _, rfl, rfl, hX2, fun _ => ?_⟩
  rw [hb (by omega), nm1 (by omega)]; rfl
theorem decInt16Value (tv : Nat) (z : Int) (base : Nat) (E : Hp) (kE : TypeId) (pE pU : Addr) (hS : Sn E kE pE pU) (k : TypeId) (r : Value) (f : FuncId) (Rt : List UInt8 → Hp → Prop) (hR : Rr base k r f E kE pE pU Rt) (rs : List UInt8) (X : Hp) (hX : Rt rs X) (hrs : rs.length ≤ 1000000) : FnW Tryz.prog 61 [Pt tv 0, .iface k r] base [[(tv, .cells #[.int .i16 z] 117 (0, 0))], X, E] (fun w Hs => ∃ X2 y, w = erv kE pE pU 0 (rdc 2 rs) ∧ Hs = [[(tv, .cells #[.int .i16 y] 117 (0, 0))], X2, E] ∧ Rt (rs.drop 2) X2 ∧ (2 ≤ rs.length → y = IntKind.i16.wrap (nm (rs.take 2)))) := by
 refine FnW.enter (n := 19) Tryz.func61 rfl rfl fun w0 R0 hbase => ?_
 subst hbase
 show WC _ _ _ _ _ _ _ ([[(tv, .cells #[.int .i16 z] 117 (0, 0))], X, E, R0])
 refine WC.sub (fr' := [(0, _), (1, _)]) ?_ ⟨rfl, rfl, trivial⟩
 refine WC.seq (WC.region ?_)
 refine WL.q (oq_assign rfl) rfl rfl rfl ?_
 refine WL.nil (WE.then_normal (WC.sub (fr' := [(0, _), (1, _)]) ?_ ⟨rfl, rfl, trivial⟩))
 refine WC.seq (WC.region ?_)
 refine WL.q (oq_move rfl) rfl rfl rfl ?_
 refine WL.f2 ?_
 refine WL.f2 ?_
 refine WL.callW2 (dec16 _ E kE pE pU hS k r f Rt hR rs X hX hrs) call72 rfl rfl rfl fun v1_1 Hs1_1 hR1_1 => ?_
 obtain ⟨X2, x, rfl, rfl, hX2, hb, hxl⟩ := hR1_1
 refine WL.to2 ?_
 refine WL.q (oq_move rfl) rfl rfl rfl ?_
 refine WL.q (oq_extract rfl rfl) rfl rfl rfl ?_
 refine WL.q (oq_extract rfl rfl) rfl rfl rfl ?_
 refine WL.q (oq_assign rfl) rfl rfl rfl ?_
 refine WL.q (oq_assign rfl) rfl rfl rfl ?_
 refine WL.nil (WE.then_normal (WC.sub (fr' := [(0, _), (5, _), (6, _)]) ?_ ⟨rfl, rfl, rfl, trivial⟩))
 refine WC.seq (WC.seq (WC.region ?_))
 refine WL.q (oq_move rfl) rfl rfl rfl ?_
 refine WL.q (oq_ineq Tryz.underlying41 rfl (erv_or _ _ _ _ _)) rfl rfl rfl ?_
 refine WL.nil (WE.then_normal (WC.sub (fr' := [(0, _), (5, _), (6, _), (13, _)]) ?_ ⟨rfl, rfl, rfl, rfl, trivial⟩))
 refine WC.cond rfl (fun q2 => ?_) (fun q2 => ?_)
 ·
  try simp only [Z1, Z2, Z3, Z4, Z5, Z6, Z7, Z8, Z9, Z0] at q2
  refine WC.seq (WC.region ?_)
  refine WL.q (oq_move rfl) rfl rfl rfl ?_
  refine WL.q (oq_assign rfl) rfl rfl rfl ?_
  refine WL.nil (WE.then_normal (WC.sub (fr' := [(4, _)]) ?_ ⟨rfl, trivial⟩))
  refine WC.ret (WE.then_ret ?_)
  refine WE.f3 ?_
  refine WE.f2 ?_
  refine WE.f2 ?_
  refine WE.f3 ?_
  refine WE.endW3 (.inl rfl) (res1 Tryz.results61 rfl) ?_
  have hne := rdcN (ervN (by simpa using q2))
  exact ⟨X2, z, rfl, rfl, hX2, fun h => (by omega)⟩
 ·
  try simp only [Z1, Z2, Z3, Z4, Z5, Z6, Z7, Z8, Z9, Z0] at q2
  refine WC.skip (WE.then_normal (WC.sub (fr' := [(0, _), (5, _)]) ?_ ⟨rfl, rfl, trivial⟩))
  refine WC.seq (WC.region ?_)
  refine WL.q (oq_move rfl) rfl rfl rfl ?_
  refine WL.q (oq_move rfl) rfl rfl rfl ?_
  refine WL.q (oq_convw Tryz.underlying115 Tryz.underlying117 rfl) rfl rfl rfl ?_
  refine WL.q (oq_nilCheck rfl) rfl rfl rfl ?_
  refine WL.f2 ?_
  refine WL.store ty117 rfl rfl rfl (by exact Nat.zero_lt_one) (by simp) rfl ?_
  refine WL.nil (WE.then_normal (WC.sub (fr' := []) ?_ trivial))
  refine WC.seq (WC.region ?_)
  refine WL.q (oq_assign rfl) rfl rfl rfl ?_
  refine WL.nil (WE.then_normal (WC.sub (fr' := [(4, _)]) ?_ ⟨rfl, trivial⟩))
  refine WC.ret ?_
  refine WE.endW3 (.inl rfl) (res1 Tryz.results61 rfl) ?_
  have hle := rdc0 (erv0 (by simpa using q2))
  rw [rdc_le hle]
  exact ⟨X2, _, rfl, rfl, hX2, fun h => by rw [hb h]⟩
theorem decInt32Value (tv : Nat) (z : Int) (base : Nat) (E : Hp) (kE : TypeId) (pE pU : Addr) (hS : Sn E kE pE pU) (k : TypeId) (r : Value) (f : FuncId) (Rt : List UInt8 → Hp → Prop) (hR : Rr base k r f E kE pE pU Rt) (rs : List UInt8) (X : Hp) (hX : Rt rs X) (hrs : rs.length ≤ 1000000) : FnW Tryz.prog 62 [Pt tv 0, .iface k r] base [[(tv, .cells #[.int .i32 z] 118 (0, 0))], X, E] (fun w Hs => ∃ X2 y, w = erv kE pE pU 0 (rdc 4 rs) ∧ Hs = [[(tv, .cells #[.int .i32 y] 118 (0, 0))], X2, E] ∧ Rt (rs.drop 4) X2 ∧ (4 ≤ rs.length → y = IntKind.i32.wrap (nm (rs.take 4)))) := by
 refine FnW.enter (n := 19) Tryz.func62 rfl rfl fun w0 R0 hbase => ?_
 subst hbase
 show WC _ _ _ _ _ _ _ ([[(tv, .cells #[.int .i32 z] 118 (0, 0))], X, E, R0])
 refine WC.sub (fr' := [(0, _), (1, _)]) ?_ ⟨rfl, rfl, trivial⟩
 refine WC.seq (WC.region ?_)
 refine WL.q (oq_assign rfl) rfl rfl rfl ?_
 refine WL.nil (WE.then_normal (WC.sub (fr' := [(0, _), (1, _)]) ?_ ⟨rfl, rfl, trivial⟩))
 refine WC.seq (WC.region ?_)
 refine WL.q (oq_move rfl) rfl rfl rfl ?_
 refine WL.f2 ?_
 refine WL.f2 ?_
 refine WL.callW2 (dec32 _ E kE pE pU hS k r f Rt hR rs X hX hrs) call51 rfl rfl rfl fun v1_1 Hs1_1 hR1_1 => ?_
 obtain ⟨X2, x, rfl, rfl, hX2, hb, hxl⟩ := hR1_1
 refine WL.to2 ?_
 refine WL.q (oq_move rfl) rfl rfl rfl ?_
 refine WL.q (oq_extract rfl rfl) rfl rfl rfl ?_
 refine WL.q (oq_extract rfl rfl) rfl rfl rfl ?_
 refine WL.q (oq_assign rfl) rfl rfl rfl ?_
 refine WL.q (oq_assign rfl) rfl rfl rfl ?_
 refine WL.nil (WE.then_normal (WC.sub (fr' := [(0, _), (5, _), (6, _)]) ?_ ⟨rfl, rfl, rfl, trivial⟩))
 refine WC.seq (WC.seq (WC.region ?_))
 refine WL.q (oq_move rfl) rfl rfl rfl ?_
 refine WL.q (oq_ineq Tryz.underlying41 rfl (erv_or _ _ _ _ _)) rfl rfl rfl ?_
 refine WL.nil (WE.then_normal (WC.sub (fr' := [(0, _), (5, _), (6, _), (13, _)]) ?_ ⟨rfl, rfl, rfl, rfl, trivial⟩))
 refine WC.cond rfl (fun q2 => ?_) (fun q2 => ?_)
 ·
  try simp only [Z1, Z2, Z3, Z4, Z5, Z6, Z7, Z8, Z9, Z0] at q2
  refine WC.seq (WC.region ?_)
  refine WL.q (oq_move rfl) rfl rfl rfl ?_
  refine WL.q (oq_assign rfl) rfl rfl rfl ?_
  refine WL.nil (WE.then_normal (WC.sub (fr' := [(4, _)]) ?_ ⟨rfl, trivial⟩))
  refine WC.ret (WE.then_ret ?_)
  refine WE.f3 ?_
  refine WE.f2 ?_
  refine WE.f2 ?_
  refine WE.f3 ?_
  refine WE.endW3 (.inl rfl) (res1 Tryz.results62 rfl) ?_
  have hne := rdcN (ervN (by simpa using q2))
  exact ⟨X2, z, rfl, rfl, hX2, fun h => (by omega)⟩
 ·
  try simp only [Z1, Z2, Z3, Z4, Z5, Z6, Z7, Z8, Z9, Z0] at q2
  refine WC.skip (WE.then_normal (WC.sub (fr' := [(0, _), (5, _)]) ?_ ⟨rfl, rfl, trivial⟩))
  refine WC.seq (WC.region ?_)
  refine WL.q (oq_move rfl) rfl rfl rfl ?_
  refine WL.q (oq_move rfl) rfl rfl rfl ?_
  refine WL.q (oq_convw Tryz.underlying75 Tryz.underlying118 rfl) rfl rfl rfl ?_
  refine WL.q (oq_nilCheck rfl) rfl rfl rfl ?_
  refine WL.f2 ?_
  refine WL.store ty118 rfl rfl rfl (by exact Nat.zero_lt_one) (by simp) rfl ?_
  refine WL.nil (WE.then_normal (WC.sub (fr' := []) ?_ trivial))
  refine WC.seq (WC.region ?_)
  refine WL.q (oq_assign rfl) rfl rfl rfl ?_
  refine WL.nil (WE.then_normal (WC.sub (fr' := [(4, _)]) ?_ ⟨rfl, trivial⟩))
  refine WC.ret ?_
  refine WE.endW3 (.inl rfl) (res1 Tryz.results62 rfl) ?_
  have hle := rdc0 (erv0 (by simpa using q2))
  rw [rdc_le hle]
  exact ⟨X2, _, rfl, rfl, hX2, fun h => by rw [hb h]⟩
theorem decInt64Value (tv : Nat) (z : Int) (base : Nat) (E : Hp) (kE : TypeId) (pE pU : Addr) (hS : Sn E kE pE pU) (k : TypeId) (r : Value) (f : FuncId) (Rt : List UInt8 → Hp → Prop) (hR : Rr base k r f E kE pE pU Rt) (rs : List UInt8) (X : Hp) (hX : Rt rs X) (hrs : rs.length ≤ 1000000) : FnW Tryz.prog 63 [Pt tv 0, .iface k r] base [[(tv, .cells #[.int .i64 z] 119 (0, 0))], X, E] (fun w Hs => ∃ X2 y, w = erv kE pE pU 0 (rdc 8 rs) ∧ Hs = [[(tv, .cells #[.int .i64 y] 119 (0, 0))], X2, E] ∧ Rt (rs.drop 8) X2 ∧ (8 ≤ rs.length → y = IntKind.i64.wrap (nm (rs.take 8)))) := by
 refine FnW.enter (n := 19) Tryz.func63 rfl rfl fun w0 R0 hbase => ?_
 subst hbase
 show WC _ _ _ _ _ _ _ ([[(tv, .cells #[.int .i64 z] 119 (0, 0))], X, E, R0])
 refine WC.sub (fr' := [(0, _), (1, _)]) ?_ ⟨rfl, rfl, trivial⟩
 refine WC.seq (WC.region ?_)
 refine WL.q (oq_assign rfl) rfl rfl rfl ?_
 refine WL.nil (WE.then_normal (WC.sub (fr' := [(0, _), (1, _)]) ?_ ⟨rfl, rfl, trivial⟩))
 refine WC.seq (WC.region ?_)
 refine WL.q (oq_move rfl) rfl rfl rfl ?_
 refine WL.f2 ?_
 refine WL.f2 ?_
 refine WL.callW2 (dec64 _ E kE pE pU hS k r f Rt hR rs X hX hrs) call73 rfl rfl rfl fun v1_1 Hs1_1 hR1_1 => ?_
 obtain ⟨X2, x, rfl, rfl, hX2, hb, hxl⟩ := hR1_1
 refine WL.to2 ?_
 refine WL.q (oq_move rfl) rfl rfl rfl ?_
 refine WL.q (oq_extract rfl rfl) rfl rfl rfl ?_
 refine WL.q (oq_extract rfl rfl) rfl rfl rfl ?_
 refine WL.q (oq_assign rfl) rfl rfl rfl ?_
 refine WL.q (oq_assign rfl) rfl rfl rfl ?_
 refine WL.nil (WE.then_normal (WC.sub (fr' := [(0, _), (5, _), (6, _)]) ?_ ⟨rfl, rfl, rfl, trivial⟩))
 refine WC.seq (WC.seq (WC.region ?_))
 refine WL.q (oq_move rfl) rfl rfl rfl ?_
 refine WL.q (oq_ineq Tryz.underlying41 rfl (erv_or _ _ _ _ _)) rfl rfl rfl ?_
 refine WL.nil (WE.then_normal (WC.sub (fr' := [(0, _), (5, _), (6, _), (13, _)]) ?_ ⟨rfl, rfl, rfl, rfl, trivial⟩))
 refine WC.cond rfl (fun q2 => ?_) (fun q2 => ?_)
 ·
  try simp only [Z1, Z2, Z3, Z4, Z5, Z6, Z7, Z8, Z9, Z0] at q2
  refine WC.seq (WC.region ?_)
  refine WL.q (oq_move rfl) rfl rfl rfl ?_
  refine WL.q (oq_assign rfl) rfl rfl rfl ?_
  refine WL.nil (WE.then_normal (WC.sub (fr' := [(4, _)]) ?_ ⟨rfl, trivial⟩))
  refine WC.ret (WE.then_ret ?_)
  refine WE.f3 ?_
  refine WE.f2 ?_
  refine WE.f2 ?_
  refine WE.f3 ?_
  refine WE.endW3 (.inl rfl) (res1 Tryz.results63 rfl) ?_
  have hne := rdcN (ervN (by simpa using q2))
  exact ⟨X2, z, rfl, rfl, hX2, fun h => (by omega)⟩
 ·
  try simp only [Z1, Z2, Z3, Z4, Z5, Z6, Z7, Z8, Z9, Z0] at q2
  refine WC.skip (WE.then_normal (WC.sub (fr' := [(0, _), (5, _)]) ?_ ⟨rfl, rfl, trivial⟩))
  refine WC.seq (WC.region ?_)
  refine WL.q (oq_move rfl) rfl rfl rfl ?_
  refine WL.q (oq_move rfl) rfl rfl rfl ?_
  refine WL.q (oq_convw Tryz.underlying112 Tryz.underlying119 rfl) rfl rfl rfl ?_
  refine WL.q (oq_nilCheck rfl) rfl rfl rfl ?_
  refine WL.f2 ?_
  refine WL.store ty119 rfl rfl rfl (by exact Nat.zero_lt_one) (by simp) rfl ?_
  refine WL.nil (WE.then_normal (WC.sub (fr' := []) ?_ trivial))
  refine WC.seq (WC.region ?_)
  refine WL.q (oq_assign rfl) rfl rfl rfl ?_
  refine WL.nil (WE.then_normal (WC.sub (fr' := [(4, _)]) ?_ ⟨rfl, trivial⟩))
  refine WC.ret ?_
  refine WE.endW3 (.inl rfl) (res1 Tryz.results63 rfl) ?_
  have hle := rdc0 (erv0 (by simpa using q2))
  rw [rdc_le hle]
  exact ⟨X2, _, rfl, rfl, hX2, fun h => by rw [hb h]⟩
theorem decBytes (base : Nat) (E : Hp) (kE : TypeId) (pE pU : Addr) (hS : Sn E kE pE pU) (k : TypeId) (r : Value) (f : FuncId) (Rt : List UInt8 → Hp → Prop) (hR : Rr base k r f E kE pE pU Rt) (rs : List UInt8) (X : Hp) (hX : Rt rs X) (hrs : rs.length ≤ 1000000) : FnW Tryz.prog 74 [.iface k r] base [X, E] (DBR base kE pE pU E Rt rs (fun w t c sv => w = .tuple #[sv, erv kE pE pU 0 c])) := by
 refine FnW.enter (n := 29) Tryz.func74 rfl rfl fun w0 R0 hbase => ?_
 subst hbase
 show WC _ _ _ _ _ _ _ ([X, E, R0])
 refine WC.sub (fr' := [(0, _)]) ?_ ⟨rfl, trivial⟩
 refine WC.seq (WC.region ?_)
 refine WL.q (oq_assign rfl) rfl rfl rfl ?_
 refine WL.q (oq_assign rfl) rfl rfl rfl ?_
 refine WL.nil (WE.then_normal (WC.sub (fr' := [(0, _)]) ?_ ⟨rfl, trivial⟩))
 refine WC.seq ?_
 refine WC.add0 ?_
 refine WC.region ?_
 refine WL.alloc ty170 rfl rfl fun rw hrw => ?_
 refine WL.nil (WE.then_normal (WC.sub (fr' := [(0, _), (4, _)]) ?_ ⟨rfl, rfl, trivial⟩))
 refine WC.seq (WC.region ?_)
 refine WL.q (oq_assign rfl) rfl rfl rfl ?_
 refine WL.nil (WE.then_normal (WC.sub (fr' := [(0, _), (4, _)]) ?_ ⟨rfl, rfl, trivial⟩))
 refine WC.seq (WC.region ?_)
 refine WL.q (oq_move rfl) rfl rfl rfl ?_
 refine WL.f3 ?_
 refine WL.f3 ?_
 refine WL.callW2 (dec16 _ E kE pE pU hS k r f Rt hR rs X hX hrs) call72 rfl rfl rfl fun v3_1 Hs3_1 hR3_1 => ?_
 obtain ⟨X2, x, rfl, rfl, hX2, hb, hxl⟩ := hR3_1
 refine WL.to2 ?_
 refine WL.q (oq_move rfl) rfl rfl rfl ?_
 refine WL.q (oq_extract rfl rfl) rfl rfl rfl ?_
 refine WL.q (oq_extract rfl rfl) rfl rfl rfl ?_
 refine WL.q (oq_fieldAddr fld170_1 rfl) rfl rfl rfl ?_
 refine WL.f2 ?_
 refine WL.store1 #[_, _, _] ty115 rfl rfl (by first | rfl | exact OwS.one rfl) (Nat.lt_of_lt_of_le (Nat.lt_succ_self _) (Nat.le_of_ble_eq_true rfl)) rfl rfl ?_
 refine WL.q (oq_assign rfl) rfl rfl rfl ?_
 refine WL.nil (WE.then_normal (WC.sub (fr' := [(0, _), (4, _), (5, _)]) ?_ ⟨rfl, rfl, rfl, trivial⟩))
 refine WC.seq (WC.seq (WC.region ?_))
 refine WL.q (oq_move rfl) rfl rfl rfl ?_
 refine WL.q (oq_ineq Tryz.underlying41 rfl (erv_or _ _ _ _ _)) rfl rfl rfl ?_
 refine WL.nil (WE.then_normal (WC.sub (fr' := [(0, _), (4, _), (5, _), (14, _)]) ?_ ⟨rfl, rfl, rfl, rfl, trivial⟩))
 refine WC.cond rfl (fun q4 => ?_) (fun q4 => ?_)
 ·
  try simp only [Z1, Z2, Z3, Z4, Z5, Z6, Z7, Z8, Z9, Z0] at q4
  refine WC.seq (WC.region ?_)
  refine WL.q (oq_move rfl) rfl rfl rfl ?_
  refine WL.q (oq_assign rfl) rfl rfl rfl ?_
  refine WL.q (oq_assign rfl) rfl rfl rfl ?_
  refine WL.nil (WE.then_normal (WC.sub (fr' := [(2, _), (3, _)]) ?_ ⟨rfl, rfl, trivial⟩))
  refine WC.ret (WE.then_ret ?_)
  refine WE.lose hrw ?_
  refine WE.f3 ?_
  refine WE.f2 ?_
  refine WE.f3 ?_
  refine WE.f3 ?_
  refine WE.endW3 (.inl rfl) (res2 Tryz.results74 rfl rfl) ?_
  have hne := rdcN (ervN (by simpa using q4))
  exact ⟨X2, [], _, _, [], rfl, rfl, (fun _ _ h => nomatch h), ⟨rfl, .inl ⟨rfl, _, _, rfl⟩⟩, .inr ⟨hne.2, .inl hne.1, rfl, _, hX2⟩⟩
 ·
  try simp only [Z1, Z2, Z3, Z4, Z5, Z6, Z7, Z8, Z9, Z0] at q4
  refine WC.skip (WE.then_normal (WC.sub (fr' := [(0, _), (4, _)]) ?_ ⟨rfl, rfl, trivial⟩))
  refine WC.seq ?_
  have hle := rdc0 (erv0 (by simpa using q4))
  have hxe := hb hle
  have hmx : x ≤ maxLen := by unfold maxLen; omega
  refine WC.region ?_
  refine WL.q (oq_fieldAddr fld170_1 rfl) rfl rfl rfl ?_
  refine WL.q (oq_load flat115 rfl (.head _) (List.mem_singleton.2 rfl) rfl) rfl rfl rfl ?_
  refine WL.makeB Tryz.underlying25 ty5 rfl rfl (by omega) (by unfold maxLen; omega) rfl rfl fun nb hnb => ?_
  refine WL.q (oq_assign rfl) rfl rfl rfl ?_
  refine WL.nil (WE.then_normal (WC.sub (fr' := [(0, _), (6, _)]) ?_ ⟨rfl, rfl, trivial⟩))
  refine WC.seq (WC.region ?_)
  refine WL.q (oq_move rfl) rfl rfl rfl ?_
  refine WL.q (oq_move rfl) rfl rfl rfl ?_
  refine WL.f3 ?_
  refine WL.f1 ?_
  refine WL.f3 ?_
  refine WL.callW3 (readFull _ E kE pE pU hS k r f Rt hR nb 0 x x _ (List.replicate x 0) (by simp) (by omega) (by simp; omega) (rs.drop 2) X2 hX2 (by rw [List.length_drop]; omega)) call57 rfl rfl rfl fun v7_2 Hs7_2 hR7_2 => ?_
  obtain ⟨X3, vn, rfl, rfl, hX3⟩ := hR7_2
  refine WL.to3 ?_
  refine WL.q (oq_move rfl) rfl rfl rfl ?_
  refine WL.q (oq_extract rfl rfl) rfl rfl rfl ?_
  refine WL.q (oq_extract rfl rfl) rfl rfl rfl ?_
  refine WL.q (oq_assign rfl) rfl rfl rfl ?_
  refine WL.nil (WE.then_normal (WC.sub (fr' := [(5, _), (6, _)]) ?_ ⟨rfl, rfl, trivial⟩))
  refine WC.seq (WC.seq (WC.region ?_))
  refine WL.q (oq_move rfl) rfl rfl rfl ?_
  refine WL.q (oq_ineq Tryz.underlying41 rfl (erv_or _ _ _ _ _)) rfl rfl rfl ?_
  refine WL.nil (WE.then_normal (WC.sub (fr' := [(5, _), (6, _), (26, _)]) ?_ ⟨rfl, rfl, rfl, trivial⟩))
  refine WC.cond rfl (fun q8 => ?_) (fun q8 => ?_)
  ·
   try simp only [Z1, Z2, Z3, Z4, Z5, Z6, Z7, Z8, Z9, Z0] at q8
   refine WC.seq (WC.region ?_)
   refine WL.q (oq_move rfl) rfl rfl rfl ?_
   refine WL.q (oq_assign rfl) rfl rfl rfl ?_
   refine WL.q (oq_assign rfl) rfl rfl rfl ?_
   refine WL.nil (WE.then_normal (WC.sub (fr' := [(2, _), (3, _)]) ?_ ⟨rfl, rfl, trivial⟩))
   refine WC.ret (WE.then_ret ?_)
   refine WE.f1 ?_
   refine WE.lose hnb ?_
   refine WE.f2 ?_
   refine WE.lose hrw ?_
   refine WE.f3 ?_
   refine WE.f2 ?_
   refine WE.f3 ?_
   refine WE.f3 ?_
   refine WE.endW3 (.inl rfl) (res2 Tryz.results74 rfl rfl) ?_
   have hne := rdcN (ervN (by simpa using q8))
   exact ⟨X3, [], _, _, [], rfl, rfl, (fun _ _ h => nomatch h), ⟨rfl, .inl ⟨rfl, _, _, rfl⟩⟩, .inr ⟨hne.2, .inr (by rw [← hxe]; exact hne.1), rfl, _, hX3⟩⟩
  ·
   try simp only [Z1, Z2, Z3, Z4, Z5, Z6, Z7, Z8, Z9, Z0] at q8
   refine WC.skip (WE.then_normal (WC.sub (fr' := [(6, _)]) ?_ ⟨rfl, trivial⟩))
   refine WC.seq (WC.region ?_)
   refine WL.q (oq_move rfl) rfl rfl rfl ?_
   refine WL.q (oq_assign rfl) rfl rfl rfl ?_
   refine WL.q (oq_assign rfl) rfl rfl rfl ?_
   refine WL.nil (WE.then_normal (WC.sub (fr' := [(2, _), (3, _)]) ?_ ⟨rfl, rfl, trivial⟩))
   refine WC.ret ?_
   refine WE.f3 ?_
   refine WE.lose hrw ?_
   refine WE.f3 ?_
   refine WE.nil0 ?_
   refine WE.endW3 (.inl rfl) (res2 Tryz.results74 rfl rfl) ?_
   have hle2 := rdc0 (erv0 (by simpa using q8))
   have htx : ((rs.drop 2).take x).length = x := by rw [List.length_take]; omega
   have hpb : putB (List.replicate x 0) 0 ((rs.drop 2).take x) = (rs.drop 2).take x := put_take hle2
   rw [hpb]
   exact ⟨X3, _, _, 0, (rs.drop 2).take x, rfl, rfl, fresh1 hnb, rd_whole htx, .inl ⟨rfl, hle, by rw [← hxe]; exact hle2, by rw [hxe], by rw [← hxe]; exact hX3⟩⟩
theorem decStr (base : Nat) (E : Hp) (kE : TypeId) (pE pU : Addr) (hS : Sn E kE pE pU) (k : TypeId) (r : Value) (f : FuncId) (Rt : List UInt8 → Hp → Prop) (hR : Rr base k r f E kE pE pU Rt) (rs : List UInt8) (X : Hp) (hX : Rt rs X) (hrs : rs.length ≤ 1000000) : FnW Tryz.prog 75 [.iface k r] base [X, E] (DBR base kE pE pU E Rt rs (fun w t c sv => w = .tuple #[S t, erv kE pE pU 0 c])) := by
 refine FnW.enter (n := 14) Tryz.func75 rfl rfl fun w0 R0 hbase => ?_
 subst hbase
 show WC _ _ _ _ _ _ _ ([X, E, R0])
 refine WC.sub (fr' := [(0, _)]) ?_ ⟨rfl, trivial⟩
 refine WC.seq (WC.region ?_)
 refine WL.q (oq_assign rfl) rfl rfl rfl ?_
 refine WL.q (oq_assign rfl) rfl rfl rfl ?_
 refine WL.nil (WE.then_normal (WC.sub (fr' := [(0, _)]) ?_ ⟨rfl, trivial⟩))
 refine WC.seq (WC.region ?_)
 refine WL.q (oq_move rfl) rfl rfl rfl ?_
 refine WL.f1 ?_
 refine WL.f1 ?_
 refine WL.callW2 (decBytes _ E kE pE pU hS k r f Rt hR rs X hX hrs) call74 rfl rfl rfl fun v1_1 Hs1_1 hR1_1 => ?_
 obtain ⟨X2, N, sv, c, t, hw, rfl, hN, hsv, hor⟩ := hR1_1
 subst hw
 refine WL.to3 ?_
 refine WL.q (oq_move rfl) rfl rfl rfl ?_
 refine WL.q (oq_extract rfl rfl) rfl rfl rfl ?_
 refine WL.q (oq_extract rfl rfl) rfl rfl rfl ?_
 refine WL.q (oq_assign rfl) rfl rfl rfl ?_
 refine WL.q (oq_assign rfl) rfl rfl rfl ?_
 refine WL.nil (WE.then_normal (WC.sub (fr' := [(4, _), (5, _)]) ?_ ⟨rfl, rfl, trivial⟩))
 refine WC.seq (WC.region ?_)
 refine WL.q (oq_move rfl) rfl rfl rfl ?_
 refine WL.q (oq_bytesStr hsv (.tail _ (.head _)) Tryz.underlying9 Tryz.underlying25 Tryz.underlying5 rfl) rfl rfl rfl ?_
 refine WL.q (oq_move rfl) rfl rfl rfl ?_
 refine WL.q (oq_assign rfl) rfl rfl rfl ?_
 refine WL.q (oq_assign rfl) rfl rfl rfl ?_
 refine WL.nil (WE.then_normal (WC.sub (fr' := [(2, _), (3, _)]) ?_ ⟨rfl, rfl, trivial⟩))
 refine WC.ret ?_
 refine WE.endW3 (.inl rfl) (res2 Tryz.results75 rfl rfl) ?_
 exact ⟨X2, N, sv, c, t, rfl, rfl, hN, hsv, hor⟩
theorem decBytesValue (tv : Nat) (base : Nat) (E : Hp) (kE : TypeId) (pE pU : Addr) (hS : Sn E kE pE pU) (k : TypeId) (r : Value) (f : FuncId) (Rt : List UInt8 → Hp → Prop) (hR : Rr base k r f E kE pE pU Rt) (rs : List UInt8) (X : Hp) (hX : Rt rs X) (hrs : rs.length ≤ 1000000) : FnW Tryz.prog 64 [Pt tv 0, .iface k r] base [[(tv, .cells #[.slice none 0 0] 120 (0, 0))], X, E] (fun w Hs => ∃ u Hs2, Hs = [(tv, .cells #[u] 120 (0, 0))] :: Hs2 ∧ DBR base kE pE pU E Rt rs (fun w t c sv => w = erv kE pE pU 0 c ∧ (c = 0 → u = sv)) w Hs2) := by
 refine FnW.enter (n := 18) Tryz.func64 rfl rfl fun w0 R0 hbase => ?_
 subst hbase
 show WC _ _ _ _ _ _ _ ([[(tv, .cells #[.slice none 0 0] 120 (0, 0))], X, E, R0])
 refine WC.sub (fr' := [(0, _), (1, _)]) ?_ ⟨rfl, rfl, trivial⟩
 refine WC.seq (WC.region ?_)
 refine WL.q (oq_assign rfl) rfl rfl rfl ?_
 refine WL.nil (WE.then_normal (WC.sub (fr' := [(0, _), (1, _)]) ?_ ⟨rfl, rfl, trivial⟩))
 refine WC.seq (WC.region ?_)
 refine WL.q (oq_move rfl) rfl rfl rfl ?_
 refine WL.f2 ?_
 refine WL.f2 ?_
 refine WL.callW2 (decBytes _ E kE pE pU hS k r f Rt hR rs X hX hrs) call74 rfl rfl rfl fun v1_1 Hs1_1 hR1_1 => ?_
 obtain ⟨X2, N, sv, c, t, hw, rfl, hN, hsv, hor⟩ := hR1_1
 subst hw
 refine WL.to3 ?_
 refine WL.q (oq_move rfl) rfl rfl rfl ?_
 refine WL.q (oq_extract rfl rfl) rfl rfl rfl ?_
 refine WL.q (oq_extract rfl rfl) rfl rfl rfl ?_
 refine WL.q (oq_assign rfl) rfl rfl rfl ?_
 refine WL.q (oq_assign rfl) rfl rfl rfl ?_
 refine WL.nil (WE.then_normal (WC.sub (fr' := [(0, _), (5, _), (6, _)]) ?_ ⟨rfl, rfl, rfl, trivial⟩))
 refine WC.seq (WC.seq (WC.region ?_))
 refine WL.q (oq_move rfl) rfl rfl rfl ?_
 refine WL.q (oq_ineq Tryz.underlying41 rfl (erv_or _ _ _ _ _)) rfl rfl rfl ?_
 refine WL.nil (WE.then_normal (WC.sub (fr' := [(0, _), (5, _), (6, _), (13, _)]) ?_ ⟨rfl, rfl, rfl, rfl, trivial⟩))
 refine WC.cond rfl (fun q2 => ?_) (fun q2 => ?_)
 ·
  try simp only [Z1, Z2, Z3, Z4, Z5, Z6, Z7, Z8, Z9, Z0] at q2
  refine WC.seq (WC.region ?_)
  refine WL.q (oq_move rfl) rfl rfl rfl ?_
  refine WL.q (oq_assign rfl) rfl rfl rfl ?_
  refine WL.nil (WE.then_normal (WC.sub (fr' := [(4, _)]) ?_ ⟨rfl, trivial⟩))
  refine WC.ret (WE.then_ret ?_)
  refine WE.f4 ?_
  refine WE.f3 ?_
  refine WE.f3 ?_
  refine WE.f3 ?_
  refine WE.f4 ?_
  refine WE.endW4 (.inl rfl) (res1 Tryz.results64 rfl) ?_
  have hne := ervN (by simpa using q2)
  exact ⟨_, _, rfl, X2, N, sv, c, t, ⟨rfl, fun h => absurd h hne⟩, rfl, hN, hsv, hor⟩
 ·
  try simp only [Z1, Z2, Z3, Z4, Z5, Z6, Z7, Z8, Z9, Z0] at q2
  refine WC.skip (WE.then_normal (WC.sub (fr' := [(0, _), (5, _)]) ?_ ⟨rfl, rfl, trivial⟩))
  refine WC.seq ?_
  obtain ⟨sp, sc, rfl⟩ := hsv.shape
  refine WC.region ?_
  refine WL.q (oq_move rfl) rfl rfl rfl ?_
  refine WL.q (oq_move rfl) rfl rfl rfl ?_
  refine WL.q (oq_nilCheck rfl) rfl rfl rfl ?_
  refine WL.f3 ?_
  refine WL.store ty120 rfl rfl rfl (by exact Nat.zero_lt_one) (by simp) rfl ?_
  refine WL.nil (WE.then_normal (WC.sub (fr' := []) ?_ trivial))
  refine WC.seq (WC.region ?_)
  refine WL.q (oq_assign rfl) rfl rfl rfl ?_
  refine WL.nil (WE.then_normal (WC.sub (fr' := [(4, _)]) ?_ ⟨rfl, trivial⟩))
  refine WC.ret ?_
  refine WE.endW4 (.inl rfl) (res1 Tryz.results64 rfl) ?_
  have hce := erv0 (c := c) (by simpa using q2)
  subst hce
  exact ⟨_, _, rfl, X2, N, _, 0, t, ⟨rfl, fun _ => rfl⟩, rfl, hN, hsv, hor⟩
theorem decStringValue (tv : Nat) (base : Nat) (E : Hp) (kE : TypeId) (pE pU : Addr) (hS : Sn E kE pE pU) (k : TypeId) (r : Value) (f : FuncId) (Rt : List UInt8 → Hp → Prop) (hR : Rr base k r f E kE pE pU Rt) (rs : List UInt8) (X : Hp) (hX : Rt rs X) (hrs : rs.length ≤ 1000000) : FnW Tryz.prog 65 [Pt tv 0, .iface k r] base [[(tv, .cells #[S []] 121 (0, 0))], X, E] (fun w Hs => ∃ u Hs2, Hs = [(tv, .cells #[u] 121 (0, 0))] :: Hs2 ∧ DBR base kE pE pU E Rt rs (fun w t c sv => w = erv kE pE pU 0 c ∧ (c = 0 → u = S t)) w Hs2) := by
 refine FnW.enter (n := 18) Tryz.func65 rfl rfl fun w0 R0 hbase => ?_
 subst hbase
 show WC _ _ _ _ _ _ _ ([[(tv, .cells #[S []] 121 (0, 0))], X, E, R0])
 refine WC.sub (fr' := [(0, _), (1, _)]) ?_ ⟨rfl, rfl, trivial⟩
 refine WC.seq (WC.region ?_)
 refine WL.q (oq_assign rfl) rfl rfl rfl ?_
 refine WL.nil (WE.then_normal (WC.sub (fr' := [(0, _), (1, _)]) ?_ ⟨rfl, rfl, trivial⟩))
 refine WC.seq (WC.region ?_)
 refine WL.q (oq_move rfl) rfl rfl rfl ?_
 refine WL.f2 ?_
 refine WL.f2 ?_
 refine WL.callW2 (decStr _ E kE pE pU hS k r f Rt hR rs X hX hrs) call75 rfl rfl rfl fun v1_1 Hs1_1 hR1_1 => ?_
 obtain ⟨X2, N, sv, c, t, hw, rfl, hN, hsv, hor⟩ := hR1_1
 subst hw
 refine WL.to3 ?_
 refine WL.q (oq_move rfl) rfl rfl rfl ?_
 refine WL.q (oq_extract rfl rfl) rfl rfl rfl ?_
 refine WL.q (oq_extract rfl rfl) rfl rfl rfl ?_
 refine WL.q (oq_assign rfl) rfl rfl rfl ?_
 refine WL.q (oq_assign rfl) rfl rfl rfl ?_
 refine WL.nil (WE.then_normal (WC.sub (fr' := [(0, _), (5, _), (6, _)]) ?_ ⟨rfl, rfl, rfl, trivial⟩))
 refine WC.seq (WC.seq (WC.region ?_))
 refine WL.q (oq_move rfl) rfl rfl rfl ?_
 refine WL.q (oq_ineq Tryz.underlying41 rfl (erv_or _ _ _ _ _)) rfl rfl rfl ?_
 refine WL.nil (WE.then_normal (WC.sub (fr' := [(0, _), (5, _), (6, _), (13, _)]) ?_ ⟨rfl, rfl, rfl, rfl, trivial⟩))
 refine WC.cond rfl (fun q2 => ?_) (fun q2 => ?_)
 ·
  try simp only [Z1, Z2, Z3, Z4, Z5, Z6, Z7, Z8, Z9, Z0] at q2
  refine WC.seq (WC.region ?_)
  refine WL.q (oq_move rfl) rfl rfl rfl ?_
  refine WL.q (oq_assign rfl) rfl rfl rfl ?_
  refine WL.nil (WE.then_normal (WC.sub (fr' := [(4, _)]) ?_ ⟨rfl, trivial⟩))
  refine WC.ret (WE.then_ret ?_)
  refine WE.f4 ?_
  refine WE.f3 ?_
  refine WE.f3 ?_
  refine WE.f3 ?_
  refine WE.f4 ?_
  refine WE.endW4 (.inl rfl) (res1 Tryz.results65 rfl) ?_
  have hne := ervN (by simpa using q2)
  exact ⟨_, _, rfl, X2, N, sv, c, t, ⟨rfl, fun h => absurd h hne⟩, rfl, hN, hsv, hor⟩
 ·
  try simp only [Z1, Z2, Z3, Z4, Z5, Z6, Z7, Z8, Z9, Z0] at q2
  refine WC.skip (WE.then_normal (WC.sub (fr' := [(0, _), (5, _)]) ?_ ⟨rfl, rfl, trivial⟩))
  refine WC.seq (WC.region ?_)
  refine WL.q (oq_move rfl) rfl rfl rfl ?_
  refine WL.q (oq_move rfl) rfl rfl rfl ?_
  refine WL.q (oq_nilCheck rfl) rfl rfl rfl ?_
  refine WL.f3 ?_
  refine WL.store ty121 rfl rfl rfl (by exact Nat.zero_lt_one) (by simp) rfl ?_
  refine WL.nil (WE.then_normal (WC.sub (fr' := []) ?_ trivial))
  refine WC.seq (WC.region ?_)
  refine WL.q (oq_assign rfl) rfl rfl rfl ?_
  refine WL.nil (WE.then_normal (WC.sub (fr' := [(4, _)]) ?_ ⟨rfl, trivial⟩))
  refine WC.ret ?_
  refine WE.endW4 (.inl rfl) (res1 Tryz.results65 rfl) ?_
  have hce := erv0 (c := c) (by simpa using q2)
  subst hce
  exact ⟨_, _, rfl, X2, N, _, 0, t, ⟨rfl, fun _ => rfl⟩, rfl, hN, hsv, hor⟩
theorem unix2 (s n : Int) (h1 : -10000000000000000 ≤ s) (h2 : s ≤ 10000000000000000) (h3 : -9223372036854775808 ≤ n) (h4 : n ≤ 9223372036854775807) : Fn0 Tryz.prog 50 [I s, I n] (tmV (s + n / 1000000000 + 62135596800) (n % 1000000000)) := by
 refine Fn0.enter (n := 32) Tryz.func50 rfl rfl fun w0 => ?_
 refine WC.sub (fr' := [(0, _), (1, _)]) ?_ ⟨rfl, rfl, trivial⟩
 refine WC.seq (WC.region ?_)
 refine WL.alloc ty124 rfl rfl fun b0_0 hb0_0 => ?_
 refine WL.nil (WE.then_normal (WC.sub (fr' := [(0, _), (1, _), (4, _)]) ?_ ⟨rfl, rfl, rfl, trivial⟩))
 refine WC.seq (WC.seq (WC.region ?_))
 refine WL.q (oq_move rfl) rfl rfl rfl ?_
 refine WL.q (oq_lss rfl rfl) rfl rfl rfl ?_
 refine WL.q (oq_move rfl) rfl rfl rfl ?_
 refine WL.split 8 rfl (fun s1_2 => ?_) (fun s1_2 => ?_)
 ·
  try simp only [Z1, Z2, Z3, Z4, Z5, Z6, Z7, Z8, Z9, Z0] at s1_2
  refine WL.skip rfl rfl rfl ?_
  refine WL.skip rfl rfl rfl ?_
  refine WL.q (oq_pick_t rfl rfl) rfl rfl rfl ?_
  refine WL.nil (WE.then_normal (WC.sub (fr' := [(0, _), (1, _), (4, _), (11, _)]) ?_ ⟨rfl, rfl, rfl, rfl, trivial⟩))
  refine WC.cond_t rfl ?_
  refine WC.seq (WC.region ?_)
  refine WL.q (oq_move rfl) rfl rfl rfl ?_
  refine WL.q (oq_tquo rfl rfl (by omega) (by rw [i64_lo, i64_hi]; omega)) rfl rfl rfl ?_
  refine WL.q (oq_assign rfl) rfl rfl rfl ?_
  refine WL.nil (WE.then_normal (WC.sub (fr' := [(0, _), (1, _), (4, _), (5, _)]) ?_ ⟨rfl, rfl, rfl, rfl, trivial⟩))
  refine WC.seq ?_
  have hk := tdiv_b n 1000000000 (by decide)
  generalize n.tdiv 1000000000 = k at *
  refine WC.region ?_
  refine WL.q (oq_move rfl) rfl rfl rfl ?_
  refine WL.q (oq_move rfl) rfl rfl rfl ?_
  refine WL.q (oq_add rfl rfl (by rw [i64_lo, i64_hi]; (first | omega | (simp only [List.length_cons, List.length_nil, List.length_append, List.length_drop, List.length_take]; omega)))) rfl rfl rfl ?_
  refine WL.q (oq_assign rfl) rfl rfl rfl ?_
  refine WL.nil (WE.then_normal (WC.sub (fr' := [(0, _), (1, _), (4, _), (5, _)]) ?_ ⟨rfl, rfl, rfl, rfl, trivial⟩))
  refine WC.seq (WC.region ?_)
  refine WL.q (oq_move rfl) rfl rfl rfl ?_
  refine WL.q (oq_move rfl) rfl rfl rfl ?_
  refine WL.q (oq_mul rfl rfl (by rw [i64_lo, i64_hi]; (first | omega | (simp only [List.length_cons, List.length_nil, List.length_append, List.length_drop, List.length_take]; omega)))) rfl rfl rfl ?_
  refine WL.q (oq_sub rfl rfl (by rw [i64_lo, i64_hi]; (first | omega | (simp only [List.length_cons, List.length_nil, List.length_append, List.length_drop, List.length_take]; omega)))) rfl rfl rfl ?_
  refine WL.q (oq_assign rfl) rfl rfl rfl ?_
  refine WL.nil (WE.then_normal (WC.sub (fr' := [(0, _), (1, _), (4, _)]) ?_ ⟨rfl, rfl, rfl, trivial⟩))
  refine WC.seq (WC.region ?_)
  refine WL.q (oq_move rfl) rfl rfl rfl ?_
  refine WL.q (oq_lss rfl rfl) rfl rfl rfl ?_
  refine WL.nil (WE.then_normal (WC.sub (fr' := [(0, _), (1, _), (4, _), (22, _)]) ?_ ⟨rfl, rfl, rfl, rfl, trivial⟩))
  refine WC.cond rfl (fun q5 => ?_) (fun q5 => ?_)
  ·
   try simp only [Z1, Z2, Z3, Z4, Z5, Z6, Z7, Z8, Z9, Z0] at q5
   refine WC.seq (WC.region ?_)
   refine WL.q (oq_move rfl) rfl rfl rfl ?_
   refine WL.q (oq_add rfl rfl (by rw [i64_lo, i64_hi]; (first | omega | (simp only [List.length_cons, List.length_nil, List.length_append, List.length_drop, List.length_take]; omega)))) rfl rfl rfl ?_
   refine WL.q (oq_assign rfl) rfl rfl rfl ?_
   refine WL.nil (WE.then_normal (WC.sub (fr' := [(0, _), (1, _), (4, _)]) ?_ ⟨rfl, rfl, rfl, trivial⟩))
   refine WC.region ?_
   refine WL.q (oq_move rfl) rfl rfl rfl ?_
   refine WL.q (oq_sub rfl rfl (by rw [i64_lo, i64_hi]; (first | omega | (simp only [List.length_cons, List.length_nil, List.length_append, List.length_drop, List.length_take]; omega)))) rfl rfl rfl ?_
   refine WL.q (oq_assign rfl) rfl rfl rfl ?_
   refine WL.nil (WE.then_normal (WC.sub (fr' := [(0, _), (1, _), (4, _)]) ?_ ⟨rfl, rfl, rfl, trivial⟩))
   refine WC.seq (WC.region ?_)
   refine WL.q (oq_move rfl) rfl rfl rfl ?_
   refine WL.q (oq_add rfl rfl (by rw [i64_lo, i64_hi]; (first | omega | (simp only [List.length_cons, List.length_nil, List.length_append, List.length_drop, List.length_take]; omega)))) rfl rfl rfl ?_
   refine WL.q (oq_move rfl) rfl rfl rfl ?_
   refine WL.q (oq_conv Tryz.underlying2 Tryz.underlying21 rfl (by rw [i32_lo, i32_hi]; (first | omega | (simp only [List.length_cons, List.length_nil, List.length_append, List.length_drop, List.length_take]; omega)))) rfl rfl rfl ?_
   refine WL.q (oq_build #[_, _, _, _] str124 ty124 rfl rfl) rfl rfl rfl ?_
   refine WL.storeS #[_, _, _, _] ty124 rfl rfl rfl rfl (Nat.le_of_ble_eq_true rfl) rfl rfl ?_
   refine WL.nil (WE.then_normal (WC.sub (fr' := [(4, _)]) ?_ ⟨rfl, trivial⟩))
   refine WC.ret ?_
   refine WE.endD0 (.inl rfl) (rs1 Tryz.results50 (rv_cellS [_, _, _, _] agg124 ty124 rfl (.head _) (List.mem_singleton.2 rfl) rfl rfl)) (dr_lose hb0_0 dr_refl) ?_
   first | (exfalso; omega) | exact tm_eq (by omega) (by omega)
  ·
   try simp only [Z1, Z2, Z3, Z4, Z5, Z6, Z7, Z8, Z9, Z0] at q5
   refine WC.skip (WE.then_normal (WC.sub (fr' := [(0, _), (1, _), (4, _)]) ?_ ⟨rfl, rfl, rfl, trivial⟩))
   refine WC.seq (WC.region ?_)
   refine WL.q (oq_move rfl) rfl rfl rfl ?_
   refine WL.q (oq_add rfl rfl (by rw [i64_lo, i64_hi]; (first | omega | (simp only [List.length_cons, List.length_nil, List.length_append, List.length_drop, List.length_take]; omega)))) rfl rfl rfl ?_
   refine WL.q (oq_move rfl) rfl rfl rfl ?_
   refine WL.q (oq_conv Tryz.underlying2 Tryz.underlying21 rfl (by rw [i32_lo, i32_hi]; (first | omega | (simp only [List.length_cons, List.length_nil, List.length_append, List.length_drop, List.length_take]; omega)))) rfl rfl rfl ?_
   refine WL.q (oq_build #[_, _, _, _] str124 ty124 rfl rfl) rfl rfl rfl ?_
   refine WL.storeS #[_, _, _, _] ty124 rfl rfl rfl rfl (Nat.le_of_ble_eq_true rfl) rfl rfl ?_
   refine WL.nil (WE.then_normal (WC.sub (fr' := [(4, _)]) ?_ ⟨rfl, trivial⟩))
   refine WC.ret ?_
   refine WE.endD0 (.inl rfl) (rs1 Tryz.results50 (rv_cellS [_, _, _, _] agg124 ty124 rfl (.head _) (List.mem_singleton.2 rfl) rfl rfl)) (dr_lose hb0_0 dr_refl) ?_
   first | (exfalso; omega) | exact tm_eq (by omega) (by omega)
 ·
  try simp only [Z1, Z2, Z3, Z4, Z5, Z6, Z7, Z8, Z9, Z0] at s1_2
  refine WL.q (oq_move rfl) rfl rfl rfl ?_
  refine WL.q (oq_geq rfl rfl) rfl rfl rfl ?_
  refine WL.q (oq_pick_f rfl rfl) rfl rfl rfl ?_
  refine WL.nil (WE.then_normal (WC.sub (fr' := [(0, _), (1, _), (4, _), (11, _)]) ?_ ⟨rfl, rfl, rfl, rfl, trivial⟩))
  refine WC.cond rfl (fun q1 => ?_) (fun q1 => ?_)
  ·
   try simp only [Z1, Z2, Z3, Z4, Z5, Z6, Z7, Z8, Z9, Z0] at q1
   refine WC.seq (WC.region ?_)
   refine WL.q (oq_move rfl) rfl rfl rfl ?_
   refine WL.q (oq_tquo rfl rfl (by omega) (by rw [i64_lo, i64_hi]; omega)) rfl rfl rfl ?_
   refine WL.q (oq_assign rfl) rfl rfl rfl ?_
   refine WL.nil (WE.then_normal (WC.sub (fr' := [(0, _), (1, _), (4, _), (5, _)]) ?_ ⟨rfl, rfl, rfl, rfl, trivial⟩))
   refine WC.seq ?_
   have hk := tdiv_b n 1000000000 (by decide)
   generalize n.tdiv 1000000000 = k at *
   refine WC.region ?_
   refine WL.q (oq_move rfl) rfl rfl rfl ?_
   refine WL.q (oq_move rfl) rfl rfl rfl ?_
   refine WL.q (oq_add rfl rfl (by rw [i64_lo, i64_hi]; (first | omega | (simp only [List.length_cons, List.length_nil, List.length_append, List.length_drop, List.length_take]; omega)))) rfl rfl rfl ?_
   refine WL.q (oq_assign rfl) rfl rfl rfl ?_
   refine WL.nil (WE.then_normal (WC.sub (fr' := [(0, _), (1, _), (4, _), (5, _)]) ?_ ⟨rfl, rfl, rfl, rfl, trivial⟩))
   refine WC.seq (WC.region ?_)
   refine WL.q (oq_move rfl) rfl rfl rfl ?_
   refine WL.q (oq_move rfl) rfl rfl rfl ?_
   refine WL.q (oq_mul rfl rfl (by rw [i64_lo, i64_hi]; (first | omega | (simp only [List.length_cons, List.length_nil, List.length_append, List.length_drop, List.length_take]; omega)))) rfl rfl rfl ?_
   refine WL.q (oq_sub rfl rfl (by rw [i64_lo, i64_hi]; (first | omega | (simp only [List.length_cons, List.length_nil, List.length_append, List.length_drop, List.length_take]; omega)))) rfl rfl rfl ?_
   refine WL.q (oq_assign rfl) rfl rfl rfl ?_
   refine WL.nil (WE.then_normal (WC.sub (fr' := [(0, _), (1, _), (4, _)]) ?_ ⟨rfl, rfl, rfl, trivial⟩))
   refine WC.seq (WC.region ?_)
   refine WL.q (oq_move rfl) rfl rfl rfl ?_
   refine WL.q (oq_lss rfl rfl) rfl rfl rfl ?_
   refine WL.nil (WE.then_normal (WC.sub (fr' := [(0, _), (1, _), (4, _), (22, _)]) ?_ ⟨rfl, rfl, rfl, rfl, trivial⟩))
   refine WC.cond rfl (fun q5 => ?_) (fun q5 => ?_)
   ·
    try simp only [Z1, Z2, Z3, Z4, Z5, Z6, Z7, Z8, Z9, Z0] at q5
    refine WC.seq (WC.region ?_)
    refine WL.q (oq_move rfl) rfl rfl rfl ?_
    refine WL.q (oq_add rfl rfl (by rw [i64_lo, i64_hi]; (first | omega | (simp only [List.length_cons, List.length_nil, List.length_append, List.length_drop, List.length_take]; omega)))) rfl rfl rfl ?_
    refine WL.q (oq_assign rfl) rfl rfl rfl ?_
    refine WL.nil (WE.then_normal (WC.sub (fr' := [(0, _), (1, _), (4, _)]) ?_ ⟨rfl, rfl, rfl, trivial⟩))
    refine WC.region ?_
    refine WL.q (oq_move rfl) rfl rfl rfl ?_
    refine WL.q (oq_sub rfl rfl (by rw [i64_lo, i64_hi]; (first | omega | (simp only [List.length_cons, List.length_nil, List.length_append, List.length_drop, List.length_take]; omega)))) rfl rfl rfl ?_
    refine WL.q (oq_assign rfl) rfl rfl rfl ?_
    refine WL.nil (WE.then_normal (WC.sub (fr' := [(0, _), (1, _), (4, _)]) ?_ ⟨rfl, rfl, rfl, trivial⟩))
    refine WC.seq (WC.region ?_)
    refine WL.q (oq_move rfl) rfl rfl rfl ?_
    refine WL.q (oq_add rfl rfl (by rw [i64_lo, i64_hi]; (first | omega | (simp only [List.length_cons, List.length_nil, List.length_append, List.length_drop, List.length_take]; omega)))) rfl rfl rfl ?_
    refine WL.q (oq_move rfl) rfl rfl rfl ?_
    refine WL.q (oq_conv Tryz.underlying2 Tryz.underlying21 rfl (by rw [i32_lo, i32_hi]; (first | omega | (simp only [List.length_cons, List.length_nil, List.length_append, List.length_drop, List.length_take]; omega)))) rfl rfl rfl ?_
    refine WL.q (oq_build #[_, _, _, _] str124 ty124 rfl rfl) rfl rfl rfl ?_
    refine WL.storeS #[_, _, _, _] ty124 rfl rfl rfl rfl (Nat.le_of_ble_eq_true rfl) rfl rfl ?_
    refine WL.nil (WE.then_normal (WC.sub (fr' := [(4, _)]) ?_ ⟨rfl, trivial⟩))
    refine WC.ret ?_
    refine WE.endD0 (.inl rfl) (rs1 Tryz.results50 (rv_cellS [_, _, _, _] agg124 ty124 rfl (.head _) (List.mem_singleton.2 rfl) rfl rfl)) (dr_lose hb0_0 dr_refl) ?_
    first | (exfalso; omega) | exact tm_eq (by omega) (by omega)
   ·
    try simp only [Z1, Z2, Z3, Z4, Z5, Z6, Z7, Z8, Z9, Z0] at q5
    refine WC.skip (WE.then_normal (WC.sub (fr' := [(0, _), (1, _), (4, _)]) ?_ ⟨rfl, rfl, rfl, trivial⟩))
    refine WC.seq (WC.region ?_)
    refine WL.q (oq_move rfl) rfl rfl rfl ?_
    refine WL.q (oq_add rfl rfl (by rw [i64_lo, i64_hi]; (first | omega | (simp only [List.length_cons, List.length_nil, List.length_append, List.length_drop, List.length_take]; omega)))) rfl rfl rfl ?_
    refine WL.q (oq_move rfl) rfl rfl rfl ?_
    refine WL.q (oq_conv Tryz.underlying2 Tryz.underlying21 rfl (by rw [i32_lo, i32_hi]; (first | omega | (simp only [List.length_cons, List.length_nil, List.length_append, List.length_drop, List.length_take]; omega)))) rfl rfl rfl ?_
    refine WL.q (oq_build #[_, _, _, _] str124 ty124 rfl rfl) rfl rfl rfl ?_
    refine WL.storeS #[_, _, _, _] ty124 rfl rfl rfl rfl (Nat.le_of_ble_eq_true rfl) rfl rfl ?_
    refine WL.nil (WE.then_normal (WC.sub (fr' := [(4, _)]) ?_ ⟨rfl, trivial⟩))
    refine WC.ret ?_
    refine WE.endD0 (.inl rfl) (rs1 Tryz.results50 (rv_cellS [_, _, _, _] agg124 ty124 rfl (.head _) (List.mem_singleton.2 rfl) rfl rfl)) (dr_lose hb0_0 dr_refl) ?_
    first | (exfalso; omega) | exact tm_eq (by omega) (by omega)
  ·
   try simp only [Z1, Z2, Z3, Z4, Z5, Z6, Z7, Z8, Z9, Z0] at q1
   refine WC.skip (WE.then_normal (WC.sub (fr' := [(0, _), (1, _), (4, _)]) ?_ ⟨rfl, rfl, rfl, trivial⟩))
   refine WC.seq (WC.region ?_)
   refine WL.q (oq_move rfl) rfl rfl rfl ?_
   refine WL.q (oq_add rfl rfl (by rw [i64_lo, i64_hi]; (first | omega | (simp only [List.length_cons, List.length_nil, List.length_append, List.length_drop, List.length_take]; omega)))) rfl rfl rfl ?_
   refine WL.q (oq_move rfl) rfl rfl rfl ?_
   refine WL.q (oq_conv Tryz.underlying2 Tryz.underlying21 rfl (by rw [i32_lo, i32_hi]; (first | omega | (simp only [List.length_cons, List.length_nil, List.length_append, List.length_drop, List.length_take]; omega)))) rfl rfl rfl ?_
   refine WL.q (oq_build #[_, _, _, _] str124 ty124 rfl rfl) rfl rfl rfl ?_
   refine WL.storeS #[_, _, _, _] ty124 rfl rfl rfl rfl (Nat.le_of_ble_eq_true rfl) rfl rfl ?_
   refine WL.nil (WE.then_normal (WC.sub (fr' := [(4, _)]) ?_ ⟨rfl, trivial⟩))
   refine WC.ret ?_
   refine WE.endD0 (.inl rfl) (rs1 Tryz.results50 (rv_cellS [_, _, _, _] agg124 ty124 rfl (.head _) (List.mem_singleton.2 rfl) rfl rfl)) (dr_lose hb0_0 dr_refl) ?_
   first | (exfalso; omega) | exact tm_eq (by omega) (by omega)
theorem timeIn (s n : Int) : Fn0 Tryz.prog 80 [tmV s n, S [85, 84, 67], I 0] (tmV s n) := by
 refine Fn0.enter (n := 12) Tryz.func80 rfl rfl fun w0 => ?_
 refine WC.sub (fr' := [(0, _), (1, _), (2, _)]) ?_ ⟨rfl, rfl, rfl, trivial⟩
 refine WC.seq (WC.region ?_)
 refine WL.box rfl rfl rfl fun b0_0 hb0_0 => ?_
 refine WL.alloc ty124 rfl rfl fun b0_1 hb0_1 => ?_
 refine WL.nil (WE.then_normal (WC.sub (fr' := [(1, _), (2, _), (3, _), (6, _)]) ?_ ⟨rfl, rfl, rfl, rfl, trivial⟩))
 refine WC.seq (WC.region ?_)
 refine WL.q (oq_move rfl) rfl rfl rfl ?_
 refine WL.q (oq_move rfl) rfl rfl rfl ?_
 refine WL.q (oq_fieldAddr fld124_2 rfl) rfl rfl rfl ?_
 refine WL.f1 ?_
 refine WL.store1 #[_, _, _, _] ty9 rfl rfl (by first | rfl | exact OwS.one one_) (Nat.lt_of_lt_of_le (Nat.lt_succ_self _) (Nat.le_of_ble_eq_true rfl)) rfl rfl ?_
 refine WL.q (oq_fieldAddr fld124_3 rfl) rfl rfl rfl ?_
 refine WL.store1 #[_, _, _, _] ty3 rfl rfl (by first | rfl | exact OwS.one one_) (Nat.lt_of_lt_of_le (Nat.lt_succ_self _) (Nat.le_of_ble_eq_true rfl)) rfl rfl ?_
 refine WL.nil (WE.then_normal (WC.sub (fr' := [(3, _), (6, _)]) ?_ ⟨rfl, rfl, trivial⟩))
 refine WC.seq (WC.region ?_)
 refine WL.q (oq_loadS [_, _, _, _] agg124 ty124 rfl (.head _) (List.mem_singleton.2 rfl) rfl rfl) rfl rfl rfl ?_
 refine WL.f1 ?_
 refine WL.storeS #[_, _, _, _] ty124 rfl rfl rfl rfl (Nat.le_of_ble_eq_true rfl) rfl rfl ?_
 refine WL.nil (WE.then_normal (WC.sub (fr' := [(6, _)]) ?_ ⟨rfl, trivial⟩))
 refine WC.ret ?_
 refine WE.endD0 (.inl rfl) (rs1 Tryz.results80 (rv_cellS [_, _, _, _] agg124 ty124 rfl (.head _) (List.mem_singleton.2 rfl) rfl rfl)) (dr_lose hb0_1 (dr_lose hb0_0 dr_refl)) ?_
 rfl
theorem timeUTC (s n : Int) : Fn0 Tryz.prog 79 [tmV s n] (tmV s n) := by
 refine Fn0.enter (n := 5) Tryz.func79 rfl rfl fun w0 => ?_
 refine WC.sub (fr' := [(0, _)]) ?_ ⟨rfl, trivial⟩
 refine WC.seq (WC.region ?_)
 refine WL.box rfl rfl rfl fun b0_0 hb0_0 => ?_
 refine WL.alloc ty124 rfl rfl fun b0_1 hb0_1 => ?_
 refine WL.nil (WE.then_normal (WC.sub (fr' := [(1, _), (2, _)]) ?_ ⟨rfl, rfl, trivial⟩))
 refine WC.seq (WC.region ?_)
 refine WL.q (oq_loadS [_, _, _, _] agg124 ty124 rfl (.tail _ (.head _)) (List.mem_singleton.2 rfl) rfl rfl) rfl rfl rfl ?_
 refine WL.qc (oq_call (timeIn s n) call80 rfl) rfl rfl rfl ?_
 refine WL.storeS #[_, _, _, _] ty124 rfl rfl rfl rfl (Nat.le_of_ble_eq_true rfl) rfl rfl ?_
 refine WL.nil (WE.then_normal (WC.sub (fr' := [(2, _)]) ?_ ⟨rfl, trivial⟩))
 refine WC.ret ?_
 refine WE.endD0 (.inl rfl) (rs1 Tryz.results79 (rv_cellS [_, _, _, _] agg124 ty124 rfl (.head _) (List.mem_singleton.2 rfl) rfl rfl)) (dr_lose hb0_1 (dr_lose hb0_0 dr_refl)) ?_
 rfl
theorem fromMilli (ms : Int) (h1 : -9223372036854775808 ≤ ms) (h2 : ms ≤ 9223372036854775807) : Fn0 Tryz.prog 76 [I ms] (msV ms) := by
 have hk := tdiv_b ms 1000 (by decide)
 have hm := tmod_b ms 1000 (by decide)
 refine Fn0.enter (n := 14) Tryz.func76 rfl rfl fun w0 => ?_
 refine WC.sub (fr' := [(0, _)]) ?_ ⟨rfl, trivial⟩
 refine WC.seq (WC.region ?_)
 refine WL.alloc ty124 rfl rfl fun b0_0 hb0_0 => ?_
 refine WL.nil (WE.then_normal (WC.sub (fr' := [(0, _), (2, _)]) ?_ ⟨rfl, rfl, trivial⟩))
 refine WC.seq (WC.region ?_)
 refine WL.q (oq_move rfl) rfl rfl rfl ?_
 refine WL.q (oq_tquo rfl rfl (by omega) (by rw [i64_lo, i64_hi]; omega)) rfl rfl rfl ?_
 refine WL.q (oq_assign rfl) rfl rfl rfl ?_
 refine WL.nil (WE.then_normal (WC.sub (fr' := [(0, _), (2, _), (3, _)]) ?_ ⟨rfl, rfl, rfl, trivial⟩))
 refine WC.seq (WC.region ?_)
 refine WL.q (oq_move rfl) rfl rfl rfl ?_
 refine WL.q (oq_trem rfl rfl (by omega)) rfl rfl rfl ?_
 refine WL.q (oq_assign rfl) rfl rfl rfl ?_
 refine WL.nil (WE.then_normal (WC.sub (fr' := [(2, _), (3, _), (4, _)]) ?_ ⟨rfl, rfl, rfl, trivial⟩))
 refine WC.seq (WC.region ?_)
 refine WL.q (oq_move rfl) rfl rfl rfl ?_
 refine WL.q (oq_move rfl) rfl rfl rfl ?_
 refine WL.q (oq_mul rfl rfl (by rw [i64_lo, i64_hi]; (first | omega | (simp only [List.length_cons, List.length_nil, List.length_append, List.length_drop, List.length_take]; omega)))) rfl rfl rfl ?_
 refine WL.qc (oq_call (unix2 (ms.tdiv 1000) (ms.tmod 1000 * 1000000) (by omega) (by omega) (by omega) (by omega)) call50 rfl) rfl rfl rfl ?_
 refine WL.qc (oq_call (timeUTC _ _) call79 rfl) rfl rfl rfl ?_
 refine WL.storeS #[_, _, _, _] ty124 rfl rfl rfl rfl (Nat.le_of_ble_eq_true rfl) rfl rfl ?_
 refine WL.nil (WE.then_normal (WC.sub (fr' := [(2, _)]) ?_ ⟨rfl, trivial⟩))
 refine WC.ret ?_
 refine WE.endD0 (.inl rfl) (rs1 Tryz.results76 (rv_cellS [_, _, _, _] agg124 ty124 rfl (.head _) (List.mem_singleton.2 rfl) rfl rfl)) (dr_lose hb0_0 dr_refl) ?_
 exact msv_in h1 h2
theorem decTimestampValue (tv : Nat) (base : Nat) (E : Hp) (kE : TypeId) (pE pU : Addr) (hS : Sn E kE pE pU) (k : TypeId) (r : Value) (f : FuncId) (Rt : List UInt8 → Hp → Prop) (hR : Rr base k r f E kE pE pU Rt) (rs : List UInt8) (X : Hp) (hX : Rt rs X) (hrs : rs.length ≤ 1000000) : FnW Tryz.prog 66 [Pt tv 0, .iface k r] base [[(tv, .cells #[I 0, .int .i32 0, S [], I 0] 123 (0, 0))], X, E] (fun w Hs => ∃ X2 cs, w = erv kE pE pU 0 (rdc 8 rs) ∧ Hs = [[(tv, .cells cs 123 (0, 0))], X2, E] ∧ Rt (rs.drop 8) X2 ∧ cs.size = 4 ∧ (8 ≤ rs.length → .agg cs = msV (IntKind.i64.wrap (nm (rs.take 8))))) := by
 refine FnW.enter (n := 20) Tryz.func66 rfl rfl fun w0 R0 hbase => ?_
 subst hbase
 show WC _ _ _ _ _ _ _ ([[(tv, .cells #[I 0, .int .i32 0, S [], I 0] 123 (0, 0))], X, E, R0])
 refine WC.sub (fr' := [(0, _), (1, _)]) ?_ ⟨rfl, rfl, trivial⟩
 refine WC.seq (WC.region ?_)
 refine WL.q (oq_assign rfl) rfl rfl rfl ?_
 refine WL.nil (WE.then_normal (WC.sub (fr' := [(0, _), (1, _)]) ?_ ⟨rfl, rfl, trivial⟩))
 refine WC.seq (WC.region ?_)
 refine WL.q (oq_move rfl) rfl rfl rfl ?_
 refine WL.f2 ?_
 refine WL.f2 ?_
 refine WL.callW2 (dec64 _ E kE pE pU hS k r f Rt hR rs X hX hrs) call73 rfl rfl rfl fun v1_1 Hs1_1 hR1_1 => ?_
 obtain ⟨X2, x, rfl, rfl, hX2, hb, hxl⟩ := hR1_1
 refine WL.to2 ?_
 refine WL.q (oq_move rfl) rfl rfl rfl ?_
 refine WL.q (oq_extract rfl rfl) rfl rfl rfl ?_
 refine WL.q (oq_extract rfl rfl) rfl rfl rfl ?_
 refine WL.q (oq_assign rfl) rfl rfl rfl ?_
 refine WL.q (oq_assign rfl) rfl rfl rfl ?_
 refine WL.nil (WE.then_normal (WC.sub (fr' := [(0, _), (5, _), (6, _)]) ?_ ⟨rfl, rfl, rfl, trivial⟩))
 refine WC.seq (WC.seq (WC.region ?_))
 refine WL.q (oq_move rfl) rfl rfl rfl ?_
 refine WL.q (oq_ineq Tryz.underlying41 rfl (erv_or _ _ _ _ _)) rfl rfl rfl ?_
 refine WL.nil (WE.then_normal (WC.sub (fr' := [(0, _), (5, _), (6, _), (13, _)]) ?_ ⟨rfl, rfl, rfl, rfl, trivial⟩))
 refine WC.cond rfl (fun q2 => ?_) (fun q2 => ?_)
 ·
  try simp only [Z1, Z2, Z3, Z4, Z5, Z6, Z7, Z8, Z9, Z0] at q2
  refine WC.seq (WC.region ?_)
  refine WL.q (oq_move rfl) rfl rfl rfl ?_
  refine WL.q (oq_assign rfl) rfl rfl rfl ?_
  refine WL.nil (WE.then_normal (WC.sub (fr' := [(4, _)]) ?_ ⟨rfl, trivial⟩))
  refine WC.ret (WE.then_ret ?_)
  refine WE.f3 ?_
  refine WE.f2 ?_
  refine WE.f2 ?_
  refine WE.f3 ?_
  refine WE.endW3 (.inl rfl) (res1 Tryz.results66 rfl) ?_
  have hne := rdcN (ervN (by simpa using q2))
  exact ⟨X2, _, rfl, rfl, hX2, rfl, fun h => (by omega)⟩
 ·
  try simp only [Z1, Z2, Z3, Z4, Z5, Z6, Z7, Z8, Z9, Z0] at q2
  refine WC.skip (WE.then_normal (WC.sub (fr' := [(0, _), (5, _)]) ?_ ⟨rfl, rfl, trivial⟩))
  refine WC.seq (WC.region ?_)
  refine WL.q (oq_move rfl) rfl rfl rfl ?_
  refine WL.q (oq_move rfl) rfl rfl rfl ?_
  refine WL.q (oq_convw Tryz.underlying112 Tryz.underlying2 rfl) rfl rfl rfl ?_
  refine WL.qc (oq_call (fromMilli (IntKind.i64.wrap (x : Nat)) (by have := wrap_bnd .i64 ((x : Nat) : Int); rw [i64_lo] at this; exact this.1) (by have := wrap_bnd .i64 ((x : Nat) : Int); rw [i64_hi] at this; exact this.2)) call76 rfl) rfl rfl rfl ?_
  refine WL.q (oq_nilCheck rfl) rfl rfl rfl ?_
  refine WL.f2 ?_
  refine WL.storeS #[_, _, _, _] ty123 rfl rfl rfl rfl (Nat.le_of_ble_eq_true rfl) rfl rfl ?_
  refine WL.nil (WE.then_normal (WC.sub (fr' := []) ?_ trivial))
  refine WC.seq (WC.region ?_)
  refine WL.q (oq_assign rfl) rfl rfl rfl ?_
  refine WL.nil (WE.then_normal (WC.sub (fr' := [(4, _)]) ?_ ⟨rfl, trivial⟩))
  refine WC.ret ?_
  refine WE.endW3 (.inl rfl) (res1 Tryz.results66 rfl) ?_
  have hle := rdc0 (erv0 (by simpa using q2))
  rw [rdc_le hle]
  exact ⟨X2, _, rfl, rfl, hX2, rfl, fun h => by rw [hb h]⟩
theorem decFixed (bb m : Nat) (e : TypeId) (hm : m ≤ 1000) (base : Nat) (E : Hp) (kE : TypeId) (pE pU : Addr) (hS : Sn E kE pE pU) (k : TypeId) (r : Value) (f : FuncId) (Rt : List UInt8 → Hp → Prop) (hR : Rr base k r f E kE pE pU Rt) (rs : List UInt8) (X : Hp) (hX : Rt rs X) (hrs : rs.length ≤ 1000000) : FnW Tryz.prog 77 [.iface k r, Sl bb 0 m m] base [Bf bb e (List.replicate m 0), X, E] (fun w Hs => ∃ X2, w = erv kE pE pU 0 (rdc m rs) ∧ Hs = [Bf bb e (putB (List.replicate m 0) 0 (rs.take m)), X2, E] ∧ Rt (rs.drop m) X2) := by
 refine FnW.enter (n := 14) Tryz.func77 rfl rfl fun w0 R0 hbase => ?_
 subst hbase
 show WC _ _ _ _ _ _ _ ([Bf bb e (List.replicate m 0), X, E, R0])
 refine WC.sub (fr' := [(0, _), (1, _)]) ?_ ⟨rfl, rfl, trivial⟩
 refine WC.seq (WC.region ?_)
 refine WL.q (oq_assign rfl) rfl rfl rfl ?_
 refine WL.nil (WE.then_normal (WC.sub (fr' := [(0, _), (1, _)]) ?_ ⟨rfl, rfl, trivial⟩))
 refine WC.seq (WC.region ?_)
 refine WL.q (oq_move rfl) rfl rfl rfl ?_
 refine WL.q (oq_move rfl) rfl rfl rfl ?_
 refine WL.f2 ?_
 refine WL.f1 ?_
 refine WL.f2 ?_
 refine WL.callW3 (readFull _ E kE pE pU hS k r f Rt hR bb 0 m m e (List.replicate m 0) (by simp) (by omega) (by simp; omega) rs X hX hrs) call57 rfl rfl rfl fun v1_2 Hs1_2 hR1_2 => ?_
 obtain ⟨X2, vn, rfl, rfl, hX2⟩ := hR1_2
 refine WL.to3 ?_
 refine WL.q (oq_move rfl) rfl rfl rfl ?_
 refine WL.q (oq_extract rfl rfl) rfl rfl rfl ?_
 refine WL.q (oq_extract rfl rfl) rfl rfl rfl ?_
 refine WL.q (oq_assign rfl) rfl rfl rfl ?_
 refine WL.q (oq_assign rfl) rfl rfl rfl ?_
 refine WL.nil (WE.then_normal (WC.sub (fr' := [(6, _)]) ?_ ⟨rfl, trivial⟩))
 refine WC.seq (WC.region ?_)
 refine WL.q (oq_move rfl) rfl rfl rfl ?_
 refine WL.q (oq_assign rfl) rfl rfl rfl ?_
 refine WL.nil (WE.then_normal (WC.sub (fr' := [(4, _)]) ?_ ⟨rfl, trivial⟩))
 refine WC.ret ?_
 refine WE.f3 ?_
 refine WE.f3 ?_
 refine WE.f2 ?_
 refine WE.f3 ?_
 refine WE.endW3 (.inl rfl) (res1 Tryz.results77 rfl) ?_
 exact ⟨X2, rfl, rfl, hX2⟩
theorem decUUIDValue (tv : Nat) (base : Nat) (E : Hp) (kE : TypeId) (pE pU : Addr) (hS : Sn E kE pE pU) (k : TypeId) (r : Value) (f : FuncId) (Rt : List UInt8 → Hp → Prop) (hR : Rr base k r f E kE pE pU Rt) (rs : List UInt8) (X : Hp) (hX : Rt rs X) (hrs : rs.length ≤ 1000000) : FnW Tryz.prog 67 [Pt tv 0, .iface k r] base [Bf tv 127 (List.replicate 16 0), X, E] (fun w Hs => ∃ X2, w = erv kE pE pU 0 (rdc 16 rs) ∧ Hs = [Bf tv 127 (putB (List.replicate 16 0) 0 (rs.take 16)), X2, E] ∧ Rt (rs.drop 16) X2) := by
 refine FnW.enter (n := 12) Tryz.func67 rfl rfl fun w0 R0 hbase => ?_
 subst hbase
 show WC _ _ _ _ _ _ _ ([Bf tv 127 (List.replicate 16 0), X, E, R0])
 refine WC.sub (fr' := [(0, _), (1, _)]) ?_ ⟨rfl, rfl, trivial⟩
 refine WC.seq (WC.region ?_)
 refine WL.q (oq_assign rfl) rfl rfl rfl ?_
 refine WL.nil (WE.then_normal (WC.sub (fr' := [(0, _), (1, _)]) ?_ ⟨rfl, rfl, trivial⟩))
 refine WC.seq (WC.region ?_)
 refine WL.q (oq_move rfl) rfl rfl rfl ?_
 refine WL.q (oq_nilCheck rfl) rfl rfl rfl ?_
 refine WL.q (oq_sliceArr Tryz.underlying127 ty5 rfl rfl rfl (by (first | omega | (simp; done))) (by (first | omega | (simp; done)))) rfl rfl rfl ?_
 refine WL.q (oq_assign rfl) rfl rfl rfl ?_
 refine WL.nil (WE.then_normal (WC.sub (fr' := [(1, _), (5, _)]) ?_ ⟨rfl, rfl, trivial⟩))
 refine WC.seq (WC.region ?_)
 refine WL.q (oq_move rfl) rfl rfl rfl ?_
 refine WL.q (oq_move rfl) rfl rfl rfl ?_
 refine WL.f2 ?_
 refine WL.f2 ?_
 refine WL.f2 ?_
 refine WL.callW3 (decFixed tv 16 127 (by decide) _ E kE pE pU hS k r f Rt hR rs X hX hrs) call77 rfl rfl rfl fun v2_2 Hs2_2 hR2_2 => ?_
 obtain ⟨X2, rfl, rfl, hX2⟩ := hR2_2
 refine WL.to3 ?_
 refine WL.q (oq_assign rfl) rfl rfl rfl ?_
 refine WL.nil (WE.then_normal (WC.sub (fr' := [(4, _)]) ?_ ⟨rfl, trivial⟩))
 refine WC.ret ?_
 refine WE.endW3 (.inl rfl) (res1 Tryz.results67 rfl) ?_
 exact ⟨X2, rfl, rfl, hX2⟩
theorem errNew (s : List UInt8) : FnA Tryz.prog 68 [S s] [] (fun w N => ∃ ob, w = .iface 196 (Pt ob 0) ∧ N = [(ob, .cells #[S s] 198 (0, 0))]) := by
 refine FnA.enter0 (n := 7) Tryz.func68 rfl rfl fun w0 => ?_
 refine WC.sub (fr' := [(0, _)]) ?_ ⟨rfl, trivial⟩
 refine WC.seq (WC.region ?_)
 refine WL.q (oq_assign rfl) rfl rfl rfl ?_
 refine WL.nil (WE.then_normal (WC.sub (fr' := [(0, _)]) ?_ ⟨rfl, trivial⟩))
 refine WC.seq (WC.region ?_)
 refine WL.q (oq_move rfl) rfl rfl rfl ?_
 refine WL.q (oq_build #[_] str198 ty198 rfl rfl) rfl rfl rfl ?_
 refine WL.box rfl rfl rfl fun ob hob => ?_
 refine WL.q (oq_makeI conc196 rfl) rfl rfl rfl ?_
 refine WL.q (oq_assign rfl) rfl rfl rfl ?_
 refine WL.nil (WE.then_normal (WC.sub (fr' := [(2, _)]) ?_ ⟨rfl, trivial⟩))
 refine WC.ret ?_
 refine WE.endA0 (.inl rfl) (res1 Tryz.results68 rfl) ?_ (fresh1 hob)
 exact ⟨_, rfl, rfl⟩
end DF
end Go.Proofs.YtpjeiimlglgklaaGreatDoor
/- Headers that are read. -/
namespace Go.Proofs.YtpjeiimlglgklaaGreatDoor
open Go Go.RowKit V EA EB EC ED EL DC DD DA DE EE EH EI EJ DF
set_option linter.unusedSimpArgs false
set_option linter.unusedVariables false
set_option maxRecDepth 10000
namespace DG
theorem call57 : Callable Tryz.prog 57 := ⟨_, Tryz.func57, rfl, by kernel_rfl⟩
theorem call59 : Callable Tryz.prog 59 := ⟨_, Tryz.func59, rfl, by kernel_rfl⟩
theorem call60 : Callable Tryz.prog 60 := ⟨_, Tryz.func60, rfl, by kernel_rfl⟩
theorem call61 : Callable Tryz.prog 61 := ⟨_, Tryz.func61, rfl, by kernel_rfl⟩
theorem call62 : Callable Tryz.prog 62 := ⟨_, Tryz.func62, rfl, by kernel_rfl⟩
theorem call63 : Callable Tryz.prog 63 := ⟨_, Tryz.func63, rfl, by kernel_rfl⟩
theorem call64 : Callable Tryz.prog 64 := ⟨_, Tryz.func64, rfl, by kernel_rfl⟩
theorem call65 : Callable Tryz.prog 65 := ⟨_, Tryz.func65, rfl, by kernel_rfl⟩
theorem call66 : Callable Tryz.prog 66 := ⟨_, Tryz.func66, rfl, by kernel_rfl⟩
theorem call67 : Callable Tryz.prog 67 := ⟨_, Tryz.func67, rfl, by kernel_rfl⟩
theorem call68 : Callable Tryz.prog 68 := ⟨_, Tryz.func68, rfl, by kernel_rfl⟩
theorem flat5 : Flat Tryz.prog 5 := ⟨_, Tryz.underlying5, by simp⟩
theorem flat113 : Flat Tryz.prog 113 := ⟨_, Tryz.underlying113, by simp⟩
theorem flat114 : Flat Tryz.prog 114 := ⟨_, Tryz.underlying114, by simp⟩
theorem flat117 : Flat Tryz.prog 117 := ⟨_, Tryz.underlying117, by simp⟩
theorem flat118 : Flat Tryz.prog 118 := ⟨_, Tryz.underlying118, by simp⟩
theorem flat119 : Flat Tryz.prog 119 := ⟨_, Tryz.underlying119, by simp⟩
theorem flat120 : Flat Tryz.prog 120 := ⟨_, Tryz.underlying120, by simp⟩
theorem flat121 : Flat Tryz.prog 121 := ⟨_, Tryz.underlying121, by simp⟩
theorem ty5 : Ty Tryz.prog 5 (.int .u8 0) 1 1 := ty_of (by kernel_rfl)
theorem ty98 : Ty Tryz.prog 98 (.agg #[(.int .u8 0), (.int .u8 0), (.int .u8 0), (.int .u8 0), (.int .u8 0), (.int .u8 0), (.int .u8 0), (.int .u8 0), (.int .u8 0), (.int .u8 0), (.int .u8 0), (.int .u8 0), (.int .u8 0), (.int .u8 0), (.int .u8 0), (.int .u8 0), (.int .u8 0), (.int .u8 0), (.int .u8 0), (.int .u8 0), (.int .u8 0), (.int .u8 0), (.int .u8 0), (.int .u8 0), (.int .u8 0), (.int .u8 0), (.int .u8 0), (.int .u8 0), (.int .u8 0), (.int .u8 0), (.int .u8 0), (.int .u8 0), (.int .u8 0), (.int .u8 0), (.int .u8 0), (.int .u8 0), (.int .u8 0), (.int .u8 0), (.int .u8 0), (.int .u8 0), (.int .u8 0), (.int .u8 0), (.int .u8 0), (.int .u8 0), (.int .u8 0), (.int .u8 0), (.int .u8 0), (.int .u8 0), (.int .u8 0), (.int .u8 0), (.int .u8 0), (.int .u8 0), (.int .u8 0), (.int .u8 0), (.int .u8 0), (.int .u8 0), (.int .u8 0), (.int .u8 0), (.int .u8 0), (.int .u8 0), (.int .u8 0), (.int .u8 0), (.int .u8 0), (.int .u8 0), (.int .u8 0), (.int .u8 0), (.int .u8 0), (.int .u8 0), (.int .u8 0), (.int .u8 0), (.int .u8 0), (.int .u8 0), (.int .u8 0), (.int .u8 0), (.int .u8 0), (.int .u8 0), (.int .u8 0), (.int .u8 0), (.int .u8 0), (.int .u8 0), (.int .u8 0), (.int .u8 0), (.int .u8 0), (.int .u8 0), (.int .u8 0), (.int .u8 0), (.int .u8 0), (.int .u8 0), (.int .u8 0), (.int .u8 0), (.int .u8 0), (.int .u8 0), (.int .u8 0), (.int .u8 0), (.int .u8 0), (.int .u8 0), (.int .u8 0), (.int .u8 0), (.int .u8 0), (.int .u8 0), (.int .u8 0), (.int .u8 0), (.int .u8 0), (.int .u8 0), (.int .u8 0), (.int .u8 0), (.int .u8 0), (.int .u8 0), (.int .u8 0), (.int .u8 0), (.int .u8 0), (.int .u8 0), (.int .u8 0), (.int .u8 0), (.int .u8 0), (.int .u8 0), (.int .u8 0), (.int .u8 0), (.int .u8 0), (.int .u8 0), (.int .u8 0), (.int .u8 0), (.int .u8 0), (.int .u8 0), (.int .u8 0), (.int .u8 0), (.int .u8 0), (.int .u8 0), (.int .u8 0), (.int .u8 0), (.int .u8 0), (.int .u8 0), (.int .u8 0), (.int .u8 0), (.int .u8 0), (.int .u8 0), (.int .u8 0), (.int .u8 0), (.int .u8 0), (.int .u8 0), (.int .u8 0), (.int .u8 0), (.int .u8 0), (.int .u8 0), (.int .u8 0), (.int .u8 0), (.int .u8 0), (.int .u8 0), (.int .u8 0), (.int .u8 0), (.int .u8 0), (.int .u8 0), (.int .u8 0), (.int .u8 0), (.int .u8 0), (.int .u8 0), (.int .u8 0), (.int .u8 0), (.int .u8 0), (.int .u8 0), (.int .u8 0), (.int .u8 0), (.int .u8 0), (.int .u8 0), (.int .u8 0), (.int .u8 0), (.int .u8 0), (.int .u8 0), (.int .u8 0), (.int .u8 0), (.int .u8 0), (.int .u8 0), (.int .u8 0), (.int .u8 0), (.int .u8 0), (.int .u8 0), (.int .u8 0), (.int .u8 0), (.int .u8 0), (.int .u8 0), (.int .u8 0), (.int .u8 0), (.int .u8 0), (.int .u8 0), (.int .u8 0), (.int .u8 0), (.int .u8 0), (.int .u8 0), (.int .u8 0), (.int .u8 0), (.int .u8 0), (.int .u8 0), (.int .u8 0), (.int .u8 0), (.int .u8 0), (.int .u8 0), (.int .u8 0), (.int .u8 0), (.int .u8 0), (.int .u8 0), (.int .u8 0), (.int .u8 0), (.int .u8 0), (.int .u8 0), (.int .u8 0), (.int .u8 0), (.int .u8 0), (.int .u8 0), (.int .u8 0), (.int .u8 0), (.int .u8 0), (.int .u8 0), (.int .u8 0), (.int .u8 0), (.int .u8 0), (.int .u8 0), (.int .u8 0), (.int .u8 0), (.int .u8 0), (.int .u8 0), (.int .u8 0), (.int .u8 0), (.int .u8 0), (.int .u8 0), (.int .u8 0), (.int .u8 0), (.int .u8 0), (.int .u8 0), (.int .u8 0), (.int .u8 0), (.int .u8 0), (.int .u8 0), (.int .u8 0), (.int .u8 0), (.int .u8 0), (.int .u8 0), (.int .u8 0), (.int .u8 0), (.int .u8 0), (.int .u8 0), (.int .u8 0), (.int .u8 0), (.int .u8 0), (.int .u8 0), (.int .u8 0), (.int .u8 0), (.int .u8 0), (.int .u8 0), (.int .u8 0), (.int .u8 0), (.int .u8 0), (.int .u8 0), (.int .u8 0), (.int .u8 0), (.int .u8 0)]) 255 255 := ty_of (by kernel_rfl)
theorem ty100 : Ty Tryz.prog 100 (.agg #[(.int .u8 0), (.int .u8 0), (.int .u8 0), (.int .u8 0), (.int .u8 0), (.int .u8 0), (.int .u8 0), (.int .u8 0), (.int .u8 0), (.int .u8 0), (.int .u8 0), (.int .u8 0), (.int .u8 0), (.int .u8 0), (.int .u8 0), (.int .u8 0), (.int .u8 0), (.int .u8 0), (.int .u8 0), (.int .u8 0), (.int .u8 0), (.int .u8 0), (.int .u8 0), (.int .u8 0), (.int .u8 0), (.int .u8 0), (.int .u8 0), (.int .u8 0), (.int .u8 0), (.int .u8 0), (.int .u8 0), (.int .u8 0), (.int .u8 0), (.int .u8 0), (.int .u8 0), (.int .u8 0), (.int .u8 0), (.int .u8 0), (.int .u8 0), (.int .u8 0), (.int .u8 0), (.int .u8 0), (.int .u8 0), (.int .u8 0), (.int .u8 0), (.int .u8 0), (.int .u8 0), (.int .u8 0), (.int .u8 0), (.int .u8 0), (.int .u8 0), (.int .u8 0), (.int .u8 0), (.int .u8 0), (.int .u8 0), (.int .u8 0), (.int .u8 0), (.int .u8 0), (.int .u8 0), (.int .u8 0), (.int .u8 0), (.int .u8 0), (.int .u8 0), (.int .u8 0), (.int .u8 0), (.int .u8 0), (.int .u8 0), (.int .u8 0), (.int .u8 0), (.int .u8 0), (.int .u8 0), (.int .u8 0), (.int .u8 0), (.int .u8 0), (.int .u8 0), (.int .u8 0), (.int .u8 0), (.int .u8 0), (.int .u8 0), (.int .u8 0), (.int .u8 0), (.int .u8 0), (.int .u8 0), (.int .u8 0), (.int .u8 0), (.int .u8 0), (.int .u8 0), (.int .u8 0), (.int .u8 0), (.int .u8 0), (.int .u8 0), (.int .u8 0), (.int .u8 0), (.int .u8 0), (.int .u8 0), (.int .u8 0), (.int .u8 0), (.int .u8 0), (.int .u8 0), (.int .u8 0), (.int .u8 0), (.int .u8 0), (.int .u8 0), (.int .u8 0), (.int .u8 0), (.int .u8 0), (.int .u8 0), (.int .u8 0), (.int .u8 0), (.int .u8 0), (.int .u8 0), (.int .u8 0), (.int .u8 0), (.int .u8 0), (.int .u8 0), (.int .u8 0), (.int .u8 0), (.int .u8 0), (.int .u8 0), (.int .u8 0), (.int .u8 0), (.int .u8 0), (.int .u8 0), (.int .u8 0), (.int .u8 0), (.int .u8 0), (.int .u8 0), (.int .u8 0), (.int .u8 0), (.int .u8 0), (.int .u8 0), (.int .u8 0), (.int .u8 0), (.int .u8 0), (.int .u8 0), (.int .u8 0), (.int .u8 0), (.int .u8 0), (.int .u8 0), (.int .u8 0), (.int .u8 0), (.int .u8 0), (.int .u8 0), (.int .u8 0), (.int .u8 0), (.int .u8 0), (.int .u8 0), (.int .u8 0), (.int .u8 0), (.int .u8 0), (.int .u8 0), (.int .u8 0), (.int .u8 0), (.int .u8 0), (.int .u8 0), (.int .u8 0), (.int .u8 0), (.int .u8 0), (.int .u8 0), (.int .u8 0), (.int .u8 0), (.int .u8 0), (.int .u8 0), (.int .u8 0), (.int .u8 0), (.int .u8 0), (.int .u8 0), (.int .u8 0), (.int .u8 0), (.int .u8 0), (.int .u8 0), (.int .u8 0), (.int .u8 0), (.int .u8 0), (.int .u8 0), (.int .u8 0), (.int .u8 0), (.int .u8 0), (.int .u8 0), (.int .u8 0), (.int .u8 0), (.int .u8 0), (.int .u8 0), (.int .u8 0), (.int .u8 0), (.int .u8 0), (.int .u8 0), (.int .u8 0), (.int .u8 0), (.int .u8 0), (.int .u8 0), (.int .u8 0), (.int .u8 0), (.int .u8 0), (.int .u8 0), (.int .u8 0), (.int .u8 0), (.int .u8 0), (.int .u8 0), (.int .u8 0), (.int .u8 0), (.int .u8 0), (.int .u8 0), (.int .u8 0), (.int .u8 0), (.int .u8 0), (.int .u8 0), (.int .u8 0), (.int .u8 0), (.int .u8 0), (.int .u8 0), (.int .u8 0), (.int .u8 0), (.int .u8 0), (.int .u8 0), (.int .u8 0), (.int .u8 0), (.int .u8 0), (.int .u8 0), (.int .u8 0), (.int .u8 0), (.int .u8 0), (.int .u8 0), (.int .u8 0), (.int .u8 0), (.int .u8 0), (.int .u8 0), (.int .u8 0), (.int .u8 0), (.int .u8 0), (.int .u8 0), (.int .u8 0), (.int .u8 0), (.int .u8 0), (.int .u8 0), (.int .u8 0), (.int .u8 0), (.int .u8 0), (.int .u8 0), (.int .u8 0), (.int .u8 0), (.int .u8 0), (.int .u8 0), (.int .u8 0), (.int .u8 0), (.int .u8 0), (.int .u8 0), (.int .u8 0), (.int .u8 0), (.int .u8 0), (.int .u8 0), (.int .u8 0), (.int .u8 0), (.int .u8 0), (.int .u8 0), (.int .u8 0)]) 256 256 := ty_of (by kernel_rfl)
theorem ty113 : Ty Tryz.prog 113 (.int .u8 0) 1 1 := ty_of (by kernel_rfl)
theorem ty114 : Ty Tryz.prog 114 (.int .i8 0) 1 1 := ty_of (by kernel_rfl)
theorem ty117 : Ty Tryz.prog 117 (.int .i16 0) 1 2 := ty_of (by kernel_rfl)
theorem ty118 : Ty Tryz.prog 118 (.int .i32 0) 1 4 := ty_of (by kernel_rfl)
theorem ty119 : Ty Tryz.prog 119 (.int .i64 0) 1 8 := ty_of (by kernel_rfl)
theorem ty120 : Ty Tryz.prog 120 (.slice none 0 0) 1 24 := ty_of (by kernel_rfl)
theorem ty121 : Ty Tryz.prog 121 (S []) 1 16 := ty_of (by kernel_rfl)
theorem ty123 : Ty Tryz.prog 123 (.agg #[(.int .i64 0), (.int .i32 0), (S []), (.int .i64 0)]) 4 40 := ty_of (by kernel_rfl)
theorem ty127 : Ty Tryz.prog 127 (.agg #[(.int .u8 0), (.int .u8 0), (.int .u8 0), (.int .u8 0), (.int .u8 0), (.int .u8 0), (.int .u8 0), (.int .u8 0), (.int .u8 0), (.int .u8 0), (.int .u8 0), (.int .u8 0), (.int .u8 0), (.int .u8 0), (.int .u8 0), (.int .u8 0)]) 16 16 := ty_of (by kernel_rfl)
theorem ty170 : Ty Tryz.prog 170 (.agg #[(.int .u8 0), (.int .u16 0), (.slice none 0 0)]) 3 32 := ty_of (by kernel_rfl)
theorem conc114 : Conc Tryz.prog 114 := ⟨_, Tryz.underlying114, by simp⟩
theorem conc117 : Conc Tryz.prog 117 := ⟨_, Tryz.underlying117, by simp⟩
theorem conc118 : Conc Tryz.prog 118 := ⟨_, Tryz.underlying118, by simp⟩
theorem conc119 : Conc Tryz.prog 119 := ⟨_, Tryz.underlying119, by simp⟩
theorem conc120 : Conc Tryz.prog 120 := ⟨_, Tryz.underlying120, by simp⟩
theorem conc121 : Conc Tryz.prog 121 := ⟨_, Tryz.underlying121, by simp⟩
theorem conc123 : Conc Tryz.prog 123 := ⟨_, Tryz.underlying123, by simp⟩
theorem conc127 : Conc Tryz.prog 127 := ⟨_, Tryz.underlying127, by simp⟩
theorem conc128 : Conc Tryz.prog 128 := ⟨_, Tryz.underlying128, by simp⟩
theorem agg123 : Agg Tryz.prog 123 := agg_of Tryz.underlying123
theorem agg127 : Agg Tryz.prog 127 := agg_arr Tryz.underlying127
theorem fld100_0 : Fld Tryz.prog 100 0 0 5 := fld_of Tryz.underlying100 rfl rfl rfl ty5 (by decide)
theorem fld100_1 : Fld Tryz.prog 100 1 1 98 := fld_of Tryz.underlying100 rfl rfl rfl ty98 (by decide)
theorem fld170_0 : Fld Tryz.prog 170 0 0 113 := fld_of Tryz.underlying170 rfl rfl rfl ty113 (by decide)
def putP : List PV → PV → List PV
 | [], p => [p]
 | x :: l, p => if x.name = p.name then p :: l else x :: putP l p
def PB : List HV → List PV → Hp → Prop
 | [], [], _ => True
 | h :: l, p :: ps, Z => p.name = h.name ∧ VBk h (.iface p.k p.r) Z ∧ PB l ps Z
 | [], _ :: _, _ => False
 | _ :: _, [], _ => False
theorem PB.len : ∀ {l : List HV} {ps : List PV} {Z : Hp}, PB l ps Z → ps.length = l.length
 | [], [], _, _ => rfl
 | _ :: l, _ :: ps, _, h => by simp [PB.len h.2.2]
 | [], _ :: _, _, h => h.elim
 | _ :: _, [], _, h => h.elim
theorem PB.weaken : ∀ {l : List HV} {ps : List PV} {A C : Hp}, PB l ps A → (∀ x ∈ A, x ∈ C) → PB l ps C
 | [], [], _, _, _, _ => trivial
 | _ :: l, _ :: ps, _, _, h, hs => ⟨h.1, h.2.1.weaken hs, PB.weaken h.2.2 hs⟩
 | [], _ :: _, _, _, h, _ => h.elim
 | _ :: _, [], _, _, h, _ => h.elim
theorem PB.put : ∀ {l : List HV} {ps : List PV} {Z : Hp} {h : HV} {p : PV}, PB l ps Z → p.name = h.name → VBk h (.iface p.k p.r) Z → PB (put l h) (putP ps p) Z
 | [], [], _, _, _, _, hn, hv => ⟨hn, hv, trivial⟩
 | x :: l, q :: ps, Z, h, p, hp, hn, hv => by
  unfold DA.put putP
  by_cases e : x.name = h.name
  ·rw [if_pos e, if_pos (by rw [hp.1, e, hn])]; exact ⟨hn, hv, hp.2.2⟩
  ·rw [if_neg e, if_neg (by rw [hp.1, hn]; exact e)]; exact ⟨hp.1, hp.2.1, PB.put hp.2.2 hn hv⟩
 | [], _ :: _, _, _, _, h, _, _ => h.elim
 | _ :: _, [], _, _, _, h, _, _ => h.elim
theorem PB.get : ∀ {l : List HV} {ps : List PV} {Z : Hp}, PB l ps Z → ∀ i, i < l.length → (ps.getD i PV0).name = (l.getD i HV0).name ∧ VBk (l.getD i HV0) (.iface (ps.getD i PV0).k (ps.getD i PV0).r) Z
 | h :: l, p :: ps, Z, hp, 0, _ => ⟨hp.1, hp.2.1⟩
 | h :: l, p :: ps, Z, hp, i + 1, hi => by
  have := PB.get hp.2.2 i (by simpa using hi)
  simpa [List.getD_eq_getElem?_getD] using this
 | [], _ :: _, _, h, _, _ => h.elim
 | _ :: _, [], _, h, _, _ => h.elim
theorem putP_app : ∀ {ps : List PV} {p : PV}, (∀ j, j < ps.length → (ps.getD j PV0).name ≠ p.name) → putP ps p = ps ++ [p]
 | [], _, _ => rfl
 | x :: l, p, h => by
  have h0 : x.name ≠ p.name := by simpa using h 0 (by simp)
  unfold putP
  rw [if_neg h0, putP_app fun j hj => by simpa [List.getD_eq_getElem?_getD] using h (j + 1) (by simpa using hj)]; rfl
theorem putP_set : ∀ {ps : List PV} {p : PV} {i : Nat}, i < ps.length → (∀ j, j < i → (ps.getD j PV0).name ≠ p.name) → (ps.getD i PV0).name = p.name → putP ps p = ps.set i p
 | [], _, _, h, _, _ => nomatch h
 | x :: l, p, 0, _, _, h => by
  have h0 : x.name = p.name := by simpa using h
  unfold putP; rw [if_pos h0]; rfl
 | x :: l, p, i + 1, hi, hj, h => by
  have h0 : x.name ≠ p.name := by simpa using hj 0 (by omega)
  unfold putP
  rw [if_neg h0, putP_set (i := i) (by simpa using hi) (fun j h2 => by simpa [List.getD_eq_getElem?_getD] using hj (j + 1) (by omega)) (by simpa [List.getD_eq_getElem?_getD] using h)]; rfl
theorem recs_set : ∀ {ps : List PV} {i : Nat} {k : TypeId} {r : Value}, i < ps.length → (recsV PV.row ps).set (i * 2 + 1) (.iface k r) = recsV PV.row (ps.set i ⟨(ps.getD i PV0).name, k, r⟩)
 | [], _, _, _, h => nomatch h
 | x :: l, 0, k, r, _ => rfl
 | x :: l, i + 1, k, r, hi => by
  have h1 := recs_set (ps := l) (i := i) (k := k) (r := r) (by simpa using hi)
  have e : recsV PV.row (x :: l) = S x.name :: .iface x.k x.r :: recsV PV.row l := rfl
  have e2 : recsV PV.row (x :: l.set i ⟨(l.getD i PV0).name, k, r⟩) = S x.name :: .iface x.k x.r :: recsV PV.row (l.set i ⟨(l.getD i PV0).name, k, r⟩) := rfl
  rw [e, show (i + 1) * 2 + 1 = i * 2 + 1 + 1 + 1 by omega, List.set_cons_succ, List.set_cons_succ, h1, List.set_cons_succ]
  have e3 : (x :: l).getD (i + 1) PV0 = l.getD i PV0 := by simp [List.getD_eq_getElem?_getD]
  rw [e3, e2]
theorem tk_step {rs : List UInt8} {l : List HV} (h : 0 < rs.length) (hn : (rs.getD 0 0).toNat ≤ (rs.drop 1).length) : tk rs l = match hval ((rs.drop 1).drop (rs.getD 0 0).toNat) with
  | .short => .short
  | .other => .other
  | .ok kd w i t r' => tk r' (put l ⟨(rs.drop 1).take (rs.getD 0 0).toNat, kd, w, i, t⟩) := by
 match rs, h with
 | b :: r, _ =>
  have hn' : b.toNat ≤ r.length := hn
  show tk (b :: r) l = match hval (r.drop b.toNat) with
   | .short => .short
   | .other => .other
   | .ok kd w i t r' => tk r' (put l ⟨r.take b.toNat, kd, w, i, t⟩)
  by_cases h1 : r.length < b.toNat + 1
  ·rw [tk_short (fun e => by rw [e.1] at hn'; simp at hn'; have := e.2; omega) h1]
   unfold hval; rw [if_pos (List.drop_eq_nil_of_le (by omega))]
  ·rw [tk_val h1]
   have e1 : hval (r.drop b.toNat) = val (r.getD b.toNat 0) (r.drop (b.toNat + 1)) := by
    unfold hval
    rw [if_neg (fun e => by have := congrArg List.length e; rw [List.length_drop] at this; simp at this; omega), List.drop_drop]
    congr 1
    simp [List.getD_eq_getElem?_getD, List.getElem?_drop]
   rw [e1] <;> (cases val (r.getD b.toNat 0) (r.drop (b.toNat + 1)) <;> rfl)
theorem tk_eof {rs : List UInt8} {l : List HV} (h : 0 < rs.length) (hn : rdc (rs.getD 0 0).toNat (rs.drop 1) = 1) : tk rs l = .opn l ∧ (rs.drop 1).drop (rs.getD 0 0).toNat = [] := by
 match rs, h with
 | b :: r, _ =>
  have h1 := rdcN (n := b.toNat) (rs := r) (by have : rdc b.toNat r = 1 := hn; omega)
  have h2 : r = [] := by
   have : rdc b.toNat r = 1 := hn
   unfold rdc at this
   rw [if_neg (by omega)] at this
   split at this
   ·assumption
   ·cases this
  subst h2
  exact ⟨tk_opn (by simpa using h1.1), by simp⟩
theorem tk_unx {rs : List UInt8} {l : List HV} (h : 0 < rs.length) (hn : rdc (rs.getD 0 0).toNat (rs.drop 1) = 2) : tk rs l = .short := by
 match rs, h with
 | b :: r, _ =>
  have h1 := rdcN (n := b.toNat) (rs := r) (by have : rdc b.toNat r = 2 := hn; omega)
  have h2 : r ≠ [] := fun e => by
   have : rdc b.toNat r = 2 := hn
   unfold rdc at this
   rw [if_neg (by omega), if_pos e] at this
   cases this
  exact tk_short (fun e => h2 e.1) (by omega)
def NmR (kE : TypeId) (pE pU : Addr) (E : Hp) (Rt : List UInt8 → Hp → Prop) (rs : List UInt8) (w : Value) (Hs : List Hp) : Prop :=
 ∃ X2 nm c, w = .tuple #[S nm, erv kE pE pU 0 c] ∧ Hs = [X2, E] ∧ c ≤ 2 ∧ ((rs = [] ∧ c = 1 ∧ Rt [] X2) ∨ (0 < rs.length ∧ c = rdc (rs.getD 0 0).toNat (rs.drop 1) ∧ Rt ((rs.drop 1).drop (rs.getD 0 0).toNat) X2 ∧ (c = 0 → nm = (rs.drop 1).take (rs.getD 0 0).toNat)))
theorem set_len (b : UInt8) : (List.replicate 256 (0 : UInt8)).set 0 (UInt8.ofNat ((b.toNat : Int)).toNat) = b :: List.replicate 255 0 := by
 rw [Int.toNat_natCast, UInt8.ofNat_toNat]; rfl
theorem put_name {b : UInt8} {r : List UInt8} (h : b.toNat ≤ r.length) : ((putB (b :: List.replicate 255 0) 1 (r.take b.toNat)).drop (0 + 1 + 0)).take (b.toNat - 0) = r.take b.toNat := by
 have hl : (r.take b.toNat).length = b.toNat := by rw [List.length_take]; omega
 unfold putB
 show (r.take b.toNat ++ _).take b.toNat = _
 rw [List.take_left' hl]
theorem rdc_small (n : Nat) (rs : List UInt8) : rdc n rs ≤ 2 := by unfold rdc; split; omega; split <;> omega
theorem valR_ok {Rt : List UInt8 → Hp → Prop} {R : VR} {X2 N : Hp} {v : Value} {c ob : Nat} (h : match R with
  | .short => (c = 1 ∨ c = 2) ∧ ∃ rs', Rt rs' X2
  | .other => c = 5 ∧ (∃ cs t, (ob, .cells cs t (0, 0)) ∈ N) ∧ ∃ rs', Rt rs' X2
  | .ok kd wd i t r' => c = 0 ∧ VBk ⟨[], kd, wd, i, t⟩ v N ∧ Rt r' X2) (hc : c = 0) : ∃ kd wd i t r', R = .ok kd wd i t r' ∧ VBk ⟨[], kd, wd, i, t⟩ v N ∧ Rt r' X2 := by
 cases R with
 | short => obtain ⟨h1, _⟩ := h; omega
 | other => obtain ⟨h1, _⟩ := h; omega
 | ok kd wd i t r' => exact ⟨_, _, _, _, _, rfl, h.2⟩
theorem vbk_shape {h : HV} {v : Value} {N : Hp} (hv : VBk h v N) : ∃ k r, v = .iface k r := by
 rcases hv with h | h | h | h | h | ⟨h1, h2, h3, s, h4, h5⟩ | h | h | h
 ·exact ⟨_, _, h.2.2.2.2⟩
 ·exact ⟨_, _, h.2.2.2.2⟩
 ·exact ⟨_, _, h.2.2.2.2⟩
 ·exact ⟨_, _, h.2.2.2.2⟩
 ·exact ⟨_, _, h.2.2.2.2⟩
 ·exact ⟨_, _, h4⟩
 ·exact ⟨_, _, h.2.2.2⟩
 ·exact ⟨_, _, h.2.2.2.2⟩
 ·exact ⟨_, _, h.2.2.2.2⟩
def HdrsR (base : Nat) (kE : TypeId) (pE pU : Addr) (E : Hp) (Rt : List UInt8 → Hp → Prop) (R : TR) (w : Value) (Hs : List Hp) : Prop :=
 ∃ X2 N hv c ob, w = .tuple #[hv, erv kE pE pU ob c] ∧ Hs = [X2, N, E] ∧ hv.oneCell' = true ∧ (∀ b o, (b, o) ∈ N → base ≤ b) ∧ match R with
  | .ok l => c = 0 ∧ (∃ ps, RdS 2 hv N ps.length (recsV PV.row ps) ∧ PB l ps N) ∧ Rt [] X2
  | .opn l => c = 0 ∧ (∃ ps, RdS 2 hv N ps.length (recsV PV.row ps) ∧ PB l ps N) ∧ Rt [] X2
  | .short => (c = 1 ∨ c = 2) ∧ ∃ rs', Rt rs' X2
  | .other => c = 5 ∧ (∃ cs t, (ob, .cells cs t (0, 0)) ∈ N) ∧ ∃ rs', Rt rs' X2
theorem hdrs_err {base : Nat} {kE : TypeId} {pE pU : Addr} {E : Hp} {Rt : List UInt8 → Hp → Prop} {rs rs1 : List UInt8} {l : List HV} {X2 N : Hp} {v hv : Value} {c ob : Nat} (htk : tk rs [] = tk rs1 l) (h0 : 0 < rs1.length) (hn : (rs1.getD 0 0).toNat ≤ (rs1.drop 1).length) (hN : ∀ b o, (b, o) ∈ N → base ≤ b) (h1 : hv.oneCell' = true) (hc : c ≠ 0) (h : match hval ((rs1.drop 1).drop (rs1.getD 0 0).toNat) with
  | .short => (c = 1 ∨ c = 2) ∧ ∃ rs', Rt rs' X2
  | .other => c = 5 ∧ (∃ cs t, (ob, .cells cs t (0, 0)) ∈ N) ∧ ∃ rs', Rt rs' X2
  | .ok kd wd i t r' => c = 0 ∧ VBk ⟨[], kd, wd, i, t⟩ v N ∧ Rt r' X2) : HdrsR base kE pE pU E Rt (tk rs []) (.tuple #[hv, erv kE pE pU ob c]) [X2, N, E] := by
 refine ⟨X2, N, hv, c, ob, rfl, rfl, h1, hN, ?_⟩
 rw [htk, tk_step h0 hn]
 cases hR : hval ((rs1.drop 1).drop (rs1.getD 0 0).toNat) with
 | short => rw [hR] at h; exact h
 | other => rw [hR] at h; exact h
 | ok kd wd i t r' => rw [hR] at h; exact absurd h.1 hc
theorem decName (base : Nat) (E : Hp) (kE : TypeId) (pE pU : Addr) (hS : Sn E kE pE pU) (k : TypeId) (r : Value) (f : FuncId) (Rt : List UInt8 → Hp → Prop) (hR : Rr base k r f E kE pE pU Rt) (rs : List UInt8) (X : Hp) (hX : Rt rs X) (hrs : rs.length ≤ 1000000) (hask : AskNo Tryz.prog k 178) : FnW Tryz.prog 52 [.iface k r] base [X, E] (NmR kE pE pU E Rt rs) := by
 refine FnW.enter (n := 33) Tryz.func52 rfl rfl fun w0 R0 hbase => ?_
 subst hbase
 show WC _ _ _ _ _ _ _ ([X, E, R0])
 refine WC.sub (fr' := [(0, _)]) ?_ ⟨rfl, trivial⟩
 refine WC.seq (WC.region ?_)
 refine WL.q (oq_assign rfl) rfl rfl rfl ?_
 refine WL.q (oq_assign rfl) rfl rfl rfl ?_
 refine WL.nil (WE.then_normal (WC.sub (fr' := [(0, _)]) ?_ ⟨rfl, trivial⟩))
 refine WC.seq (WC.region ?_)
 refine WL.alloc ty100 rfl rfl fun nb hnb => ?_
 refine WL.asB (List.replicate 256 0) rfl ?_
 refine WL.nil (WE.then_normal (WC.sub (fr' := [(0, _), (4, _)]) ?_ ⟨rfl, rfl, trivial⟩))
 refine WC.seq (WC.region ?_)
 refine WL.q (oq_assign rfl) rfl rfl rfl ?_
 refine WL.nil (WE.then_normal (WC.sub (fr' := [(0, _), (4, _)]) ?_ ⟨rfl, rfl, trivial⟩))
 refine WC.seq (WC.region ?_)
 refine WL.q (oq_move rfl) rfl rfl rfl ?_
 refine WL.f2 ?_
 refine WL.f2 ?_
 refine WL.callW2 (dec8 _ E kE pE pU hS k r f Rt hR rs X hX hrs hask) call59 rfl rfl rfl fun v3_1 Hs3_1 hR3_1 => ?_
 obtain ⟨X2, b, rfl, rfl, hX2, hb⟩ := hR3_1
 have hb8 := b.toNat_lt
 refine WL.to2 ?_
 refine WL.q (oq_move rfl) rfl rfl rfl ?_
 refine WL.q (oq_extract rfl rfl) rfl rfl rfl ?_
 refine WL.q (oq_extract rfl rfl) rfl rfl rfl ?_
 refine WL.q (oq_fieldAddr fld100_0 rfl) rfl rfl rfl ?_
 refine WL.f2 ?_
 refine WL.storeB ty5 rfl rfl (by omega) (by (first | omega | (simp; done) | (rw [putB_len (by simp [List.length_take]; omega)]; simp; omega) | (simp; omega))) rfl ?_
 refine WL.q (oq_assign rfl) rfl rfl rfl ?_
 refine WL.nil (WE.then_normal (WC.sub (fr' := [(0, _), (4, _), (5, _)]) ?_ ⟨rfl, rfl, rfl, trivial⟩))
 refine WC.seq (WC.seq ?_)
 rw [set_len b]
 refine WC.region ?_
 refine WL.q (oq_move rfl) rfl rfl rfl ?_
 refine WL.q (oq_ineq Tryz.underlying41 rfl (erv_or _ _ _ _ _)) rfl rfl rfl ?_
 refine WL.nil (WE.then_normal (WC.sub (fr' := [(0, _), (4, _), (5, _), (16, _)]) ?_ ⟨rfl, rfl, rfl, rfl, trivial⟩))
 refine WC.cond rfl (fun q4 => ?_) (fun q4 => ?_)
 ·
  try simp only [Z1, Z2, Z3, Z4, Z5, Z6, Z7, Z8, Z9, Z0] at q4
  refine WC.seq (WC.region ?_)
  refine WL.q (oq_move rfl) rfl rfl rfl ?_
  refine WL.q (oq_assign rfl) rfl rfl rfl ?_
  refine WL.q (oq_assign rfl) rfl rfl rfl ?_
  refine WL.nil (WE.then_normal (WC.sub (fr' := [(2, _), (3, _)]) ?_ ⟨rfl, rfl, trivial⟩))
  refine WC.ret (WE.then_ret ?_)
  refine WE.lose hnb ?_
  refine WE.endW2 (.inl rfl) (res2 Tryz.results52 rfl rfl) ?_
  have hne := rdcN (ervN q4)
  have h0 : rs = [] := len_nil.1 (by omega)
  subst h0
  exact ⟨X2, [], 1, rfl, rfl, by omega, .inl ⟨rfl, rfl, hX2⟩⟩
 ·
  try simp only [Z1, Z2, Z3, Z4, Z5, Z6, Z7, Z8, Z9, Z0] at q4
  refine WC.skip (WE.then_normal (WC.sub (fr' := [(0, _), (4, _)]) ?_ ⟨rfl, rfl, trivial⟩))
  refine WC.seq ?_
  have hle := rdc0 (erv0 q4)
  have hbe := hb hle
  refine WC.region ?_
  refine WL.q (oq_fieldAddr fld100_1 rfl) rfl rfl rfl ?_
  refine WL.q (oq_fieldAddr fld100_0 rfl) rfl rfl rfl ?_
  refine WL.q (oq_loadB flat5 rfl (by repeat (first | exact .head _ | apply List.Mem.tail)) (by simp)) rfl rfl rfl ?_
  refine WL.q (oq_sliceArr (j := b.toNat) Tryz.underlying98 ty5 rfl rfl ⟨_, rfl⟩ (by (first | omega | (simp; done) | (rw [putB_len (by simp [List.length_take]; omega)]; simp; omega) | (simp; omega))) (by (first | omega | (simp; done) | (rw [putB_len (by simp [List.length_take]; omega)]; simp; omega) | (simp; omega)))) rfl rfl rfl ?_
  refine WL.q (oq_assign rfl) rfl rfl rfl ?_
  refine WL.nil (WE.then_normal (WC.sub (fr' := [(0, _), (6, _)]) ?_ ⟨rfl, rfl, trivial⟩))
  refine WC.seq (WC.seq (WC.region ?_))
  refine WL.q (oq_move rfl) rfl rfl rfl ?_
  refine WL.q (oq_move rfl) rfl rfl rfl ?_
  refine WL.f2 ?_
  refine WL.f1 ?_
  refine WL.f2 ?_
  refine WL.callW3 (readFull _ E kE pE pU hS k r f Rt hR nb 1 b.toNat 255 100 (b :: List.replicate 255 0) (by simp; omega) (by omega) (by simp) (rs.drop 1) X2 hX2 (by rw [List.length_drop]; omega)) call57 rfl rfl rfl fun v7_2 Hs7_2 hR7_2 => ?_
  obtain ⟨X3, vn, rfl, rfl, hX3⟩ := hR7_2
  refine WL.to3 ?_
  refine WL.q (oq_move rfl) rfl rfl rfl ?_
  refine WL.q (oq_extract rfl rfl) rfl rfl rfl ?_
  refine WL.q (oq_extract rfl rfl) rfl rfl rfl ?_
  refine WL.q (oq_assign rfl) rfl rfl rfl ?_
  refine WL.q (oq_assign rfl) rfl rfl rfl ?_
  refine WL.nil (WE.then_normal (WC.sub (fr' := [(6, _), (8, _)]) ?_ ⟨rfl, rfl, trivial⟩))
  refine WC.seq (WC.region ?_)
  refine WL.q (oq_move rfl) rfl rfl rfl ?_
  refine WL.q (oq_ineq Tryz.underlying41 rfl (erv_or _ _ _ _ _)) rfl rfl rfl ?_
  refine WL.nil (WE.then_normal (WC.sub (fr' := [(6, _), (8, _), (29, _)]) ?_ ⟨rfl, rfl, rfl, trivial⟩))
  refine WC.cond rfl (fun q8 => ?_) (fun q8 => ?_)
  ·
   try simp only [Z1, Z2, Z3, Z4, Z5, Z6, Z7, Z8, Z9, Z0] at q8
   refine WC.seq (WC.region ?_)
   refine WL.q (oq_move rfl) rfl rfl rfl ?_
   refine WL.q (oq_assign rfl) rfl rfl rfl ?_
   refine WL.q (oq_assign rfl) rfl rfl rfl ?_
   refine WL.nil (WE.then_normal (WC.sub (fr' := [(2, _), (3, _)]) ?_ ⟨rfl, rfl, trivial⟩))
   refine WC.ret (WE.then_ret ?_)
   refine WE.f1 ?_
   refine WE.lose hnb ?_
   refine WE.endW2 (.inl rfl) (res2 Tryz.results52 rfl rfl) ?_
   refine ⟨X3, [], _, rfl, rfl, rdc_small _ _, .inr ⟨hle, by rw [← hbe], by rw [← hbe]; exact hX3, fun h => absurd h (ervN q8)⟩⟩
  ·
   try simp only [Z1, Z2, Z3, Z4, Z5, Z6, Z7, Z8, Z9, Z0] at q8
   refine WC.skip (WE.then_normal (WC.sub (fr' := [(6, _)]) ?_ ⟨rfl, trivial⟩))
   refine WC.seq (WC.region ?_)
   refine WL.q (oq_move rfl) rfl rfl rfl ?_
   refine WL.q (oq_bytesStr (Sl.rd (by (first | omega | (simp; done) | (rw [putB_len (by simp [List.length_take]; omega)]; simp; omega) | (simp; omega))) (by (first | omega | (simp; done) | (rw [putB_len (by simp [List.length_take]; omega)]; simp; omega) | (simp; omega)))) (.tail _ (.head _)) Tryz.underlying9 Tryz.underlying25 Tryz.underlying5 rfl) rfl rfl rfl ?_
   refine WL.q (oq_assign rfl) rfl rfl rfl ?_
   refine WL.q (oq_assign rfl) rfl rfl rfl ?_
   refine WL.nil (WE.then_normal (WC.sub (fr' := [(2, _), (3, _)]) ?_ ⟨rfl, rfl, trivial⟩))
   refine WC.ret ?_
   refine WE.f1 ?_
   refine WE.lose hnb ?_
   refine WE.endW2 (.inl rfl) (res2 Tryz.results52 rfl rfl) ?_
   have hle2 := rdc0 (erv0 q8)
   refine ⟨X3, _, 0, rfl, rfl, by omega, .inr ⟨hle, by rw [← hbe, rdc_le hle2], by rw [← hbe]; exact hX3, fun _ => ?_⟩⟩
   rw [← hbe]; exact put_name hle2
theorem arr4 {cs : Array Value} (h : cs.size = 4) : ∃ a b c d, cs = #[a, b, c, d] := by
 obtain ⟨l⟩ := cs
 match l, h with
 | [a, b, c, d], _ => exact ⟨a, b, c, d, rfl⟩
theorem decValue (base : Nat) (E : Hp) (kE : TypeId) (pE pU : Addr) (hS : Sn E kE pE pU) (k : TypeId) (r : Value) (f : FuncId) (Rt : List UInt8 → Hp → Prop) (hR : Rr base k r f E kE pE pU Rt) (rs : List UInt8) (X : Hp) (hX : Rt rs X) (hrs : rs.length ≤ 1000000) (hask : AskNo Tryz.prog k 178) : FnW Tryz.prog 53 [.iface k r] base [X, E] (ValR base kE pE pU E Rt (hval rs)) := by
 refine FnW.enter (n := 85) Tryz.func53 rfl rfl fun w0 R0 hbase => ?_
 subst hbase
 show WC _ _ _ _ _ _ _ ([X, E, R0])
 refine WC.sub (fr' := [(0, _)]) ?_ ⟨rfl, trivial⟩
 refine WC.seq (WC.region ?_)
 refine WL.q (oq_assign rfl) rfl rfl rfl ?_
 refine WL.q (oq_assign rfl) rfl rfl rfl ?_
 refine WL.nil (WE.then_normal (WC.sub (fr' := [(0, _)]) ?_ ⟨rfl, trivial⟩))
 refine WC.seq ?_
 refine WC.add0 ?_
 refine WC.region ?_
 refine WL.alloc ty170 rfl rfl fun rw hrw => ?_
 refine WL.nil (WE.then_normal (WC.sub (fr' := [(0, _), (4, _)]) ?_ ⟨rfl, rfl, trivial⟩))
 refine WC.seq (WC.region ?_)
 refine WL.q (oq_move rfl) rfl rfl rfl ?_
 refine WL.f3 ?_
 refine WL.f3 ?_
 refine WL.callW2 (dec8 _ E kE pE pU hS k r f Rt hR rs X hX hrs hask) call59 rfl rfl rfl fun v2_1 Hs2_1 hR2_1 => ?_
 obtain ⟨X2, b, rfl, rfl, hX2, hb⟩ := hR2_1
 have hb8 := b.toNat_lt
 refine WL.to2 ?_
 refine WL.q (oq_move rfl) rfl rfl rfl ?_
 refine WL.q (oq_extract rfl rfl) rfl rfl rfl ?_
 refine WL.q (oq_extract rfl rfl) rfl rfl rfl ?_
 refine WL.q (oq_assign rfl) rfl rfl rfl ?_
 refine WL.q (oq_assign rfl) rfl rfl rfl ?_
 refine WL.nil (WE.then_normal (WC.sub (fr' := [(0, _), (4, _), (5, _), (6, _)]) ?_ ⟨rfl, rfl, rfl, rfl, trivial⟩))
 refine WC.seq (WC.seq (WC.region ?_))
 refine WL.q (oq_move rfl) rfl rfl rfl ?_
 refine WL.q (oq_ineq Tryz.underlying41 rfl (erv_or _ _ _ _ _)) rfl rfl rfl ?_
 refine WL.nil (WE.then_normal (WC.sub (fr' := [(0, _), (4, _), (5, _), (6, _), (22, _)]) ?_ ⟨rfl, rfl, rfl, rfl, rfl, trivial⟩))
 refine WC.cond rfl (fun q3 => ?_) (fun q3 => ?_)
 ·
  try simp only [Z1, Z2, Z3, Z4, Z5, Z6, Z7, Z8, Z9, Z0] at q3
  refine WC.seq (WC.region ?_)
  refine WL.q (oq_move rfl) rfl rfl rfl ?_
  refine WL.q (oq_assign rfl) rfl rfl rfl ?_
  refine WL.q (oq_assign rfl) rfl rfl rfl ?_
  refine WL.nil (WE.then_normal (WC.sub (fr' := [(2, _), (3, _)]) ?_ ⟨rfl, rfl, trivial⟩))
  refine WC.ret (WE.then_ret ?_)
  refine WE.f2 ?_
  refine WE.lose hrw ?_
  refine WE.f3 ?_
  refine WE.f2 ?_
  refine WE.f3 ?_
  refine WE.f3 ?_
  refine WE.endW3 (.inl rfl) (res2 Tryz.results53 rfl rfl) ?_
  have hne := rdcN (ervN q3)
  have h0 : rs = [] := len_nil.1 (by omega)
  subst h0
  exact ⟨X2, [], _, 1, 0, rfl, rfl, (fun _ _ h => nomatch h), .inl rfl, _, hX2⟩
 ·
  try simp only [Z1, Z2, Z3, Z4, Z5, Z6, Z7, Z8, Z9, Z0] at q3
  refine WC.skip (WE.then_normal (WC.sub (fr' := [(0, _), (4, _), (5, _), (6, _)]) ?_ ⟨rfl, rfl, rfl, rfl, trivial⟩))
  refine WC.seq ?_
  have hle := rdc0 (erv0 q3)
  have hbe := hb hle
  rw [rdc_le hle]
  refine WC.region ?_
  refine WL.q (oq_move rfl) rfl rfl rfl ?_
  refine WL.q (oq_fieldAddr fld170_0 rfl) rfl rfl rfl ?_
  refine WL.f2 ?_
  refine WL.store1 #[_, _, _] ty113 rfl rfl (by first | rfl | exact OwS.one rfl) (Nat.lt_of_lt_of_le (Nat.lt_succ_self _) (Nat.le_of_ble_eq_true rfl)) rfl rfl ?_
  refine WL.nil (WE.then_normal (WC.sub (fr' := [(0, _), (4, _), (6, _)]) ?_ ⟨rfl, rfl, rfl, trivial⟩))
  refine WC.seq (WC.region ?_)
  refine WL.q (oq_assign rfl) rfl rfl rfl ?_
  refine WL.nil (WE.then_normal (WC.sub (fr' := [(0, _), (4, _), (6, _)]) ?_ ⟨rfl, rfl, rfl, trivial⟩))
  refine WC.seq (WC.seq (WC.region ?_))
  refine WL.q (oq_fieldAddr fld170_0 rfl) rfl rfl rfl ?_
  refine WL.q (oq_load flat113 rfl (.head _) (List.mem_singleton.2 rfl) rfl) rfl rfl rfl ?_
  refine WL.nil (WE.then_normal (WC.sub (fr' := [(0, _), (6, _), (27, _)]) ?_ ⟨rfl, rfl, rfl, trivial⟩))
  refine WC.block (WC.seq (WC.region ?_))
  refine WL.q (oq_eql rfl rfl) rfl rfl rfl ?_
  refine WL.q (oq_assign rfl) rfl rfl rfl ?_
  refine WL.nil (WE.then_normal (WC.sub (fr' := [(0, _), (6, _), (27, _), (29, _)]) ?_ ⟨rfl, rfl, rfl, rfl, trivial⟩))
  refine WC.cond rfl (fun q9 => ?_) (fun q9 => ?_)
  ·
   try simp only [Z1, Z2, Z3, Z4, Z5, Z6, Z7, Z8, Z9, Z0] at q9
   refine WC.region ?_
   refine WL.q (oq_makeI conc128 rfl) rfl rfl rfl ?_
   refine WL.q (oq_assign rfl) rfl rfl rfl ?_
   refine WL.nil (WE.block_normal (WE.then_normal (WC.sub (fr' := [(6, _), (7, _)]) ?_ ⟨rfl, rfl, trivial⟩)))
   refine WC.seq (WC.region ?_)
   refine WL.q (oq_move rfl) rfl rfl rfl ?_
   refine WL.q (oq_move rfl) rfl rfl rfl ?_
   refine WL.q (oq_assign rfl) rfl rfl rfl ?_
   refine WL.q (oq_assign rfl) rfl rfl rfl ?_
   refine WL.nil (WE.then_normal (WC.sub (fr' := [(2, _), (3, _)]) ?_ ⟨rfl, rfl, trivial⟩))
   refine WC.ret ?_
   refine WE.lose hrw ?_
   refine WE.f3 ?_
   refine WE.f2 ?_
   refine WE.f3 ?_
   refine WE.f3 ?_
   refine WE.endW3 (.inl rfl) (res2 Tryz.results53 rfl rfl) ?_
   have hbk : b = 0 := u8n (n := 0) (by decide) q9
   rw [hval_of hle hbe, hbk]
   exact ⟨X2, [], _, 0, 0, rfl, rfl, (fun _ _ h => nomatch h), rfl, .inl ⟨rfl, rfl, rfl, .inr rfl, rfl⟩, hX2⟩
  ·
   try simp only [Z1, Z2, Z3, Z4, Z5, Z6, Z7, Z8, Z9, Z0] at q9
   refine WC.seq (WC.region ?_)
   refine WL.q (oq_eql rfl rfl) rfl rfl rfl ?_
   refine WL.q (oq_assign rfl) rfl rfl rfl ?_
   refine WL.nil (WE.then_normal (WC.sub (fr' := [(0, _), (6, _), (27, _), (32, _)]) ?_ ⟨rfl, rfl, rfl, rfl, trivial⟩))
   refine WC.cond rfl (fun q11 => ?_) (fun q11 => ?_)
   ·
    try simp only [Z1, Z2, Z3, Z4, Z5, Z6, Z7, Z8, Z9, Z0] at q11
    refine WC.region ?_
    refine WL.q (oq_makeI conc128 rfl) rfl rfl rfl ?_
    refine WL.q (oq_assign rfl) rfl rfl rfl ?_
    refine WL.nil (WE.block_normal (WE.then_normal (WC.sub (fr' := [(6, _), (7, _)]) ?_ ⟨rfl, rfl, trivial⟩)))
    refine WC.seq (WC.region ?_)
    refine WL.q (oq_move rfl) rfl rfl rfl ?_
    refine WL.q (oq_move rfl) rfl rfl rfl ?_
    refine WL.q (oq_assign rfl) rfl rfl rfl ?_
    refine WL.q (oq_assign rfl) rfl rfl rfl ?_
    refine WL.nil (WE.then_normal (WC.sub (fr' := [(2, _), (3, _)]) ?_ ⟨rfl, rfl, trivial⟩))
    refine WC.ret ?_
    refine WE.lose hrw ?_
    refine WE.f3 ?_
    refine WE.f2 ?_
    refine WE.f3 ?_
    refine WE.f3 ?_
    refine WE.endW3 (.inl rfl) (res2 Tryz.results53 rfl rfl) ?_
    have hbk : b = 1 := u8n (n := 1) (by decide) q11
    rw [hval_of hle hbe, hbk]
    exact ⟨X2, [], _, 0, 0, rfl, rfl, (fun _ _ h => nomatch h), rfl, .inl ⟨rfl, rfl, rfl, .inl rfl, rfl⟩, hX2⟩
   ·
    try simp only [Z1, Z2, Z3, Z4, Z5, Z6, Z7, Z8, Z9, Z0] at q11
    refine WC.seq (WC.region ?_)
    refine WL.q (oq_eql rfl rfl) rfl rfl rfl ?_
    refine WL.q (oq_assign rfl) rfl rfl rfl ?_
    refine WL.nil (WE.then_normal (WC.sub (fr' := [(0, _), (27, _), (35, _)]) ?_ ⟨rfl, rfl, rfl, trivial⟩))
    refine WC.cond rfl (fun q13 => ?_) (fun q13 => ?_)
    ·
     try simp only [Z1, Z2, Z3, Z4, Z5, Z6, Z7, Z8, Z9, Z0] at q13
     refine WC.seq (WC.region ?_)
     refine WL.alloc ty114 rfl rfl fun tv14 htv14 => ?_
     refine WL.nil (WE.then_normal (WC.sub (fr' := [(0, _), (8, _)]) ?_ ⟨rfl, rfl, trivial⟩))
     refine WC.seq (WC.region ?_)
     refine WL.q (oq_move rfl) rfl rfl rfl ?_
     refine WL.f3 ?_
     refine WL.f3 ?_
     refine WL.f2 ?_
     refine WL.callW3 (decInt8Value tv14 0 _ E kE pE pU hS k r f Rt hR (rs.drop 1) X2 hX2 (by rw [List.length_drop]; omega) hask) call60 rfl rfl rfl fun v15_1 Hs15_1 hR15_1 => ?_
     obtain ⟨X3, y, rfl, rfl, hX3, hy⟩ := hR15_1
     refine WL.to3 ?_
     refine WL.q (oq_assign rfl) rfl rfl rfl ?_
     refine WL.nil (WE.then_normal (WC.sub (fr' := [(6, _), (8, _)]) ?_ ⟨rfl, rfl, trivial⟩))
     refine WC.region ?_
     refine WL.q (oq_load flat114 rfl (.head _) (List.mem_singleton.2 rfl) rfl) rfl rfl rfl ?_
     refine WL.q (oq_makeI conc114 rfl) rfl rfl rfl ?_
     refine WL.q (oq_assign rfl) rfl rfl rfl ?_
     refine WL.nil (WE.block_normal (WE.then_normal (WC.sub (fr' := [(6, _), (7, _)]) ?_ ⟨rfl, rfl, trivial⟩)))
     refine WC.seq (WC.region ?_)
     refine WL.q (oq_move rfl) rfl rfl rfl ?_
     refine WL.q (oq_move rfl) rfl rfl rfl ?_
     refine WL.q (oq_assign rfl) rfl rfl rfl ?_
     refine WL.q (oq_assign rfl) rfl rfl rfl ?_
     refine WL.nil (WE.then_normal (WC.sub (fr' := [(2, _), (3, _)]) ?_ ⟨rfl, rfl, trivial⟩))
     refine WC.ret ?_
     refine WE.lose htv14 ?_
     refine WE.f2 ?_
     refine WE.lose hrw ?_
     refine WE.f3 ?_
     refine WE.f2 ?_
     refine WE.f3 ?_
     refine WE.f3 ?_
     refine WE.endW3 (.inl rfl) (res2 Tryz.results53 rfl rfl) ?_
     have hbk : b = 2 := u8n (n := 2) (by decide) q13
     rw [hval_of hle hbe, hbk]
     show ValR w0.heap.size kE pE pU E Rt (vInt 1 .i8 (rs.drop 1)) _ _
     by_cases hl : 1 ≤ (rs.drop 1).length
     ·rw [vInt_n.2 hl, rdc_le hl, hy hl]
      have hwb := wrap_bnd .i8 (nm ((rs.drop 1).take 1) : Nat)
      rw [i8_lo, i8_hi] at hwb
      refine ⟨X3, [], _, 0, 0, rfl, rfl, (fun _ _ h => nomatch h), rfl, ?_, hX3⟩
      exact .inr (.inl ⟨rfl, rfl, rfl, hwb, rfl⟩)
     ·rw [vInt_n.1 (by omega)]
      exact ⟨X3, [], _, _, 0, rfl, rfl, (fun _ _ h => nomatch h), (rdcN (n := 1) (fun h => hl (rdc0 h))).2, _, hX3⟩
    ·
     try simp only [Z1, Z2, Z3, Z4, Z5, Z6, Z7, Z8, Z9, Z0] at q13
     refine WC.seq (WC.region ?_)
     refine WL.q (oq_eql rfl rfl) rfl rfl rfl ?_
     refine WL.q (oq_assign rfl) rfl rfl rfl ?_
     refine WL.nil (WE.then_normal (WC.sub (fr' := [(0, _), (27, _), (41, _)]) ?_ ⟨rfl, rfl, rfl, trivial⟩))
     refine WC.cond rfl (fun q17 => ?_) (fun q17 => ?_)
     ·
      try simp only [Z1, Z2, Z3, Z4, Z5, Z6, Z7, Z8, Z9, Z0] at q17
      refine WC.seq (WC.region ?_)
      refine WL.alloc ty117 rfl rfl fun tv18 htv18 => ?_
      refine WL.nil (WE.then_normal (WC.sub (fr' := [(0, _), (9, _)]) ?_ ⟨rfl, rfl, trivial⟩))
      refine WC.seq (WC.region ?_)
      refine WL.q (oq_move rfl) rfl rfl rfl ?_
      refine WL.f3 ?_
      refine WL.f3 ?_
      refine WL.f2 ?_
      refine WL.callW3 (decInt16Value tv18 0 _ E kE pE pU hS k r f Rt hR (rs.drop 1) X2 hX2 (by rw [List.length_drop]; omega)) call61 rfl rfl rfl fun v19_1 Hs19_1 hR19_1 => ?_
      obtain ⟨X3, y, rfl, rfl, hX3, hy⟩ := hR19_1
      refine WL.to3 ?_
      refine WL.q (oq_assign rfl) rfl rfl rfl ?_
      refine WL.nil (WE.then_normal (WC.sub (fr' := [(6, _), (9, _)]) ?_ ⟨rfl, rfl, trivial⟩))
      refine WC.region ?_
      refine WL.q (oq_load flat117 rfl (.head _) (List.mem_singleton.2 rfl) rfl) rfl rfl rfl ?_
      refine WL.q (oq_makeI conc117 rfl) rfl rfl rfl ?_
      refine WL.q (oq_assign rfl) rfl rfl rfl ?_
      refine WL.nil (WE.block_normal (WE.then_normal (WC.sub (fr' := [(6, _), (7, _)]) ?_ ⟨rfl, rfl, trivial⟩)))
      refine WC.seq (WC.region ?_)
      refine WL.q (oq_move rfl) rfl rfl rfl ?_
      refine WL.q (oq_move rfl) rfl rfl rfl ?_
      refine WL.q (oq_assign rfl) rfl rfl rfl ?_
      refine WL.q (oq_assign rfl) rfl rfl rfl ?_
      refine WL.nil (WE.then_normal (WC.sub (fr' := [(2, _), (3, _)]) ?_ ⟨rfl, rfl, trivial⟩))
      refine WC.ret ?_
      refine WE.lose htv18 ?_
      refine WE.f2 ?_
      refine WE.lose hrw ?_
      refine WE.f3 ?_
      refine WE.f2 ?_
      refine WE.f3 ?_
      refine WE.f3 ?_
      refine WE.endW3 (.inl rfl) (res2 Tryz.results53 rfl rfl) ?_
      have hbk : b = 3 := u8n (n := 3) (by decide) q17
      rw [hval_of hle hbe, hbk]
      show ValR w0.heap.size kE pE pU E Rt (vInt 2 .i16 (rs.drop 1)) _ _
      by_cases hl : 2 ≤ (rs.drop 1).length
      ·rw [vInt_n.2 hl, rdc_le hl, hy hl]
       have hwb := wrap_bnd .i16 (nm ((rs.drop 1).take 2) : Nat)
       rw [i16_lo, i16_hi] at hwb
       refine ⟨X3, [], _, 0, 0, rfl, rfl, (fun _ _ h => nomatch h), rfl, ?_, hX3⟩
       exact .inr (.inr (.inl ⟨rfl, rfl, rfl, hwb, rfl⟩))
      ·rw [vInt_n.1 (by omega)]
       exact ⟨X3, [], _, _, 0, rfl, rfl, (fun _ _ h => nomatch h), (rdcN (n := 2) (fun h => hl (rdc0 h))).2, _, hX3⟩
     ·
      try simp only [Z1, Z2, Z3, Z4, Z5, Z6, Z7, Z8, Z9, Z0] at q17
      refine WC.seq (WC.region ?_)
      refine WL.q (oq_eql rfl rfl) rfl rfl rfl ?_
      refine WL.q (oq_assign rfl) rfl rfl rfl ?_
      refine WL.nil (WE.then_normal (WC.sub (fr' := [(0, _), (27, _), (47, _)]) ?_ ⟨rfl, rfl, rfl, trivial⟩))
      refine WC.cond rfl (fun q21 => ?_) (fun q21 => ?_)
      ·
       try simp only [Z1, Z2, Z3, Z4, Z5, Z6, Z7, Z8, Z9, Z0] at q21
       refine WC.seq (WC.region ?_)
       refine WL.alloc ty118 rfl rfl fun tv22 htv22 => ?_
       refine WL.nil (WE.then_normal (WC.sub (fr' := [(0, _), (10, _)]) ?_ ⟨rfl, rfl, trivial⟩))
       refine WC.seq (WC.region ?_)
       refine WL.q (oq_move rfl) rfl rfl rfl ?_
       refine WL.f3 ?_
       refine WL.f3 ?_
       refine WL.f2 ?_
       refine WL.callW3 (decInt32Value tv22 0 _ E kE pE pU hS k r f Rt hR (rs.drop 1) X2 hX2 (by rw [List.length_drop]; omega)) call62 rfl rfl rfl fun v23_1 Hs23_1 hR23_1 => ?_
       obtain ⟨X3, y, rfl, rfl, hX3, hy⟩ := hR23_1
       refine WL.to3 ?_
       refine WL.q (oq_assign rfl) rfl rfl rfl ?_
       refine WL.nil (WE.then_normal (WC.sub (fr' := [(6, _), (10, _)]) ?_ ⟨rfl, rfl, trivial⟩))
       refine WC.region ?_
       refine WL.q (oq_load flat118 rfl (.head _) (List.mem_singleton.2 rfl) rfl) rfl rfl rfl ?_
       refine WL.q (oq_makeI conc118 rfl) rfl rfl rfl ?_
       refine WL.q (oq_assign rfl) rfl rfl rfl ?_
       refine WL.nil (WE.block_normal (WE.then_normal (WC.sub (fr' := [(6, _), (7, _)]) ?_ ⟨rfl, rfl, trivial⟩)))
       refine WC.seq (WC.region ?_)
       refine WL.q (oq_move rfl) rfl rfl rfl ?_
       refine WL.q (oq_move rfl) rfl rfl rfl ?_
       refine WL.q (oq_assign rfl) rfl rfl rfl ?_
       refine WL.q (oq_assign rfl) rfl rfl rfl ?_
       refine WL.nil (WE.then_normal (WC.sub (fr' := [(2, _), (3, _)]) ?_ ⟨rfl, rfl, trivial⟩))
       refine WC.ret ?_
       refine WE.lose htv22 ?_
       refine WE.f2 ?_
       refine WE.lose hrw ?_
       refine WE.f3 ?_
       refine WE.f2 ?_
       refine WE.f3 ?_
       refine WE.f3 ?_
       refine WE.endW3 (.inl rfl) (res2 Tryz.results53 rfl rfl) ?_
       have hbk : b = 4 := u8n (n := 4) (by decide) q21
       rw [hval_of hle hbe, hbk]
       show ValR w0.heap.size kE pE pU E Rt (vInt 4 .i32 (rs.drop 1)) _ _
       by_cases hl : 4 ≤ (rs.drop 1).length
       ·rw [vInt_n.2 hl, rdc_le hl, hy hl]
        have hwb := wrap_bnd .i32 (nm ((rs.drop 1).take 4) : Nat)
        rw [i32_lo, i32_hi] at hwb
        refine ⟨X3, [], _, 0, 0, rfl, rfl, (fun _ _ h => nomatch h), rfl, ?_, hX3⟩
        exact .inr (.inr (.inr (.inl ⟨rfl, rfl, rfl, hwb, rfl⟩)))
       ·rw [vInt_n.1 (by omega)]
        exact ⟨X3, [], _, _, 0, rfl, rfl, (fun _ _ h => nomatch h), (rdcN (n := 4) (fun h => hl (rdc0 h))).2, _, hX3⟩
      ·
       try simp only [Z1, Z2, Z3, Z4, Z5, Z6, Z7, Z8, Z9, Z0] at q21
       refine WC.seq (WC.region ?_)
       refine WL.q (oq_eql rfl rfl) rfl rfl rfl ?_
       refine WL.q (oq_assign rfl) rfl rfl rfl ?_
       refine WL.nil (WE.then_normal (WC.sub (fr' := [(0, _), (27, _), (53, _)]) ?_ ⟨rfl, rfl, rfl, trivial⟩))
       refine WC.cond rfl (fun q25 => ?_) (fun q25 => ?_)
       ·
        try simp only [Z1, Z2, Z3, Z4, Z5, Z6, Z7, Z8, Z9, Z0] at q25
        refine WC.seq (WC.region ?_)
        refine WL.alloc ty119 rfl rfl fun tv26 htv26 => ?_
        refine WL.nil (WE.then_normal (WC.sub (fr' := [(0, _), (11, _)]) ?_ ⟨rfl, rfl, trivial⟩))
        refine WC.seq (WC.region ?_)
        refine WL.q (oq_move rfl) rfl rfl rfl ?_
        refine WL.f3 ?_
        refine WL.f3 ?_
        refine WL.f2 ?_
        refine WL.callW3 (decInt64Value tv26 0 _ E kE pE pU hS k r f Rt hR (rs.drop 1) X2 hX2 (by rw [List.length_drop]; omega)) call63 rfl rfl rfl fun v27_1 Hs27_1 hR27_1 => ?_
        obtain ⟨X3, y, rfl, rfl, hX3, hy⟩ := hR27_1
        refine WL.to3 ?_
        refine WL.q (oq_assign rfl) rfl rfl rfl ?_
        refine WL.nil (WE.then_normal (WC.sub (fr' := [(6, _), (11, _)]) ?_ ⟨rfl, rfl, trivial⟩))
        refine WC.region ?_
        refine WL.q (oq_load flat119 rfl (.head _) (List.mem_singleton.2 rfl) rfl) rfl rfl rfl ?_
        refine WL.q (oq_makeI conc119 rfl) rfl rfl rfl ?_
        refine WL.q (oq_assign rfl) rfl rfl rfl ?_
        refine WL.nil (WE.block_normal (WE.then_normal (WC.sub (fr' := [(6, _), (7, _)]) ?_ ⟨rfl, rfl, trivial⟩)))
        refine WC.seq (WC.region ?_)
        refine WL.q (oq_move rfl) rfl rfl rfl ?_
        refine WL.q (oq_move rfl) rfl rfl rfl ?_
        refine WL.q (oq_assign rfl) rfl rfl rfl ?_
        refine WL.q (oq_assign rfl) rfl rfl rfl ?_
        refine WL.nil (WE.then_normal (WC.sub (fr' := [(2, _), (3, _)]) ?_ ⟨rfl, rfl, trivial⟩))
        refine WC.ret ?_
        refine WE.lose htv26 ?_
        refine WE.f2 ?_
        refine WE.lose hrw ?_
        refine WE.f3 ?_
        refine WE.f2 ?_
        refine WE.f3 ?_
        refine WE.f3 ?_
        refine WE.endW3 (.inl rfl) (res2 Tryz.results53 rfl rfl) ?_
        have hbk : b = 5 := u8n (n := 5) (by decide) q25
        rw [hval_of hle hbe, hbk]
        show ValR w0.heap.size kE pE pU E Rt (vInt 8 .i64 (rs.drop 1)) _ _
        by_cases hl : 8 ≤ (rs.drop 1).length
        ·rw [vInt_n.2 hl, rdc_le hl, hy hl]
         have hwb := wrap_bnd .i64 (nm ((rs.drop 1).take 8) : Nat)
         rw [i64_lo, i64_hi] at hwb
         refine ⟨X3, [], _, 0, 0, rfl, rfl, (fun _ _ h => nomatch h), rfl, ?_, hX3⟩
         exact .inr (.inr (.inr (.inr (.inl ⟨rfl, rfl, rfl, hwb, rfl⟩))))
        ·rw [vInt_n.1 (by omega)]
         exact ⟨X3, [], _, _, 0, rfl, rfl, (fun _ _ h => nomatch h), (rdcN (n := 8) (fun h => hl (rdc0 h))).2, _, hX3⟩
       ·
        try simp only [Z1, Z2, Z3, Z4, Z5, Z6, Z7, Z8, Z9, Z0] at q25
        refine WC.seq (WC.region ?_)
        refine WL.q (oq_eql rfl rfl) rfl rfl rfl ?_
        refine WL.q (oq_assign rfl) rfl rfl rfl ?_
        refine WL.nil (WE.then_normal (WC.sub (fr' := [(0, _), (27, _), (59, _)]) ?_ ⟨rfl, rfl, rfl, trivial⟩))
        refine WC.cond rfl (fun q29 => ?_) (fun q29 => ?_)
        ·
         try simp only [Z1, Z2, Z3, Z4, Z5, Z6, Z7, Z8, Z9, Z0] at q29
         refine WC.seq (WC.region ?_)
         refine WL.alloc ty120 rfl rfl fun tv30 htv30 => ?_
         refine WL.nil (WE.then_normal (WC.sub (fr' := [(0, _), (12, _)]) ?_ ⟨rfl, rfl, trivial⟩))
         refine WC.seq (WC.region ?_)
         refine WL.q (oq_move rfl) rfl rfl rfl ?_
         refine WL.f3 ?_
         refine WL.f3 ?_
         refine WL.f2 ?_
         refine WL.callW3 (decBytesValue tv30 _ E kE pE pU hS k r f Rt hR (rs.drop 1) X2 hX2 (by rw [List.length_drop]; omega)) call64 rfl rfl rfl fun v31_1 Hs31_1 hR31_1 => ?_
         obtain ⟨u, Hs2, rfl, X3, N3, sv, c3, t3, ⟨rfl, hu⟩, rfl, hN3, hsv, hor⟩ := hR31_1
         refine WL.to4 ?_
         refine WL.q (oq_assign rfl) rfl rfl rfl ?_
         refine WL.nil (WE.then_normal (WC.sub (fr' := [(6, _), (12, _)]) ?_ ⟨rfl, rfl, trivial⟩))
         refine WC.region ?_
         refine WL.q (oq_load flat120 rfl (.head _) (List.mem_singleton.2 rfl) rfl) rfl rfl rfl ?_
         refine WL.q (oq_makeI conc120 rfl) rfl rfl rfl ?_
         refine WL.q (oq_assign rfl) rfl rfl rfl ?_
         refine WL.nil (WE.block_normal (WE.then_normal (WC.sub (fr' := [(6, _), (7, _)]) ?_ ⟨rfl, rfl, trivial⟩)))
         refine WC.seq (WC.region ?_)
         refine WL.q (oq_move rfl) rfl rfl rfl ?_
         refine WL.q (oq_move rfl) rfl rfl rfl ?_
         refine WL.q (oq_assign rfl) rfl rfl rfl ?_
         refine WL.q (oq_assign rfl) rfl rfl rfl ?_
         refine WL.nil (WE.then_normal (WC.sub (fr' := [(2, _), (3, _)]) ?_ ⟨rfl, rfl, trivial⟩))
         refine WC.ret ?_
         refine WE.lose htv30 ?_
         refine WE.f3 ?_
         refine WE.lose hrw ?_
         refine WE.f3 ?_
         refine WE.nil0 ?_
         refine WE.endW3 (.inl rfl) (res2 Tryz.results53 rfl rfl) ?_
         have hbk : b = 6 := u8n (n := 6) (by decide) q29
         rw [hval_of hle hbe, hbk]
         show ValR w0.heap.size kE pE pU E Rt (vTxt 2 (rs.drop 1)) _ _
         rcases hor with ⟨rfl, hl1, hl2, rfl, hX4⟩ | ⟨hc3, hl1, rfl, rs4, hX4⟩
         ·rw [vTxt_k hl1 hl2, hu rfl]
          exact ⟨X3, N3, _, 0, 0, rfl, rfl, hN3, rfl, .inr (.inr (.inr (.inr (.inr (.inl ⟨rfl, rfl, rfl, _, rfl, hsv⟩))))), hX4⟩
         ·rw [vTxt_s hl1]
          exact ⟨X3, N3, _, c3, 0, rfl, rfl, hN3, hc3, rs4, hX4⟩
        ·
         try simp only [Z1, Z2, Z3, Z4, Z5, Z6, Z7, Z8, Z9, Z0] at q29
         refine WC.seq (WC.region ?_)
         refine WL.q (oq_eql rfl rfl) rfl rfl rfl ?_
         refine WL.q (oq_assign rfl) rfl rfl rfl ?_
         refine WL.nil (WE.then_normal (WC.sub (fr' := [(0, _), (27, _), (65, _)]) ?_ ⟨rfl, rfl, rfl, trivial⟩))
         refine WC.cond rfl (fun q33 => ?_) (fun q33 => ?_)
         ·
          try simp only [Z1, Z2, Z3, Z4, Z5, Z6, Z7, Z8, Z9, Z0] at q33
          refine WC.seq (WC.region ?_)
          refine WL.alloc ty121 rfl rfl fun tv34 htv34 => ?_
          refine WL.nil (WE.then_normal (WC.sub (fr' := [(0, _), (13, _)]) ?_ ⟨rfl, rfl, trivial⟩))
          refine WC.seq (WC.region ?_)
          refine WL.q (oq_move rfl) rfl rfl rfl ?_
          refine WL.f3 ?_
          refine WL.f3 ?_
          refine WL.f2 ?_
          refine WL.callW3 (decStringValue tv34 _ E kE pE pU hS k r f Rt hR (rs.drop 1) X2 hX2 (by rw [List.length_drop]; omega)) call65 rfl rfl rfl fun v35_1 Hs35_1 hR35_1 => ?_
          obtain ⟨u, Hs2, rfl, X3, N3, sv, c3, t3, ⟨rfl, hu⟩, rfl, hN3, hsv, hor⟩ := hR35_1
          refine WL.to4 ?_
          refine WL.q (oq_assign rfl) rfl rfl rfl ?_
          refine WL.nil (WE.then_normal (WC.sub (fr' := [(6, _), (13, _)]) ?_ ⟨rfl, rfl, trivial⟩))
          refine WC.region ?_
          refine WL.q (oq_load flat121 rfl (.head _) (List.mem_singleton.2 rfl) rfl) rfl rfl rfl ?_
          refine WL.q (oq_makeI conc121 rfl) rfl rfl rfl ?_
          refine WL.q (oq_assign rfl) rfl rfl rfl ?_
          refine WL.nil (WE.block_normal (WE.then_normal (WC.sub (fr' := [(6, _), (7, _)]) ?_ ⟨rfl, rfl, trivial⟩)))
          refine WC.seq (WC.region ?_)
          refine WL.q (oq_move rfl) rfl rfl rfl ?_
          refine WL.q (oq_move rfl) rfl rfl rfl ?_
          refine WL.q (oq_assign rfl) rfl rfl rfl ?_
          refine WL.q (oq_assign rfl) rfl rfl rfl ?_
          refine WL.nil (WE.then_normal (WC.sub (fr' := [(2, _), (3, _)]) ?_ ⟨rfl, rfl, trivial⟩))
          refine WC.ret ?_
          refine WE.lose htv34 ?_
          refine WE.f3 ?_
          refine WE.lose hrw ?_
          refine WE.f3 ?_
          refine WE.nil0 ?_
          refine WE.endW3 (.inl rfl) (res2 Tryz.results53 rfl rfl) ?_
          have hbk : b = 7 := u8n (n := 7) (by decide) q33
          rw [hval_of hle hbe, hbk]
          show ValR w0.heap.size kE pE pU E Rt (vTxt 3 (rs.drop 1)) _ _
          rcases hor with ⟨rfl, hl1, hl2, rfl, hX4⟩ | ⟨hc3, hl1, rfl, rs4, hX4⟩
          ·rw [vTxt_k hl1 hl2, hu rfl]
           exact ⟨X3, N3, _, 0, 0, rfl, rfl, hN3, rfl, .inr (.inr (.inr (.inr (.inr (.inr (.inl ⟨rfl, rfl, rfl, rfl⟩)))))), hX4⟩
          ·rw [vTxt_s hl1]
           exact ⟨X3, N3, _, c3, 0, rfl, rfl, hN3, hc3, rs4, hX4⟩
         ·
          try simp only [Z1, Z2, Z3, Z4, Z5, Z6, Z7, Z8, Z9, Z0] at q33
          refine WC.seq (WC.region ?_)
          refine WL.q (oq_eql rfl rfl) rfl rfl rfl ?_
          refine WL.q (oq_assign rfl) rfl rfl rfl ?_
          refine WL.nil (WE.then_normal (WC.sub (fr' := [(0, _), (27, _), (71, _)]) ?_ ⟨rfl, rfl, rfl, trivial⟩))
          refine WC.cond rfl (fun q37 => ?_) (fun q37 => ?_)
          ·
           try simp only [Z1, Z2, Z3, Z4, Z5, Z6, Z7, Z8, Z9, Z0] at q37
           refine WC.seq (WC.region ?_)
           refine WL.alloc ty123 rfl rfl fun tv38 htv38 => ?_
           refine WL.nil (WE.then_normal (WC.sub (fr' := [(0, _), (14, _)]) ?_ ⟨rfl, rfl, trivial⟩))
           refine WC.seq (WC.region ?_)
           refine WL.q (oq_move rfl) rfl rfl rfl ?_
           refine WL.f3 ?_
           refine WL.f3 ?_
           refine WL.f2 ?_
           refine WL.callW3 (decTimestampValue tv38 _ E kE pE pU hS k r f Rt hR (rs.drop 1) X2 hX2 (by rw [List.length_drop]; omega)) call66 rfl rfl rfl fun v39_1 Hs39_1 hR39_1 => ?_
           obtain ⟨X3, cs, rfl, rfl, hX3, hcs, hy⟩ := hR39_1
           obtain ⟨c0, c1, c2, c3, rfl⟩ := arr4 hcs
           refine WL.to3 ?_
           refine WL.q (oq_assign rfl) rfl rfl rfl ?_
           refine WL.nil (WE.then_normal (WC.sub (fr' := [(6, _), (14, _)]) ?_ ⟨rfl, rfl, trivial⟩))
           refine WC.region ?_
           refine WL.q (oq_loadS [_, _, _, _] agg123 ty123 rfl (.head _) (List.mem_singleton.2 rfl) rfl rfl) rfl rfl rfl ?_
           refine WL.q (oq_makeI conc123 rfl) rfl rfl rfl ?_
           refine WL.q (oq_assign rfl) rfl rfl rfl ?_
           refine WL.nil (WE.block_normal (WE.then_normal (WC.sub (fr' := [(6, _), (7, _)]) ?_ ⟨rfl, rfl, trivial⟩)))
           refine WC.seq (WC.region ?_)
           refine WL.q (oq_move rfl) rfl rfl rfl ?_
           refine WL.q (oq_move rfl) rfl rfl rfl ?_
           refine WL.q (oq_assign rfl) rfl rfl rfl ?_
           refine WL.q (oq_assign rfl) rfl rfl rfl ?_
           refine WL.nil (WE.then_normal (WC.sub (fr' := [(2, _), (3, _)]) ?_ ⟨rfl, rfl, trivial⟩))
           refine WC.ret ?_
           refine WE.lose htv38 ?_
           refine WE.f2 ?_
           refine WE.lose hrw ?_
           refine WE.f3 ?_
           refine WE.f2 ?_
           refine WE.f3 ?_
           refine WE.f3 ?_
           refine WE.endW3 (.inl rfl) (res2 Tryz.results53 rfl rfl) ?_
           have hbk : b = 8 := u8n (n := 8) (by decide) q37
           rw [hval_of hle hbe, hbk]
           show ValR w0.heap.size kE pE pU E Rt (if (rs.drop 1).length < 8 then VR.short else .ok 4 0 (IntKind.i64.wrap (nm ((rs.drop 1).take 8))) [] ((rs.drop 1).drop 8)) _ _
           by_cases hl : 8 ≤ (rs.drop 1).length
           ·rw [if_neg (by omega), rdc_le hl, hy hl]
            have hwb := wrap_bnd .i64 (nm ((rs.drop 1).take 8) : Nat)
            rw [i64_lo, i64_hi] at hwb
            exact ⟨X3, [], _, 0, 0, rfl, rfl, (fun _ _ h => nomatch h), rfl, .inr (.inr (.inr (.inr (.inr (.inr (.inr (.inl ⟨rfl, rfl, rfl, hwb, rfl⟩))))))), hX3⟩
           ·rw [if_pos (by omega)]
            exact ⟨X3, [], _, _, 0, rfl, rfl, (fun _ _ h => nomatch h), (rdcN (n := 8) (fun h => hl (rdc0 h))).2, _, hX3⟩
          ·
           try simp only [Z1, Z2, Z3, Z4, Z5, Z6, Z7, Z8, Z9, Z0] at q37
           refine WC.seq (WC.region ?_)
           refine WL.q (oq_eql rfl rfl) rfl rfl rfl ?_
           refine WL.q (oq_assign rfl) rfl rfl rfl ?_
           refine WL.nil (WE.then_normal (WC.sub (fr' := [(0, _), (77, _)]) ?_ ⟨rfl, rfl, trivial⟩))
           refine WC.cond rfl (fun q41 => ?_) (fun q41 => ?_)
           ·
            try simp only [Z1, Z2, Z3, Z4, Z5, Z6, Z7, Z8, Z9, Z0] at q41
            refine WC.seq (WC.region ?_)
            refine WL.alloc ty127 rfl rfl fun tv42 htv42 => ?_
            refine WL.asB (List.replicate 16 0) rfl ?_
            refine WL.nil (WE.then_normal (WC.sub (fr' := [(0, _), (15, _)]) ?_ ⟨rfl, rfl, trivial⟩))
            refine WC.seq (WC.region ?_)
            refine WL.q (oq_move rfl) rfl rfl rfl ?_
            refine WL.f3 ?_
            refine WL.f3 ?_
            refine WL.f2 ?_
            refine WL.callW3 (decUUIDValue tv42 _ E kE pE pU hS k r f Rt hR (rs.drop 1) X2 hX2 (by rw [List.length_drop]; omega)) call67 rfl rfl rfl fun v43_1 Hs43_1 hR43_1 => ?_
            obtain ⟨X3, rfl, rfl, hX3⟩ := hR43_1
            refine WL.to3 ?_
            refine WL.q (oq_assign rfl) rfl rfl rfl ?_
            refine WL.nil (WE.then_normal (WC.sub (fr' := [(6, _), (15, _)]) ?_ ⟨rfl, rfl, trivial⟩))
            refine WC.region ?_
            refine WL.q (oq_loadArr agg127 ty127 ((by rw [putB_len (by simp only [List.length_take, List.length_replicate]; omega)]; simp)) rfl (.head _)) rfl rfl rfl ?_
            refine WL.q (oq_makeI conc127 rfl) rfl rfl rfl ?_
            refine WL.q (oq_assign rfl) rfl rfl rfl ?_
            refine WL.nil (WE.block_normal (WE.then_normal (WC.sub (fr' := [(6, _), (7, _)]) ?_ ⟨rfl, rfl, trivial⟩)))
            refine WC.seq (WC.region ?_)
            refine WL.q (oq_move rfl) rfl rfl rfl ?_
            refine WL.q (oq_move rfl) rfl rfl rfl ?_
            refine WL.q (oq_assign rfl) rfl rfl rfl ?_
            refine WL.q (oq_assign rfl) rfl rfl rfl ?_
            refine WL.nil (WE.then_normal (WC.sub (fr' := [(2, _), (3, _)]) ?_ ⟨rfl, rfl, trivial⟩))
            refine WC.ret ?_
            refine WE.lose htv42 ?_
            refine WE.f2 ?_
            refine WE.lose hrw ?_
            refine WE.f3 ?_
            refine WE.f2 ?_
            refine WE.f3 ?_
            refine WE.f3 ?_
            refine WE.endW3 (.inl rfl) (res2 Tryz.results53 rfl rfl) ?_
            have hbk : b = 9 := u8n (n := 9) (by decide) q41
            rw [hval_of hle hbe, hbk]
            show ValR w0.heap.size kE pE pU E Rt (if (rs.drop 1).length < 16 then VR.short else .ok 5 0 0 ((rs.drop 1).take 16) ((rs.drop 1).drop 16)) _ _
            by_cases hl : 16 ≤ (rs.drop 1).length
            ·rw [if_neg (by omega), rdc_le hl, put_take hl]
             exact ⟨X3, [], _, 0, 0, rfl, rfl, (fun _ _ h => nomatch h), rfl, .inr (.inr (.inr (.inr (.inr (.inr (.inr (.inr ⟨rfl, rfl, rfl, by show ((rs.drop 1).take 16).length = 16; rw [List.length_take]; omega, rfl⟩))))))), hX3⟩
            ·rw [if_pos (by omega)]
             exact ⟨X3, [], _, _, 0, rfl, rfl, (fun _ _ h => nomatch h), (rdcN (n := 16) (fun h => hl (rdc0 h))).2, _, hX3⟩
           ·
            try simp only [Z1, Z2, Z3, Z4, Z5, Z6, Z7, Z8, Z9, Z0] at q41
            refine WC.seq (WC.region ?_)
            refine WL.callA0 (errNew _) call68 rfl rfl rfl fun v8_0 N8_0 hR8_0 hN8_0 => ?_
            obtain ⟨ob, rfl, rfl⟩ := hR8_0
            refine WL.q (oq_assign rfl) rfl rfl rfl ?_
            refine WL.q (oq_assign rfl) rfl rfl rfl ?_
            refine WL.nil (WE.then_normal (WC.sub (fr' := [(2, _), (3, _)]) ?_ ⟨rfl, rfl, trivial⟩))
            refine WC.ret (WE.block_ret (WE.then_ret ?_))
            refine WE.f1 ?_
            refine WE.lose hrw ?_
            refine WE.f3 ?_
            refine WE.nil0 ?_
            refine WE.f3 ?_
            refine WE.f3 ?_
            refine WE.f2 ?_
            refine WE.f3 ?_
            refine WE.endW3 (.inl rfl) (res2 Tryz.results53 rfl rfl) ?_
            rw [hval_of hle hbe, val_big (by omega)]
            exact ⟨X2, _, _, 5, ob, by rw [hS.kd]; rfl, rfl, fresh1 (hN8_0 _ _ (List.mem_singleton.2 rfl)), rfl, ⟨_, _, List.mem_singleton.2 rfl⟩, _, hX2⟩
end DG
end Go.Proofs.YtpjeiimlglgklaaGreatDoor
/- A header set; all headers read. -/
namespace Go.Proofs.YtpjeiimlglgklaaGreatDoor
open Go Go.RowKit V EA EB EC ED EL DC DD DA DE EE EH EI EJ DF DG
set_option linter.unusedSimpArgs false
set_option linter.unusedVariables false
set_option maxRecDepth 10000
namespace DH
theorem call52 : Callable Tryz.prog 52 := ⟨_, Tryz.func52, rfl, by kernel_rfl⟩
theorem call53 : Callable Tryz.prog 53 := ⟨_, Tryz.func53, rfl, by kernel_rfl⟩
theorem call54 : Callable Tryz.prog 54 := ⟨_, Tryz.func54, rfl, by kernel_rfl⟩
theorem flat9 : Flat Tryz.prog 9 := ⟨_, Tryz.underlying9, by simp⟩
theorem flat41 : Flat Tryz.prog 41 := ⟨_, Tryz.underlying41, by simp⟩
theorem flat47 : Flat Tryz.prog 47 := ⟨_, Tryz.underlying47, by simp⟩
theorem ty9 : Ty Tryz.prog 9 (S []) 1 16 := ty_of (by kernel_rfl)
theorem ty47 : Ty Tryz.prog 47 (.slice none 0 0) 1 24 := ty_of (by kernel_rfl)
theorem ty87 : Ty Tryz.prog 87 .nilIface 1 16 := ty_of (by kernel_rfl)
theorem ty90 : Ty Tryz.prog 90 (.agg #[(S []), .nilIface]) 2 32 := ty_of (by kernel_rfl)
theorem str90 : Str Tryz.prog 90 #[(0, 1), (1, 1)] := ⟨_, Tryz.underlying90, fun w => by kernel_rfl⟩
theorem fld90_0 : Fld Tryz.prog 90 0 0 9 := fld_of Tryz.underlying90 rfl rfl rfl ty9 (by decide)
theorem fld90_1 : Fld Tryz.prog 90 1 1 87 := fld_of Tryz.underlying90 rfl rfl rfl ty87 (by decide)
theorem names_step {ps : List PV} {i : Nat} {nm : List UInt8} (h : ∀ j, j < i → (ps.getD j PV0).name ≠ nm) (hi : (ps.getD i PV0).name ≠ nm) : ∀ j, j < i + 1 → (ps.getD j PV0).name ≠ nm := fun j hj => by
 rcases Nat.lt_or_ge j i with h1 | h1
 ·exact h j h1
 ·rw [show j = i by omega]; exact hi
theorem own_put {base : Nat} {u : Value} {B : Hp} {ps : List PV} {p : PV} {m : Nat} {xs : List Value} (h : OwS base 90 2 u B m xs) (hm : m = (putP ps p).length) (hx : xs = recsV PV.row (putP ps p)) : OwS base 90 2 u B (putP ps p).length (recsV PV.row (putP ps p)) := by subst hm hx; exact h
theorem setH (base hb : Nat) (u : Value) (B : Hp) (ps : List PV) (ho : OwS base 90 2 u B ps.length (recsV PV.row ps)) (hn : ps.length ≤ 1000000) (nm : List UInt8) (k : TypeId) (r : Value) : FnW Tryz.prog 54 [Pt hb 0, S nm, .iface k r] base [[(hb, .cells #[u] 47 (0, 0))], B] (fun w Hs => ∃ u2 B2, w = .tuple #[] ∧ Hs = [[(hb, .cells #[u2] 47 (0, 0))], B2] ∧ OwS base 90 2 u2 B2 (putP ps ⟨nm, k, r⟩).length (recsV PV.row (putP ps ⟨nm, k, r⟩))) := by
 refine FnW.enter (n := 41) Tryz.func54 rfl rfl fun w0 R0 hbase => ?_
 subst hbase
 show WC _ _ _ _ _ _ _ ([[(hb, .cells #[u] 47 (0, 0))], B, R0])
 refine WC.sub (fr' := [(0, _), (1, _), (2, _)]) ?_ ⟨rfl, rfl, rfl, trivial⟩
 refine WC.seq (WC.region ?_)
 refine WL.q (oq_assign rfl) rfl rfl rfl ?_
 refine WL.nil (WE.then_normal (WC.sub (fr' := [(0, _), (1, _), (2, _), (6, _)]) ?_ ⟨rfl, rfl, rfl, rfl, trivial⟩))
 refine WC.seq (WC.block ?_)
 refine WC.loop (ι := Nat) (fun (i : Nat) => [(0, Pt hb 0), (1, S nm), (2, .iface k r), (6, I (i : Int))]) (fun (i : Nat) => [[(hb, .cells #[u] 47 (0, 0))], B, R0]) (fun (i : Nat) => i ≤ ps.length ∧ ∀ j, j < i → (ps.getD j PV0).name ≠ nm) (fun (i : Nat) => ps.length - i) (0) ?_ ⟨rfl, rfl, rfl, rfl, trivial⟩ (List.Perm.refl _) ?_
 ·try dsimp only
  exact ⟨by omega, fun j h => (by omega)⟩
 ·rintro i hp
  try dsimp only at hp
  obtain ⟨hi, hnm⟩ := hp
  show WC _ _ _ _ _ _ ([(0, Pt hb 0), (1, S nm), (2, .iface k r), (6, I (i : Int))]) ([[(hb, .cells #[u] 47 (0, 0))], B, R0])
  refine WC.seq (WC.seq (WC.region ?_))
  refine WL.q (oq_move rfl) rfl rfl rfl ?_
  refine WL.q (oq_move rfl) rfl rfl rfl ?_
  refine WL.q (oq_nilCheck rfl) rfl rfl rfl ?_
  refine WL.q (oq_load flat47 rfl (.head _) (List.mem_singleton.2 rfl) rfl) rfl rfl rfl ?_
  refine WL.q (oq_len_rd ho.rd Tryz.underlying47 rfl) rfl rfl rfl ?_
  refine WL.q (oq_lss rfl rfl) rfl rfl rfl ?_
  refine WL.nil (WE.then_normal (WC.sub (fr' := [(0, _), (1, _), (2, _), (6, _), (12, _)]) ?_ ⟨rfl, rfl, rfl, rfl, rfl, trivial⟩))
  refine WC.cond rfl (fun q1 => ?_) (fun q1 => ?_)
  ·
   try simp only [Z1, Z2, Z3, Z4, Z5, Z6, Z7, Z8, Z9, Z0] at q1
   refine WC.skip (WE.then_normal (WC.sub (fr' := [(0, _), (1, _), (2, _), (6, _)]) ?_ ⟨rfl, rfl, rfl, rfl, trivial⟩))
   refine WC.seq (WC.block (WC.seq ?_))
   have hlt : i < ps.length := by omega
   refine WC.region ?_
   refine WL.q (oq_move rfl) rfl rfl rfl ?_
   refine WL.q (oq_nilCheck rfl) rfl rfl rfl ?_
   refine WL.q (oq_load flat47 rfl (.head _) (List.mem_singleton.2 rfl) rfl) rfl rfl rfl ?_
   refine WL.q (oq_move rfl) rfl rfl rfl ?_
   refine WL.q (oq_ixaddr ho.rd Tryz.underlying47 ty90 rfl rfl (by (first | omega | (simp only [List.length_cons, List.length_nil, List.length_append, List.length_drop, List.length_take]; omega)))) rfl rfl rfl ?_
   refine WL.q (oq_fldEl fld90_0 ho.rd rfl (by (first | omega | (simp only [List.length_cons, List.length_nil, List.length_append, List.length_drop, List.length_take]; omega)))) rfl rfl rfl ?_
   refine WL.q (oq_loadF (f := PV.row) PV0 (fun _ => rfl) flat9 ho.rd (.tail _ (.head _)) rfl (by (first | omega | (simp only [List.length_cons, List.length_nil, List.length_append, List.length_drop, List.length_take]; omega))) (by first | exact Int.toNat_natCast _ | exact rfl) (by decide) rfl) rfl rfl rfl ?_
   refine WL.q (oq_move rfl) rfl rfl rfl ?_
   refine WL.q (oq_seql rfl rfl) rfl rfl rfl ?_
   refine WL.nil (WE.then_normal (WC.sub (fr' := [(0, _), (1, _), (2, _), (6, _), (23, _)]) ?_ ⟨rfl, rfl, rfl, rfl, rfl, trivial⟩))
   refine WC.cond rfl (fun q3 => ?_) (fun q3 => ?_)
   ·
    try simp only [Z1, Z2, Z3, Z4, Z5, Z6, Z7, Z8, Z9, Z0] at q3
    refine WC.seq (WC.region ?_)
    refine WL.q (oq_move rfl) rfl rfl rfl ?_
    refine WL.q (oq_nilCheck rfl) rfl rfl rfl ?_
    refine WL.q (oq_load flat47 rfl (.head _) (List.mem_singleton.2 rfl) rfl) rfl rfl rfl ?_
    refine WL.q (oq_move rfl) rfl rfl rfl ?_
    refine WL.q (oq_move rfl) rfl rfl rfl ?_
    refine WL.q (oq_ixaddr ho.rd Tryz.underlying47 ty90 rfl rfl (by (first | omega | (simp only [List.length_cons, List.length_nil, List.length_append, List.length_drop, List.length_take]; omega)))) rfl rfl rfl ?_
    refine WL.q (oq_fldEl fld90_1 ho.rd rfl (by (first | omega | (simp only [List.length_cons, List.length_nil, List.length_append, List.length_drop, List.length_take]; omega)))) rfl rfl rfl ?_
    refine WL.f1 ?_
    refine WL.storeOwF (i := i) ho ty87 rfl rfl (by rfl) (by (first | omega | (simp only [List.length_cons, List.length_nil, List.length_append, List.length_drop, List.length_take]; omega))) (by decide) rfl fun A4_7 ho4_7 => ?_
    refine WL.nil (WE.then_normal (WC.sub (fr' := []) ?_ trivial))
    refine WC.ret (WE.block_ret (WE.then_ret (WE.then_ret (WE.block_ret (WE.then_ret ?_)))))
    refine WE.f2 ?_
    refine WE.f1 ?_
    refine WE.f2 ?_
    refine WE.endW2 (.inl rfl) (res0 Tryz.results54) ?_
    have h1 : putP ps ⟨nm, k, r⟩ = ps.set i ⟨nm, k, r⟩ := putP_set hlt hnm q3
    rw [recs_set hlt, q3] at ho4_7
    exact ⟨_, _, rfl, rfl, own_put ho4_7 (by rw [h1, List.length_set]) (by rw [h1])⟩
   ·
    try simp only [Z1, Z2, Z3, Z4, Z5, Z6, Z7, Z8, Z9, Z0] at q3
    refine WC.skip (WE.block_normal (WE.then_normal (WC.sub (fr' := [(0, _), (1, _), (2, _), (6, _)]) ?_ ⟨rfl, rfl, rfl, rfl, trivial⟩)))
    refine WC.region ?_
    refine WL.q (oq_move rfl) rfl rfl rfl ?_
    refine WL.q (oq_add rfl rfl (by rw [i64_lo, i64_hi]; (first | omega | (simp only [List.length_cons, List.length_nil, List.length_append, List.length_drop, List.length_take]; omega)))) rfl rfl rfl ?_
    refine WL.q (oq_assign rfl) rfl rfl rfl ?_
    refine WL.nil ?_
    refine WE.again (i + 1) ?_ ?_ ⟨rfl, rfl, rfl, rfl, trivial⟩ (List.Perm.refl _)
    ·try dsimp only
     exact ⟨by omega, names_step hnm q3⟩
    ·(try dsimp only); omega
  ·
   try simp only [Z1, Z2, Z3, Z4, Z5, Z6, Z7, Z8, Z9, Z0] at q1
   refine WC.exit (WE.then_exit (WE.then_exit (WE.block_same (WE.then_normal (WC.sub (fr' := [(0, _), (1, _), (2, _)]) ?_ ⟨rfl, rfl, rfl, trivial⟩)))))
   refine WC.region ?_
   refine WL.q (oq_move rfl) rfl rfl rfl ?_
   refine WL.q (oq_move rfl) rfl rfl rfl ?_
   refine WL.q (oq_nilCheck rfl) rfl rfl rfl ?_
   refine WL.q (oq_load flat47 rfl (.head _) (List.mem_singleton.2 rfl) rfl) rfl rfl rfl ?_
   refine WL.q (oq_move rfl) rfl rfl rfl ?_
   refine WL.q (oq_move rfl) rfl rfl rfl ?_
   refine WL.q (oq_build #[_, _] str90 ty90 rfl rfl) rfl rfl rfl ?_
   refine WL.buildSS (#[S nm, .iface k r]) Tryz.underlying47 ty90 rfl (by decide) (by decide) (by kernel_rfl) (by kernel_rfl) rfl rfl fun v5_7 A5_7 ho5_7 hne5_7 => ?_
   refine WL.f2 ?_
   refine WL.appendS ho Tryz.underlying47 ty90 rfl (by decide) rfl rfl ho5_7.rd (.head _) (onePV _ _ _) (by unfold maxLen; omega) (by omega) rfl rfl fun v5b A5b ho5b hne5b => ?_
   refine WL.q (oq_nilCheck rfl) rfl rfl rfl ?_
   refine WL.f2 ?_
   refine WL.store ty47 rfl rfl (by exact OwS.one ho5b) (by exact Nat.zero_lt_one) (by simp) rfl ?_
   refine WL.nil ?_
   refine WE.f2 ?_
   refine WE.forget ho5_7.fresh ?_
   refine WE.endW2 (.inr rfl) (res0 Tryz.results54) ?_
   have h1 : putP ps ⟨nm, k, r⟩ = ps ++ [⟨nm, k, r⟩] := putP_app fun j hj => hnm j (by omega)
   exact ⟨_, _, rfl, rfl, own_put ho5b (by rw [h1]; simp) (by rw [h1, ← recsPV_snoc])⟩
theorem putP_len : ∀ (ps : List PV) (p : PV), (putP ps p).length ≤ ps.length + 1
 | [], _ => Nat.le_refl _
 | x :: l, p => by
  have := putP_len l p
  unfold putP; split
  ·simp
  ·rw [List.length_cons, List.length_cons]; omega
theorem hval_len {rs r' : List UInt8} {a b c : Int} {t : List UInt8} (h : hval rs = .ok a b c t r') : r'.length < rs.length := by
 unfold hval at h
 split at h
 ·cases h
 ·rename_i hne
  have := val_len h
  have h0 : rs.length ≠ 0 := fun e => hne (List.eq_nil_of_length_eq_zero e)
  rw [List.length_drop] at this
  omega
theorem decHeaders (base : Nat) (E : Hp) (kE : TypeId) (pE pU : Addr) (hS : Sn E kE pE pU) (k : TypeId) (r : Value) (f : FuncId) (Rt : List UInt8 → Hp → Prop) (hR : Rr base k r f E kE pE pU Rt) (rs : List UInt8) (X : Hp) (hX : Rt rs X) (hrs : rs.length ≤ 1000000) (hask : AskNo Tryz.prog k 178) : FnW Tryz.prog 43 [.iface k r] base [X, E] (HdrsR base kE pE pU E Rt (tk rs [])) := by
 obtain ⟨tE, fE, hEm⟩ := hS.eof
 refine FnW.enter (n := 32) Tryz.func43 rfl rfl fun w0 R0 hbase => ?_
 subst hbase
 show WC _ _ _ _ _ _ _ ([X, E, R0])
 refine WC.sub (fr' := [(0, _)]) ?_ ⟨rfl, trivial⟩
 refine WC.seq (WC.region ?_)
 refine WL.q (oq_assign rfl) rfl rfl rfl ?_
 refine WL.q (oq_assign rfl) rfl rfl rfl ?_
 refine WL.nil (WE.then_normal (WC.sub (fr' := [(0, _)]) ?_ ⟨rfl, trivial⟩))
 refine WC.seq ?_
 refine WC.add0 ?_
 refine WC.region ?_
 refine WL.build0 Tryz.underlying47 ty90 rfl rfl fun v1_0 A1_0 ho1_0 hne1_0 => ?_
 refine WL.alloc ty47 rfl rfl fun hb hhb => ?_
 refine WL.store ty47 rfl rfl (by exact OwS.one ho1_0) (by exact Nat.zero_lt_one) (by simp) rfl ?_
 refine WL.nil (WE.then_normal (WC.sub (fr' := [(0, _), (4, _)]) ?_ ⟨rfl, rfl, trivial⟩))
 refine WC.seq (WC.block ?_)
 refine WC.loop (ι := Value × Hp × Hp × Hp × (List PV) × (List HV) × (List UInt8)) (fun i_ => (fun (u : Value) (B : Hp) (Z : Hp) (Y : Hp) (ps : List PV) (l : List HV) (rs1 : List UInt8) => [(0, .iface k r), (4, Pt hb 0)]) i_.1 i_.2.1 i_.2.2.1 i_.2.2.2.1 i_.2.2.2.2.1 i_.2.2.2.2.2.1 i_.2.2.2.2.2.2) (fun i_ => (fun (u : Value) (B : Hp) (Z : Hp) (Y : Hp) (ps : List PV) (l : List HV) (rs1 : List UInt8) => [[(hb, .cells #[u] 47 (0, 0))], B, Z, Y, E, R0]) i_.1 i_.2.1 i_.2.2.1 i_.2.2.2.1 i_.2.2.2.2.1 i_.2.2.2.2.2.1 i_.2.2.2.2.2.2) (fun i_ => (fun (u : Value) (B : Hp) (Z : Hp) (Y : Hp) (ps : List PV) (l : List HV) (rs1 : List UInt8) => tk rs [] = tk rs1 l ∧ PB l ps Z ∧ (∀ b o, (b, o) ∈ Z → w0.heap.size ≤ b) ∧ OwS w0.heap.size 90 2 u B ps.length (recsV PV.row ps) ∧ Rt rs1 Y ∧ rs1.length ≤ rs.length ∧ ps.length + rs1.length ≤ rs.length) i_.1 i_.2.1 i_.2.2.1 i_.2.2.2.1 i_.2.2.2.2.1 i_.2.2.2.2.2.1 i_.2.2.2.2.2.2) (fun i_ => (fun (u : Value) (B : Hp) (Z : Hp) (Y : Hp) (ps : List PV) (l : List HV) (rs1 : List UInt8) => rs1.length) i_.1 i_.2.1 i_.2.2.1 i_.2.2.2.1 i_.2.2.2.2.1 i_.2.2.2.2.2.1 i_.2.2.2.2.2.2) ((_, _, [], _, [], [], rs)) ?_ ⟨rfl, rfl, trivial⟩ (List.Perm.refl _) ?_
 ·try dsimp only
  exact ⟨rfl, trivial, (fun _ _ h => nomatch h), ho1_0, hX, Nat.le_refl _, by simp⟩
 ·rintro ⟨u, B, Z, Y, ps, l, rs1⟩ hp
  try dsimp only at hp
  obtain ⟨htk, hpb, hZ, ho, hY, hrl, hpl⟩ := hp
  show WC _ _ _ _ _ _ ([(0, .iface k r), (4, Pt hb 0)]) ([[(hb, .cells #[u] 47 (0, 0))], B, Z, Y, E, R0])
  refine WC.block (WC.seq (WC.region ?_))
  refine WL.q (oq_move rfl) rfl rfl rfl ?_
  refine WL.f4 ?_
  refine WL.f4 ?_
  refine WL.callW2 (decName _ E kE pE pU hS k r f Rt hR rs1 Y hY (by omega) hask) call52 rfl rfl rfl fun v2_1 Hs2_1 hR2_1 => ?_
  obtain ⟨Y2, nm, c, rfl, rfl, hc2, hor⟩ := hR2_1
  refine WL.to2 ?_
  refine WL.q (oq_move rfl) rfl rfl rfl ?_
  refine WL.q (oq_extract rfl rfl) rfl rfl rfl ?_
  refine WL.q (oq_extract rfl rfl) rfl rfl rfl ?_
  refine WL.q (oq_assign rfl) rfl rfl rfl ?_
  refine WL.q (oq_assign rfl) rfl rfl rfl ?_
  refine WL.nil (WE.then_normal (WC.sub (fr' := [(0, _), (4, _), (5, _), (6, _)]) ?_ ⟨rfl, rfl, rfl, rfl, trivial⟩))
  refine WC.seq (WC.seq (WC.region ?_))
  refine WL.q (oq_move rfl) rfl rfl rfl ?_
  refine WL.q (oq_ineq Tryz.underlying41 rfl (erv_or _ _ _ _ _)) rfl rfl rfl ?_
  refine WL.nil (WE.then_normal (WC.sub (fr' := [(0, _), (4, _), (5, _), (6, _), (15, _)]) ?_ ⟨rfl, rfl, rfl, rfl, rfl, trivial⟩))
  refine WC.cond rfl (fun q3 => ?_) (fun q3 => ?_)
  ·
   try simp only [Z1, Z2, Z3, Z4, Z5, Z6, Z7, Z8, Z9, Z0] at q3
   refine WC.seq (WC.seq (WC.region ?_))
   refine WL.q (oq_move rfl) rfl rfl rfl ?_
   refine WL.q (oq_load flat41 rfl (.tail _ (.head _)) hEm rfl) rfl rfl rfl ?_
   refine WL.q (oq_erE hS (by repeat (first | exact .head _ | apply List.Mem.tail)) (.inl (by omega)) Tryz.underlying41 rfl rfl) rfl rfl rfl ?_
   refine WL.nil (WE.then_normal (WC.sub (fr' := [(4, _), (6, _), (18, _)]) ?_ ⟨rfl, rfl, rfl, trivial⟩))
   refine WC.cond rfl (fun q4 => ?_) (fun q4 => ?_)
   ·
    try simp only [Z1, Z2, Z3, Z4, Z5, Z6, Z7, Z8, Z9, Z0] at q4
    refine WC.exit (WE.then_exit (WE.then_exit ?_))
    refine WE.block_other rfl ?_
    refine WE.then_exit (WE.block_same (WE.then_normal (WC.sub (fr' := [(4, _)]) ?_ ⟨rfl, trivial⟩)))
    refine WC.seq ?_
    have hc1 : c = 1 := by simpa using q4
    subst hc1
    refine WC.f4 ?_
    refine WC.f4 ?_
    refine WC.cat ?_
    refine WC.region ?_
    refine WL.q (oq_load flat47 rfl (.tail _ (.tail _ (.tail _ (.head _)))) (List.mem_singleton.2 rfl) rfl) rfl rfl rfl ?_
    refine WL.q (oq_assign rfl) rfl rfl rfl ?_
    refine WL.q (oq_assign rfl) rfl rfl rfl ?_
    refine WL.nil (WE.then_normal (WC.sub (fr' := [(2, _), (3, _)]) ?_ ⟨rfl, rfl, trivial⟩))
    refine WC.ret ?_
    refine WE.f3 ?_
    refine WE.lose hhb ?_
    refine WE.f3 ?_
    refine WE.f3 ?_
    refine WE.f2 ?_
    refine WE.f3 ?_
    refine WE.endW3 (.inl rfl) (res2 Tryz.results43 rfl rfl) ?_
    refine ⟨Y2, _, _, 0, 0, rfl, rfl, rd_one ho.rd, fresh_cat ho.fresh hZ, ?_⟩
    have hh : ∃ ps2, RdS 2 u (B ++ Z) ps2.length (recsV PV.row ps2) ∧ PB l ps2 (B ++ Z) := ⟨ps, ho.rd.weaken fun x hx => List.mem_append_left _ hx, hpb.weaken fun x hx => List.mem_append_right _ hx⟩
    rcases hor with ⟨h0, _, hY2⟩ | ⟨h0, hrd, hY2, _⟩
    ·subst h0; rw [htk, tk_nil]; exact ⟨rfl, hh, hY2⟩
    ·obtain ⟨t1, t2⟩ := tk_eof (l := l) h0 hrd.symm
     rw [t2] at hY2; rw [htk, t1]; exact ⟨rfl, hh, hY2⟩
   ·
    try simp only [Z1, Z2, Z3, Z4, Z5, Z6, Z7, Z8, Z9, Z0] at q4
    refine WC.skip (WE.then_normal (WC.sub (fr' := [(6, _)]) ?_ ⟨rfl, trivial⟩))
    refine WC.seq ?_
    refine WC.add0 ?_
    refine WC.region ?_
    refine WL.q (oq_move rfl) rfl rfl rfl ?_
    refine WL.q (oq_assign rfl) rfl rfl rfl ?_
    refine WL.q (oq_assign rfl) rfl rfl rfl ?_
    refine WL.nil (WE.then_normal (WC.sub (fr' := [(2, _), (3, _)]) ?_ ⟨rfl, rfl, trivial⟩))
    refine WC.ret (WE.then_ret (WE.block_ret (WE.then_ret (WE.block_ret (WE.then_ret ?_)))))
    refine WE.f3 ?_
    refine WE.lose hhb ?_
    refine WE.f3 ?_
    refine WE.forget ho.fresh ?_
    refine WE.f3 ?_
    refine WE.forget hZ ?_
    refine WE.f3 ?_
    refine WE.f3 ?_
    refine WE.f2 ?_
    refine WE.f3 ?_
    refine WE.endW3 (.inl rfl) (res2 Tryz.results43 rfl rfl) ?_
    have hcn : c ≠ 0 := ervN q3
    have hc1 : c ≠ 1 := by simpa using q4
    obtain ⟨h0, hrd, hY2, hnm⟩ := hor.resolve_left (fun h => hc1 h.2.1)
    refine ⟨Y2, [], _, c, 0, rfl, rfl, rfl, (fun _ _ h => nomatch h), ?_⟩
    rw [htk, tk_unx h0 (by omega)]
    exact ⟨.inr (by omega), _, hY2⟩
  ·
   try simp only [Z1, Z2, Z3, Z4, Z5, Z6, Z7, Z8, Z9, Z0] at q3
   refine WC.skip (WE.then_normal (WC.sub (fr' := [(0, _), (4, _), (5, _)]) ?_ ⟨rfl, rfl, rfl, trivial⟩))
   refine WC.seq ?_
   have hc0 := erv0 q3
   subst hc0
   obtain ⟨h0, hrd, hY2, hnm⟩ := hor.resolve_left (fun h => by omega)
   have hnl := rdc0 hrd.symm
   have hnm2 := hnm rfl
   refine WC.region ?_
   refine WL.q (oq_move rfl) rfl rfl rfl ?_
   refine WL.f1 ?_
   refine WL.f1 ?_
   refine WL.callW2 (decValue _ E kE pE pU hS k r f Rt hR ((rs1.drop 1).drop (rs1.getD 0 0).toNat) Y2 hY2 (by rw [List.length_drop, List.length_drop]; omega) hask) call53 rfl rfl rfl fun v6_1 Hs6_1 hR6_1 => ?_
   obtain ⟨Y3, N, v, c3, ob, rfl, rfl, hN, hvr⟩ := hR6_1
   refine WL.to3 ?_
   refine WL.q (oq_move rfl) rfl rfl rfl ?_
   refine WL.q (oq_extract rfl rfl) rfl rfl rfl ?_
   refine WL.q (oq_extract rfl rfl) rfl rfl rfl ?_
   refine WL.q (oq_assign rfl) rfl rfl rfl ?_
   refine WL.q (oq_assign rfl) rfl rfl rfl ?_
   refine WL.nil (WE.then_normal (WC.sub (fr' := [(0, _), (4, _), (5, _), (6, _), (7, _)]) ?_ ⟨rfl, rfl, rfl, rfl, rfl, trivial⟩))
   refine WC.seq (WC.seq (WC.region ?_))
   refine WL.q (oq_move rfl) rfl rfl rfl ?_
   refine WL.q (oq_ineq Tryz.underlying41 rfl (erv_or _ _ _ _ _)) rfl rfl rfl ?_
   refine WL.nil (WE.then_normal (WC.sub (fr' := [(0, _), (4, _), (5, _), (6, _), (7, _), (26, _)]) ?_ ⟨rfl, rfl, rfl, rfl, rfl, rfl, trivial⟩))
   refine WC.cond rfl (fun q7 => ?_) (fun q7 => ?_)
   ·
    try simp only [Z1, Z2, Z3, Z4, Z5, Z6, Z7, Z8, Z9, Z0] at q7
    refine WC.seq (WC.region ?_)
    refine WL.q (oq_move rfl) rfl rfl rfl ?_
    refine WL.q (oq_assign rfl) rfl rfl rfl ?_
    refine WL.q (oq_assign rfl) rfl rfl rfl ?_
    refine WL.nil (WE.then_normal (WC.sub (fr' := [(2, _), (3, _)]) ?_ ⟨rfl, rfl, trivial⟩))
    refine WC.ret (WE.then_ret (WE.block_ret (WE.then_ret (WE.block_ret (WE.then_ret ?_)))))
    refine WE.f3 ?_
    refine WE.lose hhb ?_
    refine WE.f3 ?_
    refine WE.forget ho.fresh ?_
    refine WE.f3 ?_
    refine WE.forget hZ ?_
    refine WE.endW3 (.inl rfl) (res2 Tryz.results43 rfl rfl) ?_
    have hcn : c3 ≠ 0 := ervN q7
    exact hdrs_err htk h0 hnl hN rfl hcn hvr
   ·
    try simp only [Z1, Z2, Z3, Z4, Z5, Z6, Z7, Z8, Z9, Z0] at q7
    refine WC.skip (WE.then_normal (WC.sub (fr' := [(0, _), (4, _), (5, _), (7, _)]) ?_ ⟨rfl, rfl, rfl, rfl, trivial⟩))
    have hc0 := erv0 q7
    obtain ⟨kd, wd, iv, tv, rs3, hval3, hvb, hY3⟩ := valR_ok hvr hc0
    obtain ⟨kv, rv, rfl⟩ := vbk_shape hvb
    have hvl := hval_len hval3
    have hdd : ((rs1.drop 1).drop (rs1.getD 0 0).toNat).length = rs1.length - 1 - (rs1.getD 0 0).toNat := by rw [List.length_drop, List.length_drop]
    refine WC.f5 ?_
    refine WC.f2 ?_
    refine WC.cat ?_
    refine WC.region ?_
    refine WL.q (oq_move rfl) rfl rfl rfl ?_
    refine WL.q (oq_move rfl) rfl rfl rfl ?_
    refine WL.f4 ?_
    refine WL.f4 ?_
    refine WL.callW2 (setH _ hb u B ps ho (by omega) nm kv rv) call54 rfl rfl rfl fun v9_2 Hs9_2 hR9_2 => ?_
    obtain ⟨u3, B3, rfl, rfl, ho3⟩ := hR9_2
    refine WL.to2 ?_
    refine WL.nil (WE.block_normal ?_)
    refine WE.again (_, _, _, _, putP ps ⟨nm, kv, rv⟩, put l ⟨nm, kd, wd, iv, tv⟩, rs3) ?_ ?_ ⟨rfl, rfl, trivial⟩ (List.Perm.refl _)
    ·try dsimp only
     refine ⟨?_, ?_, fresh_cat hN hZ, ho3, hY3, by omega, ?_⟩
     ·rw [htk, tk_step h0 hnl, hval3, hnm2]
     ·exact PB.put (hpb.weaken fun x hx => List.mem_append_right _ hx) rfl (hvb.weaken fun x hx => List.mem_append_left _ hx)
     ·have := putP_len ps ⟨nm, kv, rv⟩; omega
    ·(try dsimp only); omega
end DH
end Go.Proofs.YtpjeiimlglgklaaGreatDoor
/- A payload read. -/
namespace Go.Proofs.YtpjeiimlglgklaaGreatDoor
open Go Go.RowKit V EA EB EC ED EL DC DD DA DE EE EH EI EJ DF DG DH
set_option linter.unusedSimpArgs false
set_option linter.unusedVariables false
set_option maxRecDepth 10000
namespace DI
theorem call16 : Callable Tryz.prog 16 := ⟨_, Tryz.func16, rfl, by kernel_rfl⟩
theorem call23 : Callable Tryz.prog 23 := ⟨_, Tryz.func23, rfl, by kernel_rfl⟩
theorem call29 : Callable Tryz.prog 29 := ⟨_, Tryz.func29, rfl, by kernel_rfl⟩
theorem call38 : Callable Tryz.prog 38 := ⟨_, Tryz.func38, rfl, by kernel_rfl⟩
theorem call103 : Callable Tryz.prog 103 := ⟨_, Tryz.func103, rfl, by kernel_rfl⟩
theorem flat25 : Flat Tryz.prog 25 := ⟨_, Tryz.underlying25, by simp⟩
theorem flat41 : Flat Tryz.prog 41 := ⟨_, Tryz.underlying41, by simp⟩
theorem ty5 : Ty Tryz.prog 5 (.int .u8 0) 1 1 := ty_of (by kernel_rfl)
theorem ty25 : Ty Tryz.prog 25 (.slice none 0 0) 1 24 := ty_of (by kernel_rfl)
theorem ty37 : Ty Tryz.prog 37 (.int .i8 0) 1 1 := ty_of (by kernel_rfl)
theorem conc45 : Conc Tryz.prog 45 := ⟨_, Tryz.underlying45, by simp⟩
theorem fld39_0 : Fld Tryz.prog 39 0 0 25 := fld_of Tryz.underlying39 rfl rfl rfl ty25 (by decide)
theorem fld39_2 : Fld Tryz.prog 39 2 2 37 := fld_of Tryz.underlying39 rfl rfl rfl ty37 (by decide)
theorem growG (base bb n : Nat) (lr : Int) (v : Value) (A : Hp) (acc : List UInt8) (hb : Buf base v A acc) (hn : 0 < n) (hl : acc.length + n ≤ 140737488355328) : FnW Tryz.prog 103 [Pt bb 0, I (n : Int)] base [BB bb v lr, A] (Grown n base bb lr acc) := by
 rcases hb with ⟨rfl, rfl, rfl⟩ | ⟨B, cap, L, rfl, rfl, hB, hL, hc, hc0, hm, ht⟩
 ·have h := grow0 base bb n lr hn (by simpa using hl)
  intro w0 R0 w hbase hw
  exact h w0 R0 w hbase (by simpa using hw)
 ·exact grow1 base bb B cap n lr L acc hB hL hc hc0 hm ht hn hl
theorem invRF : Inv1 Tryz.prog 45 "ReadFrom" 98 := fun x a w => by kernel_rfl
theorem askRF : AskYes Tryz.prog 45 145 := fun x u w => by kernel_rfl
theorem noWT : AskNo Tryz.prog 148 141 := by
 cases h1 : Tryz.prog.info? 148 with
 | none =>
  have h : (Tryz.prog.info? 148).isSome = true := by kernel_rfl
  rw [h1] at h; cases h
 | some inf =>
  cases h2 : Tryz.prog.info? 141 with
  | none =>
   have h : (Tryz.prog.info? 141).isSome = true := by kernel_rfl
   rw [h2] at h; cases h
  | some i2 =>
   refine askNo Tryz.underlying141 h1 ?_ h2 ?_
   ·have h : (Tryz.prog.info? 148).map (fun inf => ([("WriteTo", 143)].filter fun (x : String × TypeId) => !inf.methods.any fun m => m.name == x.1 && m.sig == x.2).isEmpty) = some false := by kernel_rfl
    rw [h1] at h; exact Option.some.inj h
   ·have h : (Tryz.prog.info? 141).map (·.zero) = some (some .nilIface) := by kernel_rfl
    rw [h2] at h; exact Option.some.inj h
theorem noBR (T : TypeId) (hT : T = 148 ∨ T = 153) : AskNo Tryz.prog T 178 := by
 cases h1 : Tryz.prog.info? T with
 | none =>
  have h : (Tryz.prog.info? T).isSome = true := by rcases hT with rfl | rfl <;> kernel_rfl
  rw [h1] at h; cases h
 | some inf =>
  cases h2 : Tryz.prog.info? 178 with
  | none =>
   have h : (Tryz.prog.info? 178).isSome = true := by kernel_rfl
   rw [h2] at h; cases h
  | some i2 =>
   refine askNo Tryz.underlying178 h1 ?_ h2 ?_
   ·have h : (Tryz.prog.info? T).map (fun inf => ([("ReadByte", 180)].filter fun (x : String × TypeId) => !inf.methods.any fun m => m.name == x.1 && m.sig == x.2).isEmpty) = some false := by rcases hT with rfl | rfl <;> kernel_rfl
    rw [h1] at h; exact Option.some.inj h
   ·have h : (Tryz.prog.info? 178).map (·.zero) = some (some .nilIface) := by kernel_rfl
    rw [h2] at h; exact Option.some.inj h
theorem buf_put {base B cap i m : Nat} {L rs : List UInt8} (hB : base ≤ B) (hL : L.length = cap) (hc : i + 512 ≤ cap) (hm : cap ≤ maxLen) (hi : i ≤ rs.length) (ht : L.take i = rs.take i) (hmm : m = min (cap - i) (rs.length - i)) {v : Value} {A : Hp} (hv : v = Sl B 0 (i + m) cap) (hA : A = Bf B 5 (putB L i ((rs.drop i).take (cap - i)))) : Buf base v A (rs.take (i + m)) := by
 have hxl : ((rs.drop i).take (cap - i)).length = m := by rw [List.length_take, List.length_drop, hmm]
 have htl : (rs.take (i + m)).length = i + m := by rw [List.length_take]; omega
 refine .inr ⟨B, cap, _, by rw [htl]; exact hv, hA, hB, by rw [putB_len (by omega), hL], by omega, by omega, hm, ?_⟩
 rw [htl]
 have e1 : (L.take i ++ (rs.drop i).take (cap - i)).length = i + m := by rw [List.length_append, hxl, List.length_take]; omega
 unfold putB
 rw [List.take_left' e1, ht]
 have e2 : (rs.drop i).take (cap - i) = (rs.drop i).take m := by
  rcases Nat.le_total (cap - i) (rs.length - i) with h | h
  ·rw [show m = cap - i by omega]
  ·rw [List.take_of_length_le (by rw [List.length_drop]; omega), List.take_of_length_le (by rw [List.length_drop]; omega)]
 rw [e2, List.take_add]
theorem readFrom (base bb : Nat) (E : Hp) (kE : TypeId) (pE pU : Addr) (hS : Sn E kE pE pU) (k : TypeId) (r : Value) (f : FuncId) (Rt : List UInt8 → Hp → Prop) (hR : Rr base k r f E kE pE pU Rt) (rs : List UInt8) (X : Hp) (hX : Rt rs X) (hrs : rs.length ≤ 900000) (lr : Int) : FnW Tryz.prog 98 [Pt bb 0, .iface k r] base [[(bb, .cells #[.slice none 0 0, I 0, .int .i8 lr] 39 (0, 0))], X, E] (fun w Hs => ∃ v2 M2 X2, w = .tuple #[I (rs.length : Int), .nilIface] ∧ Hs = [BB bb v2 0, M2, X2, E] ∧ Buf base v2 M2 rs ∧ Rt [] X2) := by
 obtain ⟨tE, fE, hEm⟩ := hS.eof
 have hmy : maxLen ≤ 9223372036854775807 := by unfold maxLen; omega
 refine FnW.enter (n := 67) Tryz.func98 rfl rfl fun w0 R0 hbase => ?_
 subst hbase
 show WC _ _ _ _ _ _ _ ([[(bb, .cells #[.slice none 0 0, I 0, .int .i8 lr] 39 (0, 0))], X, E, R0])
 refine WC.sub (fr' := [(0, _), (1, _)]) ?_ ⟨rfl, rfl, trivial⟩
 refine WC.seq (WC.region ?_)
 refine WL.q (oq_assign rfl) rfl rfl rfl ?_
 refine WL.q (oq_assign rfl) rfl rfl rfl ?_
 refine WL.nil (WE.then_normal (WC.sub (fr' := [(0, _), (1, _), (4, _)]) ?_ ⟨rfl, rfl, rfl, trivial⟩))
 refine WC.seq ?_
 refine WC.add0 ?_
 refine WC.region ?_
 refine WL.q (oq_move rfl) rfl rfl rfl ?_
 refine WL.q (oq_nilCheck rfl) rfl rfl rfl ?_
 refine WL.q (oq_fieldAddr fld39_2 rfl) rfl rfl rfl ?_
 refine WL.f1 ?_
 refine WL.store1 #[_, _, _] ty37 rfl rfl (by first | rfl | exact OwS.one one_) (Nat.lt_of_lt_of_le (Nat.lt_succ_self _) (Nat.le_of_ble_eq_true rfl)) rfl rfl ?_
 refine WL.nil (WE.then_normal (WC.sub (fr' := [(0, _), (1, _), (4, _)]) ?_ ⟨rfl, rfl, rfl, trivial⟩))
 refine WC.block ?_
 refine WC.loop (ι := Nat × Value × Hp × Hp) (fun i_ => (fun (i : Nat) (v : Value) (M : Hp) (Y : Hp) => [(0, Pt bb 0), (1, .iface k r), (4, I (i : Int))]) i_.1 i_.2.1 i_.2.2.1 i_.2.2.2) (fun i_ => (fun (i : Nat) (v : Value) (M : Hp) (Y : Hp) => [[(bb, .cells #[v, I 0, .int .i8 0] 39 (0, 0))], M, Y, E, R0]) i_.1 i_.2.1 i_.2.2.1 i_.2.2.2) (fun i_ => (fun (i : Nat) (v : Value) (M : Hp) (Y : Hp) => i ≤ rs.length ∧ Buf w0.heap.size v M (rs.take i) ∧ Rt (rs.drop i) Y) i_.1 i_.2.1 i_.2.2.1 i_.2.2.2) (fun i_ => (fun (i : Nat) (v : Value) (M : Hp) (Y : Hp) => rs.length - i) i_.1 i_.2.1 i_.2.2.1 i_.2.2.2) ((0, _, _, _)) ?_ ⟨rfl, rfl, rfl, trivial⟩ (List.Perm.refl _) ?_
 ·try dsimp only
  exact ⟨by omega, .inl ⟨rfl, rfl, rfl⟩, by simpa using hX⟩
 ·rintro ⟨i, v, M, Y⟩ hp
  try dsimp only at hp
  obtain ⟨hi, hbuf, hY⟩ := hp
  show WC _ _ _ _ _ _ ([(0, Pt bb 0), (1, .iface k r), (4, I (i : Int))]) ([[(bb, .cells #[v, I 0, .int .i8 0] 39 (0, 0))], M, Y, E, R0])
  have hti : (rs.take i).length = i := by rw [List.length_take]; omega
  have hdi : (rs.drop i).length = rs.length - i := List.length_drop
  refine WC.block (WC.seq (WC.region ?_))
  refine WL.q (oq_move rfl) rfl rfl rfl ?_
  refine WL.f1 ?_
  refine WL.f1 ?_
  refine WL.callW2 (growG _ bb 512 0 v M (rs.take i) hbuf (by omega) (by omega)) call103 rfl rfl rfl fun v2_1 Hs2_1 hR2_1 => ?_
  obtain ⟨B, cap, L, rfl, rfl, hB, hL, hc, hm, ht⟩ := hR2_1
  rw [hti] at hc ht ⊢
  refine WL.to2 ?_
  refine WL.q (oq_assign rfl) rfl rfl rfl ?_
  refine WL.nil (WE.then_normal (WC.sub (fr' := [(0, _), (1, _), (4, _), (6, _)]) ?_ ⟨rfl, rfl, rfl, rfl, trivial⟩))
  refine WC.seq (WC.region ?_)
  refine WL.q (oq_move rfl) rfl rfl rfl ?_
  refine WL.q (oq_move rfl) rfl rfl rfl ?_
  refine WL.q (oq_nilCheck rfl) rfl rfl rfl ?_
  refine WL.q (oq_fieldAddr fld39_0 rfl) rfl rfl rfl ?_
  refine WL.q (oq_load flat25 rfl (.head _) (List.mem_singleton.2 rfl) rfl) rfl rfl rfl ?_
  refine WL.q (oq_move rfl) rfl rfl rfl ?_
  refine WL.q (oq_sliceSl (j := i) Tryz.underlying25 ty5 rfl (by omega) rfl ⟨_, rfl⟩ (by omega) (by omega)) rfl rfl rfl ?_
  refine WL.q (oq_nilCheck rfl) rfl rfl rfl ?_
  refine WL.q (oq_fieldAddr fld39_0 rfl) rfl rfl rfl ?_
  refine WL.store1 #[_, _, _] ty25 rfl rfl (by first | rfl | exact OwS.one one_) (Nat.lt_of_lt_of_le (Nat.lt_succ_self _) (Nat.le_of_ble_eq_true rfl)) rfl rfl ?_
  refine WL.nil (WE.then_normal (WC.sub (fr' := [(0, _), (1, _), (4, _), (6, _)]) ?_ ⟨rfl, rfl, rfl, rfl, trivial⟩))
  refine WC.seq ?_
  refine WC.tailM (pl := []) (ql := [_, _, _, _, _, _, _, _, _, _, _, _, _, _, _]) (tl := [_, _, _, _, _, _]) [] [0, 1, 2, 3, 4, 5, 6, 7, 8, 9, 10, 11, 12, 13, 14] 15 [16, 17, 18, 19, 20] (by kernel_rfl) (by kernel_rfl) (by kernel_rfl) (by kernel_rfl) (by kernel_rfl) (by kernel_rfl) (by decide) rfl rfl rfl (by decide) (by repeat (first | with_reducible exact QOk.body | with_reducible apply QOk.then | with_reducible apply QOk.block | exact QOk.body | apply QOk.then | apply QOk.block)) ?_
  refine WM.nil ?_
  refine WY.q (oq_move rfl) rfl rfl rfl ?_
  refine WY.q (oq_move rfl) rfl rfl rfl ?_
  refine WY.q (oq_nilCheck rfl) rfl rfl rfl ?_
  refine WY.q (oq_fieldAddr fld39_0 rfl) rfl rfl rfl ?_
  refine WY.q (oq_load flat25 rfl (.head _) (List.mem_singleton.2 rfl) rfl) rfl rfl rfl ?_
  refine WY.q (oq_move rfl) rfl rfl rfl ?_
  refine WY.q (oq_move rfl) rfl rfl rfl ?_
  refine WY.q (oq_nilCheck rfl) rfl rfl rfl ?_
  refine WY.q (oq_fieldAddr fld39_0 rfl) rfl rfl rfl ?_
  refine WY.q (oq_load flat25 rfl (.head _) (List.mem_singleton.2 rfl) rfl) rfl rfl rfl ?_
  refine WY.q (oq_cap_sl Tryz.underlying25 rfl) rfl rfl rfl ?_
  refine WY.q (oq_sliceSl (i := i) (j := cap) Tryz.underlying25 ty5 rfl (by omega) ⟨_, rfl⟩ ⟨_, rfl⟩ (by omega) (by omega)) rfl rfl rfl ?_
  refine WY.q (oq_makeMeth rfl) rfl rfl rfl ?_
  refine WY.q (oq_nilMeth rfl (hR.nok)) rfl rfl rfl ?_
  refine WY.q (oq_move rfl) rfl rfl rfl ?_
  refine WY.nil ?_
  refine WL.f3 ?_
  refine WL.f2 ?_
  refine WL.f3 ?_
  refine WL.callWE (fun a w hf => ent_inv1 hR.inv rfl rfl hf w) (hR.run (rs.drop i) Y B 5 L (0 + 0 + i) (cap - i) (cap - 0 - i) hY (by omega) (by omega) (by omega) (by omega) (by omega)) rfl rfl rfl rfl fun v4_15 Hs4_15 hR4_15 => ?_
  obtain ⟨Y2, rfl, rfl, hY2⟩ := hR4_15
  refine WL.app3 ?_
  refine WL.q (oq_move rfl) rfl rfl rfl ?_
  refine WL.q (oq_extract rfl rfl) rfl rfl rfl ?_
  refine WL.q (oq_extract rfl rfl) rfl rfl rfl ?_
  refine WL.q (oq_assign rfl) rfl rfl rfl ?_
  refine WL.q (oq_assign rfl) rfl rfl rfl ?_
  refine WL.nil (WE.then_normal (WC.sub (fr' := [(0, _), (1, _), (4, _), (6, _), (7, _), (8, _)]) ?_ ⟨rfl, rfl, rfl, rfl, rfl, rfl, trivial⟩))
  refine WC.seq (WC.seq (WC.region ?_))
  refine WL.q (oq_move rfl) rfl rfl rfl ?_
  refine WL.q (oq_lss rfl rfl) rfl rfl rfl ?_
  refine WL.nil (WE.then_normal (WC.sub (fr' := [(0, _), (1, _), (4, _), (6, _), (7, _), (8, _), (43, _)]) ?_ ⟨rfl, rfl, rfl, rfl, rfl, rfl, rfl, trivial⟩))
  refine WC.cond rfl (fun q5 => ?_) (fun q5 => ?_)
  ·
   try simp only [Z1, Z2, Z3, Z4, Z5, Z6, Z7, Z8, Z9, Z0] at q5
   first | contradiction | (exfalso; omega) | (exfalso; simp_all; done)
  ·
   try simp only [Z1, Z2, Z3, Z4, Z5, Z6, Z7, Z8, Z9, Z0] at q5
   refine WC.skip (WE.then_normal (WC.sub (fr' := [(0, _), (1, _), (4, _), (6, _), (7, _), (8, _)]) ?_ ⟨rfl, rfl, rfl, rfl, rfl, rfl, trivial⟩))
   refine WC.seq (WC.region ?_)
   refine WL.q (oq_move rfl) rfl rfl rfl ?_
   refine WL.q (oq_move rfl) rfl rfl rfl ?_
   refine WL.q (oq_nilCheck rfl) rfl rfl rfl ?_
   refine WL.q (oq_fieldAddr fld39_0 rfl) rfl rfl rfl ?_
   refine WL.q (oq_load flat25 rfl (.tail _ (.tail _ (.tail _ (.head _)))) (List.mem_singleton.2 rfl) rfl) rfl rfl rfl ?_
   refine WL.q (oq_move rfl) rfl rfl rfl ?_
   refine WL.q (oq_move rfl) rfl rfl rfl ?_
   refine WL.q (oq_add rfl rfl (by rw [i64_lo, i64_hi]; (first | omega | (simp only [List.length_cons, List.length_nil, List.length_append, List.length_drop, List.length_take]; omega)))) rfl rfl rfl ?_
   refine WL.q (oq_sliceSl (j := (i + min (cap - i) (rs.drop i).length)) Tryz.underlying25 ty5 rfl (by omega) rfl ⟨_, rfl⟩ (by omega) (by omega)) rfl rfl rfl ?_
   refine WL.q (oq_nilCheck rfl) rfl rfl rfl ?_
   refine WL.q (oq_fieldAddr fld39_0 rfl) rfl rfl rfl ?_
   refine WL.f3 ?_
   refine WL.store1 #[_, _, _] ty25 rfl rfl (by first | rfl | exact OwS.one one_) (Nat.lt_of_lt_of_le (Nat.lt_succ_self _) (Nat.le_of_ble_eq_true rfl)) rfl rfl ?_
   refine WL.nil (WE.then_normal (WC.sub (fr' := [(0, _), (1, _), (4, _), (7, _), (8, _)]) ?_ ⟨rfl, rfl, rfl, rfl, rfl, trivial⟩))
   refine WC.seq (WC.region ?_)
   refine WL.q (oq_move rfl) rfl rfl rfl ?_
   refine WL.q (oq_move rfl) rfl rfl rfl ?_
   refine WL.q (oq_add rfl rfl (by rw [i64_lo, i64_hi]; (first | omega | (simp only [List.length_cons, List.length_nil, List.length_append, List.length_drop, List.length_take]; omega)))) rfl rfl rfl ?_
   refine WL.q (oq_assign rfl) rfl rfl rfl ?_
   refine WL.nil (WE.then_normal (WC.sub (fr' := [(0, _), (1, _), (4, _), (8, _)]) ?_ ⟨rfl, rfl, rfl, rfl, trivial⟩))
   refine WC.seq (WC.seq (WC.region ?_))
   refine WL.q (oq_move rfl) rfl rfl rfl ?_
   refine WL.q (oq_load flat41 rfl (.tail _ (.tail _ (.tail _ (.head _)))) hEm rfl) rfl rfl rfl ?_
   refine WL.q (oq_erE hS (by repeat (first | exact .head _ | apply List.Mem.tail)) (.inl (by split <;> omega)) Tryz.underlying41 rfl rfl) rfl rfl rfl ?_
   refine WL.nil (WE.then_normal (WC.sub (fr' := [(0, _), (1, _), (4, _), (8, _), (61, _)]) ?_ ⟨rfl, rfl, rfl, rfl, rfl, trivial⟩))
   refine WC.cond rfl (fun q9 => ?_) (fun q9 => ?_)
   ·
    try simp only [Z1, Z2, Z3, Z4, Z5, Z6, Z7, Z8, Z9, Z0] at q9
    refine WC.seq (WC.region ?_)
    refine WL.q (oq_move rfl) rfl rfl rfl ?_
    refine WL.q (oq_assign rfl) rfl rfl rfl ?_
    refine WL.q (oq_assign rfl) rfl rfl rfl ?_
    refine WL.nil (WE.then_normal (WC.sub (fr' := [(4, _), (5, _)]) ?_ ⟨rfl, rfl, trivial⟩))
    refine WC.ret (WE.then_ret (WE.block_ret (WE.then_ret (WE.block_ret ?_))))
    refine WE.f4 ?_
    refine WE.f4 ?_
    refine WE.f3 ?_
    refine WE.f4 ?_
    refine WE.f4 ?_
    refine WE.endW4 (.inl rfl) (res2 Tryz.results98 rfl rfl) ?_
    have hz2 : (rs.drop i).length = 0 := by by_cases h : (rs.drop i).length = 0; exact h; rw [if_neg h] at q9; cases q9
    have hz : rs.drop i = [] := len_nil.1 hz2
    have hil : i = rs.length := by omega
    have hb := buf_put (m := 0) (L := L) hB hL hc hm hi ht (by omega) rfl rfl
    rw [Nat.add_zero, hil, List.take_length] at hb
    refine ⟨_, _, Y2, ?_, rfl, ?_, ?_⟩
    ·rw [hz2, hil]; simp
    ·rw [hz2, hil]; simpa [hil] using hb
    ·rw [hz] at hY2; simpa using hY2
   ·
    try simp only [Z1, Z2, Z3, Z4, Z5, Z6, Z7, Z8, Z9, Z0] at q9
    refine WC.skip (WE.then_normal (WC.sub (fr' := [(0, _), (1, _), (4, _), (8, _)]) ?_ ⟨rfl, rfl, rfl, rfl, trivial⟩))
    refine WC.seq (WC.region ?_)
    refine WL.q (oq_move rfl) rfl rfl rfl ?_
    refine WL.q (oq_ineq Tryz.underlying41 rfl (erv_or _ _ _ _ _)) rfl rfl rfl ?_
    refine WL.nil (WE.then_normal (WC.sub (fr' := [(0, _), (1, _), (4, _), (8, _), (64, _)]) ?_ ⟨rfl, rfl, rfl, rfl, rfl, trivial⟩))
    refine WC.cond rfl (fun q11 => ?_) (fun q11 => ?_)
    ·
     try simp only [Z1, Z2, Z3, Z4, Z5, Z6, Z7, Z8, Z9, Z0] at q11
     first | contradiction | (exfalso; omega) | (exfalso; have h4 := ervN q11; by_cases h5 : (rs.drop i).length = 0; (rw [if_pos h5] at q9; exact q9 rfl); (rw [if_neg h5] at h4; exact h4 rfl))
    ·
     try simp only [Z1, Z2, Z3, Z4, Z5, Z6, Z7, Z8, Z9, Z0] at q11
     refine WC.skip (WE.block_normal ?_)
     have hne : (rs.drop i).length ≠ 0 := fun h => by rw [if_pos h] at q9; exact q9 rfl
     have hlt : i < rs.length := by omega
     refine WE.f4 ?_
     refine WE.f4 ?_
     refine WE.f3 ?_
     refine WE.f4 ?_
     refine WE.f4 ?_
     refine WE.again (i + min (cap - i) (rs.drop i).length, _, _, _) ?_ ?_ ⟨rfl, rfl, rfl, trivial⟩ (List.Perm.refl _)
     ·try dsimp only
      refine ⟨by omega, buf_put (L := L) hB hL hc hm hi ht (by rw [hdi]) rfl (by simp only [Nat.zero_add]), ?_⟩
      rw [List.drop_drop] at hY2
      rcases Nat.le_total (cap - i) (rs.drop i).length with h | h
      ·rw [Nat.min_eq_left h]; exact hY2
      ·rw [Nat.min_eq_right h, List.drop_eq_nil_of_le (by omega)]; rw [List.drop_eq_nil_of_le (by omega)] at hY2; exact hY2
     ·(try dsimp only); omega
theorem copyFrom (base bb : Nat) (E : Hp) (kE : TypeId) (pE pU : Addr) (hS : Sn E kE pE pU) (k : TypeId) (r : Value) (f : FuncId) (Rt : List UInt8 → Hp → Prop) (hR : Rr base k r f E kE pE pU Rt) (rs : List UInt8) (X : Hp) (hX : Rt rs X) (hrs : rs.length ≤ 900000) (lr : Int) (hnw : AskNo Tryz.prog k 141) : FnW Tryz.prog 38 [.iface 45 (Pt bb 0), .iface k r, .slice none 0 0] base [[(bb, .cells #[.slice none 0 0, I 0, .int .i8 lr] 39 (0, 0))], X, E] (fun w Hs => ∃ v2 M2 X2, w = .tuple #[I (rs.length : Int), .nilIface] ∧ Hs = [BB bb v2 0, M2, X2, E] ∧ Buf base v2 M2 rs ∧ Rt [] X2) := by
 refine FnW.enter (n := 115) Tryz.func38 rfl rfl fun w0 R0 hbase => ?_
 subst hbase
 show WC _ _ _ _ _ _ _ ([[(bb, .cells #[.slice none 0 0, I 0, .int .i8 lr] 39 (0, 0))], X, E, R0])
 refine WC.sub (fr' := [(0, _), (1, _), (2, _)]) ?_ ⟨rfl, rfl, rfl, trivial⟩
 refine WC.seq (WC.region ?_)
 refine WL.q (oq_assign rfl) rfl rfl rfl ?_
 refine WL.q (oq_assign rfl) rfl rfl rfl ?_
 refine WL.nil (WE.then_normal (WC.sub (fr' := [(0, _), (1, _), (2, _), (6, _), (7, _)]) ?_ ⟨rfl, rfl, rfl, rfl, rfl, trivial⟩))
 refine WC.seq (WC.seq (WC.region ?_))
 refine WL.q (oq_move rfl) rfl rfl rfl ?_
 refine WL.q (oq_askNo hnw rfl) rfl rfl rfl ?_
 refine WL.q (oq_move rfl) rfl rfl rfl ?_
 refine WL.q (oq_extract rfl rfl) rfl rfl rfl ?_
 refine WL.q (oq_extract rfl rfl) rfl rfl rfl ?_
 refine WL.q (oq_assign rfl) rfl rfl rfl ?_
 refine WL.q (oq_assign rfl) rfl rfl rfl ?_
 refine WL.nil (WE.then_normal (WC.sub (fr' := [(0, _), (1, _), (2, _), (6, _), (7, _), (8, _), (9, _)]) ?_ ⟨rfl, rfl, rfl, rfl, rfl, rfl, rfl, trivial⟩))
 refine WC.seq (WC.region ?_)
 refine WL.q (oq_move rfl) rfl rfl rfl ?_
 refine WL.nil (WE.then_normal (WC.sub (fr' := [(0, _), (1, _), (2, _), (6, _), (7, _), (8, _), (24, _)]) ?_ ⟨rfl, rfl, rfl, rfl, rfl, rfl, rfl, trivial⟩))
 refine WC.cond rfl (fun q2 => ?_) (fun q2 => ?_)
 ·
  try simp only [Z1, Z2, Z3, Z4, Z5, Z6, Z7, Z8, Z9, Z0] at q2
  first | contradiction | (exfalso; omega) | (exfalso; simp_all; done)
 ·
  try simp only [Z1, Z2, Z3, Z4, Z5, Z6, Z7, Z8, Z9, Z0] at q2
  refine WC.skip (WE.then_normal (WC.sub (fr' := [(0, _), (1, _), (2, _), (6, _), (7, _)]) ?_ ⟨rfl, rfl, rfl, rfl, rfl, trivial⟩))
  refine WC.seq (WC.seq (WC.region ?_))
  refine WL.q (oq_move rfl) rfl rfl rfl ?_
  refine WL.q (oq_askYes askRF rfl) rfl rfl rfl ?_
  refine WL.q (oq_move rfl) rfl rfl rfl ?_
  refine WL.q (oq_extract rfl rfl) rfl rfl rfl ?_
  refine WL.q (oq_extract rfl rfl) rfl rfl rfl ?_
  refine WL.q (oq_assign rfl) rfl rfl rfl ?_
  refine WL.q (oq_assign rfl) rfl rfl rfl ?_
  refine WL.nil (WE.then_normal (WC.sub (fr' := [(0, _), (1, _), (2, _), (6, _), (7, _), (10, _), (11, _)]) ?_ ⟨rfl, rfl, rfl, rfl, rfl, rfl, rfl, trivial⟩))
  refine WC.seq (WC.region ?_)
  refine WL.q (oq_move rfl) rfl rfl rfl ?_
  refine WL.nil (WE.then_normal (WC.sub (fr' := [(0, _), (1, _), (2, _), (6, _), (7, _), (10, _), (35, _)]) ?_ ⟨rfl, rfl, rfl, rfl, rfl, rfl, rfl, trivial⟩))
  refine WC.cond rfl (fun q5 => ?_) (fun q5 => ?_)
  ·
   try simp only [Z1, Z2, Z3, Z4, Z5, Z6, Z7, Z8, Z9, Z0] at q5
   refine WC.seq (WC.region ?_)
   refine WL.q (oq_move rfl) rfl rfl rfl ?_
   refine WL.q (oq_move rfl) rfl rfl rfl ?_
   refine WL.f2 ?_
   refine WL.f2 ?_
   refine WL.f2 ?_
   refine WL.callWE (fun a w hf => ent_inv1 invRF rfl rfl hf w) (readFrom _ bb E kE pE pU hS k r f Rt hR rs X hX hrs lr) rfl rfl rfl rfl fun v6_2 Hs6_2 hR6_2 => ?_
   obtain ⟨v2, M2, X2, rfl, rfl, hbuf, hX2⟩ := hR6_2
   refine WL.app4 ?_
   refine WL.q (oq_extract rfl rfl) rfl rfl rfl ?_
   refine WL.q (oq_extract rfl rfl) rfl rfl rfl ?_
   refine WL.q (oq_assign rfl) rfl rfl rfl ?_
   refine WL.q (oq_assign rfl) rfl rfl rfl ?_
   refine WL.nil (WE.then_normal (WC.sub (fr' := [(6, _), (7, _)]) ?_ ⟨rfl, rfl, trivial⟩))
   refine WC.ret (WE.then_ret ?_)
   refine WE.endW4 (.inl rfl) (res2 Tryz.results38 rfl rfl) ?_
   exact ⟨v2, M2, X2, rfl, rfl, hbuf, hX2⟩
  ·
   try simp only [Z1, Z2, Z3, Z4, Z5, Z6, Z7, Z8, Z9, Z0] at q5
   first | contradiction | (exfalso; omega) | (exfalso; simp_all; done)
theorem ioCopyFrom (base bb : Nat) (E : Hp) (kE : TypeId) (pE pU : Addr) (hS : Sn E kE pE pU) (k : TypeId) (r : Value) (f : FuncId) (Rt : List UInt8 → Hp → Prop) (hR : Rr base k r f E kE pE pU Rt) (rs : List UInt8) (X : Hp) (hX : Rt rs X) (hrs : rs.length ≤ 900000) (lr : Int) (hnw : AskNo Tryz.prog k 141) : FnW Tryz.prog 29 [.iface 45 (Pt bb 0), .iface k r] base [[(bb, .cells #[.slice none 0 0, I 0, .int .i8 lr] 39 (0, 0))], X, E] (fun w Hs => ∃ v2 M2 X2, w = .tuple #[I (rs.length : Int), .nilIface] ∧ Hs = [BB bb v2 0, M2, X2, E] ∧ Buf base v2 M2 rs ∧ Rt [] X2) := by
 refine FnW.enter (n := 11) Tryz.func29 rfl rfl fun w0 R0 hbase => ?_
 subst hbase
 show WC _ _ _ _ _ _ _ ([[(bb, .cells #[.slice none 0 0, I 0, .int .i8 lr] 39 (0, 0))], X, E, R0])
 refine WC.sub (fr' := [(0, _), (1, _)]) ?_ ⟨rfl, rfl, trivial⟩
 refine WC.seq (WC.region ?_)
 refine WL.q (oq_assign rfl) rfl rfl rfl ?_
 refine WL.q (oq_assign rfl) rfl rfl rfl ?_
 refine WL.nil (WE.then_normal (WC.sub (fr' := [(0, _), (1, _)]) ?_ ⟨rfl, rfl, trivial⟩))
 refine WC.seq (WC.region ?_)
 refine WL.q (oq_move rfl) rfl rfl rfl ?_
 refine WL.q (oq_move rfl) rfl rfl rfl ?_
 refine WL.f2 ?_
 refine WL.f2 ?_
 refine WL.f2 ?_
 refine WL.callW3 (copyFrom _ bb E kE pE pU hS k r f Rt hR rs X hX hrs lr hnw) call38 rfl rfl rfl fun v1_2 Hs1_2 hR1_2 => ?_
 obtain ⟨v2, M2, X2, rfl, rfl, hbuf, hX2⟩ := hR1_2
 refine WL.to4 ?_
 refine WL.q (oq_extract rfl rfl) rfl rfl rfl ?_
 refine WL.q (oq_extract rfl rfl) rfl rfl rfl ?_
 refine WL.q (oq_assign rfl) rfl rfl rfl ?_
 refine WL.q (oq_assign rfl) rfl rfl rfl ?_
 refine WL.nil (WE.then_normal (WC.sub (fr' := [(4, _), (5, _)]) ?_ ⟨rfl, rfl, trivial⟩))
 refine WC.ret ?_
 refine WE.endW4 (.inl rfl) (res2 Tryz.results29 rfl rfl) ?_
 exact ⟨v2, M2, X2, rfl, rfl, hbuf, hX2⟩
theorem decPayload (base : Nat) (E : Hp) (kE : TypeId) (pE pU : Addr) (hS : Sn E kE pE pU) (k : TypeId) (r : Value) (f : FuncId) (Rt : List UInt8 → Hp → Prop) (hR : Rr base k r f E kE pE pU Rt) (rs : List UInt8) (X : Hp) (hX : Rt rs X) (hrs : rs.length ≤ 900000) (hnw : AskNo Tryz.prog k 141) : FnW Tryz.prog 45 [.slice none 0 0, .iface k r] base [X, E] (fun w Hs => ∃ X2 N pv, w = .tuple #[pv, .nilIface] ∧ Hs = [X2, N, E] ∧ (∀ b o, (b, o) ∈ N → base ≤ b) ∧ RdS 1 pv N rs.length (bytesV rs) ∧ Rt [] X2) := by
 refine FnW.enter (n := 22) Tryz.func45 rfl rfl fun w0 R0 hbase => ?_
 subst hbase
 show WC _ _ _ _ _ _ _ ([X, E, R0])
 refine WC.sub (fr' := [(0, _), (1, _)]) ?_ ⟨rfl, rfl, trivial⟩
 refine WC.seq (WC.region ?_)
 refine WL.q (oq_assign rfl) rfl rfl rfl ?_
 refine WL.q (oq_assign rfl) rfl rfl rfl ?_
 refine WL.nil (WE.then_normal (WC.sub (fr' := [(0, _), (1, _)]) ?_ ⟨rfl, rfl, trivial⟩))
 refine WC.seq (WC.region ?_)
 refine WL.q (oq_move rfl) rfl rfl rfl ?_
 refine WL.q (oq_sliceNil2 Tryz.underlying25 ty5 rfl rfl rfl) rfl rfl rfl ?_
 refine WL.callA0 (newBuf) call23 rfl rfl rfl fun v1_2 N1_2 hR1_2 hN1_2 => ?_
 obtain ⟨bb, rfl, rfl⟩ := hR1_2
 have hbb := hN1_2 _ _ (List.mem_singleton.2 rfl)
 refine WL.q (oq_assign rfl) rfl rfl rfl ?_
 refine WL.nil (WE.then_normal (WC.sub (fr' := [(1, _), (6, _)]) ?_ ⟨rfl, rfl, trivial⟩))
 refine WC.seq (WC.region ?_)
 refine WL.q (oq_move rfl) rfl rfl rfl ?_
 refine WL.q (oq_makeI conc45 rfl) rfl rfl rfl ?_
 refine WL.q (oq_move rfl) rfl rfl rfl ?_
 refine WL.f2 ?_
 refine WL.f2 ?_
 refine WL.f2 ?_
 refine WL.callW3 (ioCopyFrom _ bb E kE pE pU hS k r f Rt hR rs X hX hrs 0 hnw) call29 rfl rfl rfl fun v2_3 Hs2_3 hR2_3 => ?_
 obtain ⟨v2, M2, X2, rfl, rfl, hbuf, hX2⟩ := hR2_3
 refine WL.to4 ?_
 refine WL.q (oq_move rfl) rfl rfl rfl ?_
 refine WL.q (oq_extract rfl rfl) rfl rfl rfl ?_
 refine WL.q (oq_extract rfl rfl) rfl rfl rfl ?_
 refine WL.q (oq_assign rfl) rfl rfl rfl ?_
 refine WL.q (oq_assign rfl) rfl rfl rfl ?_
 refine WL.nil (WE.then_normal (WC.sub (fr' := [(6, _), (8, _)]) ?_ ⟨rfl, rfl, trivial⟩))
 refine WC.seq ?_
 refine WC.f1 ?_
 refine WC.f1 ?_
 obtain ⟨bv, hbf, hbr⟩ := bytesG _ bb rs _ ⟨v2, 0, M2, rfl, hbuf⟩
 refine WC.cat ?_
 refine WC.region ?_
 refine WL.q (oq_move rfl) rfl rfl rfl ?_
 refine WL.qc (oq_callRm (hbf) (.head _) call16 rfl) rfl rfl rfl ?_
 refine WL.q (oq_move rfl) rfl rfl rfl ?_
 refine WL.q (oq_assign rfl) rfl rfl rfl ?_
 refine WL.q (oq_assign rfl) rfl rfl rfl ?_
 refine WL.nil (WE.then_normal (WC.sub (fr' := [(4, _), (5, _)]) ?_ ⟨rfl, rfl, trivial⟩))
 refine WC.ret ?_
 refine WE.f3 ?_
 refine WE.f3 ?_
 refine WE.f2 ?_
 refine WE.f3 ?_
 refine WE.endW3 (.inl rfl) (res2 Tryz.results45 rfl rfl) ?_
 exact ⟨X2, _, bv, rfl, rfl, fresh_cat (fresh1 hbb) hbuf.fresh, hbr, hX2⟩
end DI
end Go.Proofs.YtpjeiimlglgklaaGreatDoor
