/- The encoder. -/
import Derived.Test.YtodlhaghdplclaaDoorEL
namespace Go.Proofs.YtodlhaghdplclaaDoor
open Go Go.RowKit V EA EB EC ED EE EF EG EH EI EJ EK EL
set_option linter.unusedSimpArgs false
set_option linter.unusedVariables false
set_option maxRecDepth 10000
namespace EM
theorem call19 : Callable Tryd.prog 19 := ⟨_, Tryd.func19, rfl, by kernel_rfl⟩
theorem call22 : Callable Tryd.prog 22 := ⟨_, Tryd.func22, rfl, by kernel_rfl⟩
theorem call23 : Callable Tryd.prog 23 := ⟨_, Tryd.func23, rfl, by kernel_rfl⟩
theorem call24 : Callable Tryd.prog 24 := ⟨_, Tryd.func24, rfl, by kernel_rfl⟩
theorem call25 : Callable Tryd.prog 25 := ⟨_, Tryd.func25, rfl, by kernel_rfl⟩
theorem call26 : Callable Tryd.prog 26 := ⟨_, Tryd.func26, rfl, by kernel_rfl⟩
theorem call27 : Callable Tryd.prog 27 := ⟨_, Tryd.func27, rfl, by kernel_rfl⟩
theorem call28 : Callable Tryd.prog 28 := ⟨_, Tryd.func28, rfl, by kernel_rfl⟩
theorem flat23 : Flat Tryd.prog 23 := ⟨_, Tryd.underlying23, by simp⟩
theorem flat45 : Flat Tryd.prog 45 := ⟨_, Tryd.underlying45, by simp⟩
theorem flat47 : Flat Tryd.prog 47 := ⟨_, Tryd.underlying47, by simp⟩
theorem ty20 : Ty Tryd.prog 20 .nilIface 1 16 := ty_of (by kernel_rfl)
theorem ty23 : Ty Tryd.prog 23 (.slice none 0 0) 1 24 := ty_of (by kernel_rfl)
theorem ty45 : Ty Tryd.prog 45 (.pointer none) 1 8 := ty_of (by kernel_rfl)
theorem ty47 : Ty Tryd.prog 47 (.slice none 0 0) 1 24 := ty_of (by kernel_rfl)
theorem ty63 : Ty Tryd.prog 63 .nilIface 1 16 := ty_of (by kernel_rfl)
theorem ty66 : Ty Tryd.prog 66 (.agg #[(.int .u32 0)]) 1 4 := ty_of (by kernel_rfl)
theorem conc45 : Conc Tryd.prog 45 := ⟨_, Tryd.underlying45, by simp⟩
theorem conc54 : Conc Tryd.prog 54 := ⟨_, Tryd.underlying54, by simp⟩
theorem conc64 : Conc Tryd.prog 64 := ⟨_, Tryd.underlying64, by simp⟩
theorem str66 : Str Tryd.prog 66 #[(0, 1)] := ⟨_, Tryd.underlying66, fun w => by kernel_rfl⟩
theorem fld50_0 : Fld Tryd.prog 50 0 0 47 := fld_of Tryd.underlying50 rfl rfl rfl ty47 (by decide)
theorem fld50_1 : Fld Tryd.prog 50 1 1 23 := fld_of Tryd.underlying50 rfl rfl rfl ty23 (by decide)
theorem fld61_0 : Fld Tryd.prog 61 0 0 45 := fld_of Tryd.underlying61 rfl rfl rfl ty45 (by decide)
theorem fld61_1 : Fld Tryd.prog 61 1 1 45 := fld_of Tryd.underlying61 rfl rfl rfl ty45 (by decide)

theorem hdR_split {base bb : Nat} {l : List HV} {acc : List UInt8} {M Z : Hp} {w : Value} {Hs : List Hp} (h : HdR base bb l acc M Z w Hs) : ∃ G' acc', Hs = [G', M, Z] ∧ BufG base bb acc' G' ∧ (w = .nilIface ∨ ∃ k u, w = .iface k u) ∧ (nilI w = true → l.any badH = false ∧ BufG base bb (acc ++ hdrs l) G') ∧ (nilI w = false → l.any badH = true ∧ ∃ k e, w = .iface k e) := by
  obtain ⟨G', acc', rfl, hB, h⟩ := h
  refine ⟨G', acc', rfl, hB, ?_⟩
  cases hb : l.any badH with
  | true => rw [hb] at h; obtain ⟨k, e, rfl⟩ := h; exact ⟨(.inr ⟨_, _, rfl⟩), (fun h => nomatch h), (fun _ => ⟨rfl, _, _, rfl⟩)⟩
  | false => rw [hb] at h; obtain ⟨rfl, rfl⟩ := h; exact ⟨(.inl rfl), (fun _ => ⟨rfl, hB⟩), (fun h => nomatch h)⟩
theorem app_nil {a b : List UInt8} (h : b = []) : a ++ b = a := by rw [h, List.append_nil]
theorem mid2 (W G F : Hp) : ((W ++ G) ++ F).Perm (G ++ (W ++ F)) := by simpa using mid1 W G F []
def pre12 (hl pl : Nat) : List UInt8 := pre8 hl pl ++ crcB (pre8 hl pl)
theorem pre12_len (hl pl : Nat) : (pre12 hl pl).length = 12 := by unfold pre12 pre8 crcB; simp [be_len]
/-- a message as bytes, without its last sum -/
def msg0 (l : List HV) (data : List UInt8) : List UInt8 := pre12 (hdrs l).length data.length ++ hdrs l ++ data
def msgB (l : List HV) (data : List UInt8) : List UInt8 := msg0 l data ++ crcB (msg0 l data)
abbrev EncB (eb b1 b2 : Nat) : Hp := [(eb, .cells #[Pt b1 0, Pt b2 0] 61 (0, 0))]
/-- a message written, or one that can not be -/
def MsgR (base eb b1 b2 ob : Nat) (l : List HV) (data acc : List UInt8) (M Z Pg : Hp) (w : Value) (Hs : List Hp) : Prop :=
  ∃ B1 B2 O c1 c2 c3, Hs = [EncB eb b1 b2, B1, B2, O, M, Z, Pg] ∧ BufG base b1 c1 B1 ∧ BufG base b2 c2 B2 ∧ BufG base ob c3 O ∧ if l.any badH then ∃ k e, w = .iface k e else w = .nilIface ∧ c3 = acc ++ msgB l data
/-- (*given.example/pub-tinwright/pub/smithy/eventstream.Encoder).Encode -/
theorem encode (base eb b1 b2 ob : Nat) (a1 a2 acc0 : List UInt8) (B1 B2 O : Hp) (h1 : BufG base b1 a1 B1) (h2 : BufG base b2 a2 B2) (hO : BufG base ob acc0 O) (vh : Value) (M Z : Hp) (l : List HV) (ps : List PV) (hr : RdS 2 vh M ps.length (recsV PV.row ps)) (hp : Pair l ps Z) (hok : okH l) (hn : l.length ≤ 1000) (hsz : szL l ≤ 100000) (vp : Value) (Pg : Hp) (data : List UInt8) (hrp : RdS 1 vp Pg data.length (bytesV data)) (hpl : data.length ≤ 50000) (hal : acc0.length ≤ 100000) : FnW Tryd.prog 14 [Pt eb 0, .iface 45 (Pt ob 0), .agg #[vh, vp]] base [EncB eb b1 b2, B1, B2, O, M, Z, Pg] (MsgR base eb b1 b2 ob l data acc0 M Z Pg) := by
  have hdl : (hdrs l).length ≤ szL l := by have := hdrs_len hok l.length (Nat.le_refl _); rw [List.take_length] at this; exact this
  have h12 := pre12_len (hdrs l).length data.length
  refine FnW.enter (n := 113) Tryd.func14 rfl rfl fun w0 R0 hbase => ?_
  subst hbase
  show WC _ _ _ _ _ _ _ ([EncB eb b1 b2, B1, B2, O, M, Z, Pg, R0])
  refine WC.sub (fr' := [(0, _), (1, _), (2, _)]) ?_ ⟨rfl, rfl, rfl, trivial⟩
  refine WC.seq (WC.region ?_)
  refine WL.box rfl rfl rfl fun xb hxb => ?_
  refine WL.q (oq_assign rfl) rfl rfl rfl ?_
  refine WL.nil (WE.then_normal (WC.sub (fr' := [(0, _), (1, _), (5, _)]) ?_ ⟨rfl, rfl, rfl, trivial⟩))
  refine WC.seq (WC.region ?_)
  refine WL.q (oq_move rfl) rfl rfl rfl ?_
  refine WL.q (oq_nilCheck rfl) rfl rfl rfl ?_
  refine WL.q (oq_fieldAddr fld61_0 rfl) rfl rfl rfl ?_
  refine WL.q (oq_load flat45 rfl (.tail _ (.head _)) (List.mem_singleton.2 rfl) rfl) rfl rfl rfl ?_
  refine WL.f2 ?_
  refine WL.callW1 (bufReset _ b1 a1 B1 h1) call22 rfl rfl rfl fun v1_4 Hs1_4 hR1_4 => ?_
  obtain ⟨B1_, rfl, rfl, h1_⟩ := hR1_4
  refine WL.to1 ?_
  refine WL.nil (WE.then_normal (WC.sub (fr' := [(0, _), (1, _), (5, _)]) ?_ ⟨rfl, rfl, rfl, trivial⟩))
  refine WC.seq (WC.region ?_)
  refine WL.q (oq_move rfl) rfl rfl rfl ?_
  refine WL.q (oq_nilCheck rfl) rfl rfl rfl ?_
  refine WL.q (oq_fieldAddr fld61_1 rfl) rfl rfl rfl ?_
  refine WL.q (oq_load flat45 rfl (.tail _ (.tail _ (.head _))) (List.mem_singleton.2 rfl) rfl) rfl rfl rfl ?_
  refine WL.f3 ?_
  refine WL.callW1 (bufReset _ b2 a2 B2 h2) call22 rfl rfl rfl fun v2_4 Hs2_4 hR2_4 => ?_
  obtain ⟨B2_, rfl, rfl, h2_⟩ := hR2_4
  refine WL.to1 ?_
  refine WL.nil (WE.then_normal (WC.sub (fr' := [(0, _), (1, _), (5, _)]) ?_ ⟨rfl, rfl, rfl, trivial⟩))
  refine WC.seq (WC.region ?_)
  refine WL.q (oq_move rfl) rfl rfl rfl ?_
  refine WL.q (oq_nilCheck rfl) rfl rfl rfl ?_
  refine WL.q (oq_fieldAddr fld61_1 rfl) rfl rfl rfl ?_
  refine WL.q (oq_load flat45 rfl (.tail _ (.tail _ (.tail _ (.head _)))) (List.mem_singleton.2 rfl) rfl) rfl rfl rfl ?_
  refine WL.q (oq_makeI conc45 rfl) rfl rfl rfl ?_
  refine WL.q (oq_assign rfl) rfl rfl rfl ?_
  refine WL.nil (WE.then_normal (WC.sub (fr' := [(0, _), (1, _), (5, _), (7, _)]) ?_ ⟨rfl, rfl, rfl, rfl, trivial⟩))
  refine WC.seq (WC.seq ?_)
  refine WC.tailM (pl := []) (ql := [_, _, _, _, _, _, _]) (tl := [_, _]) [] [0, 1, 2, 3, 4, 5, 6] 7 [8] (by kernel_rfl) (by kernel_rfl) (by kernel_rfl) (by kernel_rfl) (by kernel_rfl) (by kernel_rfl) (by decide) rfl rfl rfl (by decide) (by repeat (first | with_reducible exact QOk.body | with_reducible apply QOk.then | with_reducible apply QOk.block | exact QOk.body | apply QOk.then | apply QOk.block)) ?_
  refine WM.nil ?_
  refine WY.q (oq_move rfl) rfl rfl rfl ?_
  refine WY.q (oq_nilCheck rfl) rfl rfl rfl ?_
  refine WY.q (oq_fieldAddr fld61_0 rfl) rfl rfl rfl ?_
  refine WY.q (oq_load flat45 rfl (.tail _ (.tail _ (.tail _ (.head _)))) (List.mem_singleton.2 rfl) rfl) rfl rfl rfl ?_
  refine WY.q (oq_makeI conc45 rfl) rfl rfl rfl ?_
  refine WY.q (oq_fieldAddr fld50_0 rfl) rfl rfl rfl ?_
  refine WY.q (oq_load flat47 rfl (.tail _ (.tail _ (.head _))) (List.mem_singleton.2 rfl) rfl) rfl rfl rfl ?_
  refine WY.nil ?_
  refine WL.f6 ?_
  refine WL.f6 ?_
  refine WL.f3 ?_
  refine WL.callW3 (encHeaders _ b1 [] B1_ h1_ vh M Z l ps hr hp hok hn (by rw [List.length_nil]; omega)) call19 rfl rfl rfl fun v4_7 Hs4_7 hR4_7 => ?_
  obtain ⟨X1, c1, rfl, hc1, hei, he0, he1⟩ := hdR_split hR4_7
  refine WL.to3 ?_
  refine WL.q (oq_assign rfl) rfl rfl rfl ?_
  refine WL.nil (WE.then_normal (WC.sub (fr' := [(0, _), (1, _), (5, _), (6, _), (7, _)]) ?_ ⟨rfl, rfl, rfl, rfl, rfl, trivial⟩))
  refine WC.seq (WC.region ?_)
  refine WL.q (oq_move rfl) rfl rfl rfl ?_
  refine WL.q (oq_ineq Tryd.underlying41 rfl (hei)) rfl rfl rfl ?_
  refine WL.nil (WE.then_normal (WC.sub (fr' := [(0, _), (1, _), (5, _), (6, _), (7, _), (38, _)]) ?_ ⟨rfl, rfl, rfl, rfl, rfl, rfl, trivial⟩))
  refine WC.cond rfl (fun q5 => ?_) (fun q5 => ?_)
  ·
    try simp only [Z1, Z2, Z3, Z4, Z5, Z6, Z7, Z8, Z9, Z0] at q5
    refine WC.seq (WC.region ?_)
    refine WL.q (oq_move rfl) rfl rfl rfl ?_
    refine WL.q (oq_assign rfl) rfl rfl rfl ?_
    refine WL.nil (WE.then_normal (WC.sub (fr' := [(6, _)]) ?_ ⟨rfl, trivial⟩))
    refine WC.ret (WE.then_ret ?_)
    refine WE.f4 ?_
    refine WE.lose hxb ?_
    refine WE.f7 ?_
    refine WE.f7 ?_
    refine WE.f4 ?_
    refine WE.f4 ?_
    refine WE.f7 ?_
    refine WE.f6 ?_
    refine WE.f6 ?_
    refine WE.f7 ?_
    refine WE.endW7 (.inl rfl) (res1 Tryd.results14 rfl) ?_
    -- end 0
    obtain ⟨hb, k9, e9, hv⟩ := he1 (by simpa using q5)
    exact ⟨_, _, _, _, _, _, rfl, hc1, h2_, hO, by rw [if_pos hb]; exact ⟨_, _, hv⟩⟩
  ·
    try simp only [Z1, Z2, Z3, Z4, Z5, Z6, Z7, Z8, Z9, Z0] at q5
    refine WC.skip (WE.then_normal (WC.sub (fr' := [(0, _), (1, _), (5, _), (7, _)]) ?_ ⟨rfl, rfl, rfl, rfl, trivial⟩))
    refine WC.seq ?_
    obtain ⟨hnb, hX1⟩ := he0 (by simpa using q5)
    rw [List.nil_append] at hX1
    refine WC.region ?_
    refine WL.q (oq_build #[_] str66 ty66 rfl rfl) rfl rfl rfl ?_
    refine WL.box rfl rfl rfl fun hb hhb => ?_
    refine WL.q (oq_assign rfl) rfl rfl rfl ?_
    refine WL.nil (WE.then_normal (WC.sub (fr' := [(0, _), (1, _), (5, _), (7, _), (8, _)]) ?_ ⟨rfl, rfl, rfl, rfl, rfl, trivial⟩))
    refine WC.seq (WC.region ?_)
    refine WL.q (oq_move rfl) rfl rfl rfl ?_
    refine WL.q (oq_move rfl) rfl rfl rfl ?_
    refine WL.q (oq_makeI conc64 rfl) rfl rfl rfl ?_
    refine WL.buildL Tryd.underlying89 ty63 rfl rfl (by decide) (by decide) rfl rfl rfl fun v8 A8 ho8 hne8 => ?_
    refine WL.callA (multiWriter v8 A8 [(45, Pt b2 0), (64, Pt hb 0)] ho8.rd (by simp) (by simp)) call23 rfl rfl rfl fun v8_4 N8_4 hR8_4 hN8_4 => ?_
    obtain ⟨mb, u, Ws, rfl, rfl, hwr⟩ := hR8_4
    refine WL.q (oq_assign rfl) rfl rfl rfl ?_
    refine WL.nil (WE.then_normal (WC.sub (fr' := [(0, _), (1, _), (5, _), (7, _), (8, _), (9, _)]) ?_ ⟨rfl, rfl, rfl, rfl, rfl, rfl, trivial⟩))
    refine WC.seq ?_
    refine WC.f2 ?_
    refine WC.f6 ?_
    refine WC.f2 ?_
    have hMw : MwG w0.heap.size mb u Ws b2 hb [] ((([(mb, .cells #[u] 93 (0, 0))] ++ Ws) ++ B2_) ++ Hash hb (crc [])) := ⟨_, h2_, rfl⟩
    refine WC.cat (WC.cat ?_)
    refine WC.region ?_
    refine WL.q (oq_move rfl) rfl rfl rfl ?_
    refine WL.q (oq_nilCheck rfl) rfl rfl rfl ?_
    refine WL.q (oq_fieldAddr fld61_0 rfl) rfl rfl rfl ?_
    refine WL.q (oq_load flat45 rfl (.tail _ (.tail _ (.tail _ (.tail _ (.tail _ (.tail _ (.head _))))))) (List.mem_singleton.2 rfl) rfl) rfl rfl rfl ?_
    refine WL.qc (oq_callRm (bufLenG _ b1 (hdrs l) X1 hX1 (by omega)) (.tail _ (.tail _ (.head _))) call24 rfl) rfl rfl rfl ?_
    refine WL.q (oq_conv Tryd.underlying3 Tryd.underlying54 rfl (by rw [u32_lo, u32_hi]; (first | omega | (simp only [List.length_cons, List.length_nil, List.length_append, List.length_drop, List.length_take]; omega)))) rfl rfl rfl ?_
    refine WL.q (oq_assign rfl) rfl rfl rfl ?_
    refine WL.nil (WE.then_normal (WC.sub (fr' := [(0, _), (1, _), (5, _), (7, _), (8, _), (9, _), (10, _)]) ?_ ⟨rfl, rfl, rfl, rfl, rfl, rfl, rfl, trivial⟩))
    refine WC.seq (WC.region ?_)
    refine WL.q (oq_fieldAddr fld50_1 rfl) rfl rfl rfl ?_
    refine WL.q (oq_load flat23 rfl (.tail _ (.tail _ (.tail _ (.tail _ (.tail _ (.head _)))))) (List.mem_singleton.2 rfl) rfl) rfl rfl rfl ?_
    refine WL.q (oq_len_rd hrp Tryd.underlying23 rfl) rfl rfl rfl ?_
    refine WL.q (oq_conv Tryd.underlying3 Tryd.underlying54 rfl (by rw [u32_lo, u32_hi]; (first | omega | (simp only [List.length_cons, List.length_nil, List.length_append, List.length_drop, List.length_take]; omega)))) rfl rfl rfl ?_
    refine WL.q (oq_assign rfl) rfl rfl rfl ?_
    refine WL.nil (WE.then_normal (WC.sub (fr' := [(0, _), (1, _), (5, _), (7, _), (8, _), (9, _), (10, _), (11, _)]) ?_ ⟨rfl, rfl, rfl, rfl, rfl, rfl, rfl, rfl, trivial⟩))
    refine WC.seq (WC.seq (WC.region ?_))
    refine WL.q (oq_move rfl) rfl rfl rfl ?_
    refine WL.q (oq_move rfl) rfl rfl rfl ?_
    refine WL.q (oq_move rfl) rfl rfl rfl ?_
    refine WL.q (oq_move rfl) rfl rfl rfl ?_
    refine WL.callW1 (encPrelude _ hb _ _ _ _ (mwWr _ mb u Ws b2 hb hwr) [] _ hMw (mwSum _ mb u Ws b2 hb) (hdrs l).length data.length (by omega) (by omega) (by simp)) call25 rfl rfl rfl fun v11_4 Hs11_4 hR11_4 => ?_
    obtain ⟨g2, rfl, rfl, hg2⟩ := hR11_4
    have hg2 : MwG w0.heap.size mb u Ws b2 hb (pre12 (hdrs l).length data.length) g2 := hg2
    refine WL.to1 ?_
    refine WL.q (oq_assign rfl) rfl rfl rfl ?_
    refine WL.nil (WE.then_normal (WC.sub (fr' := [(0, _), (1, _), (5, _), (6, _), (7, _), (8, _), (9, _), (10, _), (11, _)]) ?_ ⟨rfl, rfl, rfl, rfl, rfl, rfl, rfl, rfl, rfl, trivial⟩))
    refine WC.seq (WC.region ?_)
    refine WL.q (oq_move rfl) rfl rfl rfl ?_
    refine WL.q (oq_ineq Tryd.underlying41 rfl (.inl rfl)) rfl rfl rfl ?_
    refine WL.nil (WE.then_normal (WC.sub (fr' := [(0, _), (1, _), (5, _), (6, _), (7, _), (8, _), (9, _), (10, _), (11, _), (63, _)]) ?_ ⟨rfl, rfl, rfl, rfl, rfl, rfl, rfl, rfl, rfl, rfl, trivial⟩))
    refine WC.cond rfl (fun q12 => ?_) (fun q12 => ?_)
    ·
      try simp only [Z1, Z2, Z3, Z4, Z5, Z6, Z7, Z8, Z9, Z0] at q12
      first | contradiction | (exfalso; omega) | (exfalso; simp_all; done)
    ·
      try simp only [Z1, Z2, Z3, Z4, Z5, Z6, Z7, Z8, Z9, Z0] at q12
      refine WC.skip (WE.then_normal (WC.sub (fr' := [(0, _), (1, _), (5, _), (7, _), (8, _), (9, _), (10, _), (11, _)]) ?_ ⟨rfl, rfl, rfl, rfl, rfl, rfl, rfl, rfl, trivial⟩))
      refine WC.cut (ι := Hp × Hp) (fun i_ => (fun (X1 : Hp) (g : Hp) => [(0, Pt eb 0), (1, .iface 45 (Pt ob 0)), (5, Pt xb 0), (7, .iface 45 (Pt b2 0)), (8, Pt hb 0), (9, .iface 90 (Pt mb 0)), (11, .int .u32 (data.length : Int))]) i_.1 i_.2) (fun i_ => (fun (X1 : Hp) (g : Hp) => [EncB eb b1 b2, [(xb, .cells #[vh, vp] 50 (0, 0))], X1, g, O, M, Z, Pg, R0]) i_.1 i_.2) (fun i_ => (fun (X1 : Hp) (g : Hp) => BufG w0.heap.size b1 [] X1 ∧ MwG w0.heap.size mb u Ws b2 hb (pre12 (hdrs l).length data.length ++ hdrs l) g) i_.1 i_.2) ?_ ?_
      ·
        refine WC.seq (WC.region ?_)
        refine WL.q (oq_move rfl) rfl rfl rfl ?_
        refine WL.q (oq_gtr rfl rfl) rfl rfl rfl ?_
        refine WL.nil (WE.then_normal (WC.sub (fr' := [(0, _), (1, _), (5, _), (7, _), (8, _), (9, _), (11, _), (66, _)]) ?_ ⟨rfl, rfl, rfl, rfl, rfl, rfl, rfl, rfl, trivial⟩))
        refine WC.cond rfl (fun q14 => ?_) (fun q14 => ?_)
        ·
          try simp only [Z1, Z2, Z3, Z4, Z5, Z6, Z7, Z8, Z9, Z0] at q14
          refine WC.seq (WC.region ?_)
          refine WL.q (oq_move rfl) rfl rfl rfl ?_
          refine WL.q (oq_move rfl) rfl rfl rfl ?_
          refine WL.q (oq_nilCheck rfl) rfl rfl rfl ?_
          refine WL.q (oq_fieldAddr fld61_0 rfl) rfl rfl rfl ?_
          refine WL.q (oq_load flat45 rfl (.tail _ (.tail _ (.tail _ (.tail _ (.tail _ (.tail _ (.head _))))))) (List.mem_singleton.2 rfl) rfl) rfl rfl rfl ?_
          refine WL.q (oq_makeI conc45 rfl) rfl rfl rfl ?_
          refine WL.f2 ?_
          refine WL.callW2 (copyG _ _ _ _ _ (mwWr _ mb u Ws b2 hb hwr) _ g2 hg2 b1 (hdrs l) X1 hX1 (by omega) (by omega)) call26 rfl rfl rfl fun v15_6 Hs15_6 hR15_6 => ?_
          obtain ⟨X2, g3, rfl, rfl, hX2, hg3⟩ := hR15_6
          refine WL.to2 ?_
          refine WL.q (oq_move rfl) rfl rfl rfl ?_
          refine WL.q (oq_extract rfl rfl) rfl rfl rfl ?_
          refine WL.q (oq_extract rfl rfl) rfl rfl rfl ?_
          refine WL.q (oq_assign rfl) rfl rfl rfl ?_
          refine WL.nil (WE.then_normal (WC.sub (fr' := [(0, _), (1, _), (5, _), (6, _), (7, _), (8, _), (9, _), (11, _)]) ?_ ⟨rfl, rfl, rfl, rfl, rfl, rfl, rfl, rfl, trivial⟩))
          refine WC.seq (WC.region ?_)
          refine WL.q (oq_move rfl) rfl rfl rfl ?_
          refine WL.q (oq_ineq Tryd.underlying41 rfl (.inl rfl)) rfl rfl rfl ?_
          refine WL.nil (WE.then_normal (WC.sub (fr' := [(0, _), (1, _), (5, _), (6, _), (7, _), (8, _), (9, _), (11, _), (78, _)]) ?_ ⟨rfl, rfl, rfl, rfl, rfl, rfl, rfl, rfl, rfl, trivial⟩))
          refine WC.cond rfl (fun q16 => ?_) (fun q16 => ?_)
          ·
            try simp only [Z1, Z2, Z3, Z4, Z5, Z6, Z7, Z8, Z9, Z0] at q16
            first | contradiction | (exfalso; omega) | (exfalso; simp_all; done)
          ·
            try simp only [Z1, Z2, Z3, Z4, Z5, Z6, Z7, Z8, Z9, Z0] at q16
            refine WC.skip ?_
            refine WE.f2 ?_
            refine WE.forget ho8.fresh ?_
            refine WE.f8 ?_
            refine WE.f8 ?_
            refine WE.f5 ?_
            refine WE.f5 ?_
            refine WE.f8 ?_
            refine WE.f6 ?_
            refine WE.f6 ?_
            refine WE.f7 ?_
            refine WE.f8 ?_
            refine WE.meet (X2, g3) ?_ ⟨rfl, rfl, rfl, rfl, rfl, rfl, rfl, trivial⟩ (List.Perm.refl _)
            try dsimp only
            exact ⟨hX2, hg3⟩   -- meet 0
        ·
          try simp only [Z1, Z2, Z3, Z4, Z5, Z6, Z7, Z8, Z9, Z0] at q14
          refine WC.skip ?_
          have h0 : hdrs l = [] := List.eq_nil_of_length_eq_zero (by omega)
          have hX1b : BufG w0.heap.size b1 [] X1 := by rw [h0] at hX1; exact hX1
          have hg2b : MwG w0.heap.size mb u Ws b2 hb (pre12 (hdrs l).length data.length ++ hdrs l) g2 := by rw [app_nil h0]; exact hg2
          refine WE.f1 ?_
          refine WE.forget ho8.fresh ?_
          refine WE.f8 ?_
          refine WE.f8 ?_
          refine WE.f5 ?_
          refine WE.f5 ?_
          refine WE.f8 ?_
          refine WE.f5 ?_
          refine WE.f6 ?_
          refine WE.f7 ?_
          refine WE.f8 ?_
          refine WE.meet (X1, g2) ?_ ⟨rfl, rfl, rfl, rfl, rfl, rfl, rfl, trivial⟩ (List.Perm.refl _)
          try dsimp only
          exact ⟨hX1b, hg2b⟩   -- meet 1
      · rintro ⟨X1, g⟩ hp
        try dsimp only at hp
        obtain ⟨hX1, hg⟩ := hp
        show WC _ _ _ _ _ _ ([(0, Pt eb 0), (1, .iface 45 (Pt ob 0)), (5, Pt xb 0), (7, .iface 45 (Pt b2 0)), (8, Pt hb 0), (9, .iface 90 (Pt mb 0)), (11, .int .u32 (data.length : Int))]) ([EncB eb b1 b2, [(xb, .cells #[vh, vp] 50 (0, 0))], X1, g, O, M, Z, Pg, R0])
        refine WC.cut (ι := Hp × Hp) (fun i_ => (fun (X1 : Hp) (g : Hp) => [(0, Pt eb 0), (1, .iface 45 (Pt ob 0)), (7, .iface 45 (Pt b2 0)), (8, Pt hb 0)]) i_.1 i_.2) (fun i_ => (fun (X1 : Hp) (g : Hp) => [EncB eb b1 b2, [(xb, .cells #[vh, vp] 50 (0, 0))], X1, g, O, M, Z, Pg, R0]) i_.1 i_.2) (fun i_ => (fun (X1 : Hp) (g : Hp) => BufG w0.heap.size b1 [] X1 ∧ MwG w0.heap.size mb u Ws b2 hb (msg0 l data) g) i_.1 i_.2) ?_ ?_
        ·
          refine WC.seq (WC.region ?_)
          refine WL.q (oq_move rfl) rfl rfl rfl ?_
          refine WL.q (oq_gtr rfl rfl) rfl rfl rfl ?_
          refine WL.nil (WE.then_normal (WC.sub (fr' := [(0, _), (1, _), (5, _), (7, _), (8, _), (9, _), (81, _)]) ?_ ⟨rfl, rfl, rfl, rfl, rfl, rfl, rfl, trivial⟩))
          refine WC.cond rfl (fun q18 => ?_) (fun q18 => ?_)
          ·
            try simp only [Z1, Z2, Z3, Z4, Z5, Z6, Z7, Z8, Z9, Z0] at q18
            refine WC.seq (WC.region ?_)
            refine WL.q (oq_move rfl) rfl rfl rfl ?_
            refine WL.q (oq_fieldAddr fld50_1 rfl) rfl rfl rfl ?_
            refine WL.q (oq_load flat23 rfl (.tail _ (.head _)) (List.mem_singleton.2 rfl) rfl) rfl rfl rfl ?_
            refine WL.f7 ?_
            refine WL.f4 ?_
            refine WL.callWE (fun a w hf => ent_inv1 invMW rfl rfl hf w) ((mwWr _ mb u Ws b2 hb hwr).run _ g vp Pg data hg hrp (by rw [List.length_append, h12]; omega) (by rw [List.length_append, h12]; omega)) rfl rfl rfl rfl fun v19_3 Hs19_3 hR19_3 => ?_
            obtain ⟨g4, rfl, rfl, hg4⟩ := hR19_3
            refine WL.app2 ?_
            refine WL.q (oq_move rfl) rfl rfl rfl ?_
            refine WL.q (oq_extract rfl rfl) rfl rfl rfl ?_
            refine WL.q (oq_extract rfl rfl) rfl rfl rfl ?_
            refine WL.q (oq_assign rfl) rfl rfl rfl ?_
            refine WL.nil (WE.then_normal (WC.sub (fr' := [(0, _), (1, _), (6, _), (7, _), (8, _)]) ?_ ⟨rfl, rfl, rfl, rfl, rfl, trivial⟩))
            refine WC.seq (WC.region ?_)
            refine WL.q (oq_move rfl) rfl rfl rfl ?_
            refine WL.q (oq_ineq Tryd.underlying41 rfl (.inl rfl)) rfl rfl rfl ?_
            refine WL.nil (WE.then_normal (WC.sub (fr' := [(0, _), (1, _), (6, _), (7, _), (8, _), (90, _)]) ?_ ⟨rfl, rfl, rfl, rfl, rfl, rfl, trivial⟩))
            refine WC.cond rfl (fun q20 => ?_) (fun q20 => ?_)
            ·
              try simp only [Z1, Z2, Z3, Z4, Z5, Z6, Z7, Z8, Z9, Z0] at q20
              first | contradiction | (exfalso; omega) | (exfalso; simp_all; done)
            ·
              try simp only [Z1, Z2, Z3, Z4, Z5, Z6, Z7, Z8, Z9, Z0] at q20
              refine WC.skip ?_
              refine WE.f8 ?_
              refine WE.f2 ?_
              refine WE.f8 ?_
              refine WE.f8 ?_
              refine WE.f8 ?_
              refine WE.f5 ?_
              refine WE.f8 ?_
              refine WE.f8 ?_
              refine WE.f8 ?_
              refine WE.meet (X1, g4) ?_ ⟨rfl, rfl, rfl, rfl, trivial⟩ (List.Perm.refl _)
              try dsimp only
              exact ⟨hX1, hg4⟩   -- meet 0
          ·
            try simp only [Z1, Z2, Z3, Z4, Z5, Z6, Z7, Z8, Z9, Z0] at q18
            refine WC.skip ?_
            have h0 : data = [] := List.eq_nil_of_length_eq_zero (by omega)
            have hgb : MwG w0.heap.size mb u Ws b2 hb (msg0 l data) g := by unfold msg0; rw [app_nil h0]; exact hg
            refine WE.meet (X1, g) ?_ ⟨rfl, rfl, rfl, rfl, trivial⟩ (List.Perm.refl _)
            try dsimp only
            exact ⟨hX1, hgb⟩   -- meet 1
        · rintro ⟨X1, g⟩ hp
          try dsimp only at hp
          obtain ⟨hX1, hg⟩ := hp
          show WC _ _ _ _ _ _ ([(0, Pt eb 0), (1, .iface 45 (Pt ob 0)), (7, .iface 45 (Pt b2 0)), (8, Pt hb 0)]) ([EncB eb b1 b2, [(xb, .cells #[vh, vp] 50 (0, 0))], X1, g, O, M, Z, Pg, R0])
          refine WC.seq ?_
          have hm0 : (msg0 l data).length = 12 + (hdrs l).length + data.length := by unfold msg0; rw [List.length_append, List.length_append, h12]
          have hml : (msgB l data).length = 16 + (hdrs l).length + data.length := by unfold msgB crcB; rw [List.length_append, be_len, hm0]; omega
          refine WC.region ?_
          refine WL.q (oq_move rfl) rfl rfl rfl ?_
          refine WL.qc (oq_callRm (mwSum _ mb u Ws b2 hb (msg0 l data) g hg) (.tail _ (.tail _ (.tail _ (.head _)))) call27 rfl) rfl rfl rfl ?_
          refine WL.q (oq_assign rfl) rfl rfl rfl ?_
          refine WL.nil (WE.then_normal (WC.sub (fr' := [(0, _), (1, _), (7, _), (12, _)]) ?_ ⟨rfl, rfl, rfl, rfl, trivial⟩))
          refine WC.seq (WC.seq (WC.region ?_))
          refine WL.q (oq_move rfl) rfl rfl rfl ?_
          refine WL.q (oq_move rfl) rfl rfl rfl ?_
          refine WL.q (oq_makeI conc54 rfl) rfl rfl rfl ?_
          refine WL.buildL Tryd.underlying100 ty20 rfl rfl (by decide) (by decide) rfl rfl rfl fun v23 A23 ho23 hne23 => ?_
          refine WL.f4 ?_
          refine WL.f1 ?_
          refine WL.callW2 (zzWrite _ _ _ _ _ (midWr _ b2 ([(mb, Obj.cells #[u] 93 (0, 0))] ++ Ws) (Hash hb (crc (msg0 l data)))) (msg0 l data) g hg v23 A23 [⟨54, .u32, 4, ((crc (msg0 l data)).toNat : Int)⟩] ho23.rd (ok1 (okU _)) (by simp) (by rw [hm0]; simp; omega)) call28 rfl rfl rfl fun v23_4 Hs23_4 hR23_4 => ?_
          obtain ⟨g5, rfl, rfl, Gb, hGb, rfl⟩ := hR23_4
          rw [bytesN_1] at hGb
          have hGb : BufG w0.heap.size b2 (msgB l data) Gb := hGb
          refine WL.to2 ?_
          refine WL.q (oq_assign rfl) rfl rfl rfl ?_
          refine WL.nil (WE.then_normal (WC.sub (fr' := [(0, _), (1, _), (13, _)]) ?_ ⟨rfl, rfl, rfl, trivial⟩))
          refine WC.seq (WC.region ?_)
          refine WL.q (oq_move rfl) rfl rfl rfl ?_
          refine WL.q (oq_ineq Tryd.underlying41 rfl (.inl rfl)) rfl rfl rfl ?_
          refine WL.nil (WE.then_normal (WC.sub (fr' := [(0, _), (1, _), (13, _), (100, _)]) ?_ ⟨rfl, rfl, rfl, rfl, trivial⟩))
          refine WC.cond rfl (fun q24 => ?_) (fun q24 => ?_)
          ·
            try simp only [Z1, Z2, Z3, Z4, Z5, Z6, Z7, Z8, Z9, Z0] at q24
            first | contradiction | (exfalso; omega) | (exfalso; simp_all; done)
          ·
            try simp only [Z1, Z2, Z3, Z4, Z5, Z6, Z7, Z8, Z9, Z0] at q24
            refine WC.skip (WE.then_normal (WC.sub (fr' := [(0, _), (1, _)]) ?_ ⟨rfl, rfl, trivial⟩))
            refine WC.seq ?_
            refine WC.f1 ?_
            refine WC.reg (reg_out (mid2 _ Gb _)) ?_
            refine WC.region ?_
            refine WL.q (oq_move rfl) rfl rfl rfl ?_
            refine WL.q (oq_move rfl) rfl rfl rfl ?_
            refine WL.q (oq_nilCheck rfl) rfl rfl rfl ?_
            refine WL.q (oq_fieldAddr fld61_1 rfl) rfl rfl rfl ?_
            refine WL.q (oq_load flat45 rfl (.tail _ (.tail _ (.tail _ (.head _)))) (List.mem_singleton.2 rfl) rfl) rfl rfl rfl ?_
            refine WL.q (oq_makeI conc45 rfl) rfl rfl rfl ?_
            refine WL.f6 ?_
            refine WL.f1 ?_
            refine WL.callW2 (copyG _ _ _ _ _ (bufWr _ ob) acc0 O hO b2 (msgB l data) Gb hGb (by rw [hml]; omega) (by rw [hml]; omega)) call26 rfl rfl rfl fun v26_6 Hs26_6 hR26_6 => ?_
            obtain ⟨Y2, O2, rfl, rfl, hY2, hO2⟩ := hR26_6
            refine WL.to2 ?_
            refine WL.q (oq_move rfl) rfl rfl rfl ?_
            refine WL.q (oq_extract rfl rfl) rfl rfl rfl ?_
            refine WL.q (oq_extract rfl rfl) rfl rfl rfl ?_
            refine WL.q (oq_assign rfl) rfl rfl rfl ?_
            refine WL.nil (WE.then_normal (WC.sub (fr' := [(6, _)]) ?_ ⟨rfl, trivial⟩))
            refine WC.seq (WC.region ?_)
            refine WL.q (oq_move rfl) rfl rfl rfl ?_
            refine WL.q (oq_assign rfl) rfl rfl rfl ?_
            refine WL.nil (WE.then_normal (WC.sub (fr' := [(6, _)]) ?_ ⟨rfl, trivial⟩))
            refine WC.ret ?_
            refine WE.f2 ?_
            refine WE.forget (fresh_cat hN8_4 (fresh1 hhb)) ?_
            refine WE.f2 ?_
            refine WE.forget ho23.fresh ?_
            refine WE.f3 ?_
            refine WE.lose hxb ?_
            refine WE.f7 ?_
            refine WE.f7 ?_
            refine WE.f7 ?_
            refine WE.f7 ?_
            refine WE.f5 ?_
            refine WE.f5 ?_
            refine WE.f7 ?_
            refine WE.f7 ?_
            refine WE.endW7 (.inl rfl) (res1 Tryd.results14 rfl) ?_
            -- end 1
            exact ⟨_, _, _, _, _, _, rfl, hX1, hY2, hO2, by rw [if_neg (by rw [hnb]; simp)]; exact ⟨rfl, rfl⟩⟩

end EM
end Go.Proofs.YtodlhaghdplclaaDoor
