/- Preludes, many writers, encoders. -/
import Derived.Test.YtodlhaghdplclaaDoorEJ
namespace Go.Proofs.YtodlhaghdplclaaDoor
open Go Go.RowKit V EA EB EC ED EE EF EG EH EI EJ
set_option linter.unusedSimpArgs false
set_option linter.unusedVariables false
set_option maxRecDepth 10000
namespace EK
theorem call21 : Callable Tryd.prog 21 := ⟨_, Tryd.func21, rfl, by kernel_rfl⟩
theorem call27 : Callable Tryd.prog 27 := ⟨_, Tryd.func27, rfl, by kernel_rfl⟩
theorem call28 : Callable Tryd.prog 28 := ⟨_, Tryd.func28, rfl, by kernel_rfl⟩
theorem call32 : Callable Tryd.prog 32 := ⟨_, Tryd.func32, rfl, by kernel_rfl⟩
theorem flat54 : Flat Tryd.prog 54 := ⟨_, Tryd.underlying54, by simp⟩
theorem flat63 : Flat Tryd.prog 63 := ⟨_, Tryd.underlying63, by simp⟩
theorem ty20 : Ty Tryd.prog 20 .nilIface 1 16 := ty_of (by kernel_rfl)
theorem ty54 : Ty Tryd.prog 54 (.int .u32 0) 1 4 := ty_of (by kernel_rfl)
theorem ty61 : Ty Tryd.prog 61 (.agg #[(.pointer none), (.pointer none)]) 2 16 := ty_of (by kernel_rfl)
theorem ty63 : Ty Tryd.prog 63 .nilIface 1 16 := ty_of (by kernel_rfl)
theorem ty90 : Ty Tryd.prog 90 (.pointer none) 1 8 := ty_of (by kernel_rfl)
theorem ty93 : Ty Tryd.prog 93 (.agg #[(.slice none 0 0)]) 1 24 := ty_of (by kernel_rfl)
theorem ty95 : Ty Tryd.prog 95 (.agg #[(.int .u32 0), (.int .u32 0), (.int .u32 0)]) 3 12 := ty_of (by kernel_rfl)
theorem conc54 : Conc Tryd.prog 54 := ⟨_, Tryd.underlying54, by simp⟩
theorem conc90 : Conc Tryd.prog 90 := ⟨_, Tryd.underlying90, by simp⟩
theorem agg95 : Agg Tryd.prog 95 := agg_of Tryd.underlying95
theorem str61 : Str Tryd.prog 61 #[(0, 1), (1, 1)] := ⟨_, Tryd.underlying61, fun w => by kernel_rfl⟩
theorem str93 : Str Tryd.prog 93 #[(0, 1)] := ⟨_, Tryd.underlying93, fun w => by kernel_rfl⟩
theorem str95 : Str Tryd.prog 95 #[(0, 1), (1, 1), (2, 1)] := ⟨_, Tryd.underlying95, fun w => by kernel_rfl⟩
theorem fld95_0 : Fld Tryd.prog 95 0 0 54 := fld_of Tryd.underlying95 rfl rfl rfl ty54 (by decide)
theorem fld95_1 : Fld Tryd.prog 95 1 1 54 := fld_of Tryd.underlying95 rfl rfl rfl ty54 (by decide)
theorem fld95_2 : Fld Tryd.prog 95 2 2 54 := fld_of Tryd.underlying95 rfl rfl rfl ty54 (by decide)

theorem bytesN_1 (d : Num) : bytesN [d] = be d.w d.x := by simp [bytesN]
theorem bytesN_2 (d e : Num) : bytesN [d, e] = be d.w d.x ++ be e.w e.x := by simp [bytesN]
theorem okU (x : Int) : Num.ok ⟨54, .u32, 4, x⟩ := by simp [Num.ok, Num.kinds]
/-- what stands ahead of a message -/
def pre8 (hl pl : Nat) : List UInt8 := be 4 (16 + (hl : Int) + (pl : Int)) ++ be 4 (hl : Int)
def crcB (l : List UInt8) : List UInt8 := be 4 ((crc l).toNat : Int)
/-- every writer's kind and value -/
abbrev wval (x : TypeId × Value) : Value := .iface x.1 x.2
/-- (given.example/pub-tinwright/pub/smithy/eventstream.messagePrelude).ValidateLens -/
theorem validLens (n : Nat) (h0 : 0 < n) (a b : Value) : Fn0 Tryd.prog 32 [.agg #[.int .u32 (n : Int), a, b]] (.nilIface) := by
  refine Fn0.enter (n := 11) Tryd.func32 rfl rfl fun w0 => ?_
  refine WC.sub (fr' := [(0, _)]) ?_ ⟨rfl, trivial⟩
  refine WC.seq (WC.region ?_)
  refine WL.box rfl rfl rfl fun b0_0 hb0_0 => ?_
  refine WL.q (oq_assign rfl) rfl rfl rfl ?_
  refine WL.nil (WE.then_normal (WC.sub (fr' := [(1, _)]) ?_ ⟨rfl, trivial⟩))
  refine WC.seq (WC.seq (WC.region ?_))
  refine WL.q (oq_fieldAddr fld95_0 rfl) rfl rfl rfl ?_
  refine WL.q (oq_load flat54 rfl (.head _) (List.mem_singleton.2 rfl) rfl) rfl rfl rfl ?_
  refine WL.q (oq_eql rfl rfl) rfl rfl rfl ?_
  refine WL.nil (WE.then_normal (WC.sub (fr' := [(1, _), (5, _)]) ?_ ⟨rfl, rfl, trivial⟩))
  refine WC.cond rfl (fun q1 => ?_) (fun q1 => ?_)
  ·
    try simp only [Z1, Z2, Z3, Z4, Z5, Z6, Z7, Z8, Z9, Z0] at q1
    first | contradiction | (exfalso; omega) | (exfalso; simp_all; done)
  ·
    try simp only [Z1, Z2, Z3, Z4, Z5, Z6, Z7, Z8, Z9, Z0] at q1
    refine WC.skip (WE.then_normal (WC.sub (fr' := []) ?_ trivial))
    refine WC.seq (WC.region ?_)
    refine WL.q (oq_assign rfl) rfl rfl rfl ?_
    refine WL.nil (WE.then_normal (WC.sub (fr' := [(2, _)]) ?_ ⟨rfl, trivial⟩))
    refine WC.ret ?_
    refine WE.lose hb0_0 ?_
    refine WE.end0 (.inl rfl) (res1 Tryd.results32 rfl) ?_
    -- end 0
    rfl

/-- given.example/pub-tinwright/pub/smithy/eventstream.encodePrelude -/
theorem encPrelude (base hb : Nat) (k : TypeId) (r : Value) (f : FuncId) (Wt : List UInt8 → Hp → Prop) (hW : Wr base k r f Wt) (acc0 : List UInt8) (G : Hp) (hG : Wt acc0 G) (hS : ∀ acc G, Wt acc G → FnR Tryd.prog 27 [Pt hb 0] G (U32 (crc acc))) (hl pl : Nat) (hhl : hl ≤ 1000000) (hpl : pl ≤ 1000000) (hal : acc0.length ≤ 200000) : FnW Tryd.prog 25 [.iface k r, Pt hb 0, .int .u32 (hl : Int), .int .u32 (pl : Int)] base [G] (Then Wt (acc0 ++ (pre8 hl pl ++ crcB (acc0 ++ pre8 hl pl))) []) := by
  refine FnW.enter (n := 47) Tryd.func25 rfl rfl fun w0 R0 hbase => ?_
  subst hbase
  show WC _ _ _ _ _ _ _ ([G, R0])
  refine WC.sub (fr' := [(0, _), (1, _), (2, _), (3, _)]) ?_ ⟨rfl, rfl, rfl, rfl, trivial⟩
  refine WC.seq (WC.region ?_)
  refine WL.q (oq_assign rfl) rfl rfl rfl ?_
  refine WL.nil (WE.then_normal (WC.sub (fr' := [(0, _), (1, _), (2, _), (3, _)]) ?_ ⟨rfl, rfl, rfl, rfl, trivial⟩))
  refine WC.seq (WC.region ?_)
  refine WL.q (oq_move rfl) rfl rfl rfl ?_
  refine WL.q (oq_add rfl rfl (by rw [u32_lo, u32_hi]; (first | omega | (simp only [List.length_cons, List.length_nil, List.length_append, List.length_drop, List.length_take]; omega)))) rfl rfl rfl ?_
  refine WL.q (oq_move rfl) rfl rfl rfl ?_
  refine WL.q (oq_add rfl rfl (by rw [u32_lo, u32_hi]; (first | omega | (simp only [List.length_cons, List.length_nil, List.length_append, List.length_drop, List.length_take]; omega)))) rfl rfl rfl ?_
  refine WL.q (oq_move rfl) rfl rfl rfl ?_
  refine WL.q (oq_build #[_, _, _] str95 ty95 rfl rfl) rfl rfl rfl ?_
  refine WL.alloc ty95 rfl rfl fun pb hpb => ?_
  refine WL.storeS #[_, _, _] ty95 rfl rfl rfl rfl (Nat.le_of_ble_eq_true rfl) rfl rfl ?_
  refine WL.nil (WE.then_normal (WC.sub (fr' := [(0, _), (1, _), (9, _)]) ?_ ⟨rfl, rfl, rfl, trivial⟩))
  refine WC.seq (WC.seq (WC.region ?_))
  refine WL.q (oq_loadS [_, _, _] agg95 ty95 rfl (.head _) (List.mem_singleton.2 rfl) rfl rfl) rfl rfl rfl ?_
  refine WL.qc (oq_call (validLens (16 + hl + pl) (by omega) _ _) call32 rfl) rfl rfl rfl ?_
  refine WL.q (oq_assign rfl) rfl rfl rfl ?_
  refine WL.nil (WE.then_normal (WC.sub (fr' := [(0, _), (1, _), (9, _), (10, _)]) ?_ ⟨rfl, rfl, rfl, rfl, trivial⟩))
  refine WC.seq (WC.region ?_)
  refine WL.q (oq_move rfl) rfl rfl rfl ?_
  refine WL.q (oq_ineq Tryd.underlying41 rfl (.inl rfl)) rfl rfl rfl ?_
  refine WL.nil (WE.then_normal (WC.sub (fr' := [(0, _), (1, _), (9, _), (10, _), (21, _)]) ?_ ⟨rfl, rfl, rfl, rfl, rfl, trivial⟩))
  refine WC.cond rfl (fun q3 => ?_) (fun q3 => ?_)
  ·
    try simp only [Z1, Z2, Z3, Z4, Z5, Z6, Z7, Z8, Z9, Z0] at q3
    first | contradiction | (exfalso; omega) | (exfalso; simp_all; done)
  ·
    try simp only [Z1, Z2, Z3, Z4, Z5, Z6, Z7, Z8, Z9, Z0] at q3
    refine WC.skip (WE.then_normal (WC.sub (fr' := [(0, _), (1, _), (9, _)]) ?_ ⟨rfl, rfl, rfl, trivial⟩))
    refine WC.seq (WC.region ?_)
    refine WL.q (oq_move rfl) rfl rfl rfl ?_
    refine WL.q (oq_fieldAddr fld95_0 rfl) rfl rfl rfl ?_
    refine WL.q (oq_load flat54 rfl (.head _) (List.mem_singleton.2 rfl) rfl) rfl rfl rfl ?_
    refine WL.q (oq_makeI conc54 rfl) rfl rfl rfl ?_
    refine WL.q (oq_fieldAddr fld95_1 rfl) rfl rfl rfl ?_
    refine WL.q (oq_load flat54 rfl (.head _) (List.mem_singleton.2 rfl) rfl) rfl rfl rfl ?_
    refine WL.q (oq_makeI conc54 rfl) rfl rfl rfl ?_
    refine WL.buildL Tryd.underlying100 ty20 rfl rfl (by decide) (by decide) rfl rfl rfl fun v5 A5 ho5 hne5 => ?_
    refine WL.f2 ?_
    refine WL.f1 ?_
    refine WL.callW2 (zzWrite _ k r f Wt hW acc0 G hG v5 A5 [⟨54, .u32, 4, 16 + (hl : Int) + (pl : Int)⟩, ⟨54, .u32, 4, (hl : Int)⟩] ho5.rd (ok2 (okU _) (okU _)) (by simp) (by simp; omega)) call28 rfl rfl rfl fun v5_8 Hs5_8 hR5_8 => ?_
    obtain ⟨G2, rfl, rfl, hG2⟩ := hR5_8
    rw [bytesN_2] at hG2
    have hG2 : Wt (acc0 ++ pre8 hl pl) G2 := hG2
    have h8 : (pre8 hl pl).length = 8 := by unfold pre8; rw [List.length_append, be_len, be_len]
    refine WL.to2 ?_
    refine WL.q (oq_assign rfl) rfl rfl rfl ?_
    refine WL.nil (WE.then_normal (WC.sub (fr' := [(0, _), (1, _), (9, _), (11, _)]) ?_ ⟨rfl, rfl, rfl, rfl, trivial⟩))
    refine WC.seq (WC.seq (WC.region ?_))
    refine WL.q (oq_move rfl) rfl rfl rfl ?_
    refine WL.q (oq_ineq Tryd.underlying41 rfl (.inl rfl)) rfl rfl rfl ?_
    refine WL.nil (WE.then_normal (WC.sub (fr' := [(0, _), (1, _), (9, _), (11, _), (33, _)]) ?_ ⟨rfl, rfl, rfl, rfl, rfl, trivial⟩))
    refine WC.cond rfl (fun q6 => ?_) (fun q6 => ?_)
    ·
      try simp only [Z1, Z2, Z3, Z4, Z5, Z6, Z7, Z8, Z9, Z0] at q6
      first | contradiction | (exfalso; omega) | (exfalso; simp_all; done)
    ·
      try simp only [Z1, Z2, Z3, Z4, Z5, Z6, Z7, Z8, Z9, Z0] at q6
      refine WC.skip (WE.then_normal (WC.sub (fr' := [(0, _), (1, _), (9, _)]) ?_ ⟨rfl, rfl, rfl, trivial⟩))
      refine WC.seq (WC.region ?_)
      refine WL.q (oq_move rfl) rfl rfl rfl ?_
      refine WL.qc (oq_callRm (hS _ G2 hG2) (.tail _ (.head _)) call27 rfl) rfl rfl rfl ?_
      refine WL.q (oq_fieldAddr fld95_2 rfl) rfl rfl rfl ?_
      refine WL.f2 ?_
      refine WL.store1 #[_, _, _] ty54 rfl rfl (by first | rfl | exact OwS.one one_) (Nat.lt_of_lt_of_le (Nat.lt_succ_self _) (Nat.le_of_ble_eq_true rfl)) rfl rfl ?_
      refine WL.nil (WE.then_normal (WC.sub (fr' := [(0, _), (9, _)]) ?_ ⟨rfl, rfl, trivial⟩))
      refine WC.seq (WC.region ?_)
      refine WL.q (oq_move rfl) rfl rfl rfl ?_
      refine WL.q (oq_fieldAddr fld95_2 rfl) rfl rfl rfl ?_
      refine WL.q (oq_load flat54 rfl (.head _) (List.mem_singleton.2 rfl) rfl) rfl rfl rfl ?_
      refine WL.q (oq_makeI conc54 rfl) rfl rfl rfl ?_
      refine WL.buildL Tryd.underlying100 ty20 rfl rfl (by decide) (by decide) rfl rfl rfl fun v9 A9 ho9 hne9 => ?_
      refine WL.f3 ?_
      refine WL.f1 ?_
      refine WL.callW2 (zzWrite _ k r f Wt hW _ G2 hG2 v9 A9 [⟨54, .u32, 4, ((crc (acc0 ++ pre8 hl pl)).toNat : Int)⟩] ho9.rd (ok1 (okU _)) (by simp) (by rw [List.length_append]; simp; omega)) call28 rfl rfl rfl fun v9_5 Hs9_5 hR9_5 => ?_
      obtain ⟨G3, rfl, rfl, hG3⟩ := hR9_5
      rw [bytesN_1, List.append_assoc] at hG3
      refine WL.to2 ?_
      refine WL.q (oq_assign rfl) rfl rfl rfl ?_
      refine WL.nil (WE.then_normal (WC.sub (fr' := [(11, _)]) ?_ ⟨rfl, trivial⟩))
      refine WC.seq (WC.seq (WC.region ?_))
      refine WL.q (oq_move rfl) rfl rfl rfl ?_
      refine WL.q (oq_ineq Tryd.underlying41 rfl (.inl rfl)) rfl rfl rfl ?_
      refine WL.nil (WE.then_normal (WC.sub (fr' := [(11, _), (45, _)]) ?_ ⟨rfl, rfl, trivial⟩))
      refine WC.cond rfl (fun q10 => ?_) (fun q10 => ?_)
      ·
        try simp only [Z1, Z2, Z3, Z4, Z5, Z6, Z7, Z8, Z9, Z0] at q10
        first | contradiction | (exfalso; omega) | (exfalso; simp_all; done)
      ·
        try simp only [Z1, Z2, Z3, Z4, Z5, Z6, Z7, Z8, Z9, Z0] at q10
        refine WC.skip (WE.then_normal (WC.sub (fr' := []) ?_ trivial))
        refine WC.seq (WC.region ?_)
        refine WL.q (oq_assign rfl) rfl rfl rfl ?_
        refine WL.nil (WE.then_normal (WC.sub (fr' := [(8, _)]) ?_ ⟨rfl, trivial⟩))
        refine WC.ret ?_
        refine WE.forget ho9.fresh ?_
        refine WE.f1 ?_
        refine WE.lose hpb ?_
        refine WE.f1 ?_
        refine WE.forget ho5.fresh ?_
        refine WE.endW1 (.inl rfl) (res1 Tryd.results25 rfl) ?_
        -- end 0
        exact ⟨_, rfl, rfl, hG3⟩

/-- io.MultiWriter -/
theorem multiWriter (v : Value) (L : Hp) (ws : List (TypeId × Value)) (hr : RdS 1 v L ws.length (ws.map wval)) (hn : ws.length ≤ 100) (hk : ∀ x ∈ ws, x.1 ≠ 90) : FnA Tryd.prog 23 [v] L (fun w N => ∃ mb u Ws, w = .iface 90 (Pt mb 0) ∧ N = [(mb, .cells #[u] 93 (0, 0))] ++ Ws ∧ RdS 1 u Ws ws.length (ws.map wval)) := by
  refine FnA.enter (n := 38) Tryd.func23 rfl rfl fun w0 => ?_
  refine WC.sub (fr' := [(0, _)]) ?_ ⟨rfl, trivial⟩
  refine WC.seq (WC.region ?_)
  refine WL.q (oq_assign rfl) rfl rfl rfl ?_
  refine WL.nil (WE.then_normal (WC.sub (fr' := [(0, _)]) ?_ ⟨rfl, trivial⟩))
  refine WC.seq (WC.region ?_)
  refine WL.q (oq_move rfl) rfl rfl rfl ?_
  refine WL.q (oq_len_rd hr Tryd.underlying89 rfl) rfl rfl rfl ?_
  refine WL.make0 Tryd.underlying89 ty63 rfl rfl (by omega) (by unfold maxLen; omega) rfl rfl fun v1_2 A1_2 ho1_2 hne1_2 => ?_
  refine WL.q (oq_assign rfl) rfl rfl rfl ?_
  refine WL.nil (WE.then_normal (WC.sub (fr' := [(0, _), (3, _)]) ?_ ⟨rfl, rfl, trivial⟩))
  refine WC.seq (WC.seq (WC.region ?_))
  refine WL.q (oq_move rfl) rfl rfl rfl ?_
  refine WL.q (oq_len_rd hr Tryd.underlying89 rfl) rfl rfl rfl ?_
  refine WL.q (oq_move rfl) rfl rfl rfl ?_
  refine WL.nil (WE.then_normal (WC.sub (fr' := [(3, _), (11, _), (12, _), (13, _)]) ?_ ⟨rfl, rfl, rfl, rfl, trivial⟩))
  refine WC.block ?_
  refine WC.loop (ι := Nat × Value × Hp) (fun i_ => (fun (i : Nat) (u : Value) (B : Hp) => [(3, u), (11, v), (12, I (ws.length : Int)), (13, I (i : Int))]) i_.1 i_.2.1 i_.2.2) (fun i_ => (fun (i : Nat) (u : Value) (B : Hp) => [B, L]) i_.1 i_.2.1 i_.2.2) (fun i_ => (fun (i : Nat) (u : Value) (B : Hp) => i ≤ ws.length ∧ OwS w0.heap.size 63 1 u B i ((ws.map wval).take i)) i_.1 i_.2.1 i_.2.2) (fun i_ => (fun (i : Nat) (u : Value) (B : Hp) => ws.length - i) i_.1 i_.2.1 i_.2.2) ((0, _, _)) ?_ ⟨rfl, rfl, rfl, rfl, trivial⟩ (List.Perm.refl _) ?_
  · try dsimp only
    exact ⟨by omega, by assumption⟩
  · rintro ⟨i, u, B⟩ hp
    try dsimp only at hp
    obtain ⟨hi, ho⟩ := hp
    show WC _ _ _ _ _ _ ([(3, u), (11, v), (12, I (ws.length : Int)), (13, I (i : Int))]) ([B, L])
    refine WC.seq (WC.region ?_)
    refine WL.q (oq_lss rfl rfl) rfl rfl rfl ?_
    refine WL.nil (WE.then_normal (WC.sub (fr' := [(3, _), (11, _), (12, _), (13, _), (14, _)]) ?_ ⟨rfl, rfl, rfl, rfl, rfl, trivial⟩))
    refine WC.seq ?_
    refine WC.cond rfl (fun q3 => ?_) (fun q3 => ?_)
    ·
      try simp only [Z1, Z2, Z3, Z4, Z5, Z6, Z7, Z8, Z9, Z0] at q3
      refine WC.skip (WE.then_normal (WC.sub (fr' := [(3, _), (11, _), (12, _), (13, _)]) ?_ ⟨rfl, rfl, rfl, rfl, trivial⟩))
      refine WC.seq (WC.block (WC.seq ?_))
      have hlt : i < ws.length := by omega
      refine WC.region ?_
      refine WL.q (oq_ixaddr hr Tryd.underlying89 ty63 rfl rfl (by (first | omega | (simp only [List.length_cons, List.length_nil, List.length_append, List.length_drop, List.length_take]; omega)))) rfl rfl rfl ?_
      refine WL.q (oq_load_el hr (by repeat (first | exact .head _ | apply List.Mem.tail)) flat63 rfl (by omega) (u := wval ws[i]) (by rw [Int.toNat_natCast, List.getElem?_map, List.getElem?_eq_getElem hlt]; rfl)) rfl rfl rfl ?_
      refine WL.q (oq_assign rfl) rfl rfl rfl ?_
      refine WL.nil (WE.then_normal (WC.sub (fr' := [(3, _), (5, _), (11, _), (12, _), (13, _)]) ?_ ⟨rfl, rfl, rfl, rfl, rfl, trivial⟩))
      refine WC.seq (WC.region ?_)
      refine WL.q (oq_move rfl) rfl rfl rfl ?_
      refine WL.q (oq_askG conc90 ty90 rfl) rfl rfl rfl ?_
      refine WL.q (oq_move rfl) rfl rfl rfl ?_
      refine WL.q (oq_extract rfl rfl) rfl rfl rfl ?_
      refine WL.q (oq_extract rfl rfl) rfl rfl rfl ?_
      refine WL.q (oq_assign rfl) rfl rfl rfl ?_
      refine WL.q (oq_assign rfl) rfl rfl rfl ?_
      refine WL.nil (WE.then_normal (WC.sub (fr' := [(3, _), (5, _), (6, _), (7, _), (11, _), (12, _), (13, _)]) ?_ ⟨rfl, rfl, rfl, rfl, rfl, rfl, rfl, trivial⟩))
      refine WC.seq (WC.region ?_)
      refine WL.q (oq_move rfl) rfl rfl rfl ?_
      refine WL.nil (WE.then_normal (WC.sub (fr' := [(3, _), (5, _), (6, _), (11, _), (12, _), (13, _), (22, _)]) ?_ ⟨rfl, rfl, rfl, rfl, rfl, rfl, rfl, trivial⟩))
      refine WC.cond rfl (fun q6 => ?_) (fun q6 => ?_)
      ·
        try simp only [Z1, Z2, Z3, Z4, Z5, Z6, Z7, Z8, Z9, Z0] at q6
        exact absurd q6 (hk _ (List.getElem_mem hlt))
      ·
        try simp only [Z1, Z2, Z3, Z4, Z5, Z6, Z7, Z8, Z9, Z0] at q6
        refine WC.region ?_
        refine WL.q (oq_move rfl) rfl rfl rfl ?_
        refine WL.q (oq_move rfl) rfl rfl rfl ?_
        refine WL.append1 ho Tryd.underlying89 ty63 rfl (by decide) (fun _ => rfl) rfl rfl (by unfold maxLen; omega) (by omega) rfl rfl (fun _ => rfl) rfl fun v8 A8 u8 ho8 hne8 => ?_
        refine WL.q (oq_assign rfl) rfl rfl rfl ?_
        refine WL.nil (WE.block_normal (WE.then_normal (WC.sub (fr' := [(3, _), (11, _), (12, _), (13, _)]) ?_ ⟨rfl, rfl, rfl, rfl, trivial⟩)))
        refine WC.region ?_
        refine WL.q (oq_add rfl rfl (by rw [i64_lo, i64_hi]; (first | omega | (simp only [List.length_cons, List.length_nil, List.length_append, List.length_drop, List.length_take]; omega)))) rfl rfl rfl ?_
        refine WL.q (oq_move rfl) rfl rfl rfl ?_
        refine WL.nil ?_
        refine WE.again (i + 1, _, _) ?_ ?_ ⟨rfl, rfl, rfl, rfl, trivial⟩ (List.Perm.refl _)
        · try dsimp only   -- again 0
          exact ⟨by omega, by rw [List.take_add_one, List.getElem?_map, List.getElem?_eq_getElem hlt]; exact ho8⟩
        · (try dsimp only); omega
    ·
      try simp only [Z1, Z2, Z3, Z4, Z5, Z6, Z7, Z8, Z9, Z0] at q3
      refine WC.exit (WE.then_exit (WE.then_exit (WE.block_same (WE.then_normal (WC.sub (fr' := [(3, _)]) ?_ ⟨rfl, trivial⟩)))))
      refine WC.seq ?_
      obtain ⟨pu, cu, rfl⟩ := ho.rd.shape
      refine WC.region ?_
      refine WL.q (oq_move rfl) rfl rfl rfl ?_
      refine WL.q (oq_build #[_] str93 ty93 rfl rfl) rfl rfl rfl ?_
      refine WL.box rfl rfl rfl fun mb hmb => ?_
      refine WL.q (oq_makeI conc90 rfl) rfl rfl rfl ?_
      refine WL.q (oq_assign rfl) rfl rfl rfl ?_
      refine WL.nil (WE.then_normal (WC.sub (fr' := [(2, _)]) ?_ ⟨rfl, trivial⟩))
      refine WC.ret ?_
      refine WE.cat ?_
      refine WE.endA (.inl rfl) (res1 Tryd.results23 rfl) ?_ (fresh_cat (fresh1 hmb) (ho.fresh))
      -- end 0
      obtain rfl : i = ws.length := by omega
      rw [List.take_of_length_le (by simp)] at ho
      exact ⟨_, _, _, rfl, rfl, ho.rd⟩

/-- given.example/pub-tinwright/pub/smithy/eventstream.NewEncoder -/
theorem newEncoder  : FnA Tryd.prog 13 [] [] (fun w N => ∃ eb b1 b2, w = Pt eb 0 ∧ N = ([(eb, .cells #[Pt b1 0, Pt b2 0] 61 (0, 0))] ++ BB b1 (.slice none 0 0) 0) ++ BB b2 (.slice none 0 0) 0) := by
  refine FnA.enter0 (n := 5) Tryd.func13 rfl rfl fun w0 => ?_
  refine WC.sub (fr' := []) ?_ trivial
  refine WC.seq (WC.region ?_)
  refine WL.q (oq_assign rfl) rfl rfl rfl ?_
  refine WL.nil (WE.then_normal (WC.sub (fr' := []) ?_ trivial))
  refine WC.seq (WC.region ?_)
  refine WL.callA0 (newBuf) call21 rfl rfl rfl fun v1_0 N1_0 hR1_0 hN1_0 => ?_
  obtain ⟨b0, rfl, rfl⟩ := hR1_0
  refine WL.callA0 (newBuf) call21 rfl rfl rfl fun v1_1 N1_1 hR1_1 hN1_1 => ?_
  obtain ⟨b1, rfl, rfl⟩ := hR1_1
  refine WL.q (oq_build #[_, _] str61 ty61 rfl rfl) rfl rfl rfl ?_
  refine WL.box rfl rfl rfl fun eb heb => ?_
  refine WL.q (oq_assign rfl) rfl rfl rfl ?_
  refine WL.nil (WE.then_normal (WC.sub (fr' := [(0, _)]) ?_ ⟨rfl, trivial⟩))
  refine WC.ret ?_
  refine WE.f1 ?_
  refine WE.f2 ?_
  refine WE.f2 ?_
  refine WE.cat ?_
  refine WE.cat ?_
  refine WE.endA0 (.inl rfl) (res1 Tryd.results13 rfl) ?_ (fresh_cat (fresh_cat (fresh1 heb) (hN1_0)) (hN1_1))
  -- end 0
  exact ⟨_, _, _, rfl, rfl⟩

end EK
end Go.Proofs.YtodlhaghdplclaaDoor
