/- Writers. -/
import Derived.Test.YtodlhaghdplclaaDoorEC
namespace Go.Proofs.YtodlhaghdplclaaDoor
open Go Go.RowKit V EA EB EC
set_option linter.unusedSimpArgs false
set_option linter.unusedVariables false
set_option maxRecDepth 10000
namespace ED
theorem call22 : Callable Tryd.prog 22 := ⟨_, Tryd.func22, rfl, by kernel_rfl⟩
theorem call24 : Callable Tryd.prog 24 := ⟨_, Tryd.func24, rfl, by kernel_rfl⟩
theorem call33 : Callable Tryd.prog 33 := ⟨_, Tryd.func33, rfl, by kernel_rfl⟩
theorem flat3 : Flat Tryd.prog 3 := ⟨_, Tryd.underlying3, by simp⟩
theorem flat23 : Flat Tryd.prog 23 := ⟨_, Tryd.underlying23, by simp⟩
theorem flat63 : Flat Tryd.prog 63 := ⟨_, Tryd.underlying63, by simp⟩
theorem flat89 : Flat Tryd.prog 89 := ⟨_, Tryd.underlying89, by simp⟩
theorem ty3 : Ty Tryd.prog 3 (.int .i64 0) 1 8 := ty_of (by kernel_rfl)
theorem ty5 : Ty Tryd.prog 5 (.int .u8 0) 1 1 := ty_of (by kernel_rfl)
theorem ty23 : Ty Tryd.prog 23 (.slice none 0 0) 1 24 := ty_of (by kernel_rfl)
theorem ty37 : Ty Tryd.prog 37 (.int .i8 0) 1 1 := ty_of (by kernel_rfl)
theorem ty39 : Ty Tryd.prog 39 (.agg #[(.slice none 0 0), (.int .i64 0), (.int .i8 0)]) 3 40 := ty_of (by kernel_rfl)
theorem ty63 : Ty Tryd.prog 63 .nilIface 1 16 := ty_of (by kernel_rfl)
theorem ty89 : Ty Tryd.prog 89 (.slice none 0 0) 1 24 := ty_of (by kernel_rfl)
theorem str39 : Str Tryd.prog 39 #[(0, 1), (1, 1), (2, 1)] := ⟨_, Tryd.underlying39, fun w => by kernel_rfl⟩
theorem fld39_0 : Fld Tryd.prog 39 0 0 23 := fld_of Tryd.underlying39 rfl rfl rfl ty23 (by decide)
theorem fld39_1 : Fld Tryd.prog 39 1 1 3 := fld_of Tryd.underlying39 rfl rfl rfl ty3 (by decide)
theorem fld39_2 : Fld Tryd.prog 39 2 2 37 := fld_of Tryd.underlying39 rfl rfl rfl ty37 (by decide)
theorem fld93_0 : Fld Tryd.prog 93 0 0 89 := fld_of Tryd.underlying93 rfl rfl rfl ty89 (by decide)

/-- a writer: what lies in its group when it has taken 'acc', and how Write goes -/
structure Wr (base : Nat) (k : TypeId) (r : Value) (f : FuncId) (Wt : List UInt8 → Hp → Prop) : Prop where
  inv : Inv1 Tryd.prog k "Write" f
  nok : NilOk Tryd.prog k r "Write"
  run : ∀ (acc : List UInt8) (G : Hp) (s : Value) (C : Hp) (data : List UInt8), Wt acc G → RdS 1 s C data.length (bytesV data) → acc.length + data.length ≤ 400000 → 0 < acc.length + data.length →
    FnW Tryd.prog f [r, s] base [G, C] (fun w Hs => ∃ G', w = .tuple #[I (data.length : Int), .nilIface] ∧ Hs = [G', C] ∧ Wt (acc ++ data) G')
/-- the group of a buffer -/
def BufG (base bb : Nat) (acc : List UInt8) (G : Hp) : Prop := ∃ v lr A, G = BB bb v lr ++ A ∧ Buf base v A acc
theorem invBW : Inv1 Tryd.prog 45 "Write" 54 := fun x a w => by kernel_rfl
theorem invBT : Inv1 Tryd.prog 45 "WriteTo" 55 := fun x a w => by kernel_rfl
theorem invCW : Inv1 Tryd.prog 64 "Write" 63 := fun x a w => by kernel_rfl
theorem invMW : Inv1 Tryd.prog 90 "Write" 65 := fun x a w => by kernel_rfl
theorem nokBW (p : Addr) : NilOk Tryd.prog 45 (.pointer (some p)) "Write" := fun w => by kernel_rfl
theorem nokMW (p : Addr) : NilOk Tryd.prog 90 (.pointer (some p)) "Write" := fun w => by kernel_rfl
theorem askBT : AskYes Tryd.prog 45 118 := fun x u w => by kernel_rfl
theorem bufWr (base bb : Nat) : Wr base 45 (Pt bb 0) 54 (BufG base bb) := by
  refine ⟨invBW, nokBW _, ?_⟩
  rintro acc G s C data ⟨v, lr, A, rfl, hb⟩ hr hl h0 w0 R0 w hbase hw
  refine (bufWrite base bb lr v A acc data hb s C hr (by omega) h0 w0 R0 w hbase (by simpa using hw)).mono ?_
  rintro e w' ⟨u, Hs, he, ⟨v2, A2, rfl, rfl, hb2⟩, hst⟩
  exact ⟨_, [BB bb v2 0 ++ A2, C], he, ⟨_, rfl, rfl, v2, 0, A2, rfl, hb2⟩, by simpa using hst⟩
/-- a writer of many writers: one step after another -/
def MwStep (base : Nat) (ws : List Value) (s : Value) (C : Hp) (n : Nat) (St2 : Nat → Hp → Prop) : Prop :=
  ∀ i, i < ws.length → ∃ k r f, ws[((i : Nat) : Int).toNat]? = some (.iface k r) ∧ Inv1 Tryd.prog k "Write" f ∧ ∀ G, St2 i G → FnW Tryd.prog f [r, s] base [G, C] (fun w Hs => ∃ G', w = .tuple #[I (n : Int), .nilIface] ∧ Hs = [G', C] ∧ St2 (i + 1) G')
/-- (*io.multiWriter).Write -/
theorem mwWrite (base mb : Nat) (v : Value) (Ws : Hp) (ws : List Value) (hrw : RdS 1 v Ws ws.length ws) (hn : ws.length ≤ 1000) (s : Value) (C : Hp) (l : List UInt8) (hr : RdS 1 s C l.length (bytesV l)) (hl : l.length ≤ 1000000) (St2 : Nat → Hp → Prop) (hstep : MwStep base ws s C l.length St2) (G : Hp) (hG : St2 0 G) : FnW Tryd.prog 65 [Pt mb 0, s] base [[(mb, .cells #[v] 93 (0, 0))], Ws, G, C] (fun w Hs => ∃ G2, w = .tuple #[I (l.length : Int), .nilIface] ∧ Hs = [[(mb, .cells #[v] 93 (0, 0))], Ws, G2, C] ∧ St2 ws.length G2) := by
  refine FnW.enter (n := 33) Tryd.func65 rfl rfl fun w0 R0 hbase => ?_
  subst hbase
  show WC _ _ _ _ _ _ _ ([[(mb, .cells #[v] 93 (0, 0))], Ws, G, C, R0])
  refine WC.sub (fr' := [(0, _), (1, _)]) ?_ ⟨rfl, rfl, trivial⟩
  refine WC.seq (WC.region ?_)
  refine WL.q (oq_assign rfl) rfl rfl rfl ?_
  refine WL.q (oq_assign rfl) rfl rfl rfl ?_
  refine WL.nil (WE.then_normal (WC.sub (fr' := [(0, _), (1, _)]) ?_ ⟨rfl, rfl, trivial⟩))
  refine WC.seq (WC.seq (WC.region ?_))
  refine WL.q (oq_move rfl) rfl rfl rfl ?_
  refine WL.q (oq_nilCheck rfl) rfl rfl rfl ?_
  refine WL.q (oq_fieldAddr fld93_0 rfl) rfl rfl rfl ?_
  refine WL.q (oq_load flat89 rfl (.head _) (List.mem_singleton.2 rfl) rfl) rfl rfl rfl ?_
  refine WL.q (oq_len_rd hrw Tryd.underlying89 rfl) rfl rfl rfl ?_
  refine WL.q (oq_move rfl) rfl rfl rfl ?_
  refine WL.nil (WE.then_normal (WC.sub (fr' := [(1, _), (11, _), (12, _), (13, _)]) ?_ ⟨rfl, rfl, rfl, rfl, trivial⟩))
  refine WC.block ?_
  refine WC.loop (ι := Nat × Hp) (fun i_ => (fun (i : Nat) (X : Hp) => [(1, s), (11, v), (12, I (ws.length : Int)), (13, I (i : Int))]) i_.1 i_.2) (fun i_ => (fun (i : Nat) (X : Hp) => [[(mb, .cells #[v] 93 (0, 0))], Ws, X, C, R0]) i_.1 i_.2) (fun i_ => (fun (i : Nat) (X : Hp) => i ≤ ws.length ∧ St2 i X) i_.1 i_.2) (fun i_ => (fun (i : Nat) (X : Hp) => ws.length - i) i_.1 i_.2) ((0, G)) ?_ ⟨rfl, rfl, rfl, rfl, trivial⟩ (List.Perm.refl _) ?_
  · try dsimp only
    exact ⟨by omega, hG⟩
  · rintro ⟨i, X⟩ hp
    try dsimp only at hp
    obtain ⟨hi, hX⟩ := hp
    show WC _ _ _ _ _ _ ([(1, s), (11, v), (12, I (ws.length : Int)), (13, I (i : Int))]) ([[(mb, .cells #[v] 93 (0, 0))], Ws, X, C, R0])
    refine WC.seq (WC.region ?_)
    refine WL.q (oq_lss rfl rfl) rfl rfl rfl ?_
    refine WL.nil (WE.then_normal (WC.sub (fr' := [(1, _), (11, _), (12, _), (13, _), (14, _)]) ?_ ⟨rfl, rfl, rfl, rfl, rfl, trivial⟩))
    refine WC.seq ?_
    refine WC.cond rfl (fun q2 => ?_) (fun q2 => ?_)
    ·
      try simp only [Z1, Z2, Z3, Z4, Z5, Z6, Z7, Z8, Z9, Z0] at q2
      refine WC.skip (WE.then_normal (WC.sub (fr' := [(1, _), (11, _), (12, _), (13, _)]) ?_ ⟨rfl, rfl, rfl, rfl, trivial⟩))
      refine WC.seq (WC.block (WC.seq ?_))
      obtain ⟨k, r, f, hwi, hinv, hrun⟩ := hstep i (by omega)
      refine WC.region ?_
      refine WL.q (oq_ixaddr hrw Tryd.underlying89 ty63 rfl rfl (by (first | omega | (simp only [List.length_cons, List.length_nil, List.length_append, List.length_drop, List.length_take]; omega)))) rfl rfl rfl ?_
      refine WL.q (oq_load_el hrw (by repeat (first | exact .head _ | apply List.Mem.tail)) flat63 rfl (by omega) hwi) rfl rfl rfl ?_
      refine WL.q (oq_assign rfl) rfl rfl rfl ?_
      refine WL.nil (WE.then_normal (WC.sub (fr' := [(1, _), (7, _), (11, _), (12, _), (13, _)]) ?_ ⟨rfl, rfl, rfl, rfl, rfl, trivial⟩))
      refine WC.seq (WC.region ?_)
      refine WL.q (oq_move rfl) rfl rfl rfl ?_
      refine WL.q (oq_move rfl) rfl rfl rfl ?_
      refine WL.f3 ?_
      refine WL.f3 ?_
      refine WL.callWE (fun a w hf => ent_inv1 hinv rfl rfl hf w) (hrun X hX) rfl rfl rfl rfl fun v4_2 Hs4_2 hR4_2 => ?_
      obtain ⟨X2, rfl, rfl, hX2⟩ := hR4_2
      refine WL.app2 ?_
      refine WL.q (oq_move rfl) rfl rfl rfl ?_
      refine WL.q (oq_extract rfl rfl) rfl rfl rfl ?_
      refine WL.q (oq_extract rfl rfl) rfl rfl rfl ?_
      refine WL.q (oq_assign rfl) rfl rfl rfl ?_
      refine WL.q (oq_assign rfl) rfl rfl rfl ?_
      refine WL.nil (WE.then_normal (WC.sub (fr' := [(1, _), (4, _), (5, _), (11, _), (12, _), (13, _)]) ?_ ⟨rfl, rfl, rfl, rfl, rfl, rfl, trivial⟩))
      refine WC.seq (WC.seq (WC.region ?_))
      refine WL.q (oq_move rfl) rfl rfl rfl ?_
      refine WL.q (oq_ineq Tryd.underlying41 rfl (.inl rfl)) rfl rfl rfl ?_
      refine WL.nil (WE.then_normal (WC.sub (fr' := [(1, _), (4, _), (5, _), (11, _), (12, _), (13, _), (24, _)]) ?_ ⟨rfl, rfl, rfl, rfl, rfl, rfl, rfl, trivial⟩))
      refine WC.cond rfl (fun q5 => ?_) (fun q5 => ?_)
      ·
        try simp only [Z1, Z2, Z3, Z4, Z5, Z6, Z7, Z8, Z9, Z0] at q5
        first | contradiction | (exfalso; omega) | (exfalso; simp_all; done)
      ·
        try simp only [Z1, Z2, Z3, Z4, Z5, Z6, Z7, Z8, Z9, Z0] at q5
        refine WC.skip (WE.then_normal (WC.sub (fr' := [(1, _), (4, _), (11, _), (12, _), (13, _)]) ?_ ⟨rfl, rfl, rfl, rfl, rfl, trivial⟩))
        refine WC.seq (WC.region ?_)
        refine WL.q (oq_move rfl) rfl rfl rfl ?_
        refine WL.q (oq_move rfl) rfl rfl rfl ?_
        refine WL.q (oq_len_rd hr Tryd.underlying23 rfl) rfl rfl rfl ?_
        refine WL.q (oq_neq rfl rfl) rfl rfl rfl ?_
        refine WL.nil (WE.then_normal (WC.sub (fr' := [(1, _), (4, _), (11, _), (12, _), (13, _), (28, _)]) ?_ ⟨rfl, rfl, rfl, rfl, rfl, rfl, trivial⟩))
        refine WC.cond rfl (fun q6 => ?_) (fun q6 => ?_)
        ·
          try simp only [Z1, Z2, Z3, Z4, Z5, Z6, Z7, Z8, Z9, Z0] at q6
          first | contradiction | (exfalso; omega) | (exfalso; simp_all; done)
        ·
          try simp only [Z1, Z2, Z3, Z4, Z5, Z6, Z7, Z8, Z9, Z0] at q6
          refine WC.skip (WE.block_normal (WE.then_normal (WC.sub (fr' := [(1, _), (11, _), (12, _), (13, _)]) ?_ ⟨rfl, rfl, rfl, rfl, trivial⟩)))
          refine WC.region ?_
          refine WL.q (oq_add rfl rfl (by rw [i64_lo, i64_hi]; (first | omega | (simp only [List.length_cons, List.length_nil, List.length_append, List.length_drop, List.length_take]; omega)))) rfl rfl rfl ?_
          refine WL.q (oq_move rfl) rfl rfl rfl ?_
          refine WL.nil ?_
          refine WE.f4 ?_
          refine WE.f2 ?_
          refine WE.f2 ?_
          refine WE.f4 ?_
          refine WE.f4 ?_
          refine WE.again (i + 1, X2) ?_ ?_ ⟨rfl, rfl, rfl, rfl, trivial⟩ (List.Perm.refl _)
          · try dsimp only   -- again 0
            exact ⟨by omega, hX2⟩
          · (try dsimp only); omega
    ·
      try simp only [Z1, Z2, Z3, Z4, Z5, Z6, Z7, Z8, Z9, Z0] at q2
      refine WC.exit (WE.then_exit (WE.then_exit (WE.block_same (WE.then_normal (WC.sub (fr' := [(1, _)]) ?_ ⟨rfl, trivial⟩)))))
      refine WC.seq ?_
      obtain rfl : i = ws.length := by omega
      refine WC.region ?_
      refine WL.q (oq_move rfl) rfl rfl rfl ?_
      refine WL.q (oq_len_rd hr Tryd.underlying23 rfl) rfl rfl rfl ?_
      refine WL.q (oq_assign rfl) rfl rfl rfl ?_
      refine WL.q (oq_assign rfl) rfl rfl rfl ?_
      refine WL.nil (WE.then_normal (WC.sub (fr' := [(4, _), (5, _)]) ?_ ⟨rfl, rfl, trivial⟩))
      refine WC.ret ?_
      refine WE.endW4 (.inl rfl) (res2 Tryd.results65 rfl rfl) ?_
      -- end 0
      exact ⟨_, rfl, rfl, hX⟩

/-- (*bytes.Buffer).WriteTo -/
theorem writeTo (base : Nat) (k : TypeId) (r : Value) (f : FuncId) (Wt : List UInt8 → Hp → Prop) (hW : Wr base k r f Wt) (acc0 : List UInt8) (G : Hp) (hG : Wt acc0 G) (bb B cap : Nat) (lr : Int) (L acc : List UInt8) (hB : base ≤ B) (hLc : L.length = cap) (hac : acc.length ≤ cap) (hc0 : 0 < cap) (hmx : cap ≤ maxLen) (hLt : L.take acc.length = acc) (ha0 : 0 < acc.length) (hal : acc0.length + acc.length ≤ 400000) : FnW Tryd.prog 55 [Pt bb 0, .iface k r] base [[(bb, .cells #[Sl B 0 acc.length cap, I 0, .int .i8 lr] 39 (0, 0))], Bf B 5 L, G] (fun w Hs => ∃ G2, w = .tuple #[I (acc.length : Int), .nilIface] ∧ Hs = [[(bb, .cells #[Sl B 0 0 cap, I 0, .int .i8 0] 39 (0, 0))], Bf B 5 L, G2] ∧ Wt (acc0 ++ acc) G2) := by
  have hmz : maxLen ≤ 9223372036854775807 := by unfold maxLen; omega
  have hrd : RdS 1 (Sl B 0 acc.length cap) (Bf B 5 L) acc.length (bytesV acc) := by have := Sl.rd (b := B) (off := 0) (n := acc.length) (c := cap) (e := 5) (l := L) (by omega) hac; rw [List.drop_zero, hLt] at this; exact this
  refine FnW.enter (n := 58) Tryd.func55 rfl rfl fun w0 R0 hbase => ?_
  subst hbase
  show WC _ _ _ _ _ _ _ ([[(bb, .cells #[Sl B 0 acc.length cap, I 0, .int .i8 lr] 39 (0, 0))], Bf B 5 L, G, R0])
  refine WC.sub (fr' := [(0, _), (1, _)]) ?_ ⟨rfl, rfl, trivial⟩
  refine WC.seq (WC.region ?_)
  refine WL.q (oq_assign rfl) rfl rfl rfl ?_
  refine WL.q (oq_assign rfl) rfl rfl rfl ?_
  refine WL.nil (WE.then_normal (WC.sub (fr' := [(0, _), (1, _), (4, _)]) ?_ ⟨rfl, rfl, rfl, trivial⟩))
  refine WC.seq (WC.region ?_)
  refine WL.q (oq_move rfl) rfl rfl rfl ?_
  refine WL.q (oq_nilCheck rfl) rfl rfl rfl ?_
  refine WL.q (oq_fieldAddr fld39_2 rfl) rfl rfl rfl ?_
  refine WL.store1 #[_, _, _] ty37 rfl rfl (by first | rfl | exact OwS.one one_) (Nat.lt_of_lt_of_le (Nat.lt_succ_self _) (Nat.le_of_ble_eq_true rfl)) rfl rfl ?_
  refine WL.nil (WE.then_normal (WC.sub (fr' := [(0, _), (1, _), (4, _)]) ?_ ⟨rfl, rfl, rfl, trivial⟩))
  refine WC.seq (WC.seq (WC.region ?_))
  refine WL.q (oq_move rfl) rfl rfl rfl ?_
  refine WL.qc (oq_callRm (bufLen bb acc.length cap (some ⟨B, 0, none⟩) 0 (by omega)) (.head _) call24 rfl) rfl rfl rfl ?_
  refine WL.q (oq_assign rfl) rfl rfl rfl ?_
  refine WL.nil (WE.then_normal (WC.sub (fr' := [(0, _), (1, _), (4, _), (6, _)]) ?_ ⟨rfl, rfl, rfl, rfl, trivial⟩))
  refine WC.seq (WC.region ?_)
  refine WL.q (oq_move rfl) rfl rfl rfl ?_
  refine WL.q (oq_gtr rfl rfl) rfl rfl rfl ?_
  refine WL.nil (WE.then_normal (WC.sub (fr' := [(0, _), (1, _), (4, _), (6, _), (15, _)]) ?_ ⟨rfl, rfl, rfl, rfl, rfl, trivial⟩))
  refine WC.cond rfl (fun q3 => ?_) (fun q3 => ?_)
  ·
    try simp only [Z1, Z2, Z3, Z4, Z5, Z6, Z7, Z8, Z9, Z0] at q3
    refine WC.seq ?_
    refine WC.tailM (pl := []) (ql := [_, _, _, _, _, _, _, _, _, _, _, _, _]) (tl := [_, _, _, _, _, _]) [] [0, 1, 2, 3, 4, 5, 6, 7, 8, 9, 10, 11, 12] 13 [14, 15, 16, 17, 18] (by kernel_rfl) (by kernel_rfl) (by kernel_rfl) (by kernel_rfl) (by kernel_rfl) (by kernel_rfl) (by decide) rfl rfl rfl (by decide) (by repeat (first | with_reducible exact QOk.body | with_reducible apply QOk.then | with_reducible apply QOk.block | exact QOk.body | apply QOk.then | apply QOk.block)) ?_
    refine WM.nil ?_
    refine WY.q (oq_move rfl) rfl rfl rfl ?_
    refine WY.q (oq_move rfl) rfl rfl rfl ?_
    refine WY.q (oq_nilCheck rfl) rfl rfl rfl ?_
    refine WY.q (oq_fieldAddr fld39_0 rfl) rfl rfl rfl ?_
    refine WY.q (oq_load flat23 rfl (.head _) (List.mem_singleton.2 rfl) rfl) rfl rfl rfl ?_
    refine WY.q (oq_move rfl) rfl rfl rfl ?_
    refine WY.q (oq_nilCheck rfl) rfl rfl rfl ?_
    refine WY.q (oq_fieldAddr fld39_1 rfl) rfl rfl rfl ?_
    refine WY.q (oq_load flat3 rfl (.head _) (List.mem_singleton.2 rfl) rfl) rfl rfl rfl ?_
    refine WY.q (oq_sliceSl (i := 0) Tryd.underlying23 ty5 rfl (by omega) ⟨_, rfl⟩ rfl (by omega) (by omega)) rfl rfl rfl ?_
    refine WY.q (oq_makeMeth rfl) rfl rfl rfl ?_
    refine WY.q (oq_nilMeth rfl (hW.nok)) rfl rfl rfl ?_
    refine WY.q (oq_move rfl) rfl rfl rfl ?_
    refine WY.nil ?_
    refine WL.f1 ?_
    refine WL.f2 ?_
    refine WL.callWE (fun a w hf => ent_inv1 hW.inv rfl rfl hf w) (hW.run acc0 G _ (Bf B 5 L) acc hG hrd hal (by omega)) rfl rfl rfl rfl fun v4_13 Hs4_13 hR4_13 => ?_
    obtain ⟨G2, rfl, rfl, hG2⟩ := hR4_13
    refine WL.app2 ?_
    refine WL.q (oq_move rfl) rfl rfl rfl ?_
    refine WL.q (oq_extract rfl rfl) rfl rfl rfl ?_
    refine WL.q (oq_extract rfl rfl) rfl rfl rfl ?_
    refine WL.q (oq_assign rfl) rfl rfl rfl ?_
    refine WL.q (oq_assign rfl) rfl rfl rfl ?_
    refine WL.nil (WE.then_normal (WC.sub (fr' := [(0, _), (6, _), (7, _), (8, _)]) ?_ ⟨rfl, rfl, rfl, rfl, trivial⟩))
    refine WC.seq (WC.seq (WC.region ?_))
    refine WL.q (oq_move rfl) rfl rfl rfl ?_
    refine WL.q (oq_move rfl) rfl rfl rfl ?_
    refine WL.q (oq_gtr rfl rfl) rfl rfl rfl ?_
    refine WL.nil (WE.then_normal (WC.sub (fr' := [(0, _), (6, _), (7, _), (8, _), (35, _)]) ?_ ⟨rfl, rfl, rfl, rfl, rfl, trivial⟩))
    refine WC.cond rfl (fun q5 => ?_) (fun q5 => ?_)
    ·
      try simp only [Z1, Z2, Z3, Z4, Z5, Z6, Z7, Z8, Z9, Z0] at q5
      first | contradiction | (exfalso; omega) | (exfalso; simp_all; done)
    ·
      try simp only [Z1, Z2, Z3, Z4, Z5, Z6, Z7, Z8, Z9, Z0] at q5
      refine WC.skip (WE.then_normal (WC.sub (fr' := [(0, _), (6, _), (7, _), (8, _)]) ?_ ⟨rfl, rfl, rfl, rfl, trivial⟩))
      refine WC.seq (WC.region ?_)
      refine WL.q (oq_move rfl) rfl rfl rfl ?_
      refine WL.q (oq_nilCheck rfl) rfl rfl rfl ?_
      refine WL.q (oq_fieldAddr fld39_1 rfl) rfl rfl rfl ?_
      refine WL.q (oq_load flat3 rfl (.tail _ (.tail _ (.head _))) (List.mem_singleton.2 rfl) rfl) rfl rfl rfl ?_
      refine WL.q (oq_move rfl) rfl rfl rfl ?_
      refine WL.q (oq_add rfl rfl (by rw [i64_lo, i64_hi]; (first | omega | (simp only [List.length_cons, List.length_nil, List.length_append, List.length_drop, List.length_take]; omega)))) rfl rfl rfl ?_
      refine WL.q (oq_nilCheck rfl) rfl rfl rfl ?_
      refine WL.q (oq_fieldAddr fld39_1 rfl) rfl rfl rfl ?_
      refine WL.f2 ?_
      refine WL.store1 #[_, _, _] ty3 rfl rfl (by first | rfl | exact OwS.one one_) (Nat.lt_of_lt_of_le (Nat.lt_succ_self _) (Nat.le_of_ble_eq_true rfl)) rfl rfl ?_
      refine WL.nil (WE.then_normal (WC.sub (fr' := [(0, _), (6, _), (7, _), (8, _)]) ?_ ⟨rfl, rfl, rfl, rfl, trivial⟩))
      refine WC.seq (WC.region ?_)
      refine WL.q (oq_move rfl) rfl rfl rfl ?_
      refine WL.q (oq_assign rfl) rfl rfl rfl ?_
      refine WL.nil (WE.then_normal (WC.sub (fr' := [(0, _), (4, _), (6, _), (7, _), (8, _)]) ?_ ⟨rfl, rfl, rfl, rfl, rfl, trivial⟩))
      refine WC.seq (WC.seq (WC.region ?_))
      refine WL.q (oq_move rfl) rfl rfl rfl ?_
      refine WL.q (oq_ineq Tryd.underlying41 rfl (.inl rfl)) rfl rfl rfl ?_
      refine WL.nil (WE.then_normal (WC.sub (fr' := [(0, _), (4, _), (6, _), (7, _), (8, _), (47, _)]) ?_ ⟨rfl, rfl, rfl, rfl, rfl, rfl, trivial⟩))
      refine WC.cond rfl (fun q9 => ?_) (fun q9 => ?_)
      ·
        try simp only [Z1, Z2, Z3, Z4, Z5, Z6, Z7, Z8, Z9, Z0] at q9
        first | contradiction | (exfalso; omega) | (exfalso; simp_all; done)
      ·
        try simp only [Z1, Z2, Z3, Z4, Z5, Z6, Z7, Z8, Z9, Z0] at q9
        refine WC.skip (WE.then_normal (WC.sub (fr' := [(0, _), (4, _), (6, _), (7, _)]) ?_ ⟨rfl, rfl, rfl, rfl, trivial⟩))
        refine WC.seq (WC.region ?_)
        refine WL.q (oq_move rfl) rfl rfl rfl ?_
        refine WL.q (oq_move rfl) rfl rfl rfl ?_
        refine WL.q (oq_neq rfl rfl) rfl rfl rfl ?_
        refine WL.nil (WE.then_normal (WC.sub (fr' := [(0, _), (4, _), (52, _)]) ?_ ⟨rfl, rfl, rfl, trivial⟩))
        refine WC.cond rfl (fun q11 => ?_) (fun q11 => ?_)
        ·
          try simp only [Z1, Z2, Z3, Z4, Z5, Z6, Z7, Z8, Z9, Z0] at q11
          first | contradiction | (exfalso; omega) | (exfalso; simp_all; done)
        ·
          try simp only [Z1, Z2, Z3, Z4, Z5, Z6, Z7, Z8, Z9, Z0] at q11
          refine WC.skip (WE.then_normal (WC.sub (fr' := [(0, _), (4, _)]) ?_ ⟨rfl, rfl, trivial⟩))
          refine WC.seq (WC.region ?_)
          refine WL.q (oq_move rfl) rfl rfl rfl ?_
          refine WL.callW1 (reset1 _ bb 0 _ B acc.length cap hac hc0) call22 rfl rfl rfl fun v13_1 Hs13_1 hR13_1 => ?_
          obtain ⟨rfl, rfl⟩ := hR13_1
          refine WL.to1 ?_
          refine WL.nil (WE.then_normal (WC.sub (fr' := [(4, _)]) ?_ ⟨rfl, trivial⟩))
          refine WC.seq (WC.region ?_)
          refine WL.q (oq_move rfl) rfl rfl rfl ?_
          refine WL.q (oq_assign rfl) rfl rfl rfl ?_
          refine WL.q (oq_assign rfl) rfl rfl rfl ?_
          refine WL.nil (WE.then_normal (WC.sub (fr' := [(4, _), (5, _)]) ?_ ⟨rfl, rfl, trivial⟩))
          refine WC.ret ?_
          refine WE.f3 ?_
          refine WE.f2 ?_
          refine WE.f3 ?_
          refine WE.f3 ?_
          refine WE.endW3 (.inl rfl) (res2 Tryd.results55 rfl rfl) ?_
          -- end 0
          exact ⟨_, rfl, rfl, hG2⟩
  ·
    try simp only [Z1, Z2, Z3, Z4, Z5, Z6, Z7, Z8, Z9, Z0] at q3
    first | contradiction | (exfalso; omega) | (exfalso; simp_all; done)

/-- io.copyBuffer -/
theorem copyBuf (base : Nat) (k : TypeId) (r : Value) (f : FuncId) (Wt : List UInt8 → Hp → Prop) (hW : Wr base k r f Wt) (acc0 : List UInt8) (G : Hp) (hG : Wt acc0 G) (bb B cap : Nat) (lr : Int) (L acc : List UInt8) (hB : base ≤ B) (hLc : L.length = cap) (hac : acc.length ≤ cap) (hc0 : 0 < cap) (hmx : cap ≤ maxLen) (hLt : L.take acc.length = acc) (ha0 : 0 < acc.length) (hal : acc0.length + acc.length ≤ 400000) : FnW Tryd.prog 33 [.iface k r, .iface 45 (Pt bb 0), .slice none 0 0] base [[(bb, .cells #[Sl B 0 acc.length cap, I 0, .int .i8 lr] 39 (0, 0))], Bf B 5 L, G] (fun w Hs => ∃ G2, w = .tuple #[I (acc.length : Int), .nilIface] ∧ Hs = [[(bb, .cells #[Sl B 0 0 cap, I 0, .int .i8 0] 39 (0, 0))], Bf B 5 L, G2] ∧ Wt (acc0 ++ acc) G2) := by
  refine FnW.enter (n := 115) Tryd.func33 rfl rfl fun w0 R0 hbase => ?_
  subst hbase
  show WC _ _ _ _ _ _ _ ([[(bb, .cells #[Sl B 0 acc.length cap, I 0, .int .i8 lr] 39 (0, 0))], Bf B 5 L, G, R0])
  refine WC.sub (fr' := [(0, _), (1, _), (2, _)]) ?_ ⟨rfl, rfl, rfl, trivial⟩
  refine WC.seq (WC.region ?_)
  refine WL.q (oq_assign rfl) rfl rfl rfl ?_
  refine WL.q (oq_assign rfl) rfl rfl rfl ?_
  refine WL.nil (WE.then_normal (WC.sub (fr' := [(0, _), (1, _), (2, _), (6, _), (7, _)]) ?_ ⟨rfl, rfl, rfl, rfl, rfl, trivial⟩))
  refine WC.seq (WC.seq (WC.region ?_))
  refine WL.q (oq_move rfl) rfl rfl rfl ?_
  refine WL.q (oq_askYes askBT rfl) rfl rfl rfl ?_
  refine WL.q (oq_move rfl) rfl rfl rfl ?_
  refine WL.q (oq_extract rfl rfl) rfl rfl rfl ?_
  refine WL.q (oq_extract rfl rfl) rfl rfl rfl ?_
  refine WL.q (oq_assign rfl) rfl rfl rfl ?_
  refine WL.q (oq_assign rfl) rfl rfl rfl ?_
  refine WL.nil (WE.then_normal (WC.sub (fr' := [(0, _), (1, _), (2, _), (6, _), (7, _), (8, _), (9, _)]) ?_ ⟨rfl, rfl, rfl, rfl, rfl, rfl, rfl, trivial⟩))
  refine WC.seq (WC.region ?_)
  refine WL.q (oq_move rfl) rfl rfl rfl ?_
  refine WL.nil (WE.then_normal (WC.sub (fr' := [(0, _), (1, _), (2, _), (6, _), (7, _), (8, _), (24, _)]) ?_ ⟨rfl, rfl, rfl, rfl, rfl, rfl, rfl, trivial⟩))
  refine WC.cond rfl (fun q2 => ?_) (fun q2 => ?_)
  ·
    try simp only [Z1, Z2, Z3, Z4, Z5, Z6, Z7, Z8, Z9, Z0] at q2
    refine WC.seq (WC.region ?_)
    refine WL.q (oq_move rfl) rfl rfl rfl ?_
    refine WL.q (oq_move rfl) rfl rfl rfl ?_
    refine WL.f2 ?_
    refine WL.f2 ?_
    refine WL.f2 ?_
    refine WL.callWE (fun a w hf => ent_inv1 invBT rfl rfl hf w) (writeTo _ k r f Wt hW acc0 G hG bb B cap lr L acc hB hLc hac hc0 hmx hLt ha0 hal) rfl rfl rfl rfl fun v3_2 Hs3_2 hR3_2 => ?_
    obtain ⟨G2, rfl, rfl, hG2⟩ := hR3_2
    refine WL.app3 ?_
    refine WL.q (oq_extract rfl rfl) rfl rfl rfl ?_
    refine WL.q (oq_extract rfl rfl) rfl rfl rfl ?_
    refine WL.q (oq_assign rfl) rfl rfl rfl ?_
    refine WL.q (oq_assign rfl) rfl rfl rfl ?_
    refine WL.nil (WE.then_normal (WC.sub (fr' := [(6, _), (7, _)]) ?_ ⟨rfl, rfl, trivial⟩))
    refine WC.ret (WE.then_ret ?_)
    refine WE.endW3 (.inl rfl) (res2 Tryd.results33 rfl rfl) ?_
    -- end 0
    exact ⟨_, rfl, rfl, hG2⟩
  ·
    try simp only [Z1, Z2, Z3, Z4, Z5, Z6, Z7, Z8, Z9, Z0] at q2
    first | contradiction | (exfalso; omega) | (exfalso; simp_all; done)

/-- io.Copy -/
theorem copy_ (base : Nat) (k : TypeId) (r : Value) (f : FuncId) (Wt : List UInt8 → Hp → Prop) (hW : Wr base k r f Wt) (acc0 : List UInt8) (G : Hp) (hG : Wt acc0 G) (bb B cap : Nat) (lr : Int) (L acc : List UInt8) (hB : base ≤ B) (hLc : L.length = cap) (hac : acc.length ≤ cap) (hc0 : 0 < cap) (hmx : cap ≤ maxLen) (hLt : L.take acc.length = acc) (ha0 : 0 < acc.length) (hal : acc0.length + acc.length ≤ 400000) : FnW Tryd.prog 26 [.iface k r, .iface 45 (Pt bb 0)] base [[(bb, .cells #[Sl B 0 acc.length cap, I 0, .int .i8 lr] 39 (0, 0))], Bf B 5 L, G] (fun w Hs => ∃ G2, w = .tuple #[I (acc.length : Int), .nilIface] ∧ Hs = [[(bb, .cells #[Sl B 0 0 cap, I 0, .int .i8 0] 39 (0, 0))], Bf B 5 L, G2] ∧ Wt (acc0 ++ acc) G2) := by
  refine FnW.enter (n := 11) Tryd.func26 rfl rfl fun w0 R0 hbase => ?_
  subst hbase
  show WC _ _ _ _ _ _ _ ([[(bb, .cells #[Sl B 0 acc.length cap, I 0, .int .i8 lr] 39 (0, 0))], Bf B 5 L, G, R0])
  refine WC.sub (fr' := [(0, _), (1, _)]) ?_ ⟨rfl, rfl, trivial⟩
  refine WC.seq (WC.region ?_)
  refine WL.q (oq_assign rfl) rfl rfl rfl ?_
  refine WL.q (oq_assign rfl) rfl rfl rfl ?_
  refine WL.nil (WE.then_normal (WC.sub (fr' := [(0, _), (1, _)]) ?_ ⟨rfl, rfl, trivial⟩))
  refine WC.seq (WC.region ?_)
  refine WL.q (oq_move rfl) rfl rfl rfl ?_
  refine WL.q (oq_move rfl) rfl rfl rfl ?_
  refine WL.f2 ?_
  refine WL.f2 ?_
  refine WL.f2 ?_
  refine WL.callW3 (copyBuf _ k r f Wt hW acc0 G hG bb B cap lr L acc hB hLc hac hc0 hmx hLt ha0 hal) call33 rfl rfl rfl fun v1_2 Hs1_2 hR1_2 => ?_
  obtain ⟨G2, rfl, rfl, hG2⟩ := hR1_2
  refine WL.to3 ?_
  refine WL.q (oq_extract rfl rfl) rfl rfl rfl ?_
  refine WL.q (oq_extract rfl rfl) rfl rfl rfl ?_
  refine WL.q (oq_assign rfl) rfl rfl rfl ?_
  refine WL.q (oq_assign rfl) rfl rfl rfl ?_
  refine WL.nil (WE.then_normal (WC.sub (fr' := [(4, _), (5, _)]) ?_ ⟨rfl, rfl, trivial⟩))
  refine WC.ret ?_
  refine WE.endW3 (.inl rfl) (res2 Tryd.results26 rfl rfl) ?_
  -- end 0
  exact ⟨_, rfl, rfl, hG2⟩

/-- (*bytes.Buffer).Bytes -/
theorem bufBytes (bb B len cap : Nat) (lr : Int) (hlc : len ≤ cap) (hc0 : 0 < cap) : FnR Tryd.prog 16 [Pt bb 0] [(bb, .cells #[Sl B 0 len cap, I 0, .int .i8 lr] 39 (0, 0))] (Sl B 0 len cap) := by
  refine FnR.enter (n := 12) Tryd.func16 rfl rfl fun w0 => ?_
  refine WC.sub (fr' := [(0, _)]) ?_ ⟨rfl, trivial⟩
  refine WC.seq (WC.region ?_)
  refine WL.q (oq_assign rfl) rfl rfl rfl ?_
  refine WL.nil (WE.then_normal (WC.sub (fr' := [(0, _)]) ?_ ⟨rfl, trivial⟩))
  refine WC.seq (WC.quiet (by kernel_rfl) (by kernel_rfl) ?_)
  refine WQ.q (oq_move rfl) rfl rfl rfl ?_
  refine WQ.q (oq_nilCheck rfl) rfl rfl rfl ?_
  refine WQ.q (oq_fieldAddr fld39_0 rfl) rfl rfl rfl ?_
  refine WQ.q (oq_load flat23 rfl (.head _) (List.mem_singleton.2 rfl) rfl) rfl rfl rfl ?_
  refine WQ.q (oq_move rfl) rfl rfl rfl ?_
  refine WQ.q (oq_nilCheck rfl) rfl rfl rfl ?_
  refine WQ.q (oq_fieldAddr fld39_1 rfl) rfl rfl rfl ?_
  refine WQ.q (oq_load flat3 rfl (.head _) (List.mem_singleton.2 rfl) rfl) rfl rfl rfl ?_
  refine WQ.q (oq_sliceSl (i := 0) Tryd.underlying23 ty5 rfl (by omega) ⟨_, rfl⟩ rfl (by omega) (by omega)) rfl rfl rfl ?_
  refine WQ.q (oq_assign rfl) rfl rfl rfl ?_
  refine WQ.nil (WE.then_normal (WC.sub (fr' := [(2, _)]) ?_ ⟨rfl, trivial⟩))
  refine WC.ret ?_
  refine WE.endR (.inl rfl) (res1 Tryd.results16 rfl) ?_
  -- end 0
  rfl

/-- (*bytes.Buffer).Bytes -/
theorem bufBytes0 (bb : Nat) (lr : Int) : FnR Tryd.prog 16 [Pt bb 0] [(bb, .cells #[.slice none 0 0, I 0, .int .i8 lr] 39 (0, 0))] (.slice none 0 0) := by
  refine FnR.enter (n := 12) Tryd.func16 rfl rfl fun w0 => ?_
  refine WC.sub (fr' := [(0, _)]) ?_ ⟨rfl, trivial⟩
  refine WC.seq (WC.region ?_)
  refine WL.q (oq_assign rfl) rfl rfl rfl ?_
  refine WL.nil (WE.then_normal (WC.sub (fr' := [(0, _)]) ?_ ⟨rfl, trivial⟩))
  refine WC.seq (WC.quiet (by kernel_rfl) (by kernel_rfl) ?_)
  refine WQ.q (oq_move rfl) rfl rfl rfl ?_
  refine WQ.q (oq_nilCheck rfl) rfl rfl rfl ?_
  refine WQ.q (oq_fieldAddr fld39_0 rfl) rfl rfl rfl ?_
  refine WQ.q (oq_load flat23 rfl (.head _) (List.mem_singleton.2 rfl) rfl) rfl rfl rfl ?_
  refine WQ.q (oq_move rfl) rfl rfl rfl ?_
  refine WQ.q (oq_nilCheck rfl) rfl rfl rfl ?_
  refine WQ.q (oq_fieldAddr fld39_1 rfl) rfl rfl rfl ?_
  refine WQ.q (oq_load flat3 rfl (.head _) (List.mem_singleton.2 rfl) rfl) rfl rfl rfl ?_
  refine WQ.q (oq_sliceNil Tryd.underlying23 ty5 rfl rfl) rfl rfl rfl ?_
  refine WQ.q (oq_assign rfl) rfl rfl rfl ?_
  refine WQ.nil (WE.then_normal (WC.sub (fr' := [(2, _)]) ?_ ⟨rfl, trivial⟩))
  refine WC.ret ?_
  refine WE.endR (.inl rfl) (res1 Tryd.results16 rfl) ?_
  -- end 0
  rfl

/-- bytes.NewBuffer -/
theorem newBuf  : FnA Tryd.prog 21 [.slice none 0 0] [] (fun w N => ∃ bb, w = Pt bb 0 ∧ N = BB bb (.slice none 0 0) 0) := by
  refine FnA.enter0 (n := 6) Tryd.func21 rfl rfl fun w0 => ?_
  refine WC.sub (fr' := [(0, _)]) ?_ ⟨rfl, trivial⟩
  refine WC.seq (WC.region ?_)
  refine WL.q (oq_assign rfl) rfl rfl rfl ?_
  refine WL.nil (WE.then_normal (WC.sub (fr' := [(0, _)]) ?_ ⟨rfl, trivial⟩))
  refine WC.seq (WC.region ?_)
  refine WL.q (oq_move rfl) rfl rfl rfl ?_
  refine WL.q (oq_build #[_, _, _] str39 ty39 rfl rfl) rfl rfl rfl ?_
  refine WL.box rfl rfl rfl fun b1_2 hb1_2 => ?_
  refine WL.q (oq_assign rfl) rfl rfl rfl ?_
  refine WL.nil (WE.then_normal (WC.sub (fr' := [(2, _)]) ?_ ⟨rfl, trivial⟩))
  refine WC.ret ?_
  refine WE.endA0 (.inl rfl) (res1 Tryd.results21 rfl) ?_ (fresh1 hb1_2)
  -- end 0
  exact ⟨_, rfl, rfl⟩

end ED
end Go.Proofs.YtodlhaghdplclaaDoor
