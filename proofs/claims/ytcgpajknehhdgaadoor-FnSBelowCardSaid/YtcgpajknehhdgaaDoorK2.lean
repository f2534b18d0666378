/- Walks of the law on UUIDs. -/
import Derived.Test.YtcgpajknehhdgaaDoorK1
import Derived.Test.YtcgpajknehhdgaaDoorL2
namespace Go.Proofs.YtcgpajknehhdgaaDoor
open Go Go.RowKit V L2 K0 K1
set_option linter.unusedSimpArgs false
set_option linter.unusedVariables false
set_option maxRecDepth 10000
namespace K2
theorem call10 : Callable Tryd.prog 10 := ⟨_, Tryd.func10, rfl, by kernel_rfl⟩
theorem call11 : Callable Tryd.prog 11 := ⟨_, Tryd.func11, rfl, by kernel_rfl⟩
theorem call12 : Callable Tryd.prog 12 := ⟨_, Tryd.func12, rfl, by kernel_rfl⟩
theorem call33 : Callable Tryd.prog 33 := ⟨_, Tryd.func33, rfl, by kernel_rfl⟩
theorem call34 : Callable Tryd.prog 34 := ⟨_, Tryd.func34, rfl, by kernel_rfl⟩
theorem call35 : Callable Tryd.prog 35 := ⟨_, Tryd.func35, rfl, by kernel_rfl⟩
theorem call36 : Callable Tryd.prog 36 := ⟨_, Tryd.func36, rfl, by kernel_rfl⟩
theorem call57 : Callable Tryd.prog 57 := ⟨_, Tryd.func57, rfl, by kernel_rfl⟩
theorem call58 : Callable Tryd.prog 58 := ⟨_, Tryd.func58, rfl, by kernel_rfl⟩
theorem call59 : Callable Tryd.prog 59 := ⟨_, Tryd.func59, rfl, by kernel_rfl⟩
theorem flat5 : Flat Tryd.prog 5 := ⟨_, Tryd.underlying5, by simp⟩
theorem flat79 : Flat Tryd.prog 79 := ⟨_, Tryd.underlying79, by simp⟩
theorem ty5 : Ty Tryd.prog 5 (.int .u8 0) 1 1 := ty_of (by kernel_rfl)
theorem ty79 : Ty Tryd.prog 79 .nilIface 1 16 := ty_of (by kernel_rfl)
theorem ty81 : Ty Tryd.prog 81 (.agg #[.nilIface]) 1 16 := ty_of (by kernel_rfl)
theorem ty83 : Ty Tryd.prog 83 (.agg #[(.slice none 0 0), (.int .i64 0), (.int .i64 0)]) 3 40 := ty_of (by kernel_rfl)
theorem ty84 : Ty Tryd.prog 84 (.agg #[(.int .u8 0), (.int .u8 0), (.int .u8 0), (.int .u8 0), (.int .u8 0), (.int .u8 0), (.int .u8 0), (.int .u8 0), (.int .u8 0), (.int .u8 0), (.int .u8 0), (.int .u8 0), (.int .u8 0), (.int .u8 0), (.int .u8 0), (.int .u8 0)]) 16 16 := ty_of (by kernel_rfl)
theorem conc57 : Conc Tryd.prog 57 := ⟨_, Tryd.underlying57, by simp⟩
theorem agg84 : Agg Tryd.prog 84 := agg_arr Tryd.underlying84
theorem str81 : Str Tryd.prog 81 #[(0, 1)] := ⟨_, Tryd.underlying81, fun w => by kernel_rfl⟩
theorem str83 : Str Tryd.prog 83 #[(0, 1), (1, 1), (2, 1)] := ⟨_, Tryd.underlying83, fun w => by kernel_rfl⟩
theorem fld81_0 : Fld Tryd.prog 81 0 0 79 := fld_of Tryd.underlying81 rfl rfl rfl ty79 (by decide)

theorem v4_len (l : List UInt8) : (v4 l).length = l.length := by simp [v4]
def sdash (i : Nat) : List UInt8 := if i = 4 ∨ i = 6 ∨ i = 8 ∨ i = 10 then [45] else []
def sfp (b : List UInt8) : Nat → List UInt8
  | 0 => []
  | i + 1 => sfp b i ++ sdash i ++ hx2 (b.getD i 0)
theorem sfp_len (b : List UInt8) : ∀ i, (sfp b i).length ≤ 3 * i
  | 0 => by simp [sfp]
  | i + 1 => by
    have := sfp_len b i
    have h2 : (sdash i).length ≤ 1 := by unfold sdash; split <;> simp
    simp [sfp, hx2]; omega
theorem sfp_16 (b : List UInt8) (h : b.length = 16) : sfp b 16 = uform b := by
  obtain ⟨a0, a1, a2, a3, a4, a5, a6, a7, a8, a9, a10, a11, a12, a13, a14, a15, rfl⟩ := len16 b h
  kernel_rfl
theorem cut_dg (k : Int) (h : 0 ≤ k ∧ k < 16) : cut [48, 49, 50, 51, 52, 53, 54, 55, 56, 57, 97, 98, 99, 100, 101, 102] k (k + 1) = [dg k.toNat] := by
  obtain ⟨n, rfl⟩ := Int.eq_ofNat_of_zero_le h.1
  have hn : n < 16 := by omega
  have key : ∀ m : Fin 16, cut ([48, 49, 50, 51, 52, 53, 54, 55, 56, 57, 97, 98, 99, 100, 101, 102] : List UInt8) (m.val : Int) ((m.val : Int) + 1) = [dg ((m.val : Int)).toNat] := by decide
  exact key ⟨n, hn⟩
theorem cut0 (xs : List UInt8) (k : Nat) : cut (bytesV xs) ((0 : Int) * ((1 : Nat) : Int)) ((k : Int) * ((1 : Nat) : Int)) = bytesV (xs.take k) := by
  rw [cut_bytes]; unfold cut
  rw [show ((k : Int) * ((1 : Nat) : Int)).toNat = k by omega]; rfl
theorem cut_le {α : Type} (l : List α) (i j : Int) : (cut l i j).length ≤ l.length := by
  unfold cut; rw [List.length_drop, List.length_take]; omega
def suuid (xs : List UInt8) : List UInt8 := if 16 ≤ xs.length then uform (v4 (xs.take 16)) else []
/-- bytes.NewReader -/
theorem newReader (p : Option Addr) (n c : Nat) : FnA Tryd.prog 34 [.slice p n c] [] (fun v N => ∃ b, v = Pt b 0 ∧ N = [(b, .cells #[.slice p n c, I 0, I (-1)] 83 (0, 0))]) := by
  refine FnA.enter0 (n := 6) Tryd.func34 rfl rfl fun w0 => ?_
  refine WC.sub (fr' := [(0, _)]) ?_ ⟨rfl, trivial⟩
  refine WC.seq ?_
  refine WC.region ?_
  refine WL.q (oq_assign rfl) rfl rfl rfl ?_
  refine WL.nil ?_
  refine WE.then_normal ?_
  refine WC.sub (fr' := [(0, _)]) ?_ ⟨rfl, trivial⟩
  refine WC.seq ?_
  refine WC.region ?_
  refine WL.q (oq_move rfl) rfl rfl rfl ?_
  refine WL.q (oq_build #[_, _, _] str83 ty83 rfl rfl) rfl rfl rfl ?_
  refine WL.box rfl rfl rfl fun b1_2 hb1_2 => ?_
  refine WL.q (oq_assign rfl) rfl rfl rfl ?_
  refine WL.nil ?_
  refine WE.then_normal ?_
  refine WC.sub (fr' := [(2, _)]) ?_ ⟨rfl, trivial⟩
  refine WC.ret ?_
  refine WE.endA0 (.inl rfl) (res1 Tryd.results34 rfl) ?_ (fresh1 hb1_2)
  -- end 0
  exact ⟨_, rfl, rfl⟩

/-- given.example/pub-tinwright/pub/smithy/rand.NewUUID -/
theorem newUUID (k : TypeId) (x : Value) : FnA Tryd.prog 33 [.iface k x] [] (fun v N => ∃ b, v = Pt b 0 ∧ N = [(b, .cells #[.iface k x] 81 (0, 0))]) := by
  refine FnA.enter0 (n := 6) Tryd.func33 rfl rfl fun w0 => ?_
  refine WC.sub (fr' := [(0, _)]) ?_ ⟨rfl, trivial⟩
  refine WC.seq ?_
  refine WC.region ?_
  refine WL.q (oq_assign rfl) rfl rfl rfl ?_
  refine WL.nil ?_
  refine WE.then_normal ?_
  refine WC.sub (fr' := [(0, _)]) ?_ ⟨rfl, trivial⟩
  refine WC.seq ?_
  refine WC.region ?_
  refine WL.q (oq_move rfl) rfl rfl rfl ?_
  refine WL.q (oq_build #[_] str81 ty81 rfl rfl) rfl rfl rfl ?_
  refine WL.box rfl rfl rfl fun b1_2 hb1_2 => ?_
  refine WL.q (oq_assign rfl) rfl rfl rfl ?_
  refine WL.nil ?_
  refine WE.then_normal ?_
  refine WC.sub (fr' := [(2, _)]) ?_ ⟨rfl, trivial⟩
  refine WC.ret ?_
  refine WE.endA0 (.inl rfl) (res1 Tryd.results33 rfl) ?_ (fresh1 hb1_2)
  -- end 0
  exact ⟨_, rfl, rfl⟩

/-- (*given.example/pub-tinwright/pub/smithy/rand.UUID).GetUUID -/
theorem getUUID (base bu br : Nat) (A : Hp) (xs : List UInt8) (vx : Value) (hr : RdS 1 vx A xs.length (bytesV xs)) (hx : xs.length ≤ 1000000000) (kE : TypeId) (pE : Addr) (hE : Errs A kE pE) (pr : Int) : FnW Tryd.prog 35 [Pt bu 0] base [[(bu, .cells #[.iface 57 (Pt br 0)] 81 (0, 0))], [(br, .cells #[vx, I 0, I pr] 83 (0, 0))], A] (fun v Hs => (∃ (i2 : Nat) (pr2 : Int), Hs = [[(bu, .cells #[.iface 57 (Pt br 0)] 81 (0, 0))], RB br vx (i2 : Int) pr2, A]) ∧ ∃ s e, v = .tuple #[S s, e] ∧ ((16 ≤ xs.length ∧ e = .nilIface ∧ s = uform (v4 (xs.take 16))) ∨ (xs.length < 16 ∧ ∃ k x, e = .iface k x))) := by
  refine FnW.enter (n := 24) Tryd.func35 rfl rfl fun w0 R0 hbase => ?_
  subst hbase
  show WC _ _ _ _ _ _ _ ([[(bu, .cells #[.iface 57 (Pt br 0)] 81 (0, 0))], [(br, .cells #[vx, I 0, I pr] 83 (0, 0))], A, R0])
  refine WC.sub (fr' := [(0, _)]) ?_ ⟨rfl, trivial⟩
  refine WC.seq ?_
  refine WC.region ?_
  refine WL.q (oq_assign rfl) rfl rfl rfl ?_
  refine WL.q (oq_assign rfl) rfl rfl rfl ?_
  refine WL.nil ?_
  refine WE.then_normal ?_
  refine WC.sub (fr' := [(0, _)]) ?_ ⟨rfl, trivial⟩
  refine WC.seq ?_
  refine WC.region ?_
  refine WL.alloc ty84 rfl rfl fun b1_0 hb1_0 => ?_
  refine WL.asB (List.replicate 16 0) rfl ?_
  refine WL.nil ?_
  refine WE.then_normal ?_
  refine WC.sub (fr' := [(0, _), (4, _)]) ?_ ⟨rfl, rfl, trivial⟩
  refine WC.seq ?_
  refine WC.seq ?_
  refine WC.tailM (pl := []) (ql := [_, _, _, _, _]) (tl := [_, _, _, _, _, _]) [] [0, 1, 2, 3, 4] 5 [6, 7, 8, 9, 10] (by kernel_rfl) (by kernel_rfl) (by kernel_rfl) (by kernel_rfl) (by kernel_rfl) (by kernel_rfl) (by decide) rfl rfl rfl (by decide) (by repeat (first | with_reducible exact QOk.body | with_reducible apply QOk.then | with_reducible apply QOk.block | exact QOk.body | apply QOk.then | apply QOk.block)) ?_
  refine WM.nil ?_
  refine WY.q (oq_move rfl) rfl rfl rfl ?_
  refine WY.q (oq_nilCheck rfl) rfl rfl rfl ?_
  refine WY.q (oq_fieldAddr fld81_0 rfl) rfl rfl rfl ?_
  refine WY.q (oq_load flat79 rfl (.tail _ (.head _)) (List.mem_singleton.2 rfl) rfl) rfl rfl rfl ?_
  refine WY.q (oq_sliceArr Tryd.underlying84 ty5 rfl rfl rfl (by (first | omega | simp)) (by (first | omega | simp))) rfl rfl rfl ?_
  refine WY.nil ?_
  refine WL.f3 ?_
  refine WL.f1 ?_
  refine WL.f3 ?_
  refine WL.callWE (fun a w hf => ent_fn call57 rfl hf w) (readFull _ br b1_0 16 84 (List.replicate 16 0) A xs vx hr hx kE pE hE 0 pr (by omega) (by simp) (by omega) (by omega)) rfl rfl rfl rfl fun v2_5 Hs2_5 hR2_5 => ?_
  obtain ⟨vn, ve, i2, pr2, l2, rfl, rfl, hi2, hl2, hor⟩ := hR2_5
  have hve : ve = .nilIface ∨ ∃ k x, ve = .iface k x := by
    rcases hor with ⟨_, _, h, _⟩ | ⟨_, k, x, h⟩
    · exact .inl h
    · exact .inr ⟨k, x, h⟩
  refine WL.app3 ?_
  refine WL.q (oq_move rfl) rfl rfl rfl ?_
  refine WL.q (oq_extract rfl rfl) rfl rfl rfl ?_
  refine WL.q (oq_extract rfl rfl) rfl rfl rfl ?_
  refine WL.q (oq_assign rfl) rfl rfl rfl ?_
  refine WL.q (oq_assign rfl) rfl rfl rfl ?_
  refine WL.nil ?_
  refine WE.then_normal ?_
  refine WC.sub (fr' := [(0, _), (4, _), (6, _)]) ?_ ⟨rfl, rfl, rfl, trivial⟩
  refine WC.seq ?_
  refine WC.region ?_
  refine WL.q (oq_move rfl) rfl rfl rfl ?_
  refine WL.q (oq_ineq Tryd.underlying53 rfl (hve)) rfl rfl rfl ?_
  refine WL.nil ?_
  refine WE.then_normal ?_
  refine WC.sub (fr' := [(0, _), (4, _), (6, _), (17, _)]) ?_ ⟨rfl, rfl, rfl, rfl, trivial⟩
  refine WC.cond rfl (fun q3 => ?_) (fun q3 => ?_)
  ·
    try simp only [Bool.not_eq_eq_eq_not, Bool.not_true, Bool.not_false, decide_eq_true_eq, decide_eq_false_iff_not, Int.not_lt, Int.not_le, ne_eq, Decidable.not_not, ← List.length_eq_zero_iff] at q3
    refine WC.seq ?_
    refine WC.region ?_
    refine WL.q (oq_move rfl) rfl rfl rfl ?_
    refine WL.q (oq_assign rfl) rfl rfl rfl ?_
    refine WL.q (oq_assign rfl) rfl rfl rfl ?_
    refine WL.nil ?_
    refine WE.then_normal ?_
    refine WC.sub (fr' := [(2, _), (3, _)]) ?_ ⟨rfl, rfl, trivial⟩
    refine WC.ret ?_
    refine WE.then_ret ?_
    refine WE.f1 ?_
    refine WE.lose hb1_0 ?_
    refine WE.f3 ?_
    refine WE.f2 ?_
    refine WE.f2 ?_
    refine WE.f3 ?_
    refine WE.endW3 (.inl rfl) (res2 Tryd.results35 rfl rfl) ?_
    -- end 0
    refine ⟨⟨i2, pr2, rfl⟩, _, _, rfl, .inr ?_⟩
    rcases hor with ⟨_, _, h, _⟩ | ⟨h1, k, x, h⟩
    · rw [h] at q3; cases q3
    · exact ⟨by omega, k, x, h⟩
  ·
    try simp only [Bool.not_eq_eq_eq_not, Bool.not_true, Bool.not_false, decide_eq_true_eq, decide_eq_false_iff_not, Int.not_lt, Int.not_le, ne_eq, Decidable.not_not, ← List.length_eq_zero_iff] at q3
    refine WC.skip ?_
    refine WE.then_normal ?_
    refine WC.sub (fr' := [(0, _), (4, _)]) ?_ ⟨rfl, rfl, trivial⟩
    refine WC.seq ?_
    refine WC.region ?_
    refine WL.q (oq_move rfl) rfl rfl rfl ?_
    refine WL.q (oq_sliceArr Tryd.underlying84 ty5 rfl rfl rfl (by (first | omega | simp)) (by (first | omega | simp))) rfl rfl rfl ?_
    refine WL.f1 ?_
    refine WL.callWE (fun a w hf => ent_fn call58 rfl hf w) (makeV4 _ bu _ b1_0 84 l2 hl2) rfl rfl rfl rfl fun v5_2 Hs5_2 hR5_2 => ?_
    obtain rfl := hR5_2
    have hl4 : (v4 l2).length = 16 := by rw [v4_len, hl2]
    refine WL.app1 ?_
    refine WL.nil ?_
    refine WE.then_normal ?_
    refine WC.sub (fr' := [(4, _)]) ?_ ⟨rfl, trivial⟩
    refine WC.seq ?_
    refine WC.region ?_
    refine WL.q (oq_loadArr agg84 ty84 (hl4) rfl (.head _)) rfl rfl rfl ?_
    refine WL.qc (oq_call (format_ _ hl4) call59 rfl) rfl rfl rfl ?_
    refine WL.q (oq_assign rfl) rfl rfl rfl ?_
    refine WL.q (oq_assign rfl) rfl rfl rfl ?_
    refine WL.nil ?_
    refine WE.then_normal ?_
    refine WC.sub (fr' := [(2, _), (3, _)]) ?_ ⟨rfl, rfl, trivial⟩
    refine WC.ret ?_
    refine WE.lose hb1_0 ?_
    refine WE.f3 ?_
    refine WE.f2 ?_
    refine WE.f2 ?_
    refine WE.f3 ?_
    refine WE.endW3 (.inl rfl) (res2 Tryd.results35 rfl rfl) ?_
    -- end 1
    refine ⟨⟨i2, pr2, rfl⟩, _, _, rfl, .inl ?_⟩
    rcases hor with ⟨h1, _, h, _, h2⟩ | ⟨h1, k, x, h⟩
    · exact ⟨by omega, rfl, by rw [h2, List.drop_zero]⟩
    · rw [h] at q3; cases q3

/-- given.example/pub-tinwright/impl.SUUID -/
theorem sUUID (A : Hp) (xs : List UInt8) (vx : Value) (hr : RdS 1 vx A xs.length (bytesV xs)) (hx : xs.length ≤ 1000000000) (kE : TypeId) (pE : Addr) (hE : Errs A kE pE) : FnR Tryd.prog 11 [vx] A (.tuple #[S (suuid xs), .bool (decide (16 ≤ xs.length))]) := by
  obtain ⟨p0, c0, rfl⟩ := hr.shape
  refine FnR.enter (n := 17) Tryd.func11 rfl rfl fun w0 => ?_
  refine WC.sub (fr' := [(0, _)]) ?_ ⟨rfl, trivial⟩
  refine WC.seq ?_
  refine WC.region ?_
  refine WL.q (oq_assign rfl) rfl rfl rfl ?_
  refine WL.q (oq_assign rfl) rfl rfl rfl ?_
  refine WL.nil ?_
  refine WE.then_normal ?_
  refine WC.sub (fr' := [(0, _)]) ?_ ⟨rfl, trivial⟩
  refine WC.seq ?_
  refine WC.region ?_
  refine WL.q (oq_move rfl) rfl rfl rfl ?_
  refine WL.callA0 (newReader p0 _ c0) call34 rfl rfl rfl fun v1_1 N1_1 hR1_1 hN1_1 => ?_
  obtain ⟨br, rfl, rfl⟩ := hR1_1
  have hbr := hN1_1 _ _ (List.mem_singleton.2 rfl)
  refine WL.q (oq_makeI conc57 rfl) rfl rfl rfl ?_
  refine WL.callA0 (newUUID _ _) call33 rfl rfl rfl fun v1_3 N1_3 hR1_3 hN1_3 => ?_
  obtain ⟨bu, rfl, rfl⟩ := hR1_3
  have hbu := hN1_3 _ _ (List.mem_singleton.2 rfl)
  refine WL.f2 ?_
  refine WL.f2 ?_
  refine WL.f2 ?_
  refine WL.callWE (fun a w hf => ent_fn call35 rfl hf w) (getUUID _ bu br A xs _ hr hx kE pE hE (-1)) rfl rfl rfl rfl fun v1_4 Hs1_4 hR1_4 => ?_
  obtain ⟨⟨i2, pr2, rfl⟩, s, e, rfl, hor⟩ := hR1_4
  have hve : e = .nilIface ∨ ∃ k x, e = .iface k x := by
    rcases hor with ⟨_, h, _⟩ | ⟨_, k, x, h⟩
    · exact .inl h
    · exact .inr ⟨k, x, h⟩
  refine WL.app3 ?_
  refine WL.q (oq_move rfl) rfl rfl rfl ?_
  refine WL.q (oq_extract rfl rfl) rfl rfl rfl ?_
  refine WL.q (oq_extract rfl rfl) rfl rfl rfl ?_
  refine WL.q (oq_assign rfl) rfl rfl rfl ?_
  refine WL.q (oq_assign rfl) rfl rfl rfl ?_
  refine WL.nil ?_
  refine WE.then_normal ?_
  refine WC.sub (fr' := [(4, _), (5, _)]) ?_ ⟨rfl, rfl, trivial⟩
  refine WC.seq ?_
  refine WC.seq ?_
  refine WC.region ?_
  refine WL.q (oq_move rfl) rfl rfl rfl ?_
  refine WL.q (oq_ineq Tryd.underlying53 rfl (hve)) rfl rfl rfl ?_
  refine WL.nil ?_
  refine WE.then_normal ?_
  refine WC.sub (fr' := [(4, _), (15, _)]) ?_ ⟨rfl, rfl, trivial⟩
  refine WC.cond rfl (fun q2 => ?_) (fun q2 => ?_)
  ·
    try simp only [Bool.not_eq_eq_eq_not, Bool.not_true, Bool.not_false, decide_eq_true_eq, decide_eq_false_iff_not, Int.not_lt, Int.not_le, ne_eq, Decidable.not_not, ← List.length_eq_zero_iff] at q2
    refine WC.seq ?_
    refine WC.region ?_
    refine WL.q (oq_assign rfl) rfl rfl rfl ?_
    refine WL.q (oq_assign rfl) rfl rfl rfl ?_
    refine WL.nil ?_
    refine WE.then_normal ?_
    refine WC.sub (fr' := [(2, _), (3, _)]) ?_ ⟨rfl, rfl, trivial⟩
    refine WC.ret ?_
    refine WE.then_ret ?_
    refine WE.lose hbu ?_
    refine WE.lose hbr ?_
    refine WE.endR (.inl rfl) (res2 Tryd.results11 rfl rfl) ?_
    -- end 0
    rcases hor with ⟨_, h, _⟩ | ⟨h1, k, x, h⟩
    · rw [h] at q2; cases q2
    · unfold suuid; rw [if_neg (by omega), decide_eq_false (by omega)]
  ·
    try simp only [Bool.not_eq_eq_eq_not, Bool.not_true, Bool.not_false, decide_eq_true_eq, decide_eq_false_iff_not, Int.not_lt, Int.not_le, ne_eq, Decidable.not_not, ← List.length_eq_zero_iff] at q2
    refine WC.skip ?_
    refine WE.then_normal ?_
    refine WC.sub (fr' := [(4, _)]) ?_ ⟨rfl, trivial⟩
    refine WC.seq ?_
    refine WC.region ?_
    refine WL.q (oq_move rfl) rfl rfl rfl ?_
    refine WL.q (oq_assign rfl) rfl rfl rfl ?_
    refine WL.q (oq_assign rfl) rfl rfl rfl ?_
    refine WL.nil ?_
    refine WE.then_normal ?_
    refine WC.sub (fr' := [(2, _), (3, _)]) ?_ ⟨rfl, rfl, trivial⟩
    refine WC.ret ?_
    refine WE.lose hbu ?_
    refine WE.lose hbr ?_
    refine WE.endR (.inl rfl) (res2 Tryd.results11 rfl rfl) ?_
    -- end 1
    rcases hor with ⟨h1, h, h2⟩ | ⟨h1, k, x, h⟩
    · unfold suuid; rw [if_pos h1, decide_eq_true h1, h2]
    · rw [h] at q2; cases q2

/-- given.example/pub-tinwright/spec.SForm -/
theorem sForm (b : List UInt8) (hb : b.length = 16) : Fn0 Tryd.prog 36 [S b] (S (uform b)) := by
  refine Fn0.enter (n := 51) Tryd.func36 rfl rfl fun w0 => ?_
  refine WC.sub (fr' := [(0, _)]) ?_ ⟨rfl, trivial⟩
  refine WC.seq ?_
  refine WC.region ?_
  refine WL.q (oq_assign rfl) rfl rfl rfl ?_
  refine WL.nil ?_
  refine WE.then_normal ?_
  refine WC.sub (fr' := [(0, _)]) ?_ ⟨rfl, trivial⟩
  refine WC.seq ?_
  refine WC.region ?_
  refine WL.q (oq_assign rfl) rfl rfl rfl ?_
  refine WL.nil ?_
  refine WE.then_normal ?_
  refine WC.sub (fr' := [(0, _), (3, _)]) ?_ ⟨rfl, rfl, trivial⟩
  refine WC.seq ?_
  refine WC.seq ?_
  refine WC.region ?_
  refine WL.q (oq_assign rfl) rfl rfl rfl ?_
  refine WL.nil ?_
  refine WE.then_normal ?_
  refine WC.sub (fr' := [(0, _), (3, _), (4, _)]) ?_ ⟨rfl, rfl, rfl, trivial⟩
  refine WC.block ?_
  refine WC.loop (ι := Nat) (fun (i : Nat) => [(0, S b), (3, S (sfp b i)), (4, I (i : Int))]) (fun (i : Nat) => []) (fun (i : Nat) => i ≤ 16) (fun (i : Nat) => 16 - i) (0) ?_ ⟨rfl, rfl, rfl, trivial⟩ (List.Perm.refl _) ?_
  · try dsimp only
    show 0 ≤ 16; omega
  · rintro i hp
    try dsimp only at hp
    show WC _ _ _ _ _ _ ([(0, S b), (3, S (sfp b i)), (4, I (i : Int))]) ([])
    refine WC.seq ?_
    refine WC.seq ?_
    refine WC.region ?_
    refine WL.q (oq_move rfl) rfl rfl rfl ?_
    refine WL.q (oq_move rfl) rfl rfl rfl ?_
    refine WL.q (oq_len_s Tryd.underlying9 rfl) rfl rfl rfl ?_
    refine WL.q (oq_lss rfl rfl) rfl rfl rfl ?_
    refine WL.nil ?_
    refine WE.then_normal ?_
    refine WC.sub (fr' := [(0, _), (3, _), (4, _), (8, _)]) ?_ ⟨rfl, rfl, rfl, rfl, trivial⟩
    refine WC.cond rfl (fun q3 => ?_) (fun q3 => ?_)
    ·
      try simp only [Bool.not_eq_eq_eq_not, Bool.not_true, Bool.not_false, decide_eq_true_eq, decide_eq_false_iff_not, Int.not_lt, Int.not_le, ne_eq, Decidable.not_not, ← List.length_eq_zero_iff] at q3
      refine WC.skip ?_
      refine WE.then_normal ?_
      refine WC.sub (fr' := [(0, _), (3, _), (4, _)]) ?_ ⟨rfl, rfl, rfl, trivial⟩
      refine WC.seq ?_
      refine WC.block ?_
      refine WC.cut (ι := (List UInt8)) (fun (o : List UInt8) => [(0, S b), (3, S o), (4, I (i : Int))]) (fun (o : List UInt8) => []) (fun (o : List UInt8) => o = sfp b i ++ sdash i) ?_ ?_
      ·
        refine WC.seq ?_
        refine WC.region ?_
        refine WL.q (oq_move rfl) rfl rfl rfl ?_
        refine WL.q (oq_eql rfl rfl) rfl rfl rfl ?_
        refine WL.q (oq_move rfl) rfl rfl rfl ?_
        refine WL.split 13 rfl (fun s5_2 => ?_) (fun s5_2 => ?_)
        ·
          try simp only [Bool.not_eq_eq_eq_not, Bool.not_true, Bool.not_false, decide_eq_true_eq, decide_eq_false_iff_not, Int.not_lt, Int.not_le, ne_eq, Decidable.not_not, ← List.length_eq_zero_iff] at s5_2
          refine WL.skip rfl rfl rfl ?_
          refine WL.skip rfl rfl rfl ?_
          refine WL.q (oq_pick_t rfl rfl) rfl rfl rfl ?_
          refine WL.q (oq_move rfl) rfl rfl rfl ?_
          refine WL.skip rfl rfl rfl ?_
          refine WL.skip rfl rfl rfl ?_
          refine WL.q (oq_pick_t rfl rfl) rfl rfl rfl ?_
          refine WL.q (oq_move rfl) rfl rfl rfl ?_
          refine WL.skip rfl rfl rfl ?_
          refine WL.skip rfl rfl rfl ?_
          refine WL.q (oq_pick_t rfl rfl) rfl rfl rfl ?_
          refine WL.nil ?_
          refine WE.then_normal ?_
          refine WC.sub (fr' := [(0, _), (3, _), (4, _), (24, _)]) ?_ ⟨rfl, rfl, rfl, rfl, trivial⟩
          refine WC.cond_t rfl ?_
          refine WC.region ?_
          refine WL.q (oq_move rfl) rfl rfl rfl ?_
          refine WL.q (oq_concat rfl rfl (by (first | (have hsl := sfp_len b i; simp only [List.length_cons, List.length_nil]; omega) | (have hol := hol_; have hc1 : ∀ x y : Int, (cut ([48, 49, 50, 51, 52, 53, 54, 55, 56, 57, 97, 98, 99, 100, 101, 102] : List UInt8) x y).length ≤ 16 := (fun x y => cut_le _ x y); have h3 := hc1 (c7_3 / 16) (c7_7 / 16 + 1); first | omega | (have h4 := hc1 (c7_14 % 16) (c7_18 % 16 + 1); rw [List.length_append]; omega))))) rfl rfl rfl ?_
          refine WL.q (oq_assign rfl) rfl rfl rfl ?_
          refine WL.nil ?_
          refine WE.meet _ ?_ ⟨rfl, rfl, rfl, trivial⟩ (List.Perm.refl _)
          try dsimp only
          unfold sdash; first | rw [if_pos (by omega)] | rw [if_neg (by omega), List.append_nil]   -- meet 0
        ·
          try simp only [Bool.not_eq_eq_eq_not, Bool.not_true, Bool.not_false, decide_eq_true_eq, decide_eq_false_iff_not, Int.not_lt, Int.not_le, ne_eq, Decidable.not_not, ← List.length_eq_zero_iff] at s5_2
          refine WL.q (oq_move rfl) rfl rfl rfl ?_
          refine WL.q (oq_eql rfl rfl) rfl rfl rfl ?_
          refine WL.q (oq_pick_f rfl rfl) rfl rfl rfl ?_
          refine WL.q (oq_move rfl) rfl rfl rfl ?_
          refine WL.split 17 rfl (fun s5_6 => ?_) (fun s5_6 => ?_)
          ·
            try simp only [Bool.not_eq_eq_eq_not, Bool.not_true, Bool.not_false, decide_eq_true_eq, decide_eq_false_iff_not, Int.not_lt, Int.not_le, ne_eq, Decidable.not_not, ← List.length_eq_zero_iff] at s5_6
            refine WL.skip rfl rfl rfl ?_
            refine WL.skip rfl rfl rfl ?_
            refine WL.q (oq_pick_t rfl rfl) rfl rfl rfl ?_
            refine WL.q (oq_move rfl) rfl rfl rfl ?_
            refine WL.skip rfl rfl rfl ?_
            refine WL.skip rfl rfl rfl ?_
            refine WL.q (oq_pick_t rfl rfl) rfl rfl rfl ?_
            refine WL.nil ?_
            refine WE.then_normal ?_
            refine WC.sub (fr' := [(0, _), (3, _), (4, _), (24, _)]) ?_ ⟨rfl, rfl, rfl, rfl, trivial⟩
            refine WC.cond_t rfl ?_
            refine WC.region ?_
            refine WL.q (oq_move rfl) rfl rfl rfl ?_
            refine WL.q (oq_concat rfl rfl (by (first | (have hsl := sfp_len b i; simp only [List.length_cons, List.length_nil]; omega) | (have hol := hol_; have hc1 : ∀ x y : Int, (cut ([48, 49, 50, 51, 52, 53, 54, 55, 56, 57, 97, 98, 99, 100, 101, 102] : List UInt8) x y).length ≤ 16 := (fun x y => cut_le _ x y); have h3 := hc1 (c7_3 / 16) (c7_7 / 16 + 1); first | omega | (have h4 := hc1 (c7_14 % 16) (c7_18 % 16 + 1); rw [List.length_append]; omega))))) rfl rfl rfl ?_
            refine WL.q (oq_assign rfl) rfl rfl rfl ?_
            refine WL.nil ?_
            refine WE.meet _ ?_ ⟨rfl, rfl, rfl, trivial⟩ (List.Perm.refl _)
            try dsimp only
            unfold sdash; first | rw [if_pos (by omega)] | rw [if_neg (by omega), List.append_nil]   -- meet 1
          ·
            try simp only [Bool.not_eq_eq_eq_not, Bool.not_true, Bool.not_false, decide_eq_true_eq, decide_eq_false_iff_not, Int.not_lt, Int.not_le, ne_eq, Decidable.not_not, ← List.length_eq_zero_iff] at s5_6
            refine WL.q (oq_move rfl) rfl rfl rfl ?_
            refine WL.q (oq_eql rfl rfl) rfl rfl rfl ?_
            refine WL.q (oq_pick_f rfl rfl) rfl rfl rfl ?_
            refine WL.q (oq_move rfl) rfl rfl rfl ?_
            refine WL.split 21 rfl (fun s5_10 => ?_) (fun s5_10 => ?_)
            ·
              try simp only [Bool.not_eq_eq_eq_not, Bool.not_true, Bool.not_false, decide_eq_true_eq, decide_eq_false_iff_not, Int.not_lt, Int.not_le, ne_eq, Decidable.not_not, ← List.length_eq_zero_iff] at s5_10
              refine WL.skip rfl rfl rfl ?_
              refine WL.skip rfl rfl rfl ?_
              refine WL.q (oq_pick_t rfl rfl) rfl rfl rfl ?_
              refine WL.nil ?_
              refine WE.then_normal ?_
              refine WC.sub (fr' := [(0, _), (3, _), (4, _), (24, _)]) ?_ ⟨rfl, rfl, rfl, rfl, trivial⟩
              refine WC.cond_t rfl ?_
              refine WC.region ?_
              refine WL.q (oq_move rfl) rfl rfl rfl ?_
              refine WL.q (oq_concat rfl rfl (by (first | (have hsl := sfp_len b i; simp only [List.length_cons, List.length_nil]; omega) | (have hol := hol_; have hc1 : ∀ x y : Int, (cut ([48, 49, 50, 51, 52, 53, 54, 55, 56, 57, 97, 98, 99, 100, 101, 102] : List UInt8) x y).length ≤ 16 := (fun x y => cut_le _ x y); have h3 := hc1 (c7_3 / 16) (c7_7 / 16 + 1); first | omega | (have h4 := hc1 (c7_14 % 16) (c7_18 % 16 + 1); rw [List.length_append]; omega))))) rfl rfl rfl ?_
              refine WL.q (oq_assign rfl) rfl rfl rfl ?_
              refine WL.nil ?_
              refine WE.meet _ ?_ ⟨rfl, rfl, rfl, trivial⟩ (List.Perm.refl _)
              try dsimp only
              unfold sdash; first | rw [if_pos (by omega)] | rw [if_neg (by omega), List.append_nil]   -- meet 2
            ·
              try simp only [Bool.not_eq_eq_eq_not, Bool.not_true, Bool.not_false, decide_eq_true_eq, decide_eq_false_iff_not, Int.not_lt, Int.not_le, ne_eq, Decidable.not_not, ← List.length_eq_zero_iff] at s5_10
              refine WL.q (oq_move rfl) rfl rfl rfl ?_
              refine WL.q (oq_eql rfl rfl) rfl rfl rfl ?_
              refine WL.q (oq_pick_f rfl rfl) rfl rfl rfl ?_
              refine WL.nil ?_
              refine WE.then_normal ?_
              refine WC.sub (fr' := [(0, _), (3, _), (4, _), (24, _)]) ?_ ⟨rfl, rfl, rfl, rfl, trivial⟩
              refine WC.cond rfl (fun q5 => ?_) (fun q5 => ?_)
              ·
                try simp only [Bool.not_eq_eq_eq_not, Bool.not_true, Bool.not_false, decide_eq_true_eq, decide_eq_false_iff_not, Int.not_lt, Int.not_le, ne_eq, Decidable.not_not, ← List.length_eq_zero_iff] at q5
                refine WC.region ?_
                refine WL.q (oq_move rfl) rfl rfl rfl ?_
                refine WL.q (oq_concat rfl rfl (by (first | (have hsl := sfp_len b i; simp only [List.length_cons, List.length_nil]; omega) | (have hol := hol_; have hc1 : ∀ x y : Int, (cut ([48, 49, 50, 51, 52, 53, 54, 55, 56, 57, 97, 98, 99, 100, 101, 102] : List UInt8) x y).length ≤ 16 := (fun x y => cut_le _ x y); have h3 := hc1 (c7_3 / 16) (c7_7 / 16 + 1); first | omega | (have h4 := hc1 (c7_14 % 16) (c7_18 % 16 + 1); rw [List.length_append]; omega))))) rfl rfl rfl ?_
                refine WL.q (oq_assign rfl) rfl rfl rfl ?_
                refine WL.nil ?_
                refine WE.meet _ ?_ ⟨rfl, rfl, rfl, trivial⟩ (List.Perm.refl _)
                try dsimp only
                unfold sdash; first | rw [if_pos (by omega)] | rw [if_neg (by omega), List.append_nil]   -- meet 3
              ·
                try simp only [Bool.not_eq_eq_eq_not, Bool.not_true, Bool.not_false, decide_eq_true_eq, decide_eq_false_iff_not, Int.not_lt, Int.not_le, ne_eq, Decidable.not_not, ← List.length_eq_zero_iff] at q5
                refine WC.skip ?_
                refine WE.meet _ ?_ ⟨rfl, rfl, rfl, trivial⟩ (List.Perm.refl _)
                try dsimp only
                unfold sdash; first | rw [if_pos (by omega)] | rw [if_neg (by omega), List.append_nil]   -- meet 4
      · rintro o hp
        try dsimp only at hp
        show WC _ _ _ _ _ _ ([(0, S b), (3, S o), (4, I (i : Int))]) ([])
        have ho := hp
        have hol_ : o.length ≤ 3 * i + 1 := by
          have hsl := sfp_len b i
          have hsd : (sdash i).length ≤ 1 := (by unfold sdash; split <;> simp)
          rw [ho, List.length_append]; omega
        refine WC.quiet (by kernel_rfl) (by kernel_rfl) ?_
        refine WQ.q (oq_move rfl) rfl rfl rfl ?_
        refine WQ.q (oq_move rfl) rfl rfl rfl ?_
        refine WQ.q (oq_move rfl) rfl rfl rfl ?_
        refine WQ.index_s Tryd.underlying9 rfl rfl (by (first | omega | (simp only [List.length_cons, List.length_nil, List.length_append, List.length_drop, List.length_take]; omega))) rfl rfl fun c7_3 hc7_3 hc7_3l hc7_3u => ?_
        refine WQ.q (oq_shrl 16 rfl rfl (by decide) (by decide)) rfl rfl rfl ?_
        refine WQ.q (oq_move rfl) rfl rfl rfl ?_
        refine WQ.q (oq_move rfl) rfl rfl rfl ?_
        refine WQ.index_s Tryd.underlying9 rfl rfl (by (first | omega | (simp only [List.length_cons, List.length_nil, List.length_append, List.length_drop, List.length_take]; omega))) rfl rfl fun c7_7 hc7_7 hc7_7l hc7_7u => ?_
        refine WQ.q (oq_shrl 16 rfl rfl (by decide) (by decide)) rfl rfl rfl ?_
        refine WQ.q (oq_add rfl rfl (by rw [u8_lo, u8_hi]; (first | omega | (simp only [List.length_cons, List.length_nil, List.length_append, List.length_drop, List.length_take]; omega)))) rfl rfl rfl ?_
        refine WQ.q (oq_slice_s2 Tryd.underlying9 rfl rfl rfl (by (first | omega | (simp only [List.length_cons, List.length_nil, List.length_append, List.length_drop, List.length_take]; omega)))) rfl rfl rfl ?_
        refine WQ.q (oq_concat rfl rfl (by (first | (have hsl := sfp_len b i; simp only [List.length_cons, List.length_nil]; omega) | (have hol := hol_; have hc1 : ∀ x y : Int, (cut ([48, 49, 50, 51, 52, 53, 54, 55, 56, 57, 97, 98, 99, 100, 101, 102] : List UInt8) x y).length ≤ 16 := (fun x y => cut_le _ x y); have h3 := hc1 (c7_3 / 16) (c7_7 / 16 + 1); first | omega | (have h4 := hc1 (c7_14 % 16) (c7_18 % 16 + 1); rw [List.length_append]; omega))))) rfl rfl rfl ?_
        refine WQ.q (oq_move rfl) rfl rfl rfl ?_
        refine WQ.q (oq_move rfl) rfl rfl rfl ?_
        refine WQ.index_s Tryd.underlying9 rfl rfl (by (first | omega | (simp only [List.length_cons, List.length_nil, List.length_append, List.length_drop, List.length_take]; omega))) rfl rfl fun c7_14 hc7_14 hc7_14l hc7_14u => ?_
        refine WQ.q (oq_mask 4 16 rfl rfl (by rw [u8_hi]; omega) (by decide) (by decide) (by decide)) rfl rfl rfl ?_
        refine WQ.q (oq_move rfl) rfl rfl rfl ?_
        refine WQ.q (oq_move rfl) rfl rfl rfl ?_
        refine WQ.index_s Tryd.underlying9 rfl rfl (by (first | omega | (simp only [List.length_cons, List.length_nil, List.length_append, List.length_drop, List.length_take]; omega))) rfl rfl fun c7_18 hc7_18 hc7_18l hc7_18u => ?_
        refine WQ.q (oq_mask 4 16 rfl rfl (by rw [u8_hi]; omega) (by decide) (by decide) (by decide)) rfl rfl rfl ?_
        refine WQ.q (oq_add rfl rfl (by rw [u8_lo, u8_hi]; (first | omega | (simp only [List.length_cons, List.length_nil, List.length_append, List.length_drop, List.length_take]; omega)))) rfl rfl rfl ?_
        refine WQ.q (oq_slice_s2 Tryd.underlying9 rfl rfl rfl (by (first | omega | (simp only [List.length_cons, List.length_nil, List.length_append, List.length_drop, List.length_take]; omega)))) rfl rfl rfl ?_
        refine WQ.q (oq_concat rfl rfl (by (first | (have hsl := sfp_len b i; simp only [List.length_cons, List.length_nil]; omega) | (have hol := hol_; have hc1 : ∀ x y : Int, (cut ([48, 49, 50, 51, 52, 53, 54, 55, 56, 57, 97, 98, 99, 100, 101, 102] : List UInt8) x y).length ≤ 16 := (fun x y => cut_le _ x y); have h3 := hc1 (c7_3 / 16) (c7_7 / 16 + 1); first | omega | (have h4 := hc1 (c7_14 % 16) (c7_18 % 16 + 1); rw [List.length_append]; omega))))) rfl rfl rfl ?_
        refine WQ.q (oq_assign rfl) rfl rfl rfl ?_
        refine WQ.nil ?_
        refine WE.block_normal ?_
        refine WE.then_normal ?_
        refine WC.sub (fr' := [(0, _), (3, _), (4, _)]) ?_ ⟨rfl, rfl, rfl, trivial⟩
        refine WC.region ?_
        refine WL.q (oq_move rfl) rfl rfl rfl ?_
        refine WL.q (oq_add rfl rfl (by rw [i64_lo, i64_hi]; (first | omega | (simp only [List.length_cons, List.length_nil, List.length_append, List.length_drop, List.length_take]; omega)))) rfl rfl rfl ?_
        refine WL.q (oq_assign rfl) rfl rfl rfl ?_
        refine WL.nil ?_
        refine WE.again (i + 1) ?_ ?_ ⟨rfl, (gtv rfl (by rw [show c7_7 = c7_3 by rw [hc7_7, hc7_3], show c7_18 = c7_14 by rw [hc7_18, hc7_14], cut_dg _ (by omega), cut_dg _ (by omega), ho]; show S _ = S (sfp b i ++ sdash i ++ hx2 (b.getD i 0)); rw [hc7_3, hc7_14, byteAt_nat, show (((b.getD i 0).toNat : Int) / 16).toNat = (b.getD i 0).toNat / 16 by omega, show (((b.getD i 0).toNat : Int) % 16).toNat = (b.getD i 0).toNat % 16 by omega]; simp only [List.append_assoc]; rfl)), rfl, trivial⟩ (List.Perm.refl _)
        · try dsimp only   -- again 0
          show i + 1 ≤ 16; omega
        · (try dsimp only); omega
    ·
      try simp only [Bool.not_eq_eq_eq_not, Bool.not_true, Bool.not_false, decide_eq_true_eq, decide_eq_false_iff_not, Int.not_lt, Int.not_le, ne_eq, Decidable.not_not, ← List.length_eq_zero_iff] at q3
      refine WC.exit ?_
      refine WE.then_exit ?_
      refine WE.then_exit ?_
      refine WE.block_same ?_
      refine WE.then_normal ?_
      refine WC.sub (fr' := [(3, _)]) ?_ ⟨rfl, trivial⟩
      refine WC.seq ?_
      refine WC.region ?_
      refine WL.q (oq_move rfl) rfl rfl rfl ?_
      refine WL.q (oq_assign rfl) rfl rfl rfl ?_
      refine WL.nil ?_
      refine WE.then_normal ?_
      refine WC.sub (fr' := [(2, _)]) ?_ ⟨rfl, trivial⟩
      refine WC.ret ?_
      refine WE.end0 (.inl rfl) (res1 Tryd.results36 rfl) ?_
      -- end 0
      rw [← sfp_16 b hb, show i = 16 by omega]

/-- given.example/pub-tinwright/spec.SUUIDOf -/
theorem sUUIDOf (A : Hp) (xs : List UInt8) (vx : Value) (hr : RdS 1 vx A xs.length (bytesV xs)) (hx : xs.length ≤ 1000000000) : FnR Tryd.prog 12 [vx] A (.tuple #[S (suuid xs), .bool (decide (16 ≤ xs.length))]) := by
  refine FnR.enter (n := 29) Tryd.func12 rfl rfl fun w0 => ?_
  refine WC.sub (fr' := [(0, _)]) ?_ ⟨rfl, trivial⟩
  refine WC.seq ?_
  refine WC.region ?_
  refine WL.q (oq_assign rfl) rfl rfl rfl ?_
  refine WL.q (oq_assign rfl) rfl rfl rfl ?_
  refine WL.nil ?_
  refine WE.then_normal ?_
  refine WC.sub (fr' := [(0, _)]) ?_ ⟨rfl, trivial⟩
  refine WC.seq ?_
  refine WC.seq ?_
  refine WC.region ?_
  refine WL.q (oq_move rfl) rfl rfl rfl ?_
  refine WL.q (oq_len_rd hr Tryd.underlying22 rfl) rfl rfl rfl ?_
  refine WL.q (oq_lss rfl rfl) rfl rfl rfl ?_
  refine WL.nil ?_
  refine WE.then_normal ?_
  refine WC.sub (fr' := [(0, _), (7, _)]) ?_ ⟨rfl, rfl, trivial⟩
  refine WC.cond rfl (fun q1 => ?_) (fun q1 => ?_)
  ·
    try simp only [Bool.not_eq_eq_eq_not, Bool.not_true, Bool.not_false, decide_eq_true_eq, decide_eq_false_iff_not, Int.not_lt, Int.not_le, ne_eq, Decidable.not_not, ← List.length_eq_zero_iff] at q1
    refine WC.seq ?_
    refine WC.region ?_
    refine WL.q (oq_assign rfl) rfl rfl rfl ?_
    refine WL.q (oq_assign rfl) rfl rfl rfl ?_
    refine WL.nil ?_
    refine WE.then_normal ?_
    refine WC.sub (fr' := [(2, _), (3, _)]) ?_ ⟨rfl, rfl, trivial⟩
    refine WC.ret ?_
    refine WE.then_ret ?_
    refine WE.endR (.inl rfl) (res2 Tryd.results12 rfl rfl) ?_
    -- end 0
    unfold suuid; rw [if_neg (by omega), decide_eq_false (by omega)]
  ·
    try simp only [Bool.not_eq_eq_eq_not, Bool.not_true, Bool.not_false, decide_eq_true_eq, decide_eq_false_iff_not, Int.not_lt, Int.not_le, ne_eq, Decidable.not_not, ← List.length_eq_zero_iff] at q1
    refine WC.skip ?_
    refine WE.then_normal ?_
    refine WC.sub (fr' := [(0, _)]) ?_ ⟨rfl, trivial⟩
    refine WC.seq ?_
    refine WC.region ?_
    refine WL.build0 Tryd.underlying22 ty5 rfl rfl fun v3 A3 ho3 hne3 => ?_
    refine WL.q (oq_move rfl) rfl rfl rfl ?_
    refine WL.slice_rd hr Tryd.underlying22 ty5 rfl rfl ⟨_, rfl⟩ (by (first | omega | (simp only [List.length_cons, List.length_nil, List.length_append, List.length_drop, List.length_take]; omega))) rfl rfl fun v3_2 hr3_2 => ?_
    have h16 : RdS 1 v3_2 A 16 (bytesV (xs.take 16)) := by have := hr3_2; rw [show (16 : Int) = ((16 : Nat) : Int) from rfl, cut0] at this; exact this
    refine WL.appendS ho3 Tryd.underlying22 ty5 rfl (by decide) rfl rfl h16 (.head _) (bytesV_one _) (by unfold maxLen; omega) (by omega) rfl rfl fun v3 A3 ho3 hne3 => ?_
    refine WL.q (oq_assign rfl) rfl rfl rfl ?_
    refine WL.nil ?_
    refine WE.then_normal ?_
    refine WC.sub (fr' := [(4, _)]) ?_ ⟨rfl, trivial⟩
    refine WC.seq ?_
    have hx16 : (xs.take 16).length = 16 := by simp; omega
    have hoL : OwS w0.heap.size 5 1 v3 A3 16 (bytesV (xs.take 16)) := by simpa using ho3
    refine WC.region ?_
    refine WL.q (oq_move rfl) rfl rfl rfl ?_
    refine WL.q (oq_move rfl) rfl rfl rfl ?_
    refine WL.q (oq_ixaddr hoL.rd Tryd.underlying22 ty5 rfl rfl (by (first | omega | (simp only [List.length_cons, List.length_nil, List.length_append, List.length_drop, List.length_take]; omega)))) rfl rfl rfl ?_
    refine WL.load_byte hoL.rd (.head _) flat5 rfl (by (first | omega | (simp only [List.length_cons, List.length_nil, List.length_append, List.length_drop, List.length_take]; omega))) rfl rfl fun c4_3 hc4_3 hc4_3l hc4_3u => ?_
    refine WL.q (oq_mask 4 16 rfl rfl (by rw [u8_hi]; omega) (by decide) (by decide) (by decide)) rfl rfl rfl ?_
    refine WL.q (oq_orr 6 rfl rfl (by omega) (by omega) (by omega) (by rw [u8_hi]; omega)) rfl rfl rfl ?_
    refine WL.q (oq_ixaddr hoL.rd Tryd.underlying22 ty5 rfl rfl (by (first | omega | (simp only [List.length_cons, List.length_nil, List.length_append, List.length_drop, List.length_take]; omega)))) rfl rfl rfl ?_
    refine WL.storeOw (i := 6) hoL ty5 rfl rfl (by first | rfl | simp) (by (first | omega | (simp only [List.length_cons, List.length_nil, List.length_append, List.length_drop, List.length_take]; omega))) rfl fun A4_7 ho4_7 => ?_
    refine WL.nil ?_
    refine WE.then_normal ?_
    refine WC.sub (fr' := [(4, _)]) ?_ ⟨rfl, trivial⟩
    refine WC.seq ?_
    rw [bytesV_set _ _ _ (by omega)] at ho4_7
    refine WC.region ?_
    refine WL.q (oq_move rfl) rfl rfl rfl ?_
    refine WL.q (oq_move rfl) rfl rfl rfl ?_
    refine WL.q (oq_ixaddr ho4_7.rd Tryd.underlying22 ty5 rfl rfl (by (first | omega | (simp only [List.length_cons, List.length_nil, List.length_append, List.length_drop, List.length_take]; omega)))) rfl rfl rfl ?_
    refine WL.load_byte ho4_7.rd (.head _) flat5 rfl (by (first | omega | (simp only [List.length_cons, List.length_nil, List.length_append, List.length_drop, List.length_take]; omega))) rfl rfl fun c5_3 hc5_3 hc5_3l hc5_3u => ?_
    refine WL.q (oq_mask 6 64 rfl rfl (by rw [u8_hi]; omega) (by decide) (by decide) (by decide)) rfl rfl rfl ?_
    refine WL.q (oq_orr 7 rfl rfl (by omega) (by omega) (by omega) (by rw [u8_hi]; omega)) rfl rfl rfl ?_
    refine WL.q (oq_ixaddr ho4_7.rd Tryd.underlying22 ty5 rfl rfl (by (first | omega | (simp only [List.length_cons, List.length_nil, List.length_append, List.length_drop, List.length_take]; omega)))) rfl rfl rfl ?_
    refine WL.storeOw (i := 8) ho4_7 ty5 rfl rfl (by first | rfl | simp) (by (first | omega | (simp only [List.length_cons, List.length_nil, List.length_append, List.length_drop, List.length_take]; omega))) rfl fun A5_7 ho5_7 => ?_
    refine WL.nil ?_
    refine WE.then_normal ?_
    refine WC.sub (fr' := [(4, _)]) ?_ ⟨rfl, trivial⟩
    refine WC.seq ?_
    rw [bytesV_set _ _ _ (by omega)] at ho5_7
    have hb8 : byteAt ((xs.take 16).set 6 (UInt8.ofNat (c4_3 % 16 + 64).toNat)) 8 = byteAt (xs.take 16) 8 := by
      show (((((xs.take 16).set 6 (UInt8.ofNat (c4_3 % 16 + 64).toNat)).getD 8 0).toNat : Nat) : Int) = (((xs.take 16).getD 8 0).toNat : Int)
      rw [List.getD_eq_getElem?_getD, List.getElem?_set_ne (by omega), ← List.getD_eq_getElem?_getD]
    have hoV : OwS w0.heap.size 5 1 v3 A5_7 16 (bytesV (v4 (xs.take 16))) := by
      unfold v4; rw [← hb8, ← hc4_3, ← hc5_3]; exact ho5_7
    refine WC.region ?_
    refine WL.q (oq_move rfl) rfl rfl rfl ?_
    refine WL.q (oq_bytesStr hoV.rd (.head _) Tryd.underlying9 Tryd.underlying22 Tryd.underlying5 rfl) rfl rfl rfl ?_
    refine WL.qc (oq_call (sForm _ (by rw [v4_len]; exact hx16)) call36 rfl) rfl rfl rfl ?_
    refine WL.q (oq_assign rfl) rfl rfl rfl ?_
    refine WL.q (oq_assign rfl) rfl rfl rfl ?_
    refine WL.nil ?_
    refine WE.then_normal ?_
    refine WC.sub (fr' := [(2, _), (3, _)]) ?_ ⟨rfl, rfl, trivial⟩
    refine WC.ret ?_
    refine WE.forget ho5_7.fresh ?_
    refine WE.endR (.inl rfl) (res2 Tryd.results12 rfl rfl) ?_
    -- end 1
    unfold suuid; rw [if_pos (by omega), decide_eq_true (by omega)]

/-- given.example/pub-tinwright/laws.FnSUUID -/
theorem law (A : Hp) (xs : List UInt8) (vx : Value) (hr : RdS 1 vx A xs.length (bytesV xs)) (kE : TypeId) (pE : Addr) (hE : Errs A kE pE) : FnR Tryd.prog 3 [vx] A (.bool true) := by
  refine FnR.enter (n := 39) Tryd.func3 rfl rfl fun w0 => ?_
  refine WC.sub (fr' := [(0, _)]) ?_ ⟨rfl, trivial⟩
  refine WC.seq ?_
  refine WC.region ?_
  refine WL.q (oq_assign rfl) rfl rfl rfl ?_
  refine WL.nil ?_
  refine WE.then_normal ?_
  refine WC.sub (fr' := [(0, _)]) ?_ ⟨rfl, trivial⟩
  refine WC.seq ?_
  refine WC.seq ?_
  refine WC.region ?_
  refine WL.q (oq_move rfl) rfl rfl rfl ?_
  refine WL.q (oq_len_rd hr Tryd.underlying22 rfl) rfl rfl rfl ?_
  refine WL.q (oq_gtr rfl rfl) rfl rfl rfl ?_
  refine WL.nil ?_
  refine WE.then_normal ?_
  refine WC.sub (fr' := [(0, _), (9, _)]) ?_ ⟨rfl, rfl, trivial⟩
  refine WC.cond rfl (fun q1 => ?_) (fun q1 => ?_)
  ·
    try simp only [Bool.not_eq_eq_eq_not, Bool.not_true, Bool.not_false, decide_eq_true_eq, decide_eq_false_iff_not, Int.not_lt, Int.not_le, ne_eq, Decidable.not_not, ← List.length_eq_zero_iff] at q1
    refine WC.seq ?_
    refine WC.region ?_
    refine WL.q (oq_assign rfl) rfl rfl rfl ?_
    refine WL.nil ?_
    refine WE.then_normal ?_
    refine WC.sub (fr' := [(2, _)]) ?_ ⟨rfl, trivial⟩
    refine WC.ret ?_
    refine WE.then_ret ?_
    refine WE.endR (.inl rfl) (res1 Tryd.results3 rfl) ?_
    -- end 0
    first | rfl | (exfalso; simp_all; done)
  ·
    try simp only [Bool.not_eq_eq_eq_not, Bool.not_true, Bool.not_false, decide_eq_true_eq, decide_eq_false_iff_not, Int.not_lt, Int.not_le, ne_eq, Decidable.not_not, ← List.length_eq_zero_iff] at q1
    refine WC.skip ?_
    refine WE.then_normal ?_
    refine WC.sub (fr' := [(0, _)]) ?_ ⟨rfl, trivial⟩
    refine WC.seq ?_
    refine WC.seq ?_
    refine WC.region ?_
    refine WL.q (oq_move rfl) rfl rfl rfl ?_
    refine WL.q (oq_len_rd hr Tryd.underlying22 rfl) rfl rfl rfl ?_
    refine WL.q (oq_gtr rfl rfl) rfl rfl rfl ?_
    refine WL.nil ?_
    refine WE.then_normal ?_
    refine WC.sub (fr' := [(0, _), (12, _)]) ?_ ⟨rfl, rfl, trivial⟩
    refine WC.cond rfl (fun q3 => ?_) (fun q3 => ?_)
    ·
      try simp only [Bool.not_eq_eq_eq_not, Bool.not_true, Bool.not_false, decide_eq_true_eq, decide_eq_false_iff_not, Int.not_lt, Int.not_le, ne_eq, Decidable.not_not, ← List.length_eq_zero_iff] at q3
      refine WC.seq ?_
      refine WC.region ?_
      refine WL.qc (oq_call (L2.eAwake) call10 rfl) rfl rfl rfl ?_
      refine WL.q (oq_assign rfl) rfl rfl rfl ?_
      refine WL.nil ?_
      refine WE.then_normal ?_
      refine WC.sub (fr' := [(2, _)]) ?_ ⟨rfl, trivial⟩
      refine WC.ret ?_
      refine WE.then_ret ?_
      refine WE.endR (.inl rfl) (res1 Tryd.results3 rfl) ?_
      -- end 1
      first | rfl | (exfalso; simp_all; done)
    ·
      try simp only [Bool.not_eq_eq_eq_not, Bool.not_true, Bool.not_false, decide_eq_true_eq, decide_eq_false_iff_not, Int.not_lt, Int.not_le, ne_eq, Decidable.not_not, ← List.length_eq_zero_iff] at q3
      refine WC.skip ?_
      refine WE.then_normal ?_
      refine WC.sub (fr' := [(0, _)]) ?_ ⟨rfl, trivial⟩
      refine WC.seq ?_
      refine WC.region ?_
      refine WL.q (oq_move rfl) rfl rfl rfl ?_
      refine WL.qc (oq_callRm (sUUID A xs vx hr (by omega) kE pE hE) (.head _) call11 rfl) rfl rfl rfl ?_
      refine WL.q (oq_move rfl) rfl rfl rfl ?_
      refine WL.q (oq_extract rfl rfl) rfl rfl rfl ?_
      refine WL.q (oq_extract rfl rfl) rfl rfl rfl ?_
      refine WL.q (oq_assign rfl) rfl rfl rfl ?_
      refine WL.q (oq_assign rfl) rfl rfl rfl ?_
      refine WL.nil ?_
      refine WE.then_normal ?_
      refine WC.sub (fr' := [(0, _), (3, _), (4, _)]) ?_ ⟨rfl, rfl, rfl, trivial⟩
      refine WC.seq ?_
      refine WC.region ?_
      refine WL.q (oq_move rfl) rfl rfl rfl ?_
      refine WL.qc (oq_callRm (sUUIDOf A xs vx hr (by omega)) (.head _) call12 rfl) rfl rfl rfl ?_
      refine WL.q (oq_move rfl) rfl rfl rfl ?_
      refine WL.q (oq_extract rfl rfl) rfl rfl rfl ?_
      refine WL.q (oq_extract rfl rfl) rfl rfl rfl ?_
      refine WL.q (oq_assign rfl) rfl rfl rfl ?_
      refine WL.q (oq_assign rfl) rfl rfl rfl ?_
      refine WL.nil ?_
      refine WE.then_normal ?_
      refine WC.sub (fr' := [(3, _), (4, _), (5, _), (6, _)]) ?_ ⟨rfl, rfl, rfl, rfl, trivial⟩
      refine WC.seq ?_
      refine WC.region ?_
      refine WL.q (oq_move rfl) rfl rfl rfl ?_
      refine WL.q (oq_move rfl) rfl rfl rfl ?_
      refine WL.q (oq_beql Tryd.underlying4 rfl rfl) rfl rfl rfl ?_
      refine WL.q (oq_move rfl) rfl rfl rfl ?_
      refine WL.split 27 rfl (fun s7_3 => ?_) (fun s7_3 => ?_)
      ·
        try simp only [Bool.not_eq_eq_eq_not, Bool.not_true, Bool.not_false, decide_eq_true_eq, decide_eq_false_iff_not, Int.not_lt, Int.not_le, ne_eq, Decidable.not_not, ← List.length_eq_zero_iff] at s7_3
        refine WL.q (oq_move rfl) rfl rfl rfl ?_
        refine WL.q (oq_not rfl) rfl rfl rfl ?_
        refine WL.q (oq_move rfl) rfl rfl rfl ?_
        refine WL.split 30 rfl (fun s7_6 => ?_) (fun s7_6 => ?_)
        ·
          try simp only [Bool.not_eq_eq_eq_not, Bool.not_true, Bool.not_false, decide_eq_true_eq, decide_eq_false_iff_not, Int.not_lt, Int.not_le, ne_eq, Decidable.not_not, ← List.length_eq_zero_iff] at s7_6
          refine WL.skip rfl rfl rfl ?_
          refine WL.skip rfl rfl rfl ?_
          refine WL.skip rfl rfl rfl ?_
          refine WL.q (oq_pick_t rfl rfl) rfl rfl rfl ?_
          refine WL.q (oq_pick_t rfl rfl) rfl rfl rfl ?_
          refine WL.q (oq_move rfl) rfl rfl rfl ?_
          refine WL.qc (oq_call (L2.eAwake) call10 rfl) rfl rfl rfl ?_
          refine WL.q (oq_pick_t rfl rfl) rfl rfl rfl ?_
          refine WL.q (oq_assign rfl) rfl rfl rfl ?_
          refine WL.nil ?_
          refine WE.then_normal ?_
          refine WC.sub (fr' := [(2, _)]) ?_ ⟨rfl, trivial⟩
          refine WC.ret ?_
          refine WE.endR (.inl rfl) (res1 Tryd.results3 rfl) ?_
          -- end 2
          first | rfl | (exfalso; simp_all; done)
        ·
          try simp only [Bool.not_eq_eq_eq_not, Bool.not_true, Bool.not_false, decide_eq_true_eq, decide_eq_false_iff_not, Int.not_lt, Int.not_le, ne_eq, Decidable.not_not, ← List.length_eq_zero_iff] at s7_6
          refine WL.q (oq_move rfl) rfl rfl rfl ?_
          refine WL.q (oq_move rfl) rfl rfl rfl ?_
          refine WL.q (oq_seql rfl rfl) rfl rfl rfl ?_
          refine WL.q (oq_pick_f rfl rfl) rfl rfl rfl ?_
          refine WL.q (oq_pick_t rfl rfl) rfl rfl rfl ?_
          refine WL.q (oq_move rfl) rfl rfl rfl ?_
          refine WL.split 36 rfl (fun s7_12 => ?_) (fun s7_12 => ?_)
          ·
            try simp only [Bool.not_eq_eq_eq_not, Bool.not_true, Bool.not_false, decide_eq_true_eq, decide_eq_false_iff_not, Int.not_lt, Int.not_le, ne_eq, Decidable.not_not, ← List.length_eq_zero_iff] at s7_12
            refine WL.qc (oq_call (L2.eAwake) call10 rfl) rfl rfl rfl ?_
            refine WL.q (oq_pick_t rfl rfl) rfl rfl rfl ?_
            refine WL.q (oq_assign rfl) rfl rfl rfl ?_
            refine WL.nil ?_
            refine WE.then_normal ?_
            refine WC.sub (fr' := [(2, _)]) ?_ ⟨rfl, trivial⟩
            refine WC.ret ?_
            refine WE.endR (.inl rfl) (res1 Tryd.results3 rfl) ?_
            -- end 3
            first | rfl | (exfalso; simp_all; done)
          ·
            try simp only [Bool.not_eq_eq_eq_not, Bool.not_true, Bool.not_false, decide_eq_true_eq, decide_eq_false_iff_not, Int.not_lt, Int.not_le, ne_eq, Decidable.not_not, ← List.length_eq_zero_iff] at s7_12
            refine WL.skip rfl rfl rfl ?_
            refine WL.q (oq_pick_f rfl rfl) rfl rfl rfl ?_
            refine WL.q (oq_assign rfl) rfl rfl rfl ?_
            refine WL.nil ?_
            refine WE.then_normal ?_
            refine WC.sub (fr' := [(2, _)]) ?_ ⟨rfl, trivial⟩
            refine WC.ret ?_
            refine WE.endR (.inl rfl) (res1 Tryd.results3 rfl) ?_
            -- end 4
            first | rfl | (exfalso; simp_all; done)
      ·
        try simp only [Bool.not_eq_eq_eq_not, Bool.not_true, Bool.not_false, decide_eq_true_eq, decide_eq_false_iff_not, Int.not_lt, Int.not_le, ne_eq, Decidable.not_not, ← List.length_eq_zero_iff] at s7_3
        refine WL.skip rfl rfl rfl ?_
        refine WL.skip rfl rfl rfl ?_
        refine WL.skip rfl rfl rfl ?_
        refine WL.skip rfl rfl rfl ?_
        refine WL.skip rfl rfl rfl ?_
        refine WL.skip rfl rfl rfl ?_
        refine WL.skip rfl rfl rfl ?_
        refine WL.q (oq_pick_f rfl rfl) rfl rfl rfl ?_
        refine WL.q (oq_move rfl) rfl rfl rfl ?_
        refine WL.skip rfl rfl rfl ?_
        refine WL.q (oq_pick_f rfl rfl) rfl rfl rfl ?_
        refine WL.q (oq_assign rfl) rfl rfl rfl ?_
        refine WL.nil ?_
        refine WE.then_normal ?_
        refine WC.sub (fr' := [(2, _)]) ?_ ⟨rfl, trivial⟩
        refine WC.ret ?_
        refine WE.endR (.inl rfl) (res1 Tryd.results3 rfl) ?_
        -- end 5
        first | rfl | (exfalso; simp_all; done)

end K2
end Go.Proofs.YtcgpajknehhdgaaDoor
