/- Walks of a step: what is there, and what is put at its ends. -/
import Derived.Test.YtclafiglpcjhdaaGreatS0
namespace Go.Proofs.YtclafiglpcjhdaaGreat
open Go Go.RowKit V S0
set_option linter.unusedSimpArgs false
set_option linter.unusedVariables false
set_option maxRecDepth 10000
namespace S1
theorem call114 : Callable Tryz.prog 114 := ⟨_, Tryz.func114, rfl, by kernel_rfl⟩
theorem call115 : Callable Tryz.prog 115 := ⟨_, Tryz.func115, rfl, by kernel_rfl⟩
theorem call116 : Callable Tryz.prog 116 := ⟨_, Tryz.func116, rfl, by kernel_rfl⟩
theorem call117 : Callable Tryz.prog 117 := ⟨_, Tryz.func117, rfl, by kernel_rfl⟩
theorem call118 : Callable Tryz.prog 118 := ⟨_, Tryz.func118, rfl, by kernel_rfl⟩
theorem flat104 : Flat Tryz.prog 104 := ⟨_, Tryz.underlying104, by simp⟩
theorem flat127 : Flat Tryz.prog 127 := ⟨_, Tryz.underlying127, by simp⟩
theorem flat146 : Flat Tryz.prog 146 := ⟨_, Tryz.underlying146, by simp⟩
theorem flat165 : Flat Tryz.prog 165 := ⟨_, Tryz.underlying165, by simp⟩
theorem flat183 : Flat Tryz.prog 183 := ⟨_, Tryz.underlying183, by simp⟩
theorem flat201 : Flat Tryz.prog 201 := ⟨_, Tryz.underlying201, by simp⟩
theorem flat204 : Flat Tryz.prog 204 := ⟨_, Tryz.underlying204, by simp⟩
theorem flat207 : Flat Tryz.prog 207 := ⟨_, Tryz.underlying207, by simp⟩
theorem flat210 : Flat Tryz.prog 210 := ⟨_, Tryz.underlying210, by simp⟩
theorem flat213 : Flat Tryz.prog 213 := ⟨_, Tryz.underlying213, by simp⟩
theorem ty104 : Ty Tryz.prog 104 .nilIface 1 16 := ty_of (by kernel_rfl)
theorem ty109 : Ty Tryz.prog 109 .nilIface 1 16 := ty_of (by kernel_rfl)
theorem ty127 : Ty Tryz.prog 127 .nilIface 1 16 := ty_of (by kernel_rfl)
theorem ty132 : Ty Tryz.prog 132 .nilIface 1 16 := ty_of (by kernel_rfl)
theorem ty146 : Ty Tryz.prog 146 .nilIface 1 16 := ty_of (by kernel_rfl)
theorem ty151 : Ty Tryz.prog 151 .nilIface 1 16 := ty_of (by kernel_rfl)
theorem ty165 : Ty Tryz.prog 165 .nilIface 1 16 := ty_of (by kernel_rfl)
theorem ty169 : Ty Tryz.prog 169 .nilIface 1 16 := ty_of (by kernel_rfl)
theorem ty183 : Ty Tryz.prog 183 .nilIface 1 16 := ty_of (by kernel_rfl)
theorem ty187 : Ty Tryz.prog 187 .nilIface 1 16 := ty_of (by kernel_rfl)
theorem ty201 : Ty Tryz.prog 201 (.pointer none) 1 8 := ty_of (by kernel_rfl)
theorem ty204 : Ty Tryz.prog 204 (.pointer none) 1 8 := ty_of (by kernel_rfl)
theorem ty207 : Ty Tryz.prog 207 (.pointer none) 1 8 := ty_of (by kernel_rfl)
theorem ty210 : Ty Tryz.prog 210 (.pointer none) 1 8 := ty_of (by kernel_rfl)
theorem ty213 : Ty Tryz.prog 213 (.pointer none) 1 8 := ty_of (by kernel_rfl)
theorem ty219 : Ty Tryz.prog 219 (.agg #[.nilIface, .nilIface]) 2 32 := ty_of (by kernel_rfl)
theorem ty227 : Ty Tryz.prog 227 (.agg #[.nilIface, .nilIface]) 2 32 := ty_of (by kernel_rfl)
theorem ty234 : Ty Tryz.prog 234 (.agg #[.nilIface, .nilIface]) 2 32 := ty_of (by kernel_rfl)
theorem ty241 : Ty Tryz.prog 241 (.agg #[.nilIface, .nilIface]) 2 32 := ty_of (by kernel_rfl)
theorem ty248 : Ty Tryz.prog 248 (.agg #[.nilIface, .nilIface]) 2 32 := ty_of (by kernel_rfl)
theorem ty254 : Ty Tryz.prog 254 (.agg #[(S [])]) 1 16 := ty_of (by kernel_rfl)
theorem conc201 : Conc Tryz.prog 201 := ⟨_, Tryz.underlying201, by simp⟩
theorem conc204 : Conc Tryz.prog 204 := ⟨_, Tryz.underlying204, by simp⟩
theorem conc207 : Conc Tryz.prog 207 := ⟨_, Tryz.underlying207, by simp⟩
theorem conc210 : Conc Tryz.prog 210 := ⟨_, Tryz.underlying210, by simp⟩
theorem conc213 : Conc Tryz.prog 213 := ⟨_, Tryz.underlying213, by simp⟩
theorem conc252 : Conc Tryz.prog 252 := ⟨_, Tryz.underlying252, by simp⟩
theorem str219 : Str Tryz.prog 219 #[(0, 1), (1, 1)] := ⟨_, Tryz.underlying219, fun w => by kernel_rfl⟩
theorem str227 : Str Tryz.prog 227 #[(0, 1), (1, 1)] := ⟨_, Tryz.underlying227, fun w => by kernel_rfl⟩
theorem str234 : Str Tryz.prog 234 #[(0, 1), (1, 1)] := ⟨_, Tryz.underlying234, fun w => by kernel_rfl⟩
theorem str241 : Str Tryz.prog 241 #[(0, 1), (1, 1)] := ⟨_, Tryz.underlying241, fun w => by kernel_rfl⟩
theorem str248 : Str Tryz.prog 248 #[(0, 1), (1, 1)] := ⟨_, Tryz.underlying248, fun w => by kernel_rfl⟩
theorem str254 : Str Tryz.prog 254 #[(0, 1)] := ⟨_, Tryz.underlying254, fun w => by kernel_rfl⟩
theorem fld203_0 : Fld Tryz.prog 203 0 0 201 := fld_of Tryz.underlying203 rfl rfl rfl ty201 (by decide)
theorem fld203_1 : Fld Tryz.prog 203 1 1 201 := fld_of Tryz.underlying203 rfl rfl rfl ty201 (by decide)
theorem fld206_0 : Fld Tryz.prog 206 0 0 204 := fld_of Tryz.underlying206 rfl rfl rfl ty204 (by decide)
theorem fld206_1 : Fld Tryz.prog 206 1 1 204 := fld_of Tryz.underlying206 rfl rfl rfl ty204 (by decide)
theorem fld209_0 : Fld Tryz.prog 209 0 0 207 := fld_of Tryz.underlying209 rfl rfl rfl ty207 (by decide)
theorem fld209_1 : Fld Tryz.prog 209 1 1 207 := fld_of Tryz.underlying209 rfl rfl rfl ty207 (by decide)
theorem fld212_0 : Fld Tryz.prog 212 0 0 210 := fld_of Tryz.underlying212 rfl rfl rfl ty210 (by decide)
theorem fld212_1 : Fld Tryz.prog 212 1 1 210 := fld_of Tryz.underlying212 rfl rfl rfl ty210 (by decide)
theorem fld215_0 : Fld Tryz.prog 215 0 0 213 := fld_of Tryz.underlying215 rfl rfl rfl ty213 (by decide)
theorem fld215_1 : Fld Tryz.prog 215 1 1 213 := fld_of Tryz.underlying215 rfl rfl rfl ty213 (by decide)
theorem fld219_0 : Fld Tryz.prog 219 0 0 109 := fld_of Tryz.underlying219 rfl rfl rfl ty109 (by decide)
theorem fld219_1 : Fld Tryz.prog 219 1 1 104 := fld_of Tryz.underlying219 rfl rfl rfl ty104 (by decide)
theorem fld227_0 : Fld Tryz.prog 227 0 0 132 := fld_of Tryz.underlying227 rfl rfl rfl ty132 (by decide)
theorem fld227_1 : Fld Tryz.prog 227 1 1 127 := fld_of Tryz.underlying227 rfl rfl rfl ty127 (by decide)
theorem fld234_0 : Fld Tryz.prog 234 0 0 151 := fld_of Tryz.underlying234 rfl rfl rfl ty151 (by decide)
theorem fld234_1 : Fld Tryz.prog 234 1 1 146 := fld_of Tryz.underlying234 rfl rfl rfl ty146 (by decide)
theorem fld241_0 : Fld Tryz.prog 241 0 0 169 := fld_of Tryz.underlying241 rfl rfl rfl ty169 (by decide)
theorem fld241_1 : Fld Tryz.prog 241 1 1 165 := fld_of Tryz.underlying241 rfl rfl rfl ty165 (by decide)
theorem fld248_0 : Fld Tryz.prog 248 0 0 187 := fld_of Tryz.underlying248 rfl rfl rfl ty187 (by decide)
theorem fld248_1 : Fld Tryz.prog 248 1 1 183 := fld_of Tryz.underlying248 rfl rfl rfl ty183 (by decide)
/-- errors.New -/
theorem errNew (m : List UInt8) : FnA Tryz.prog 113 [S m] [] (fun v N => ∃ k u, v = .iface k u) := by
  refine FnA.enter0 (n := 7) Tryz.func113 rfl rfl fun w0 => ?_
  refine WC.sub (fr' := [(0, _)]) ?_ ⟨rfl, trivial⟩
  refine WC.seq (WC.region ?_)
  refine WL.q (oq_assign rfl) rfl rfl rfl ?_
  refine WL.nil (WE.then_normal (WC.sub (fr' := [(0, _)]) ?_ ⟨rfl, trivial⟩))
  refine WC.seq (WC.region ?_)
  refine WL.q (oq_move rfl) rfl rfl rfl ?_
  refine WL.q (oq_build #[_] str254 ty254 rfl rfl) rfl rfl rfl ?_
  refine WL.box rfl rfl rfl fun p hp => ?_
  refine WL.q (oq_makeI conc252 rfl) rfl rfl rfl ?_
  refine WL.q (oq_assign rfl) rfl rfl rfl ?_
  refine WL.nil (WE.then_normal (WC.sub (fr' := [(2, _)]) ?_ ⟨rfl, trivial⟩))
  refine WC.ret ?_
  refine WE.endA0 (.inl rfl) (res1 Tryz.results113 rfl) ?_ (fresh1 hp)
  -- end 0
  exact ⟨_, _, rfl⟩


theorem got0 (base sb : Nat) (id : List UInt8) (items : List Nd) : FnW Tryz.prog 114 [Pt sb 0, S id] base [[(sb, .cells #[(hdp (items)), (lastp (items))] 203 (0, 0))], ch 201 219 217 items .nilIface] (fun v Hs => GotV id items v ∧ Hs = [[(sb, .cells #[(hdp (items)), (lastp (items))] 203 (0, 0))], ch 201 219 217 items .nilIface]) := by
  cases items with
  | nil => exact (getN0 base sb id).reg (by simp [ch, hdp, lastp]) (fun v Hs h => ⟨_, ⟨h.1, rfl⟩, by rw [h.2]; simp [ch, hdp, lastp]⟩)
  | cons x r => exact getC0 base sb (x :: r) x r rfl id
theorem gotH0 (base sb : Nat) (id : List UInt8) (A B : List Nd) (x : Nd) (items : List Nd) (hit : items = A ++ x :: B) (hx : x.id = id) (hA : ∀ y ∈ A, y.id ≠ id) : FnW Tryz.prog 114 [Pt sb 0, S id] base [[(sb, .cells #[(hdp (items)), (lastp (items))] 203 (0, 0))], ch 201 219 217 items .nilIface] (fun v Hs => v = .tuple #[Pt x.b 0, lastp A] ∧ Hs = [[(sb, .cells #[(hdp (items)), (lastp (items))] 203 (0, 0))], ch 201 219 217 items .nilIface]) :=
  (got0 base sb id items).mono fun v Hs h => ⟨by have h1 := h.1; rw [hit] at h1; exact got_hit h1 hx hA, h.2⟩
theorem gotM0 (base sb : Nat) (id : List UInt8) (items : List Nd) (hn : ∀ y ∈ items, y.id ≠ id) : FnW Tryz.prog 114 [Pt sb 0, S id] base [[(sb, .cells #[(hdp (items)), (lastp (items))] 203 (0, 0))], ch 201 219 217 items .nilIface] (fun v Hs => v = .tuple #[.pointer none, lastp items] ∧ Hs = [[(sb, .cells #[(hdp (items)), (lastp (items))] 203 (0, 0))], ch 201 219 217 items .nilIface]) :=
  (got0 base sb id items).mono fun v Hs h => ⟨got_miss h.1 hn, h.2⟩
/-- (*given.example/pub-tinwright/pub/smithy/middleware.InitializeStep).Get -/
theorem GetH0 (base sb : Nat) (A B : List Nd) (x : Nd) (items : List Nd) (hit : items = A ++ x :: B) (hA : ∀ y ∈ A, y.id ≠ x.id)  : FnW Tryz.prog 52 [Pt sb 0, S x.id] base [[(sb, .cells #[(hdp (items)), (lastp (items))] 203 (0, 0))], ch 201 219 217 items .nilIface] (fun v Hs => v = .tuple #[wv 217 x, .bool true] ∧ Hs = [[(sb, .cells #[(hdp (items)), (lastp (items))] 203 (0, 0))], ch 201 219 217 items .nilIface]) := by
  refine FnW.enter (n := 20) Tryz.func52 rfl rfl fun w0 R0 hbase => ?_
  subst hbase
  show WC _ _ _ _ _ _ _ ([[(sb, .cells #[(hdp (items)), (lastp (items))] 203 (0, 0))], ch 201 219 217 items .nilIface, R0])
  refine WC.sub (fr' := [(0, _), (1, _)]) ?_ ⟨rfl, rfl, trivial⟩
  refine WC.seq (WC.region ?_)
  refine WL.q (oq_assign rfl) rfl rfl rfl ?_
  refine WL.q (oq_assign rfl) rfl rfl rfl ?_
  refine WL.nil (WE.then_normal (WC.sub (fr' := [(0, _), (1, _)]) ?_ ⟨rfl, rfl, trivial⟩))
  refine WC.seq (WC.region ?_)
  refine WL.q (oq_move rfl) rfl rfl rfl ?_
  refine WL.q (oq_move rfl) rfl rfl rfl ?_
  refine WL.f1 ?_
  refine WL.f1 ?_
  refine WL.callW2 (gotH0 _ sb x.id A B x items hit rfl hA) call114 rfl rfl rfl fun v1_2 Hs1_2 hR1_2 => ?_
  obtain ⟨rfl, rfl⟩ := hR1_2
  refine WL.to2 ?_
  refine WL.q (oq_move rfl) rfl rfl rfl ?_
  refine WL.q (oq_extract rfl rfl) rfl rfl rfl ?_
  refine WL.q (oq_extract rfl rfl) rfl rfl rfl ?_
  refine WL.q (oq_assign rfl) rfl rfl rfl ?_
  refine WL.q (oq_assign rfl) rfl rfl rfl ?_
  refine WL.nil (WE.then_normal (WC.sub (fr' := [(6, _)]) ?_ ⟨rfl, trivial⟩))
  refine WC.seq (WC.seq (WC.region ?_))
  refine WL.q (oq_move rfl) rfl rfl rfl ?_
  refine WL.q (oq_peql Tryz.underlying201 rfl rfl) rfl rfl rfl ?_
  refine WL.nil (WE.then_normal (WC.sub (fr' := [(6, _), (15, _)]) ?_ ⟨rfl, rfl, trivial⟩))
  refine WC.cond rfl (fun q2 => ?_) (fun q2 => ?_)
  ·
    try simp only [Z1, Z2, Z3, Z4, Z5, Z6, Z7, Z8, Z9, Z0] at q2
    simp at q2
  ·
    try simp only [Z1, Z2, Z3, Z4, Z5, Z6, Z7, Z8, Z9, Z0] at q2
    refine WC.skip (WE.then_normal (WC.sub (fr' := [(6, _)]) ?_ ⟨rfl, trivial⟩))
    refine WC.seq (WC.region ?_)
    refine WL.q (oq_move rfl) rfl rfl rfl ?_
    refine WL.q (oq_nilCheck rfl) rfl rfl rfl ?_
    refine WL.q (oq_fieldAddr fld219_1 rfl) rfl rfl rfl ?_
    refine WL.q (oq_load flat104 rfl (.tail _ (.head _)) (by rw [hit]; exact ch_mem _ _ _ _) rfl) rfl rfl rfl ?_
    refine WL.q (oq_assign rfl) rfl rfl rfl ?_
    refine WL.q (oq_assign rfl) rfl rfl rfl ?_
    refine WL.nil (WE.then_normal (WC.sub (fr' := [(4, _), (5, _)]) ?_ ⟨rfl, rfl, trivial⟩))
    refine WC.ret ?_
    refine WE.endW2 (.inl rfl) (res2 Tryz.results52 rfl rfl) ?_
    -- end 0
    exact ⟨rfl, rfl⟩

/-- (*given.example/pub-tinwright/pub/smithy/middleware.InitializeStep).Get -/
theorem GetM0 (base sb : Nat) (id : List UInt8) (items : List Nd) (hn : ∀ y ∈ items, y.id ≠ id) : FnW Tryz.prog 52 [Pt sb 0, S id] base [[(sb, .cells #[(hdp (items)), (lastp (items))] 203 (0, 0))], ch 201 219 217 items .nilIface] (fun v Hs => v = .tuple #[.nilIface, .bool false] ∧ Hs = [[(sb, .cells #[(hdp (items)), (lastp (items))] 203 (0, 0))], ch 201 219 217 items .nilIface]) := by
  refine FnW.enter (n := 20) Tryz.func52 rfl rfl fun w0 R0 hbase => ?_
  subst hbase
  show WC _ _ _ _ _ _ _ ([[(sb, .cells #[(hdp (items)), (lastp (items))] 203 (0, 0))], ch 201 219 217 items .nilIface, R0])
  refine WC.sub (fr' := [(0, _), (1, _)]) ?_ ⟨rfl, rfl, trivial⟩
  refine WC.seq (WC.region ?_)
  refine WL.q (oq_assign rfl) rfl rfl rfl ?_
  refine WL.q (oq_assign rfl) rfl rfl rfl ?_
  refine WL.nil (WE.then_normal (WC.sub (fr' := [(0, _), (1, _)]) ?_ ⟨rfl, rfl, trivial⟩))
  refine WC.seq (WC.region ?_)
  refine WL.q (oq_move rfl) rfl rfl rfl ?_
  refine WL.q (oq_move rfl) rfl rfl rfl ?_
  refine WL.f1 ?_
  refine WL.f1 ?_
  refine WL.callW2 (gotM0 _ sb id items hn) call114 rfl rfl rfl fun v1_2 Hs1_2 hR1_2 => ?_
  obtain ⟨rfl, rfl⟩ := hR1_2
  refine WL.to2 ?_
  refine WL.q (oq_move rfl) rfl rfl rfl ?_
  refine WL.q (oq_extract rfl rfl) rfl rfl rfl ?_
  refine WL.q (oq_extract rfl rfl) rfl rfl rfl ?_
  refine WL.q (oq_assign rfl) rfl rfl rfl ?_
  refine WL.q (oq_assign rfl) rfl rfl rfl ?_
  refine WL.nil (WE.then_normal (WC.sub (fr' := [(6, _)]) ?_ ⟨rfl, trivial⟩))
  refine WC.seq (WC.seq (WC.region ?_))
  refine WL.q (oq_move rfl) rfl rfl rfl ?_
  refine WL.q (oq_peql Tryz.underlying201 rfl rfl) rfl rfl rfl ?_
  refine WL.nil (WE.then_normal (WC.sub (fr' := [(6, _), (15, _)]) ?_ ⟨rfl, rfl, trivial⟩))
  refine WC.cond rfl (fun q2 => ?_) (fun q2 => ?_)
  ·
    try simp only [Z1, Z2, Z3, Z4, Z5, Z6, Z7, Z8, Z9, Z0] at q2
    refine WC.seq (WC.region ?_)
    refine WL.q (oq_assign rfl) rfl rfl rfl ?_
    refine WL.q (oq_assign rfl) rfl rfl rfl ?_
    refine WL.nil (WE.then_normal (WC.sub (fr' := [(4, _), (5, _)]) ?_ ⟨rfl, rfl, trivial⟩))
    refine WC.ret (WE.then_ret ?_)
    refine WE.endW2 (.inl rfl) (res2 Tryz.results52 rfl rfl) ?_
    -- end 0
    exact ⟨rfl, rfl⟩
  ·
    try simp only [Z1, Z2, Z3, Z4, Z5, Z6, Z7, Z8, Z9, Z0] at q2
    simp at q2

/-- (*given.example/pub-tinwright/pub/smithy/middleware.InitializeStep).Clear -/
theorem Clear0 (base sb : Nat) (hv tv : Value) : FnW Tryz.prog 49 [Pt sb 0] base [[(sb, .cells #[hv, tv] 203 (0, 0))]] (fun v Hs => Hs = [[(sb, .cells #[.pointer none, .pointer none] 203 (0, 0))]]) := by
  refine FnW.enter (n := 8) Tryz.func49 rfl rfl fun w0 R0 hbase => ?_
  subst hbase
  show WC _ _ _ _ _ _ _ ([[(sb, .cells #[hv, tv] 203 (0, 0))], R0])
  refine WC.sub (fr' := [(0, _)]) ?_ ⟨rfl, trivial⟩
  refine WC.seq (WC.region ?_)
  refine WL.q (oq_move rfl) rfl rfl rfl ?_
  refine WL.q (oq_nilCheck rfl) rfl rfl rfl ?_
  refine WL.q (oq_fieldAddr fld203_0 rfl) rfl rfl rfl ?_
  refine WL.store1 #[_, _] ty201 rfl rfl (by first | rfl | exact OwS.one one_) (Nat.lt_of_lt_of_le (Nat.lt_succ_self _) (Nat.le_of_ble_eq_true rfl)) rfl rfl ?_
  refine WL.nil (WE.then_normal (WC.sub (fr' := [(0, _)]) ?_ ⟨rfl, trivial⟩))
  refine WC.region ?_
  refine WL.q (oq_move rfl) rfl rfl rfl ?_
  refine WL.q (oq_nilCheck rfl) rfl rfl rfl ?_
  refine WL.q (oq_fieldAddr fld203_1 rfl) rfl rfl rfl ?_
  refine WL.store1 #[_, _] ty201 rfl rfl (by first | rfl | exact OwS.one one_) (Nat.lt_of_lt_of_le (Nat.lt_succ_self _) (Nat.le_of_ble_eq_true rfl)) rfl rfl ?_
  refine WL.nil ?_
  refine WE.endW1 (.inr rfl) (res0 Tryz.results49) ?_
  -- end 0
  exact rfl

/-- (*given.example/pub-tinwright/pub/smithy/middleware.InitializeStep).Add -/
theorem addN0 (base sb : Nat) (id : List UInt8) (fv : Value) (pos : Int) : FnW Tryz.prog 42 [Pt sb 0, .iface 217 (.agg #[S id, fv]), I pos] base [[(sb, .cells #[.pointer none, .pointer none] 203 (0, 0))]] (fun v Hs => v = .nilIface ∧ ∃ e, base ≤ e ∧ Hs = [[(sb, .cells #[Pt e 0, Pt e 0] 203 (0, 0))], [(e, .cells #[.nilIface, .iface 217 (.agg #[S id, fv])] 219 (0, 0))]]) := by
  refine FnW.enter (n := 54) Tryz.func42 rfl rfl fun w0 R0 hbase => ?_
  subst hbase
  show WC _ _ _ _ _ _ _ ([[(sb, .cells #[.pointer none, .pointer none] 203 (0, 0))], R0])
  refine WC.sub (fr' := [(0, _), (1, _), (2, _)]) ?_ ⟨rfl, rfl, rfl, trivial⟩
  refine WC.seq (WC.region ?_)
  refine WL.q (oq_assign rfl) rfl rfl rfl ?_
  refine WL.nil (WE.then_normal (WC.sub (fr' := [(0, _), (1, _), (2, _)]) ?_ ⟨rfl, rfl, rfl, trivial⟩))
  refine WC.seq (WC.seq (WC.region ?_))
  refine WL.q (oq_move rfl) rfl rfl rfl ?_
  refine WL.q (oq_nilCheck rfl) rfl rfl rfl ?_
  refine WL.q (oq_fieldAddr fld203_0 rfl) rfl rfl rfl ?_
  refine WL.q (oq_load flat201 rfl (.head _) (List.mem_singleton.2 rfl) rfl) rfl rfl rfl ?_
  refine WL.q (oq_peql Tryz.underlying201 rfl rfl) rfl rfl rfl ?_
  refine WL.nil (WE.then_normal (WC.sub (fr' := [(0, _), (1, _), (2, _), (12, _)]) ?_ ⟨rfl, rfl, rfl, rfl, trivial⟩))
  refine WC.cond rfl (fun q1 => ?_) (fun q1 => ?_)
  ·
    try simp only [Z1, Z2, Z3, Z4, Z5, Z6, Z7, Z8, Z9, Z0] at q1
    refine WC.seq (WC.region ?_)
    refine WL.q (oq_move rfl) rfl rfl rfl ?_
    refine WL.q (oq_move rfl) rfl rfl rfl ?_
    refine WL.q (oq_build #[_, _] str219 ty219 rfl rfl) rfl rfl rfl ?_
    refine WL.box rfl rfl rfl fun e he => ?_
    refine WL.q (oq_nilCheck rfl) rfl rfl rfl ?_
    refine WL.q (oq_fieldAddr fld203_0 rfl) rfl rfl rfl ?_
    refine WL.f1 ?_
    refine WL.store1 #[_, _] ty201 rfl rfl (by first | rfl | exact OwS.one one_) (Nat.lt_of_lt_of_le (Nat.lt_succ_self _) (Nat.le_of_ble_eq_true rfl)) rfl rfl ?_
    refine WL.nil (WE.then_normal (WC.sub (fr' := [(0, _)]) ?_ ⟨rfl, trivial⟩))
    refine WC.seq (WC.region ?_)
    refine WL.q (oq_move rfl) rfl rfl rfl ?_
    refine WL.q (oq_move rfl) rfl rfl rfl ?_
    refine WL.q (oq_nilCheck rfl) rfl rfl rfl ?_
    refine WL.q (oq_fieldAddr fld203_0 rfl) rfl rfl rfl ?_
    refine WL.q (oq_load flat201 rfl (.head _) (List.mem_singleton.2 rfl) rfl) rfl rfl rfl ?_
    refine WL.q (oq_nilCheck rfl) rfl rfl rfl ?_
    refine WL.q (oq_fieldAddr fld203_1 rfl) rfl rfl rfl ?_
    refine WL.store1 #[_, _] ty201 rfl rfl (by first | rfl | exact OwS.one one_) (Nat.lt_of_lt_of_le (Nat.lt_succ_self _) (Nat.le_of_ble_eq_true rfl)) rfl rfl ?_
    refine WL.nil (WE.then_normal (WC.sub (fr' := []) ?_ trivial))
    refine WC.seq (WC.region ?_)
    refine WL.q (oq_assign rfl) rfl rfl rfl ?_
    refine WL.nil (WE.then_normal (WC.sub (fr' := [(6, _)]) ?_ ⟨rfl, trivial⟩))
    refine WC.ret (WE.then_ret ?_)
    refine WE.endW2 (.inl rfl) (res1 Tryz.results42 rfl) ?_
    -- end 0
    exact ⟨rfl, e, he, rfl⟩
  ·
    try simp only [Z1, Z2, Z3, Z4, Z5, Z6, Z7, Z8, Z9, Z0] at q1
    simp at q1

/-- (*given.example/pub-tinwright/pub/smithy/middleware.InitializeStep).Add -/
theorem addB0 (base sb hb : Nat) (tv : Value) (id : List UInt8) (fv : Value) : FnW Tryz.prog 42 [Pt sb 0, .iface 217 (.agg #[S id, fv]), I 1] base [[(sb, .cells #[Pt hb 0, tv] 203 (0, 0))]] (fun v Hs => v = .nilIface ∧ ∃ e, base ≤ e ∧ Hs = [[(sb, .cells #[Pt e 0, tv] 203 (0, 0))], [(e, .cells #[.iface 201 (Pt hb 0), .iface 217 (.agg #[S id, fv])] 219 (0, 0))]]) := by
  refine FnW.enter (n := 54) Tryz.func42 rfl rfl fun w0 R0 hbase => ?_
  subst hbase
  show WC _ _ _ _ _ _ _ ([[(sb, .cells #[Pt hb 0, tv] 203 (0, 0))], R0])
  refine WC.sub (fr' := [(0, _), (1, _), (2, _)]) ?_ ⟨rfl, rfl, rfl, trivial⟩
  refine WC.seq (WC.region ?_)
  refine WL.q (oq_assign rfl) rfl rfl rfl ?_
  refine WL.nil (WE.then_normal (WC.sub (fr' := [(0, _), (1, _), (2, _)]) ?_ ⟨rfl, rfl, rfl, trivial⟩))
  refine WC.seq (WC.seq (WC.region ?_))
  refine WL.q (oq_move rfl) rfl rfl rfl ?_
  refine WL.q (oq_nilCheck rfl) rfl rfl rfl ?_
  refine WL.q (oq_fieldAddr fld203_0 rfl) rfl rfl rfl ?_
  refine WL.q (oq_load flat201 rfl (.head _) (List.mem_singleton.2 rfl) rfl) rfl rfl rfl ?_
  refine WL.q (oq_peql Tryz.underlying201 rfl rfl) rfl rfl rfl ?_
  refine WL.nil (WE.then_normal (WC.sub (fr' := [(0, _), (1, _), (2, _), (12, _)]) ?_ ⟨rfl, rfl, rfl, rfl, trivial⟩))
  refine WC.cond rfl (fun q1 => ?_) (fun q1 => ?_)
  ·
    try simp only [Z1, Z2, Z3, Z4, Z5, Z6, Z7, Z8, Z9, Z0] at q1
    first | (simp at q1; done) | (simp at q5; done) | (exfalso; omega)
  ·
    try simp only [Z1, Z2, Z3, Z4, Z5, Z6, Z7, Z8, Z9, Z0] at q1
    refine WC.skip (WE.then_normal (WC.sub (fr' := [(0, _), (1, _), (2, _)]) ?_ ⟨rfl, rfl, rfl, trivial⟩))
    refine WC.seq (WC.seq (WC.region ?_))
    refine WL.q (oq_move rfl) rfl rfl rfl ?_
    refine WL.q (oq_eql rfl rfl) rfl rfl rfl ?_
    refine WL.nil (WE.then_normal (WC.sub (fr' := [(0, _), (1, _), (27, _)]) ?_ ⟨rfl, rfl, rfl, trivial⟩))
    refine WC.cond rfl (fun q5 => ?_) (fun q5 => ?_)
    ·
      try simp only [Z1, Z2, Z3, Z4, Z5, Z6, Z7, Z8, Z9, Z0] at q5
      refine WC.region ?_
      refine WL.q (oq_move rfl) rfl rfl rfl ?_
      refine WL.q (oq_move rfl) rfl rfl rfl ?_
      refine WL.q (oq_nilCheck rfl) rfl rfl rfl ?_
      refine WL.q (oq_fieldAddr fld203_0 rfl) rfl rfl rfl ?_
      refine WL.q (oq_load flat201 rfl (.head _) (List.mem_singleton.2 rfl) rfl) rfl rfl rfl ?_
      refine WL.q (oq_makeI conc201 rfl) rfl rfl rfl ?_
      refine WL.q (oq_move rfl) rfl rfl rfl ?_
      refine WL.q (oq_build #[_, _] str219 ty219 rfl rfl) rfl rfl rfl ?_
      refine WL.box rfl rfl rfl fun e he => ?_
      refine WL.q (oq_nilCheck rfl) rfl rfl rfl ?_
      refine WL.q (oq_fieldAddr fld203_0 rfl) rfl rfl rfl ?_
      refine WL.f1 ?_
      refine WL.store1 #[_, _] ty201 rfl rfl (by first | rfl | exact OwS.one one_) (Nat.lt_of_lt_of_le (Nat.lt_succ_self _) (Nat.le_of_ble_eq_true rfl)) rfl rfl ?_
      refine WL.nil (WE.then_normal (WC.sub (fr' := []) ?_ trivial))
      refine WC.seq (WC.region ?_)
      refine WL.q (oq_assign rfl) rfl rfl rfl ?_
      refine WL.nil (WE.then_normal (WC.sub (fr' := [(6, _)]) ?_ ⟨rfl, trivial⟩))
      refine WC.ret ?_
      refine WE.endW2 (.inl rfl) (res1 Tryz.results42 rfl) ?_
      -- end 0
      exact ⟨rfl, e, he, rfl⟩
    ·
      try simp only [Z1, Z2, Z3, Z4, Z5, Z6, Z7, Z8, Z9, Z0] at q5
      first | (simp at q1; done) | (simp at q5; done) | (exfalso; omega)

/-- (*given.example/pub-tinwright/pub/smithy/middleware.InitializeStep).Add -/
theorem addA0 (base sb hb lb : Nat) (lw : Value) (id : List UInt8) (fv : Value) : FnW Tryz.prog 42 [Pt sb 0, .iface 217 (.agg #[S id, fv]), I 0] base [[(sb, .cells #[Pt hb 0, Pt lb 0] 203 (0, 0))], [(lb, .cells #[.nilIface, lw] 219 (0, 0))]] (fun v Hs => v = .nilIface ∧ ∃ e, base ≤ e ∧ Hs = [[(sb, .cells #[Pt hb 0, Pt e 0] 203 (0, 0))], [(lb, .cells #[.iface 201 (Pt e 0), lw] 219 (0, 0))], [(e, .cells #[.nilIface, .iface 217 (.agg #[S id, fv])] 219 (0, 0))]]) := by
  refine FnW.enter (n := 54) Tryz.func42 rfl rfl fun w0 R0 hbase => ?_
  subst hbase
  show WC _ _ _ _ _ _ _ ([[(sb, .cells #[Pt hb 0, Pt lb 0] 203 (0, 0))], [(lb, .cells #[.nilIface, lw] 219 (0, 0))], R0])
  refine WC.sub (fr' := [(0, _), (1, _), (2, _)]) ?_ ⟨rfl, rfl, rfl, trivial⟩
  refine WC.seq (WC.region ?_)
  refine WL.q (oq_assign rfl) rfl rfl rfl ?_
  refine WL.nil (WE.then_normal (WC.sub (fr' := [(0, _), (1, _), (2, _)]) ?_ ⟨rfl, rfl, rfl, trivial⟩))
  refine WC.seq (WC.seq (WC.region ?_))
  refine WL.q (oq_move rfl) rfl rfl rfl ?_
  refine WL.q (oq_nilCheck rfl) rfl rfl rfl ?_
  refine WL.q (oq_fieldAddr fld203_0 rfl) rfl rfl rfl ?_
  refine WL.q (oq_load flat201 rfl (.head _) (List.mem_singleton.2 rfl) rfl) rfl rfl rfl ?_
  refine WL.q (oq_peql Tryz.underlying201 rfl rfl) rfl rfl rfl ?_
  refine WL.nil (WE.then_normal (WC.sub (fr' := [(0, _), (1, _), (2, _), (12, _)]) ?_ ⟨rfl, rfl, rfl, rfl, trivial⟩))
  refine WC.cond rfl (fun q1 => ?_) (fun q1 => ?_)
  ·
    try simp only [Z1, Z2, Z3, Z4, Z5, Z6, Z7, Z8, Z9, Z0] at q1
    first | (simp at q1; done) | (simp at q5; done) | (exfalso; omega)
  ·
    try simp only [Z1, Z2, Z3, Z4, Z5, Z6, Z7, Z8, Z9, Z0] at q1
    refine WC.skip (WE.then_normal (WC.sub (fr' := [(0, _), (1, _), (2, _)]) ?_ ⟨rfl, rfl, rfl, trivial⟩))
    refine WC.seq (WC.seq (WC.region ?_))
    refine WL.q (oq_move rfl) rfl rfl rfl ?_
    refine WL.q (oq_eql rfl rfl) rfl rfl rfl ?_
    refine WL.nil (WE.then_normal (WC.sub (fr' := [(0, _), (1, _), (27, _)]) ?_ ⟨rfl, rfl, rfl, trivial⟩))
    refine WC.cond rfl (fun q5 => ?_) (fun q5 => ?_)
    ·
      try simp only [Z1, Z2, Z3, Z4, Z5, Z6, Z7, Z8, Z9, Z0] at q5
      first | (simp at q1; done) | (simp at q5; done) | (exfalso; omega)
    ·
      try simp only [Z1, Z2, Z3, Z4, Z5, Z6, Z7, Z8, Z9, Z0] at q5
      refine WC.seq (WC.region ?_)
      refine WL.q (oq_move rfl) rfl rfl rfl ?_
      refine WL.q (oq_build #[_, _] str219 ty219 rfl rfl) rfl rfl rfl ?_
      refine WL.box rfl rfl rfl fun e he => ?_
      refine WL.q (oq_assign rfl) rfl rfl rfl ?_
      refine WL.nil (WE.then_normal (WC.sub (fr' := [(0, _), (7, _)]) ?_ ⟨rfl, rfl, trivial⟩))
      refine WC.seq (WC.region ?_)
      refine WL.q (oq_move rfl) rfl rfl rfl ?_
      refine WL.q (oq_nilCheck rfl) rfl rfl rfl ?_
      refine WL.q (oq_fieldAddr fld203_1 rfl) rfl rfl rfl ?_
      refine WL.q (oq_load flat201 rfl (.tail _ (.head _)) (List.mem_singleton.2 rfl) rfl) rfl rfl rfl ?_
      refine WL.q (oq_move rfl) rfl rfl rfl ?_
      refine WL.q (oq_makeI conc201 rfl) rfl rfl rfl ?_
      refine WL.q (oq_nilCheck rfl) rfl rfl rfl ?_
      refine WL.q (oq_fieldAddr fld219_0 rfl) rfl rfl rfl ?_
      refine WL.f2 ?_
      refine WL.store1 #[_, _] ty109 rfl rfl (by first | rfl | exact OwS.one one_) (Nat.lt_of_lt_of_le (Nat.lt_succ_self _) (Nat.le_of_ble_eq_true rfl)) rfl rfl ?_
      refine WL.nil (WE.then_normal (WC.sub (fr' := [(0, _), (7, _)]) ?_ ⟨rfl, rfl, trivial⟩))
      refine WC.region ?_
      refine WL.q (oq_move rfl) rfl rfl rfl ?_
      refine WL.q (oq_move rfl) rfl rfl rfl ?_
      refine WL.q (oq_nilCheck rfl) rfl rfl rfl ?_
      refine WL.q (oq_fieldAddr fld203_1 rfl) rfl rfl rfl ?_
      refine WL.f2 ?_
      refine WL.store1 #[_, _] ty201 rfl rfl (by first | rfl | exact OwS.one one_) (Nat.lt_of_lt_of_le (Nat.lt_succ_self _) (Nat.le_of_ble_eq_true rfl)) rfl rfl ?_
      refine WL.nil (WE.then_normal (WC.sub (fr' := []) ?_ trivial))
      refine WC.seq (WC.region ?_)
      refine WL.q (oq_assign rfl) rfl rfl rfl ?_
      refine WL.nil (WE.then_normal (WC.sub (fr' := [(6, _)]) ?_ ⟨rfl, trivial⟩))
      refine WC.ret ?_
      refine WE.endW3 (.inl rfl) (res1 Tryz.results42 rfl) ?_
      -- end 0
      exact ⟨rfl, e, he, rfl⟩


theorem got1 (base sb : Nat) (nr : Value) (id : List UInt8) (items : List Nd) : FnW Tryz.prog 115 [Pt sb 0, S id] base [[(sb, .cells #[(hdp (items)), (lastp (items)), nr] 206 (0, 0))], ch 204 227 225 items .nilIface] (fun v Hs => GotV id items v ∧ Hs = [[(sb, .cells #[(hdp (items)), (lastp (items)), nr] 206 (0, 0))], ch 204 227 225 items .nilIface]) := by
  cases items with
  | nil => exact (getN1 base sb nr id).reg (by simp [ch, hdp, lastp]) (fun v Hs h => ⟨_, ⟨h.1, rfl⟩, by rw [h.2]; simp [ch, hdp, lastp]⟩)
  | cons x r => exact getC1 base sb nr (x :: r) x r rfl id
theorem gotH1 (base sb : Nat) (nr : Value) (id : List UInt8) (A B : List Nd) (x : Nd) (items : List Nd) (hit : items = A ++ x :: B) (hx : x.id = id) (hA : ∀ y ∈ A, y.id ≠ id) : FnW Tryz.prog 115 [Pt sb 0, S id] base [[(sb, .cells #[(hdp (items)), (lastp (items)), nr] 206 (0, 0))], ch 204 227 225 items .nilIface] (fun v Hs => v = .tuple #[Pt x.b 0, lastp A] ∧ Hs = [[(sb, .cells #[(hdp (items)), (lastp (items)), nr] 206 (0, 0))], ch 204 227 225 items .nilIface]) :=
  (got1 base sb nr id items).mono fun v Hs h => ⟨by have h1 := h.1; rw [hit] at h1; exact got_hit h1 hx hA, h.2⟩
theorem gotM1 (base sb : Nat) (nr : Value) (id : List UInt8) (items : List Nd) (hn : ∀ y ∈ items, y.id ≠ id) : FnW Tryz.prog 115 [Pt sb 0, S id] base [[(sb, .cells #[(hdp (items)), (lastp (items)), nr] 206 (0, 0))], ch 204 227 225 items .nilIface] (fun v Hs => v = .tuple #[.pointer none, lastp items] ∧ Hs = [[(sb, .cells #[(hdp (items)), (lastp (items)), nr] 206 (0, 0))], ch 204 227 225 items .nilIface]) :=
  (got1 base sb nr id items).mono fun v Hs h => ⟨got_miss h.1 hn, h.2⟩
/-- (*given.example/pub-tinwright/pub/smithy/middleware.SerializeStep).Get -/
theorem GetH1 (base sb : Nat) (nr : Value) (A B : List Nd) (x : Nd) (items : List Nd) (hit : items = A ++ x :: B) (hA : ∀ y ∈ A, y.id ≠ x.id)  : FnW Tryz.prog 67 [Pt sb 0, S x.id] base [[(sb, .cells #[(hdp (items)), (lastp (items)), nr] 206 (0, 0))], ch 204 227 225 items .nilIface] (fun v Hs => v = .tuple #[wv 225 x, .bool true] ∧ Hs = [[(sb, .cells #[(hdp (items)), (lastp (items)), nr] 206 (0, 0))], ch 204 227 225 items .nilIface]) := by
  refine FnW.enter (n := 20) Tryz.func67 rfl rfl fun w0 R0 hbase => ?_
  subst hbase
  show WC _ _ _ _ _ _ _ ([[(sb, .cells #[(hdp (items)), (lastp (items)), nr] 206 (0, 0))], ch 204 227 225 items .nilIface, R0])
  refine WC.sub (fr' := [(0, _), (1, _)]) ?_ ⟨rfl, rfl, trivial⟩
  refine WC.seq (WC.region ?_)
  refine WL.q (oq_assign rfl) rfl rfl rfl ?_
  refine WL.q (oq_assign rfl) rfl rfl rfl ?_
  refine WL.nil (WE.then_normal (WC.sub (fr' := [(0, _), (1, _)]) ?_ ⟨rfl, rfl, trivial⟩))
  refine WC.seq (WC.region ?_)
  refine WL.q (oq_move rfl) rfl rfl rfl ?_
  refine WL.q (oq_move rfl) rfl rfl rfl ?_
  refine WL.f1 ?_
  refine WL.f1 ?_
  refine WL.callW2 (gotH1 _ sb nr x.id A B x items hit rfl hA) call115 rfl rfl rfl fun v1_2 Hs1_2 hR1_2 => ?_
  obtain ⟨rfl, rfl⟩ := hR1_2
  refine WL.to2 ?_
  refine WL.q (oq_move rfl) rfl rfl rfl ?_
  refine WL.q (oq_extract rfl rfl) rfl rfl rfl ?_
  refine WL.q (oq_extract rfl rfl) rfl rfl rfl ?_
  refine WL.q (oq_assign rfl) rfl rfl rfl ?_
  refine WL.q (oq_assign rfl) rfl rfl rfl ?_
  refine WL.nil (WE.then_normal (WC.sub (fr' := [(6, _)]) ?_ ⟨rfl, trivial⟩))
  refine WC.seq (WC.seq (WC.region ?_))
  refine WL.q (oq_move rfl) rfl rfl rfl ?_
  refine WL.q (oq_peql Tryz.underlying204 rfl rfl) rfl rfl rfl ?_
  refine WL.nil (WE.then_normal (WC.sub (fr' := [(6, _), (15, _)]) ?_ ⟨rfl, rfl, trivial⟩))
  refine WC.cond rfl (fun q2 => ?_) (fun q2 => ?_)
  ·
    try simp only [Z1, Z2, Z3, Z4, Z5, Z6, Z7, Z8, Z9, Z0] at q2
    simp at q2
  ·
    try simp only [Z1, Z2, Z3, Z4, Z5, Z6, Z7, Z8, Z9, Z0] at q2
    refine WC.skip (WE.then_normal (WC.sub (fr' := [(6, _)]) ?_ ⟨rfl, trivial⟩))
    refine WC.seq (WC.region ?_)
    refine WL.q (oq_move rfl) rfl rfl rfl ?_
    refine WL.q (oq_nilCheck rfl) rfl rfl rfl ?_
    refine WL.q (oq_fieldAddr fld227_1 rfl) rfl rfl rfl ?_
    refine WL.q (oq_load flat127 rfl (.tail _ (.head _)) (by rw [hit]; exact ch_mem _ _ _ _) rfl) rfl rfl rfl ?_
    refine WL.q (oq_assign rfl) rfl rfl rfl ?_
    refine WL.q (oq_assign rfl) rfl rfl rfl ?_
    refine WL.nil (WE.then_normal (WC.sub (fr' := [(4, _), (5, _)]) ?_ ⟨rfl, rfl, trivial⟩))
    refine WC.ret ?_
    refine WE.endW2 (.inl rfl) (res2 Tryz.results67 rfl rfl) ?_
    -- end 0
    exact ⟨rfl, rfl⟩

/-- (*given.example/pub-tinwright/pub/smithy/middleware.SerializeStep).Get -/
theorem GetM1 (base sb : Nat) (nr : Value) (id : List UInt8) (items : List Nd) (hn : ∀ y ∈ items, y.id ≠ id) : FnW Tryz.prog 67 [Pt sb 0, S id] base [[(sb, .cells #[(hdp (items)), (lastp (items)), nr] 206 (0, 0))], ch 204 227 225 items .nilIface] (fun v Hs => v = .tuple #[.nilIface, .bool false] ∧ Hs = [[(sb, .cells #[(hdp (items)), (lastp (items)), nr] 206 (0, 0))], ch 204 227 225 items .nilIface]) := by
  refine FnW.enter (n := 20) Tryz.func67 rfl rfl fun w0 R0 hbase => ?_
  subst hbase
  show WC _ _ _ _ _ _ _ ([[(sb, .cells #[(hdp (items)), (lastp (items)), nr] 206 (0, 0))], ch 204 227 225 items .nilIface, R0])
  refine WC.sub (fr' := [(0, _), (1, _)]) ?_ ⟨rfl, rfl, trivial⟩
  refine WC.seq (WC.region ?_)
  refine WL.q (oq_assign rfl) rfl rfl rfl ?_
  refine WL.q (oq_assign rfl) rfl rfl rfl ?_
  refine WL.nil (WE.then_normal (WC.sub (fr' := [(0, _), (1, _)]) ?_ ⟨rfl, rfl, trivial⟩))
  refine WC.seq (WC.region ?_)
  refine WL.q (oq_move rfl) rfl rfl rfl ?_
  refine WL.q (oq_move rfl) rfl rfl rfl ?_
  refine WL.f1 ?_
  refine WL.f1 ?_
  refine WL.callW2 (gotM1 _ sb nr id items hn) call115 rfl rfl rfl fun v1_2 Hs1_2 hR1_2 => ?_
  obtain ⟨rfl, rfl⟩ := hR1_2
  refine WL.to2 ?_
  refine WL.q (oq_move rfl) rfl rfl rfl ?_
  refine WL.q (oq_extract rfl rfl) rfl rfl rfl ?_
  refine WL.q (oq_extract rfl rfl) rfl rfl rfl ?_
  refine WL.q (oq_assign rfl) rfl rfl rfl ?_
  refine WL.q (oq_assign rfl) rfl rfl rfl ?_
  refine WL.nil (WE.then_normal (WC.sub (fr' := [(6, _)]) ?_ ⟨rfl, trivial⟩))
  refine WC.seq (WC.seq (WC.region ?_))
  refine WL.q (oq_move rfl) rfl rfl rfl ?_
  refine WL.q (oq_peql Tryz.underlying204 rfl rfl) rfl rfl rfl ?_
  refine WL.nil (WE.then_normal (WC.sub (fr' := [(6, _), (15, _)]) ?_ ⟨rfl, rfl, trivial⟩))
  refine WC.cond rfl (fun q2 => ?_) (fun q2 => ?_)
  ·
    try simp only [Z1, Z2, Z3, Z4, Z5, Z6, Z7, Z8, Z9, Z0] at q2
    refine WC.seq (WC.region ?_)
    refine WL.q (oq_assign rfl) rfl rfl rfl ?_
    refine WL.q (oq_assign rfl) rfl rfl rfl ?_
    refine WL.nil (WE.then_normal (WC.sub (fr' := [(4, _), (5, _)]) ?_ ⟨rfl, rfl, trivial⟩))
    refine WC.ret (WE.then_ret ?_)
    refine WE.endW2 (.inl rfl) (res2 Tryz.results67 rfl rfl) ?_
    -- end 0
    exact ⟨rfl, rfl⟩
  ·
    try simp only [Z1, Z2, Z3, Z4, Z5, Z6, Z7, Z8, Z9, Z0] at q2
    simp at q2

/-- (*given.example/pub-tinwright/pub/smithy/middleware.SerializeStep).Clear -/
theorem Clear1 (base sb : Nat) (nr : Value) (hv tv : Value) : FnW Tryz.prog 64 [Pt sb 0] base [[(sb, .cells #[hv, tv, nr] 206 (0, 0))]] (fun v Hs => Hs = [[(sb, .cells #[.pointer none, .pointer none, nr] 206 (0, 0))]]) := by
  refine FnW.enter (n := 8) Tryz.func64 rfl rfl fun w0 R0 hbase => ?_
  subst hbase
  show WC _ _ _ _ _ _ _ ([[(sb, .cells #[hv, tv, nr] 206 (0, 0))], R0])
  refine WC.sub (fr' := [(0, _)]) ?_ ⟨rfl, trivial⟩
  refine WC.seq (WC.region ?_)
  refine WL.q (oq_move rfl) rfl rfl rfl ?_
  refine WL.q (oq_nilCheck rfl) rfl rfl rfl ?_
  refine WL.q (oq_fieldAddr fld206_0 rfl) rfl rfl rfl ?_
  refine WL.store1 #[_, _, _] ty204 rfl rfl (by first | rfl | exact OwS.one one_) (Nat.lt_of_lt_of_le (Nat.lt_succ_self _) (Nat.le_of_ble_eq_true rfl)) rfl rfl ?_
  refine WL.nil (WE.then_normal (WC.sub (fr' := [(0, _)]) ?_ ⟨rfl, trivial⟩))
  refine WC.region ?_
  refine WL.q (oq_move rfl) rfl rfl rfl ?_
  refine WL.q (oq_nilCheck rfl) rfl rfl rfl ?_
  refine WL.q (oq_fieldAddr fld206_1 rfl) rfl rfl rfl ?_
  refine WL.store1 #[_, _, _] ty204 rfl rfl (by first | rfl | exact OwS.one one_) (Nat.lt_of_lt_of_le (Nat.lt_succ_self _) (Nat.le_of_ble_eq_true rfl)) rfl rfl ?_
  refine WL.nil ?_
  refine WE.endW1 (.inr rfl) (res0 Tryz.results64) ?_
  -- end 0
  exact rfl

/-- (*given.example/pub-tinwright/pub/smithy/middleware.SerializeStep).Add -/
theorem addN1 (base sb : Nat) (nr : Value) (id : List UInt8) (fv : Value) (pos : Int) : FnW Tryz.prog 57 [Pt sb 0, .iface 225 (.agg #[S id, fv]), I pos] base [[(sb, .cells #[.pointer none, .pointer none, nr] 206 (0, 0))]] (fun v Hs => v = .nilIface ∧ ∃ e, base ≤ e ∧ Hs = [[(sb, .cells #[Pt e 0, Pt e 0, nr] 206 (0, 0))], [(e, .cells #[.nilIface, .iface 225 (.agg #[S id, fv])] 227 (0, 0))]]) := by
  refine FnW.enter (n := 54) Tryz.func57 rfl rfl fun w0 R0 hbase => ?_
  subst hbase
  show WC _ _ _ _ _ _ _ ([[(sb, .cells #[.pointer none, .pointer none, nr] 206 (0, 0))], R0])
  refine WC.sub (fr' := [(0, _), (1, _), (2, _)]) ?_ ⟨rfl, rfl, rfl, trivial⟩
  refine WC.seq (WC.region ?_)
  refine WL.q (oq_assign rfl) rfl rfl rfl ?_
  refine WL.nil (WE.then_normal (WC.sub (fr' := [(0, _), (1, _), (2, _)]) ?_ ⟨rfl, rfl, rfl, trivial⟩))
  refine WC.seq (WC.seq (WC.region ?_))
  refine WL.q (oq_move rfl) rfl rfl rfl ?_
  refine WL.q (oq_nilCheck rfl) rfl rfl rfl ?_
  refine WL.q (oq_fieldAddr fld206_0 rfl) rfl rfl rfl ?_
  refine WL.q (oq_load flat204 rfl (.head _) (List.mem_singleton.2 rfl) rfl) rfl rfl rfl ?_
  refine WL.q (oq_peql Tryz.underlying204 rfl rfl) rfl rfl rfl ?_
  refine WL.nil (WE.then_normal (WC.sub (fr' := [(0, _), (1, _), (2, _), (12, _)]) ?_ ⟨rfl, rfl, rfl, rfl, trivial⟩))
  refine WC.cond rfl (fun q1 => ?_) (fun q1 => ?_)
  ·
    try simp only [Z1, Z2, Z3, Z4, Z5, Z6, Z7, Z8, Z9, Z0] at q1
    refine WC.seq (WC.region ?_)
    refine WL.q (oq_move rfl) rfl rfl rfl ?_
    refine WL.q (oq_move rfl) rfl rfl rfl ?_
    refine WL.q (oq_build #[_, _] str227 ty227 rfl rfl) rfl rfl rfl ?_
    refine WL.box rfl rfl rfl fun e he => ?_
    refine WL.q (oq_nilCheck rfl) rfl rfl rfl ?_
    refine WL.q (oq_fieldAddr fld206_0 rfl) rfl rfl rfl ?_
    refine WL.f1 ?_
    refine WL.store1 #[_, _, _] ty204 rfl rfl (by first | rfl | exact OwS.one one_) (Nat.lt_of_lt_of_le (Nat.lt_succ_self _) (Nat.le_of_ble_eq_true rfl)) rfl rfl ?_
    refine WL.nil (WE.then_normal (WC.sub (fr' := [(0, _)]) ?_ ⟨rfl, trivial⟩))
    refine WC.seq (WC.region ?_)
    refine WL.q (oq_move rfl) rfl rfl rfl ?_
    refine WL.q (oq_move rfl) rfl rfl rfl ?_
    refine WL.q (oq_nilCheck rfl) rfl rfl rfl ?_
    refine WL.q (oq_fieldAddr fld206_0 rfl) rfl rfl rfl ?_
    refine WL.q (oq_load flat204 rfl (.head _) (List.mem_singleton.2 rfl) rfl) rfl rfl rfl ?_
    refine WL.q (oq_nilCheck rfl) rfl rfl rfl ?_
    refine WL.q (oq_fieldAddr fld206_1 rfl) rfl rfl rfl ?_
    refine WL.store1 #[_, _, _] ty204 rfl rfl (by first | rfl | exact OwS.one one_) (Nat.lt_of_lt_of_le (Nat.lt_succ_self _) (Nat.le_of_ble_eq_true rfl)) rfl rfl ?_
    refine WL.nil (WE.then_normal (WC.sub (fr' := []) ?_ trivial))
    refine WC.seq (WC.region ?_)
    refine WL.q (oq_assign rfl) rfl rfl rfl ?_
    refine WL.nil (WE.then_normal (WC.sub (fr' := [(6, _)]) ?_ ⟨rfl, trivial⟩))
    refine WC.ret (WE.then_ret ?_)
    refine WE.endW2 (.inl rfl) (res1 Tryz.results57 rfl) ?_
    -- end 0
    exact ⟨rfl, e, he, rfl⟩
  ·
    try simp only [Z1, Z2, Z3, Z4, Z5, Z6, Z7, Z8, Z9, Z0] at q1
    simp at q1

/-- (*given.example/pub-tinwright/pub/smithy/middleware.SerializeStep).Add -/
theorem addB1 (base sb hb : Nat) (nr : Value) (tv : Value) (id : List UInt8) (fv : Value) : FnW Tryz.prog 57 [Pt sb 0, .iface 225 (.agg #[S id, fv]), I 1] base [[(sb, .cells #[Pt hb 0, tv, nr] 206 (0, 0))]] (fun v Hs => v = .nilIface ∧ ∃ e, base ≤ e ∧ Hs = [[(sb, .cells #[Pt e 0, tv, nr] 206 (0, 0))], [(e, .cells #[.iface 204 (Pt hb 0), .iface 225 (.agg #[S id, fv])] 227 (0, 0))]]) := by
  refine FnW.enter (n := 54) Tryz.func57 rfl rfl fun w0 R0 hbase => ?_
  subst hbase
  show WC _ _ _ _ _ _ _ ([[(sb, .cells #[Pt hb 0, tv, nr] 206 (0, 0))], R0])
  refine WC.sub (fr' := [(0, _), (1, _), (2, _)]) ?_ ⟨rfl, rfl, rfl, trivial⟩
  refine WC.seq (WC.region ?_)
  refine WL.q (oq_assign rfl) rfl rfl rfl ?_
  refine WL.nil (WE.then_normal (WC.sub (fr' := [(0, _), (1, _), (2, _)]) ?_ ⟨rfl, rfl, rfl, trivial⟩))
  refine WC.seq (WC.seq (WC.region ?_))
  refine WL.q (oq_move rfl) rfl rfl rfl ?_
  refine WL.q (oq_nilCheck rfl) rfl rfl rfl ?_
  refine WL.q (oq_fieldAddr fld206_0 rfl) rfl rfl rfl ?_
  refine WL.q (oq_load flat204 rfl (.head _) (List.mem_singleton.2 rfl) rfl) rfl rfl rfl ?_
  refine WL.q (oq_peql Tryz.underlying204 rfl rfl) rfl rfl rfl ?_
  refine WL.nil (WE.then_normal (WC.sub (fr' := [(0, _), (1, _), (2, _), (12, _)]) ?_ ⟨rfl, rfl, rfl, rfl, trivial⟩))
  refine WC.cond rfl (fun q1 => ?_) (fun q1 => ?_)
  ·
    try simp only [Z1, Z2, Z3, Z4, Z5, Z6, Z7, Z8, Z9, Z0] at q1
    first | (simp at q1; done) | (simp at q5; done) | (exfalso; omega)
  ·
    try simp only [Z1, Z2, Z3, Z4, Z5, Z6, Z7, Z8, Z9, Z0] at q1
    refine WC.skip (WE.then_normal (WC.sub (fr' := [(0, _), (1, _), (2, _)]) ?_ ⟨rfl, rfl, rfl, trivial⟩))
    refine WC.seq (WC.seq (WC.region ?_))
    refine WL.q (oq_move rfl) rfl rfl rfl ?_
    refine WL.q (oq_eql rfl rfl) rfl rfl rfl ?_
    refine WL.nil (WE.then_normal (WC.sub (fr' := [(0, _), (1, _), (27, _)]) ?_ ⟨rfl, rfl, rfl, trivial⟩))
    refine WC.cond rfl (fun q5 => ?_) (fun q5 => ?_)
    ·
      try simp only [Z1, Z2, Z3, Z4, Z5, Z6, Z7, Z8, Z9, Z0] at q5
      refine WC.region ?_
      refine WL.q (oq_move rfl) rfl rfl rfl ?_
      refine WL.q (oq_move rfl) rfl rfl rfl ?_
      refine WL.q (oq_nilCheck rfl) rfl rfl rfl ?_
      refine WL.q (oq_fieldAddr fld206_0 rfl) rfl rfl rfl ?_
      refine WL.q (oq_load flat204 rfl (.head _) (List.mem_singleton.2 rfl) rfl) rfl rfl rfl ?_
      refine WL.q (oq_makeI conc204 rfl) rfl rfl rfl ?_
      refine WL.q (oq_move rfl) rfl rfl rfl ?_
      refine WL.q (oq_build #[_, _] str227 ty227 rfl rfl) rfl rfl rfl ?_
      refine WL.box rfl rfl rfl fun e he => ?_
      refine WL.q (oq_nilCheck rfl) rfl rfl rfl ?_
      refine WL.q (oq_fieldAddr fld206_0 rfl) rfl rfl rfl ?_
      refine WL.f1 ?_
      refine WL.store1 #[_, _, _] ty204 rfl rfl (by first | rfl | exact OwS.one one_) (Nat.lt_of_lt_of_le (Nat.lt_succ_self _) (Nat.le_of_ble_eq_true rfl)) rfl rfl ?_
      refine WL.nil (WE.then_normal (WC.sub (fr' := []) ?_ trivial))
      refine WC.seq (WC.region ?_)
      refine WL.q (oq_assign rfl) rfl rfl rfl ?_
      refine WL.nil (WE.then_normal (WC.sub (fr' := [(6, _)]) ?_ ⟨rfl, trivial⟩))
      refine WC.ret ?_
      refine WE.endW2 (.inl rfl) (res1 Tryz.results57 rfl) ?_
      -- end 0
      exact ⟨rfl, e, he, rfl⟩
    ·
      try simp only [Z1, Z2, Z3, Z4, Z5, Z6, Z7, Z8, Z9, Z0] at q5
      first | (simp at q1; done) | (simp at q5; done) | (exfalso; omega)

/-- (*given.example/pub-tinwright/pub/smithy/middleware.SerializeStep).Add -/
theorem addA1 (base sb hb lb : Nat) (nr : Value) (lw : Value) (id : List UInt8) (fv : Value) : FnW Tryz.prog 57 [Pt sb 0, .iface 225 (.agg #[S id, fv]), I 0] base [[(sb, .cells #[Pt hb 0, Pt lb 0, nr] 206 (0, 0))], [(lb, .cells #[.nilIface, lw] 227 (0, 0))]] (fun v Hs => v = .nilIface ∧ ∃ e, base ≤ e ∧ Hs = [[(sb, .cells #[Pt hb 0, Pt e 0, nr] 206 (0, 0))], [(lb, .cells #[.iface 204 (Pt e 0), lw] 227 (0, 0))], [(e, .cells #[.nilIface, .iface 225 (.agg #[S id, fv])] 227 (0, 0))]]) := by
  refine FnW.enter (n := 54) Tryz.func57 rfl rfl fun w0 R0 hbase => ?_
  subst hbase
  show WC _ _ _ _ _ _ _ ([[(sb, .cells #[Pt hb 0, Pt lb 0, nr] 206 (0, 0))], [(lb, .cells #[.nilIface, lw] 227 (0, 0))], R0])
  refine WC.sub (fr' := [(0, _), (1, _), (2, _)]) ?_ ⟨rfl, rfl, rfl, trivial⟩
  refine WC.seq (WC.region ?_)
  refine WL.q (oq_assign rfl) rfl rfl rfl ?_
  refine WL.nil (WE.then_normal (WC.sub (fr' := [(0, _), (1, _), (2, _)]) ?_ ⟨rfl, rfl, rfl, trivial⟩))
  refine WC.seq (WC.seq (WC.region ?_))
  refine WL.q (oq_move rfl) rfl rfl rfl ?_
  refine WL.q (oq_nilCheck rfl) rfl rfl rfl ?_
  refine WL.q (oq_fieldAddr fld206_0 rfl) rfl rfl rfl ?_
  refine WL.q (oq_load flat204 rfl (.head _) (List.mem_singleton.2 rfl) rfl) rfl rfl rfl ?_
  refine WL.q (oq_peql Tryz.underlying204 rfl rfl) rfl rfl rfl ?_
  refine WL.nil (WE.then_normal (WC.sub (fr' := [(0, _), (1, _), (2, _), (12, _)]) ?_ ⟨rfl, rfl, rfl, rfl, trivial⟩))
  refine WC.cond rfl (fun q1 => ?_) (fun q1 => ?_)
  ·
    try simp only [Z1, Z2, Z3, Z4, Z5, Z6, Z7, Z8, Z9, Z0] at q1
    first | (simp at q1; done) | (simp at q5; done) | (exfalso; omega)
  ·
    try simp only [Z1, Z2, Z3, Z4, Z5, Z6, Z7, Z8, Z9, Z0] at q1
    refine WC.skip (WE.then_normal (WC.sub (fr' := [(0, _), (1, _), (2, _)]) ?_ ⟨rfl, rfl, rfl, trivial⟩))
    refine WC.seq (WC.seq (WC.region ?_))
    refine WL.q (oq_move rfl) rfl rfl rfl ?_
    refine WL.q (oq_eql rfl rfl) rfl rfl rfl ?_
    refine WL.nil (WE.then_normal (WC.sub (fr' := [(0, _), (1, _), (27, _)]) ?_ ⟨rfl, rfl, rfl, trivial⟩))
    refine WC.cond rfl (fun q5 => ?_) (fun q5 => ?_)
    ·
      try simp only [Z1, Z2, Z3, Z4, Z5, Z6, Z7, Z8, Z9, Z0] at q5
      first | (simp at q1; done) | (simp at q5; done) | (exfalso; omega)
    ·
      try simp only [Z1, Z2, Z3, Z4, Z5, Z6, Z7, Z8, Z9, Z0] at q5
      refine WC.seq (WC.region ?_)
      refine WL.q (oq_move rfl) rfl rfl rfl ?_
      refine WL.q (oq_build #[_, _] str227 ty227 rfl rfl) rfl rfl rfl ?_
      refine WL.box rfl rfl rfl fun e he => ?_
      refine WL.q (oq_assign rfl) rfl rfl rfl ?_
      refine WL.nil (WE.then_normal (WC.sub (fr' := [(0, _), (7, _)]) ?_ ⟨rfl, rfl, trivial⟩))
      refine WC.seq (WC.region ?_)
      refine WL.q (oq_move rfl) rfl rfl rfl ?_
      refine WL.q (oq_nilCheck rfl) rfl rfl rfl ?_
      refine WL.q (oq_fieldAddr fld206_1 rfl) rfl rfl rfl ?_
      refine WL.q (oq_load flat204 rfl (.tail _ (.head _)) (List.mem_singleton.2 rfl) rfl) rfl rfl rfl ?_
      refine WL.q (oq_move rfl) rfl rfl rfl ?_
      refine WL.q (oq_makeI conc204 rfl) rfl rfl rfl ?_
      refine WL.q (oq_nilCheck rfl) rfl rfl rfl ?_
      refine WL.q (oq_fieldAddr fld227_0 rfl) rfl rfl rfl ?_
      refine WL.f2 ?_
      refine WL.store1 #[_, _] ty132 rfl rfl (by first | rfl | exact OwS.one one_) (Nat.lt_of_lt_of_le (Nat.lt_succ_self _) (Nat.le_of_ble_eq_true rfl)) rfl rfl ?_
      refine WL.nil (WE.then_normal (WC.sub (fr' := [(0, _), (7, _)]) ?_ ⟨rfl, rfl, trivial⟩))
      refine WC.region ?_
      refine WL.q (oq_move rfl) rfl rfl rfl ?_
      refine WL.q (oq_move rfl) rfl rfl rfl ?_
      refine WL.q (oq_nilCheck rfl) rfl rfl rfl ?_
      refine WL.q (oq_fieldAddr fld206_1 rfl) rfl rfl rfl ?_
      refine WL.f2 ?_
      refine WL.store1 #[_, _, _] ty204 rfl rfl (by first | rfl | exact OwS.one one_) (Nat.lt_of_lt_of_le (Nat.lt_succ_self _) (Nat.le_of_ble_eq_true rfl)) rfl rfl ?_
      refine WL.nil (WE.then_normal (WC.sub (fr' := []) ?_ trivial))
      refine WC.seq (WC.region ?_)
      refine WL.q (oq_assign rfl) rfl rfl rfl ?_
      refine WL.nil (WE.then_normal (WC.sub (fr' := [(6, _)]) ?_ ⟨rfl, trivial⟩))
      refine WC.ret ?_
      refine WE.endW3 (.inl rfl) (res1 Tryz.results57 rfl) ?_
      -- end 0
      exact ⟨rfl, e, he, rfl⟩


theorem got2 (base sb : Nat) (id : List UInt8) (items : List Nd) : FnW Tryz.prog 116 [Pt sb 0, S id] base [[(sb, .cells #[(hdp (items)), (lastp (items))] 209 (0, 0))], ch 207 234 232 items .nilIface] (fun v Hs => GotV id items v ∧ Hs = [[(sb, .cells #[(hdp (items)), (lastp (items))] 209 (0, 0))], ch 207 234 232 items .nilIface]) := by
  cases items with
  | nil => exact (getN2 base sb id).reg (by simp [ch, hdp, lastp]) (fun v Hs h => ⟨_, ⟨h.1, rfl⟩, by rw [h.2]; simp [ch, hdp, lastp]⟩)
  | cons x r => exact getC2 base sb (x :: r) x r rfl id
theorem gotH2 (base sb : Nat) (id : List UInt8) (A B : List Nd) (x : Nd) (items : List Nd) (hit : items = A ++ x :: B) (hx : x.id = id) (hA : ∀ y ∈ A, y.id ≠ id) : FnW Tryz.prog 116 [Pt sb 0, S id] base [[(sb, .cells #[(hdp (items)), (lastp (items))] 209 (0, 0))], ch 207 234 232 items .nilIface] (fun v Hs => v = .tuple #[Pt x.b 0, lastp A] ∧ Hs = [[(sb, .cells #[(hdp (items)), (lastp (items))] 209 (0, 0))], ch 207 234 232 items .nilIface]) :=
  (got2 base sb id items).mono fun v Hs h => ⟨by have h1 := h.1; rw [hit] at h1; exact got_hit h1 hx hA, h.2⟩
theorem gotM2 (base sb : Nat) (id : List UInt8) (items : List Nd) (hn : ∀ y ∈ items, y.id ≠ id) : FnW Tryz.prog 116 [Pt sb 0, S id] base [[(sb, .cells #[(hdp (items)), (lastp (items))] 209 (0, 0))], ch 207 234 232 items .nilIface] (fun v Hs => v = .tuple #[.pointer none, lastp items] ∧ Hs = [[(sb, .cells #[(hdp (items)), (lastp (items))] 209 (0, 0))], ch 207 234 232 items .nilIface]) :=
  (got2 base sb id items).mono fun v Hs h => ⟨got_miss h.1 hn, h.2⟩
/-- (*given.example/pub-tinwright/pub/smithy/middleware.BuildStep).Get -/
theorem GetH2 (base sb : Nat) (A B : List Nd) (x : Nd) (items : List Nd) (hit : items = A ++ x :: B) (hA : ∀ y ∈ A, y.id ≠ x.id)  : FnW Tryz.prog 82 [Pt sb 0, S x.id] base [[(sb, .cells #[(hdp (items)), (lastp (items))] 209 (0, 0))], ch 207 234 232 items .nilIface] (fun v Hs => v = .tuple #[wv 232 x, .bool true] ∧ Hs = [[(sb, .cells #[(hdp (items)), (lastp (items))] 209 (0, 0))], ch 207 234 232 items .nilIface]) := by
  refine FnW.enter (n := 20) Tryz.func82 rfl rfl fun w0 R0 hbase => ?_
  subst hbase
  show WC _ _ _ _ _ _ _ ([[(sb, .cells #[(hdp (items)), (lastp (items))] 209 (0, 0))], ch 207 234 232 items .nilIface, R0])
  refine WC.sub (fr' := [(0, _), (1, _)]) ?_ ⟨rfl, rfl, trivial⟩
  refine WC.seq (WC.region ?_)
  refine WL.q (oq_assign rfl) rfl rfl rfl ?_
  refine WL.q (oq_assign rfl) rfl rfl rfl ?_
  refine WL.nil (WE.then_normal (WC.sub (fr' := [(0, _), (1, _)]) ?_ ⟨rfl, rfl, trivial⟩))
  refine WC.seq (WC.region ?_)
  refine WL.q (oq_move rfl) rfl rfl rfl ?_
  refine WL.q (oq_move rfl) rfl rfl rfl ?_
  refine WL.f1 ?_
  refine WL.f1 ?_
  refine WL.callW2 (gotH2 _ sb x.id A B x items hit rfl hA) call116 rfl rfl rfl fun v1_2 Hs1_2 hR1_2 => ?_
  obtain ⟨rfl, rfl⟩ := hR1_2
  refine WL.to2 ?_
  refine WL.q (oq_move rfl) rfl rfl rfl ?_
  refine WL.q (oq_extract rfl rfl) rfl rfl rfl ?_
  refine WL.q (oq_extract rfl rfl) rfl rfl rfl ?_
  refine WL.q (oq_assign rfl) rfl rfl rfl ?_
  refine WL.q (oq_assign rfl) rfl rfl rfl ?_
  refine WL.nil (WE.then_normal (WC.sub (fr' := [(6, _)]) ?_ ⟨rfl, trivial⟩))
  refine WC.seq (WC.seq (WC.region ?_))
  refine WL.q (oq_move rfl) rfl rfl rfl ?_
  refine WL.q (oq_peql Tryz.underlying207 rfl rfl) rfl rfl rfl ?_
  refine WL.nil (WE.then_normal (WC.sub (fr' := [(6, _), (15, _)]) ?_ ⟨rfl, rfl, trivial⟩))
  refine WC.cond rfl (fun q2 => ?_) (fun q2 => ?_)
  ·
    try simp only [Z1, Z2, Z3, Z4, Z5, Z6, Z7, Z8, Z9, Z0] at q2
    simp at q2
  ·
    try simp only [Z1, Z2, Z3, Z4, Z5, Z6, Z7, Z8, Z9, Z0] at q2
    refine WC.skip (WE.then_normal (WC.sub (fr' := [(6, _)]) ?_ ⟨rfl, trivial⟩))
    refine WC.seq (WC.region ?_)
    refine WL.q (oq_move rfl) rfl rfl rfl ?_
    refine WL.q (oq_nilCheck rfl) rfl rfl rfl ?_
    refine WL.q (oq_fieldAddr fld234_1 rfl) rfl rfl rfl ?_
    refine WL.q (oq_load flat146 rfl (.tail _ (.head _)) (by rw [hit]; exact ch_mem _ _ _ _) rfl) rfl rfl rfl ?_
    refine WL.q (oq_assign rfl) rfl rfl rfl ?_
    refine WL.q (oq_assign rfl) rfl rfl rfl ?_
    refine WL.nil (WE.then_normal (WC.sub (fr' := [(4, _), (5, _)]) ?_ ⟨rfl, rfl, trivial⟩))
    refine WC.ret ?_
    refine WE.endW2 (.inl rfl) (res2 Tryz.results82 rfl rfl) ?_
    -- end 0
    exact ⟨rfl, rfl⟩

/-- (*given.example/pub-tinwright/pub/smithy/middleware.BuildStep).Get -/
theorem GetM2 (base sb : Nat) (id : List UInt8) (items : List Nd) (hn : ∀ y ∈ items, y.id ≠ id) : FnW Tryz.prog 82 [Pt sb 0, S id] base [[(sb, .cells #[(hdp (items)), (lastp (items))] 209 (0, 0))], ch 207 234 232 items .nilIface] (fun v Hs => v = .tuple #[.nilIface, .bool false] ∧ Hs = [[(sb, .cells #[(hdp (items)), (lastp (items))] 209 (0, 0))], ch 207 234 232 items .nilIface]) := by
  refine FnW.enter (n := 20) Tryz.func82 rfl rfl fun w0 R0 hbase => ?_
  subst hbase
  show WC _ _ _ _ _ _ _ ([[(sb, .cells #[(hdp (items)), (lastp (items))] 209 (0, 0))], ch 207 234 232 items .nilIface, R0])
  refine WC.sub (fr' := [(0, _), (1, _)]) ?_ ⟨rfl, rfl, trivial⟩
  refine WC.seq (WC.region ?_)
  refine WL.q (oq_assign rfl) rfl rfl rfl ?_
  refine WL.q (oq_assign rfl) rfl rfl rfl ?_
  refine WL.nil (WE.then_normal (WC.sub (fr' := [(0, _), (1, _)]) ?_ ⟨rfl, rfl, trivial⟩))
  refine WC.seq (WC.region ?_)
  refine WL.q (oq_move rfl) rfl rfl rfl ?_
  refine WL.q (oq_move rfl) rfl rfl rfl ?_
  refine WL.f1 ?_
  refine WL.f1 ?_
  refine WL.callW2 (gotM2 _ sb id items hn) call116 rfl rfl rfl fun v1_2 Hs1_2 hR1_2 => ?_
  obtain ⟨rfl, rfl⟩ := hR1_2
  refine WL.to2 ?_
  refine WL.q (oq_move rfl) rfl rfl rfl ?_
  refine WL.q (oq_extract rfl rfl) rfl rfl rfl ?_
  refine WL.q (oq_extract rfl rfl) rfl rfl rfl ?_
  refine WL.q (oq_assign rfl) rfl rfl rfl ?_
  refine WL.q (oq_assign rfl) rfl rfl rfl ?_
  refine WL.nil (WE.then_normal (WC.sub (fr' := [(6, _)]) ?_ ⟨rfl, trivial⟩))
  refine WC.seq (WC.seq (WC.region ?_))
  refine WL.q (oq_move rfl) rfl rfl rfl ?_
  refine WL.q (oq_peql Tryz.underlying207 rfl rfl) rfl rfl rfl ?_
  refine WL.nil (WE.then_normal (WC.sub (fr' := [(6, _), (15, _)]) ?_ ⟨rfl, rfl, trivial⟩))
  refine WC.cond rfl (fun q2 => ?_) (fun q2 => ?_)
  ·
    try simp only [Z1, Z2, Z3, Z4, Z5, Z6, Z7, Z8, Z9, Z0] at q2
    refine WC.seq (WC.region ?_)
    refine WL.q (oq_assign rfl) rfl rfl rfl ?_
    refine WL.q (oq_assign rfl) rfl rfl rfl ?_
    refine WL.nil (WE.then_normal (WC.sub (fr' := [(4, _), (5, _)]) ?_ ⟨rfl, rfl, trivial⟩))
    refine WC.ret (WE.then_ret ?_)
    refine WE.endW2 (.inl rfl) (res2 Tryz.results82 rfl rfl) ?_
    -- end 0
    exact ⟨rfl, rfl⟩
  ·
    try simp only [Z1, Z2, Z3, Z4, Z5, Z6, Z7, Z8, Z9, Z0] at q2
    simp at q2

/-- (*given.example/pub-tinwright/pub/smithy/middleware.BuildStep).Clear -/
theorem Clear2 (base sb : Nat) (hv tv : Value) : FnW Tryz.prog 79 [Pt sb 0] base [[(sb, .cells #[hv, tv] 209 (0, 0))]] (fun v Hs => Hs = [[(sb, .cells #[.pointer none, .pointer none] 209 (0, 0))]]) := by
  refine FnW.enter (n := 8) Tryz.func79 rfl rfl fun w0 R0 hbase => ?_
  subst hbase
  show WC _ _ _ _ _ _ _ ([[(sb, .cells #[hv, tv] 209 (0, 0))], R0])
  refine WC.sub (fr' := [(0, _)]) ?_ ⟨rfl, trivial⟩
  refine WC.seq (WC.region ?_)
  refine WL.q (oq_move rfl) rfl rfl rfl ?_
  refine WL.q (oq_nilCheck rfl) rfl rfl rfl ?_
  refine WL.q (oq_fieldAddr fld209_0 rfl) rfl rfl rfl ?_
  refine WL.store1 #[_, _] ty207 rfl rfl (by first | rfl | exact OwS.one one_) (Nat.lt_of_lt_of_le (Nat.lt_succ_self _) (Nat.le_of_ble_eq_true rfl)) rfl rfl ?_
  refine WL.nil (WE.then_normal (WC.sub (fr' := [(0, _)]) ?_ ⟨rfl, trivial⟩))
  refine WC.region ?_
  refine WL.q (oq_move rfl) rfl rfl rfl ?_
  refine WL.q (oq_nilCheck rfl) rfl rfl rfl ?_
  refine WL.q (oq_fieldAddr fld209_1 rfl) rfl rfl rfl ?_
  refine WL.store1 #[_, _] ty207 rfl rfl (by first | rfl | exact OwS.one one_) (Nat.lt_of_lt_of_le (Nat.lt_succ_self _) (Nat.le_of_ble_eq_true rfl)) rfl rfl ?_
  refine WL.nil ?_
  refine WE.endW1 (.inr rfl) (res0 Tryz.results79) ?_
  -- end 0
  exact rfl

/-- (*given.example/pub-tinwright/pub/smithy/middleware.BuildStep).Add -/
theorem addN2 (base sb : Nat) (id : List UInt8) (fv : Value) (pos : Int) : FnW Tryz.prog 72 [Pt sb 0, .iface 232 (.agg #[S id, fv]), I pos] base [[(sb, .cells #[.pointer none, .pointer none] 209 (0, 0))]] (fun v Hs => v = .nilIface ∧ ∃ e, base ≤ e ∧ Hs = [[(sb, .cells #[Pt e 0, Pt e 0] 209 (0, 0))], [(e, .cells #[.nilIface, .iface 232 (.agg #[S id, fv])] 234 (0, 0))]]) := by
  refine FnW.enter (n := 54) Tryz.func72 rfl rfl fun w0 R0 hbase => ?_
  subst hbase
  show WC _ _ _ _ _ _ _ ([[(sb, .cells #[.pointer none, .pointer none] 209 (0, 0))], R0])
  refine WC.sub (fr' := [(0, _), (1, _), (2, _)]) ?_ ⟨rfl, rfl, rfl, trivial⟩
  refine WC.seq (WC.region ?_)
  refine WL.q (oq_assign rfl) rfl rfl rfl ?_
  refine WL.nil (WE.then_normal (WC.sub (fr' := [(0, _), (1, _), (2, _)]) ?_ ⟨rfl, rfl, rfl, trivial⟩))
  refine WC.seq (WC.seq (WC.region ?_))
  refine WL.q (oq_move rfl) rfl rfl rfl ?_
  refine WL.q (oq_nilCheck rfl) rfl rfl rfl ?_
  refine WL.q (oq_fieldAddr fld209_0 rfl) rfl rfl rfl ?_
  refine WL.q (oq_load flat207 rfl (.head _) (List.mem_singleton.2 rfl) rfl) rfl rfl rfl ?_
  refine WL.q (oq_peql Tryz.underlying207 rfl rfl) rfl rfl rfl ?_
  refine WL.nil (WE.then_normal (WC.sub (fr' := [(0, _), (1, _), (2, _), (12, _)]) ?_ ⟨rfl, rfl, rfl, rfl, trivial⟩))
  refine WC.cond rfl (fun q1 => ?_) (fun q1 => ?_)
  ·
    try simp only [Z1, Z2, Z3, Z4, Z5, Z6, Z7, Z8, Z9, Z0] at q1
    refine WC.seq (WC.region ?_)
    refine WL.q (oq_move rfl) rfl rfl rfl ?_
    refine WL.q (oq_move rfl) rfl rfl rfl ?_
    refine WL.q (oq_build #[_, _] str234 ty234 rfl rfl) rfl rfl rfl ?_
    refine WL.box rfl rfl rfl fun e he => ?_
    refine WL.q (oq_nilCheck rfl) rfl rfl rfl ?_
    refine WL.q (oq_fieldAddr fld209_0 rfl) rfl rfl rfl ?_
    refine WL.f1 ?_
    refine WL.store1 #[_, _] ty207 rfl rfl (by first | rfl | exact OwS.one one_) (Nat.lt_of_lt_of_le (Nat.lt_succ_self _) (Nat.le_of_ble_eq_true rfl)) rfl rfl ?_
    refine WL.nil (WE.then_normal (WC.sub (fr' := [(0, _)]) ?_ ⟨rfl, trivial⟩))
    refine WC.seq (WC.region ?_)
    refine WL.q (oq_move rfl) rfl rfl rfl ?_
    refine WL.q (oq_move rfl) rfl rfl rfl ?_
    refine WL.q (oq_nilCheck rfl) rfl rfl rfl ?_
    refine WL.q (oq_fieldAddr fld209_0 rfl) rfl rfl rfl ?_
    refine WL.q (oq_load flat207 rfl (.head _) (List.mem_singleton.2 rfl) rfl) rfl rfl rfl ?_
    refine WL.q (oq_nilCheck rfl) rfl rfl rfl ?_
    refine WL.q (oq_fieldAddr fld209_1 rfl) rfl rfl rfl ?_
    refine WL.store1 #[_, _] ty207 rfl rfl (by first | rfl | exact OwS.one one_) (Nat.lt_of_lt_of_le (Nat.lt_succ_self _) (Nat.le_of_ble_eq_true rfl)) rfl rfl ?_
    refine WL.nil (WE.then_normal (WC.sub (fr' := []) ?_ trivial))
    refine WC.seq (WC.region ?_)
    refine WL.q (oq_assign rfl) rfl rfl rfl ?_
    refine WL.nil (WE.then_normal (WC.sub (fr' := [(6, _)]) ?_ ⟨rfl, trivial⟩))
    refine WC.ret (WE.then_ret ?_)
    refine WE.endW2 (.inl rfl) (res1 Tryz.results72 rfl) ?_
    -- end 0
    exact ⟨rfl, e, he, rfl⟩
  ·
    try simp only [Z1, Z2, Z3, Z4, Z5, Z6, Z7, Z8, Z9, Z0] at q1
    simp at q1

/-- (*given.example/pub-tinwright/pub/smithy/middleware.BuildStep).Add -/
theorem addB2 (base sb hb : Nat) (tv : Value) (id : List UInt8) (fv : Value) : FnW Tryz.prog 72 [Pt sb 0, .iface 232 (.agg #[S id, fv]), I 1] base [[(sb, .cells #[Pt hb 0, tv] 209 (0, 0))]] (fun v Hs => v = .nilIface ∧ ∃ e, base ≤ e ∧ Hs = [[(sb, .cells #[Pt e 0, tv] 209 (0, 0))], [(e, .cells #[.iface 207 (Pt hb 0), .iface 232 (.agg #[S id, fv])] 234 (0, 0))]]) := by
  refine FnW.enter (n := 54) Tryz.func72 rfl rfl fun w0 R0 hbase => ?_
  subst hbase
  show WC _ _ _ _ _ _ _ ([[(sb, .cells #[Pt hb 0, tv] 209 (0, 0))], R0])
  refine WC.sub (fr' := [(0, _), (1, _), (2, _)]) ?_ ⟨rfl, rfl, rfl, trivial⟩
  refine WC.seq (WC.region ?_)
  refine WL.q (oq_assign rfl) rfl rfl rfl ?_
  refine WL.nil (WE.then_normal (WC.sub (fr' := [(0, _), (1, _), (2, _)]) ?_ ⟨rfl, rfl, rfl, trivial⟩))
  refine WC.seq (WC.seq (WC.region ?_))
  refine WL.q (oq_move rfl) rfl rfl rfl ?_
  refine WL.q (oq_nilCheck rfl) rfl rfl rfl ?_
  refine WL.q (oq_fieldAddr fld209_0 rfl) rfl rfl rfl ?_
  refine WL.q (oq_load flat207 rfl (.head _) (List.mem_singleton.2 rfl) rfl) rfl rfl rfl ?_
  refine WL.q (oq_peql Tryz.underlying207 rfl rfl) rfl rfl rfl ?_
  refine WL.nil (WE.then_normal (WC.sub (fr' := [(0, _), (1, _), (2, _), (12, _)]) ?_ ⟨rfl, rfl, rfl, rfl, trivial⟩))
  refine WC.cond rfl (fun q1 => ?_) (fun q1 => ?_)
  ·
    try simp only [Z1, Z2, Z3, Z4, Z5, Z6, Z7, Z8, Z9, Z0] at q1
    first | (simp at q1; done) | (simp at q5; done) | (exfalso; omega)
  ·
    try simp only [Z1, Z2, Z3, Z4, Z5, Z6, Z7, Z8, Z9, Z0] at q1
    refine WC.skip (WE.then_normal (WC.sub (fr' := [(0, _), (1, _), (2, _)]) ?_ ⟨rfl, rfl, rfl, trivial⟩))
    refine WC.seq (WC.seq (WC.region ?_))
    refine WL.q (oq_move rfl) rfl rfl rfl ?_
    refine WL.q (oq_eql rfl rfl) rfl rfl rfl ?_
    refine WL.nil (WE.then_normal (WC.sub (fr' := [(0, _), (1, _), (27, _)]) ?_ ⟨rfl, rfl, rfl, trivial⟩))
    refine WC.cond rfl (fun q5 => ?_) (fun q5 => ?_)
    ·
      try simp only [Z1, Z2, Z3, Z4, Z5, Z6, Z7, Z8, Z9, Z0] at q5
      refine WC.region ?_
      refine WL.q (oq_move rfl) rfl rfl rfl ?_
      refine WL.q (oq_move rfl) rfl rfl rfl ?_
      refine WL.q (oq_nilCheck rfl) rfl rfl rfl ?_
      refine WL.q (oq_fieldAddr fld209_0 rfl) rfl rfl rfl ?_
      refine WL.q (oq_load flat207 rfl (.head _) (List.mem_singleton.2 rfl) rfl) rfl rfl rfl ?_
      refine WL.q (oq_makeI conc207 rfl) rfl rfl rfl ?_
      refine WL.q (oq_move rfl) rfl rfl rfl ?_
      refine WL.q (oq_build #[_, _] str234 ty234 rfl rfl) rfl rfl rfl ?_
      refine WL.box rfl rfl rfl fun e he => ?_
      refine WL.q (oq_nilCheck rfl) rfl rfl rfl ?_
      refine WL.q (oq_fieldAddr fld209_0 rfl) rfl rfl rfl ?_
      refine WL.f1 ?_
      refine WL.store1 #[_, _] ty207 rfl rfl (by first | rfl | exact OwS.one one_) (Nat.lt_of_lt_of_le (Nat.lt_succ_self _) (Nat.le_of_ble_eq_true rfl)) rfl rfl ?_
      refine WL.nil (WE.then_normal (WC.sub (fr' := []) ?_ trivial))
      refine WC.seq (WC.region ?_)
      refine WL.q (oq_assign rfl) rfl rfl rfl ?_
      refine WL.nil (WE.then_normal (WC.sub (fr' := [(6, _)]) ?_ ⟨rfl, trivial⟩))
      refine WC.ret ?_
      refine WE.endW2 (.inl rfl) (res1 Tryz.results72 rfl) ?_
      -- end 0
      exact ⟨rfl, e, he, rfl⟩
    ·
      try simp only [Z1, Z2, Z3, Z4, Z5, Z6, Z7, Z8, Z9, Z0] at q5
      first | (simp at q1; done) | (simp at q5; done) | (exfalso; omega)

/-- (*given.example/pub-tinwright/pub/smithy/middleware.BuildStep).Add -/
theorem addA2 (base sb hb lb : Nat) (lw : Value) (id : List UInt8) (fv : Value) : FnW Tryz.prog 72 [Pt sb 0, .iface 232 (.agg #[S id, fv]), I 0] base [[(sb, .cells #[Pt hb 0, Pt lb 0] 209 (0, 0))], [(lb, .cells #[.nilIface, lw] 234 (0, 0))]] (fun v Hs => v = .nilIface ∧ ∃ e, base ≤ e ∧ Hs = [[(sb, .cells #[Pt hb 0, Pt e 0] 209 (0, 0))], [(lb, .cells #[.iface 207 (Pt e 0), lw] 234 (0, 0))], [(e, .cells #[.nilIface, .iface 232 (.agg #[S id, fv])] 234 (0, 0))]]) := by
  refine FnW.enter (n := 54) Tryz.func72 rfl rfl fun w0 R0 hbase => ?_
  subst hbase
  show WC _ _ _ _ _ _ _ ([[(sb, .cells #[Pt hb 0, Pt lb 0] 209 (0, 0))], [(lb, .cells #[.nilIface, lw] 234 (0, 0))], R0])
  refine WC.sub (fr' := [(0, _), (1, _), (2, _)]) ?_ ⟨rfl, rfl, rfl, trivial⟩
  refine WC.seq (WC.region ?_)
  refine WL.q (oq_assign rfl) rfl rfl rfl ?_
  refine WL.nil (WE.then_normal (WC.sub (fr' := [(0, _), (1, _), (2, _)]) ?_ ⟨rfl, rfl, rfl, trivial⟩))
  refine WC.seq (WC.seq (WC.region ?_))
  refine WL.q (oq_move rfl) rfl rfl rfl ?_
  refine WL.q (oq_nilCheck rfl) rfl rfl rfl ?_
  refine WL.q (oq_fieldAddr fld209_0 rfl) rfl rfl rfl ?_
  refine WL.q (oq_load flat207 rfl (.head _) (List.mem_singleton.2 rfl) rfl) rfl rfl rfl ?_
  refine WL.q (oq_peql Tryz.underlying207 rfl rfl) rfl rfl rfl ?_
  refine WL.nil (WE.then_normal (WC.sub (fr' := [(0, _), (1, _), (2, _), (12, _)]) ?_ ⟨rfl, rfl, rfl, rfl, trivial⟩))
  refine WC.cond rfl (fun q1 => ?_) (fun q1 => ?_)
  ·
    try simp only [Z1, Z2, Z3, Z4, Z5, Z6, Z7, Z8, Z9, Z0] at q1
    first | (simp at q1; done) | (simp at q5; done) | (exfalso; omega)
  ·
    try simp only [Z1, Z2, Z3, Z4, Z5, Z6, Z7, Z8, Z9, Z0] at q1
    refine WC.skip (WE.then_normal (WC.sub (fr' := [(0, _), (1, _), (2, _)]) ?_ ⟨rfl, rfl, rfl, trivial⟩))
    refine WC.seq (WC.seq (WC.region ?_))
    refine WL.q (oq_move rfl) rfl rfl rfl ?_
    refine WL.q (oq_eql rfl rfl) rfl rfl rfl ?_
    refine WL.nil (WE.then_normal (WC.sub (fr' := [(0, _), (1, _), (27, _)]) ?_ ⟨rfl, rfl, rfl, trivial⟩))
    refine WC.cond rfl (fun q5 => ?_) (fun q5 => ?_)
    ·
      try simp only [Z1, Z2, Z3, Z4, Z5, Z6, Z7, Z8, Z9, Z0] at q5
      first | (simp at q1; done) | (simp at q5; done) | (exfalso; omega)
    ·
      try simp only [Z1, Z2, Z3, Z4, Z5, Z6, Z7, Z8, Z9, Z0] at q5
      refine WC.seq (WC.region ?_)
      refine WL.q (oq_move rfl) rfl rfl rfl ?_
      refine WL.q (oq_build #[_, _] str234 ty234 rfl rfl) rfl rfl rfl ?_
      refine WL.box rfl rfl rfl fun e he => ?_
      refine WL.q (oq_assign rfl) rfl rfl rfl ?_
      refine WL.nil (WE.then_normal (WC.sub (fr' := [(0, _), (7, _)]) ?_ ⟨rfl, rfl, trivial⟩))
      refine WC.seq (WC.region ?_)
      refine WL.q (oq_move rfl) rfl rfl rfl ?_
      refine WL.q (oq_nilCheck rfl) rfl rfl rfl ?_
      refine WL.q (oq_fieldAddr fld209_1 rfl) rfl rfl rfl ?_
      refine WL.q (oq_load flat207 rfl (.tail _ (.head _)) (List.mem_singleton.2 rfl) rfl) rfl rfl rfl ?_
      refine WL.q (oq_move rfl) rfl rfl rfl ?_
      refine WL.q (oq_makeI conc207 rfl) rfl rfl rfl ?_
      refine WL.q (oq_nilCheck rfl) rfl rfl rfl ?_
      refine WL.q (oq_fieldAddr fld234_0 rfl) rfl rfl rfl ?_
      refine WL.f2 ?_
      refine WL.store1 #[_, _] ty151 rfl rfl (by first | rfl | exact OwS.one one_) (Nat.lt_of_lt_of_le (Nat.lt_succ_self _) (Nat.le_of_ble_eq_true rfl)) rfl rfl ?_
      refine WL.nil (WE.then_normal (WC.sub (fr' := [(0, _), (7, _)]) ?_ ⟨rfl, rfl, trivial⟩))
      refine WC.region ?_
      refine WL.q (oq_move rfl) rfl rfl rfl ?_
      refine WL.q (oq_move rfl) rfl rfl rfl ?_
      refine WL.q (oq_nilCheck rfl) rfl rfl rfl ?_
      refine WL.q (oq_fieldAddr fld209_1 rfl) rfl rfl rfl ?_
      refine WL.f2 ?_
      refine WL.store1 #[_, _] ty207 rfl rfl (by first | rfl | exact OwS.one one_) (Nat.lt_of_lt_of_le (Nat.lt_succ_self _) (Nat.le_of_ble_eq_true rfl)) rfl rfl ?_
      refine WL.nil (WE.then_normal (WC.sub (fr' := []) ?_ trivial))
      refine WC.seq (WC.region ?_)
      refine WL.q (oq_assign rfl) rfl rfl rfl ?_
      refine WL.nil (WE.then_normal (WC.sub (fr' := [(6, _)]) ?_ ⟨rfl, trivial⟩))
      refine WC.ret ?_
      refine WE.endW3 (.inl rfl) (res1 Tryz.results72 rfl) ?_
      -- end 0
      exact ⟨rfl, e, he, rfl⟩


theorem got3 (base sb : Nat) (id : List UInt8) (items : List Nd) : FnW Tryz.prog 117 [Pt sb 0, S id] base [[(sb, .cells #[(hdp (items)), (lastp (items))] 212 (0, 0))], ch 210 241 239 items .nilIface] (fun v Hs => GotV id items v ∧ Hs = [[(sb, .cells #[(hdp (items)), (lastp (items))] 212 (0, 0))], ch 210 241 239 items .nilIface]) := by
  cases items with
  | nil => exact (getN3 base sb id).reg (by simp [ch, hdp, lastp]) (fun v Hs h => ⟨_, ⟨h.1, rfl⟩, by rw [h.2]; simp [ch, hdp, lastp]⟩)
  | cons x r => exact getC3 base sb (x :: r) x r rfl id
theorem gotH3 (base sb : Nat) (id : List UInt8) (A B : List Nd) (x : Nd) (items : List Nd) (hit : items = A ++ x :: B) (hx : x.id = id) (hA : ∀ y ∈ A, y.id ≠ id) : FnW Tryz.prog 117 [Pt sb 0, S id] base [[(sb, .cells #[(hdp (items)), (lastp (items))] 212 (0, 0))], ch 210 241 239 items .nilIface] (fun v Hs => v = .tuple #[Pt x.b 0, lastp A] ∧ Hs = [[(sb, .cells #[(hdp (items)), (lastp (items))] 212 (0, 0))], ch 210 241 239 items .nilIface]) :=
  (got3 base sb id items).mono fun v Hs h => ⟨by have h1 := h.1; rw [hit] at h1; exact got_hit h1 hx hA, h.2⟩
theorem gotM3 (base sb : Nat) (id : List UInt8) (items : List Nd) (hn : ∀ y ∈ items, y.id ≠ id) : FnW Tryz.prog 117 [Pt sb 0, S id] base [[(sb, .cells #[(hdp (items)), (lastp (items))] 212 (0, 0))], ch 210 241 239 items .nilIface] (fun v Hs => v = .tuple #[.pointer none, lastp items] ∧ Hs = [[(sb, .cells #[(hdp (items)), (lastp (items))] 212 (0, 0))], ch 210 241 239 items .nilIface]) :=
  (got3 base sb id items).mono fun v Hs h => ⟨got_miss h.1 hn, h.2⟩
/-- (*given.example/pub-tinwright/pub/smithy/middleware.FinalizeStep).Get -/
theorem GetH3 (base sb : Nat) (A B : List Nd) (x : Nd) (items : List Nd) (hit : items = A ++ x :: B) (hA : ∀ y ∈ A, y.id ≠ x.id)  : FnW Tryz.prog 97 [Pt sb 0, S x.id] base [[(sb, .cells #[(hdp (items)), (lastp (items))] 212 (0, 0))], ch 210 241 239 items .nilIface] (fun v Hs => v = .tuple #[wv 239 x, .bool true] ∧ Hs = [[(sb, .cells #[(hdp (items)), (lastp (items))] 212 (0, 0))], ch 210 241 239 items .nilIface]) := by
  refine FnW.enter (n := 20) Tryz.func97 rfl rfl fun w0 R0 hbase => ?_
  subst hbase
  show WC _ _ _ _ _ _ _ ([[(sb, .cells #[(hdp (items)), (lastp (items))] 212 (0, 0))], ch 210 241 239 items .nilIface, R0])
  refine WC.sub (fr' := [(0, _), (1, _)]) ?_ ⟨rfl, rfl, trivial⟩
  refine WC.seq (WC.region ?_)
  refine WL.q (oq_assign rfl) rfl rfl rfl ?_
  refine WL.q (oq_assign rfl) rfl rfl rfl ?_
  refine WL.nil (WE.then_normal (WC.sub (fr' := [(0, _), (1, _)]) ?_ ⟨rfl, rfl, trivial⟩))
  refine WC.seq (WC.region ?_)
  refine WL.q (oq_move rfl) rfl rfl rfl ?_
  refine WL.q (oq_move rfl) rfl rfl rfl ?_
  refine WL.f1 ?_
  refine WL.f1 ?_
  refine WL.callW2 (gotH3 _ sb x.id A B x items hit rfl hA) call117 rfl rfl rfl fun v1_2 Hs1_2 hR1_2 => ?_
  obtain ⟨rfl, rfl⟩ := hR1_2
  refine WL.to2 ?_
  refine WL.q (oq_move rfl) rfl rfl rfl ?_
  refine WL.q (oq_extract rfl rfl) rfl rfl rfl ?_
  refine WL.q (oq_extract rfl rfl) rfl rfl rfl ?_
  refine WL.q (oq_assign rfl) rfl rfl rfl ?_
  refine WL.q (oq_assign rfl) rfl rfl rfl ?_
  refine WL.nil (WE.then_normal (WC.sub (fr' := [(6, _)]) ?_ ⟨rfl, trivial⟩))
  refine WC.seq (WC.seq (WC.region ?_))
  refine WL.q (oq_move rfl) rfl rfl rfl ?_
  refine WL.q (oq_peql Tryz.underlying210 rfl rfl) rfl rfl rfl ?_
  refine WL.nil (WE.then_normal (WC.sub (fr' := [(6, _), (15, _)]) ?_ ⟨rfl, rfl, trivial⟩))
  refine WC.cond rfl (fun q2 => ?_) (fun q2 => ?_)
  ·
    try simp only [Z1, Z2, Z3, Z4, Z5, Z6, Z7, Z8, Z9, Z0] at q2
    simp at q2
  ·
    try simp only [Z1, Z2, Z3, Z4, Z5, Z6, Z7, Z8, Z9, Z0] at q2
    refine WC.skip (WE.then_normal (WC.sub (fr' := [(6, _)]) ?_ ⟨rfl, trivial⟩))
    refine WC.seq (WC.region ?_)
    refine WL.q (oq_move rfl) rfl rfl rfl ?_
    refine WL.q (oq_nilCheck rfl) rfl rfl rfl ?_
    refine WL.q (oq_fieldAddr fld241_1 rfl) rfl rfl rfl ?_
    refine WL.q (oq_load flat165 rfl (.tail _ (.head _)) (by rw [hit]; exact ch_mem _ _ _ _) rfl) rfl rfl rfl ?_
    refine WL.q (oq_assign rfl) rfl rfl rfl ?_
    refine WL.q (oq_assign rfl) rfl rfl rfl ?_
    refine WL.nil (WE.then_normal (WC.sub (fr' := [(4, _), (5, _)]) ?_ ⟨rfl, rfl, trivial⟩))
    refine WC.ret ?_
    refine WE.endW2 (.inl rfl) (res2 Tryz.results97 rfl rfl) ?_
    -- end 0
    exact ⟨rfl, rfl⟩

/-- (*given.example/pub-tinwright/pub/smithy/middleware.FinalizeStep).Get -/
theorem GetM3 (base sb : Nat) (id : List UInt8) (items : List Nd) (hn : ∀ y ∈ items, y.id ≠ id) : FnW Tryz.prog 97 [Pt sb 0, S id] base [[(sb, .cells #[(hdp (items)), (lastp (items))] 212 (0, 0))], ch 210 241 239 items .nilIface] (fun v Hs => v = .tuple #[.nilIface, .bool false] ∧ Hs = [[(sb, .cells #[(hdp (items)), (lastp (items))] 212 (0, 0))], ch 210 241 239 items .nilIface]) := by
  refine FnW.enter (n := 20) Tryz.func97 rfl rfl fun w0 R0 hbase => ?_
  subst hbase
  show WC _ _ _ _ _ _ _ ([[(sb, .cells #[(hdp (items)), (lastp (items))] 212 (0, 0))], ch 210 241 239 items .nilIface, R0])
  refine WC.sub (fr' := [(0, _), (1, _)]) ?_ ⟨rfl, rfl, trivial⟩
  refine WC.seq (WC.region ?_)
  refine WL.q (oq_assign rfl) rfl rfl rfl ?_
  refine WL.q (oq_assign rfl) rfl rfl rfl ?_
  refine WL.nil (WE.then_normal (WC.sub (fr' := [(0, _), (1, _)]) ?_ ⟨rfl, rfl, trivial⟩))
  refine WC.seq (WC.region ?_)
  refine WL.q (oq_move rfl) rfl rfl rfl ?_
  refine WL.q (oq_move rfl) rfl rfl rfl ?_
  refine WL.f1 ?_
  refine WL.f1 ?_
  refine WL.callW2 (gotM3 _ sb id items hn) call117 rfl rfl rfl fun v1_2 Hs1_2 hR1_2 => ?_
  obtain ⟨rfl, rfl⟩ := hR1_2
  refine WL.to2 ?_
  refine WL.q (oq_move rfl) rfl rfl rfl ?_
  refine WL.q (oq_extract rfl rfl) rfl rfl rfl ?_
  refine WL.q (oq_extract rfl rfl) rfl rfl rfl ?_
  refine WL.q (oq_assign rfl) rfl rfl rfl ?_
  refine WL.q (oq_assign rfl) rfl rfl rfl ?_
  refine WL.nil (WE.then_normal (WC.sub (fr' := [(6, _)]) ?_ ⟨rfl, trivial⟩))
  refine WC.seq (WC.seq (WC.region ?_))
  refine WL.q (oq_move rfl) rfl rfl rfl ?_
  refine WL.q (oq_peql Tryz.underlying210 rfl rfl) rfl rfl rfl ?_
  refine WL.nil (WE.then_normal (WC.sub (fr' := [(6, _), (15, _)]) ?_ ⟨rfl, rfl, trivial⟩))
  refine WC.cond rfl (fun q2 => ?_) (fun q2 => ?_)
  ·
    try simp only [Z1, Z2, Z3, Z4, Z5, Z6, Z7, Z8, Z9, Z0] at q2
    refine WC.seq (WC.region ?_)
    refine WL.q (oq_assign rfl) rfl rfl rfl ?_
    refine WL.q (oq_assign rfl) rfl rfl rfl ?_
    refine WL.nil (WE.then_normal (WC.sub (fr' := [(4, _), (5, _)]) ?_ ⟨rfl, rfl, trivial⟩))
    refine WC.ret (WE.then_ret ?_)
    refine WE.endW2 (.inl rfl) (res2 Tryz.results97 rfl rfl) ?_
    -- end 0
    exact ⟨rfl, rfl⟩
  ·
    try simp only [Z1, Z2, Z3, Z4, Z5, Z6, Z7, Z8, Z9, Z0] at q2
    simp at q2

/-- (*given.example/pub-tinwright/pub/smithy/middleware.FinalizeStep).Clear -/
theorem Clear3 (base sb : Nat) (hv tv : Value) : FnW Tryz.prog 94 [Pt sb 0] base [[(sb, .cells #[hv, tv] 212 (0, 0))]] (fun v Hs => Hs = [[(sb, .cells #[.pointer none, .pointer none] 212 (0, 0))]]) := by
  refine FnW.enter (n := 8) Tryz.func94 rfl rfl fun w0 R0 hbase => ?_
  subst hbase
  show WC _ _ _ _ _ _ _ ([[(sb, .cells #[hv, tv] 212 (0, 0))], R0])
  refine WC.sub (fr' := [(0, _)]) ?_ ⟨rfl, trivial⟩
  refine WC.seq (WC.region ?_)
  refine WL.q (oq_move rfl) rfl rfl rfl ?_
  refine WL.q (oq_nilCheck rfl) rfl rfl rfl ?_
  refine WL.q (oq_fieldAddr fld212_0 rfl) rfl rfl rfl ?_
  refine WL.store1 #[_, _] ty210 rfl rfl (by first | rfl | exact OwS.one one_) (Nat.lt_of_lt_of_le (Nat.lt_succ_self _) (Nat.le_of_ble_eq_true rfl)) rfl rfl ?_
  refine WL.nil (WE.then_normal (WC.sub (fr' := [(0, _)]) ?_ ⟨rfl, trivial⟩))
  refine WC.region ?_
  refine WL.q (oq_move rfl) rfl rfl rfl ?_
  refine WL.q (oq_nilCheck rfl) rfl rfl rfl ?_
  refine WL.q (oq_fieldAddr fld212_1 rfl) rfl rfl rfl ?_
  refine WL.store1 #[_, _] ty210 rfl rfl (by first | rfl | exact OwS.one one_) (Nat.lt_of_lt_of_le (Nat.lt_succ_self _) (Nat.le_of_ble_eq_true rfl)) rfl rfl ?_
  refine WL.nil ?_
  refine WE.endW1 (.inr rfl) (res0 Tryz.results94) ?_
  -- end 0
  exact rfl

/-- (*given.example/pub-tinwright/pub/smithy/middleware.FinalizeStep).Add -/
theorem addN3 (base sb : Nat) (id : List UInt8) (fv : Value) (pos : Int) : FnW Tryz.prog 87 [Pt sb 0, .iface 239 (.agg #[S id, fv]), I pos] base [[(sb, .cells #[.pointer none, .pointer none] 212 (0, 0))]] (fun v Hs => v = .nilIface ∧ ∃ e, base ≤ e ∧ Hs = [[(sb, .cells #[Pt e 0, Pt e 0] 212 (0, 0))], [(e, .cells #[.nilIface, .iface 239 (.agg #[S id, fv])] 241 (0, 0))]]) := by
  refine FnW.enter (n := 54) Tryz.func87 rfl rfl fun w0 R0 hbase => ?_
  subst hbase
  show WC _ _ _ _ _ _ _ ([[(sb, .cells #[.pointer none, .pointer none] 212 (0, 0))], R0])
  refine WC.sub (fr' := [(0, _), (1, _), (2, _)]) ?_ ⟨rfl, rfl, rfl, trivial⟩
  refine WC.seq (WC.region ?_)
  refine WL.q (oq_assign rfl) rfl rfl rfl ?_
  refine WL.nil (WE.then_normal (WC.sub (fr' := [(0, _), (1, _), (2, _)]) ?_ ⟨rfl, rfl, rfl, trivial⟩))
  refine WC.seq (WC.seq (WC.region ?_))
  refine WL.q (oq_move rfl) rfl rfl rfl ?_
  refine WL.q (oq_nilCheck rfl) rfl rfl rfl ?_
  refine WL.q (oq_fieldAddr fld212_0 rfl) rfl rfl rfl ?_
  refine WL.q (oq_load flat210 rfl (.head _) (List.mem_singleton.2 rfl) rfl) rfl rfl rfl ?_
  refine WL.q (oq_peql Tryz.underlying210 rfl rfl) rfl rfl rfl ?_
  refine WL.nil (WE.then_normal (WC.sub (fr' := [(0, _), (1, _), (2, _), (12, _)]) ?_ ⟨rfl, rfl, rfl, rfl, trivial⟩))
  refine WC.cond rfl (fun q1 => ?_) (fun q1 => ?_)
  ·
    try simp only [Z1, Z2, Z3, Z4, Z5, Z6, Z7, Z8, Z9, Z0] at q1
    refine WC.seq (WC.region ?_)
    refine WL.q (oq_move rfl) rfl rfl rfl ?_
    refine WL.q (oq_move rfl) rfl rfl rfl ?_
    refine WL.q (oq_build #[_, _] str241 ty241 rfl rfl) rfl rfl rfl ?_
    refine WL.box rfl rfl rfl fun e he => ?_
    refine WL.q (oq_nilCheck rfl) rfl rfl rfl ?_
    refine WL.q (oq_fieldAddr fld212_0 rfl) rfl rfl rfl ?_
    refine WL.f1 ?_
    refine WL.store1 #[_, _] ty210 rfl rfl (by first | rfl | exact OwS.one one_) (Nat.lt_of_lt_of_le (Nat.lt_succ_self _) (Nat.le_of_ble_eq_true rfl)) rfl rfl ?_
    refine WL.nil (WE.then_normal (WC.sub (fr' := [(0, _)]) ?_ ⟨rfl, trivial⟩))
    refine WC.seq (WC.region ?_)
    refine WL.q (oq_move rfl) rfl rfl rfl ?_
    refine WL.q (oq_move rfl) rfl rfl rfl ?_
    refine WL.q (oq_nilCheck rfl) rfl rfl rfl ?_
    refine WL.q (oq_fieldAddr fld212_0 rfl) rfl rfl rfl ?_
    refine WL.q (oq_load flat210 rfl (.head _) (List.mem_singleton.2 rfl) rfl) rfl rfl rfl ?_
    refine WL.q (oq_nilCheck rfl) rfl rfl rfl ?_
    refine WL.q (oq_fieldAddr fld212_1 rfl) rfl rfl rfl ?_
    refine WL.store1 #[_, _] ty210 rfl rfl (by first | rfl | exact OwS.one one_) (Nat.lt_of_lt_of_le (Nat.lt_succ_self _) (Nat.le_of_ble_eq_true rfl)) rfl rfl ?_
    refine WL.nil (WE.then_normal (WC.sub (fr' := []) ?_ trivial))
    refine WC.seq (WC.region ?_)
    refine WL.q (oq_assign rfl) rfl rfl rfl ?_
    refine WL.nil (WE.then_normal (WC.sub (fr' := [(6, _)]) ?_ ⟨rfl, trivial⟩))
    refine WC.ret (WE.then_ret ?_)
    refine WE.endW2 (.inl rfl) (res1 Tryz.results87 rfl) ?_
    -- end 0
    exact ⟨rfl, e, he, rfl⟩
  ·
    try simp only [Z1, Z2, Z3, Z4, Z5, Z6, Z7, Z8, Z9, Z0] at q1
    simp at q1

/-- (*given.example/pub-tinwright/pub/smithy/middleware.FinalizeStep).Add -/
theorem addB3 (base sb hb : Nat) (tv : Value) (id : List UInt8) (fv : Value) : FnW Tryz.prog 87 [Pt sb 0, .iface 239 (.agg #[S id, fv]), I 1] base [[(sb, .cells #[Pt hb 0, tv] 212 (0, 0))]] (fun v Hs => v = .nilIface ∧ ∃ e, base ≤ e ∧ Hs = [[(sb, .cells #[Pt e 0, tv] 212 (0, 0))], [(e, .cells #[.iface 210 (Pt hb 0), .iface 239 (.agg #[S id, fv])] 241 (0, 0))]]) := by
  refine FnW.enter (n := 54) Tryz.func87 rfl rfl fun w0 R0 hbase => ?_
  subst hbase
  show WC _ _ _ _ _ _ _ ([[(sb, .cells #[Pt hb 0, tv] 212 (0, 0))], R0])
  refine WC.sub (fr' := [(0, _), (1, _), (2, _)]) ?_ ⟨rfl, rfl, rfl, trivial⟩
  refine WC.seq (WC.region ?_)
  refine WL.q (oq_assign rfl) rfl rfl rfl ?_
  refine WL.nil (WE.then_normal (WC.sub (fr' := [(0, _), (1, _), (2, _)]) ?_ ⟨rfl, rfl, rfl, trivial⟩))
  refine WC.seq (WC.seq (WC.region ?_))
  refine WL.q (oq_move rfl) rfl rfl rfl ?_
  refine WL.q (oq_nilCheck rfl) rfl rfl rfl ?_
  refine WL.q (oq_fieldAddr fld212_0 rfl) rfl rfl rfl ?_
  refine WL.q (oq_load flat210 rfl (.head _) (List.mem_singleton.2 rfl) rfl) rfl rfl rfl ?_
  refine WL.q (oq_peql Tryz.underlying210 rfl rfl) rfl rfl rfl ?_
  refine WL.nil (WE.then_normal (WC.sub (fr' := [(0, _), (1, _), (2, _), (12, _)]) ?_ ⟨rfl, rfl, rfl, rfl, trivial⟩))
  refine WC.cond rfl (fun q1 => ?_) (fun q1 => ?_)
  ·
    try simp only [Z1, Z2, Z3, Z4, Z5, Z6, Z7, Z8, Z9, Z0] at q1
    first | (simp at q1; done) | (simp at q5; done) | (exfalso; omega)
  ·
    try simp only [Z1, Z2, Z3, Z4, Z5, Z6, Z7, Z8, Z9, Z0] at q1
    refine WC.skip (WE.then_normal (WC.sub (fr' := [(0, _), (1, _), (2, _)]) ?_ ⟨rfl, rfl, rfl, trivial⟩))
    refine WC.seq (WC.seq (WC.region ?_))
    refine WL.q (oq_move rfl) rfl rfl rfl ?_
    refine WL.q (oq_eql rfl rfl) rfl rfl rfl ?_
    refine WL.nil (WE.then_normal (WC.sub (fr' := [(0, _), (1, _), (27, _)]) ?_ ⟨rfl, rfl, rfl, trivial⟩))
    refine WC.cond rfl (fun q5 => ?_) (fun q5 => ?_)
    ·
      try simp only [Z1, Z2, Z3, Z4, Z5, Z6, Z7, Z8, Z9, Z0] at q5
      refine WC.region ?_
      refine WL.q (oq_move rfl) rfl rfl rfl ?_
      refine WL.q (oq_move rfl) rfl rfl rfl ?_
      refine WL.q (oq_nilCheck rfl) rfl rfl rfl ?_
      refine WL.q (oq_fieldAddr fld212_0 rfl) rfl rfl rfl ?_
      refine WL.q (oq_load flat210 rfl (.head _) (List.mem_singleton.2 rfl) rfl) rfl rfl rfl ?_
      refine WL.q (oq_makeI conc210 rfl) rfl rfl rfl ?_
      refine WL.q (oq_move rfl) rfl rfl rfl ?_
      refine WL.q (oq_build #[_, _] str241 ty241 rfl rfl) rfl rfl rfl ?_
      refine WL.box rfl rfl rfl fun e he => ?_
      refine WL.q (oq_nilCheck rfl) rfl rfl rfl ?_
      refine WL.q (oq_fieldAddr fld212_0 rfl) rfl rfl rfl ?_
      refine WL.f1 ?_
      refine WL.store1 #[_, _] ty210 rfl rfl (by first | rfl | exact OwS.one one_) (Nat.lt_of_lt_of_le (Nat.lt_succ_self _) (Nat.le_of_ble_eq_true rfl)) rfl rfl ?_
      refine WL.nil (WE.then_normal (WC.sub (fr' := []) ?_ trivial))
      refine WC.seq (WC.region ?_)
      refine WL.q (oq_assign rfl) rfl rfl rfl ?_
      refine WL.nil (WE.then_normal (WC.sub (fr' := [(6, _)]) ?_ ⟨rfl, trivial⟩))
      refine WC.ret ?_
      refine WE.endW2 (.inl rfl) (res1 Tryz.results87 rfl) ?_
      -- end 0
      exact ⟨rfl, e, he, rfl⟩
    ·
      try simp only [Z1, Z2, Z3, Z4, Z5, Z6, Z7, Z8, Z9, Z0] at q5
      first | (simp at q1; done) | (simp at q5; done) | (exfalso; omega)

/-- (*given.example/pub-tinwright/pub/smithy/middleware.FinalizeStep).Add -/
theorem addA3 (base sb hb lb : Nat) (lw : Value) (id : List UInt8) (fv : Value) : FnW Tryz.prog 87 [Pt sb 0, .iface 239 (.agg #[S id, fv]), I 0] base [[(sb, .cells #[Pt hb 0, Pt lb 0] 212 (0, 0))], [(lb, .cells #[.nilIface, lw] 241 (0, 0))]] (fun v Hs => v = .nilIface ∧ ∃ e, base ≤ e ∧ Hs = [[(sb, .cells #[Pt hb 0, Pt e 0] 212 (0, 0))], [(lb, .cells #[.iface 210 (Pt e 0), lw] 241 (0, 0))], [(e, .cells #[.nilIface, .iface 239 (.agg #[S id, fv])] 241 (0, 0))]]) := by
  refine FnW.enter (n := 54) Tryz.func87 rfl rfl fun w0 R0 hbase => ?_
  subst hbase
  show WC _ _ _ _ _ _ _ ([[(sb, .cells #[Pt hb 0, Pt lb 0] 212 (0, 0))], [(lb, .cells #[.nilIface, lw] 241 (0, 0))], R0])
  refine WC.sub (fr' := [(0, _), (1, _), (2, _)]) ?_ ⟨rfl, rfl, rfl, trivial⟩
  refine WC.seq (WC.region ?_)
  refine WL.q (oq_assign rfl) rfl rfl rfl ?_
  refine WL.nil (WE.then_normal (WC.sub (fr' := [(0, _), (1, _), (2, _)]) ?_ ⟨rfl, rfl, rfl, trivial⟩))
  refine WC.seq (WC.seq (WC.region ?_))
  refine WL.q (oq_move rfl) rfl rfl rfl ?_
  refine WL.q (oq_nilCheck rfl) rfl rfl rfl ?_
  refine WL.q (oq_fieldAddr fld212_0 rfl) rfl rfl rfl ?_
  refine WL.q (oq_load flat210 rfl (.head _) (List.mem_singleton.2 rfl) rfl) rfl rfl rfl ?_
  refine WL.q (oq_peql Tryz.underlying210 rfl rfl) rfl rfl rfl ?_
  refine WL.nil (WE.then_normal (WC.sub (fr' := [(0, _), (1, _), (2, _), (12, _)]) ?_ ⟨rfl, rfl, rfl, rfl, trivial⟩))
  refine WC.cond rfl (fun q1 => ?_) (fun q1 => ?_)
  ·
    try simp only [Z1, Z2, Z3, Z4, Z5, Z6, Z7, Z8, Z9, Z0] at q1
    first | (simp at q1; done) | (simp at q5; done) | (exfalso; omega)
  ·
    try simp only [Z1, Z2, Z3, Z4, Z5, Z6, Z7, Z8, Z9, Z0] at q1
    refine WC.skip (WE.then_normal (WC.sub (fr' := [(0, _), (1, _), (2, _)]) ?_ ⟨rfl, rfl, rfl, trivial⟩))
    refine WC.seq (WC.seq (WC.region ?_))
    refine WL.q (oq_move rfl) rfl rfl rfl ?_
    refine WL.q (oq_eql rfl rfl) rfl rfl rfl ?_
    refine WL.nil (WE.then_normal (WC.sub (fr' := [(0, _), (1, _), (27, _)]) ?_ ⟨rfl, rfl, rfl, trivial⟩))
    refine WC.cond rfl (fun q5 => ?_) (fun q5 => ?_)
    ·
      try simp only [Z1, Z2, Z3, Z4, Z5, Z6, Z7, Z8, Z9, Z0] at q5
      first | (simp at q1; done) | (simp at q5; done) | (exfalso; omega)
    ·
      try simp only [Z1, Z2, Z3, Z4, Z5, Z6, Z7, Z8, Z9, Z0] at q5
      refine WC.seq (WC.region ?_)
      refine WL.q (oq_move rfl) rfl rfl rfl ?_
      refine WL.q (oq_build #[_, _] str241 ty241 rfl rfl) rfl rfl rfl ?_
      refine WL.box rfl rfl rfl fun e he => ?_
      refine WL.q (oq_assign rfl) rfl rfl rfl ?_
      refine WL.nil (WE.then_normal (WC.sub (fr' := [(0, _), (7, _)]) ?_ ⟨rfl, rfl, trivial⟩))
      refine WC.seq (WC.region ?_)
      refine WL.q (oq_move rfl) rfl rfl rfl ?_
      refine WL.q (oq_nilCheck rfl) rfl rfl rfl ?_
      refine WL.q (oq_fieldAddr fld212_1 rfl) rfl rfl rfl ?_
      refine WL.q (oq_load flat210 rfl (.tail _ (.head _)) (List.mem_singleton.2 rfl) rfl) rfl rfl rfl ?_
      refine WL.q (oq_move rfl) rfl rfl rfl ?_
      refine WL.q (oq_makeI conc210 rfl) rfl rfl rfl ?_
      refine WL.q (oq_nilCheck rfl) rfl rfl rfl ?_
      refine WL.q (oq_fieldAddr fld241_0 rfl) rfl rfl rfl ?_
      refine WL.f2 ?_
      refine WL.store1 #[_, _] ty169 rfl rfl (by first | rfl | exact OwS.one one_) (Nat.lt_of_lt_of_le (Nat.lt_succ_self _) (Nat.le_of_ble_eq_true rfl)) rfl rfl ?_
      refine WL.nil (WE.then_normal (WC.sub (fr' := [(0, _), (7, _)]) ?_ ⟨rfl, rfl, trivial⟩))
      refine WC.region ?_
      refine WL.q (oq_move rfl) rfl rfl rfl ?_
      refine WL.q (oq_move rfl) rfl rfl rfl ?_
      refine WL.q (oq_nilCheck rfl) rfl rfl rfl ?_
      refine WL.q (oq_fieldAddr fld212_1 rfl) rfl rfl rfl ?_
      refine WL.f2 ?_
      refine WL.store1 #[_, _] ty210 rfl rfl (by first | rfl | exact OwS.one one_) (Nat.lt_of_lt_of_le (Nat.lt_succ_self _) (Nat.le_of_ble_eq_true rfl)) rfl rfl ?_
      refine WL.nil (WE.then_normal (WC.sub (fr' := []) ?_ trivial))
      refine WC.seq (WC.region ?_)
      refine WL.q (oq_assign rfl) rfl rfl rfl ?_
      refine WL.nil (WE.then_normal (WC.sub (fr' := [(6, _)]) ?_ ⟨rfl, trivial⟩))
      refine WC.ret ?_
      refine WE.endW3 (.inl rfl) (res1 Tryz.results87 rfl) ?_
      -- end 0
      exact ⟨rfl, e, he, rfl⟩


theorem got4 (base sb : Nat) (id : List UInt8) (items : List Nd) : FnW Tryz.prog 118 [Pt sb 0, S id] base [[(sb, .cells #[(hdp (items)), (lastp (items))] 215 (0, 0))], ch 213 248 246 items .nilIface] (fun v Hs => GotV id items v ∧ Hs = [[(sb, .cells #[(hdp (items)), (lastp (items))] 215 (0, 0))], ch 213 248 246 items .nilIface]) := by
  cases items with
  | nil => exact (getN4 base sb id).reg (by simp [ch, hdp, lastp]) (fun v Hs h => ⟨_, ⟨h.1, rfl⟩, by rw [h.2]; simp [ch, hdp, lastp]⟩)
  | cons x r => exact getC4 base sb (x :: r) x r rfl id
theorem gotH4 (base sb : Nat) (id : List UInt8) (A B : List Nd) (x : Nd) (items : List Nd) (hit : items = A ++ x :: B) (hx : x.id = id) (hA : ∀ y ∈ A, y.id ≠ id) : FnW Tryz.prog 118 [Pt sb 0, S id] base [[(sb, .cells #[(hdp (items)), (lastp (items))] 215 (0, 0))], ch 213 248 246 items .nilIface] (fun v Hs => v = .tuple #[Pt x.b 0, lastp A] ∧ Hs = [[(sb, .cells #[(hdp (items)), (lastp (items))] 215 (0, 0))], ch 213 248 246 items .nilIface]) :=
  (got4 base sb id items).mono fun v Hs h => ⟨by have h1 := h.1; rw [hit] at h1; exact got_hit h1 hx hA, h.2⟩
theorem gotM4 (base sb : Nat) (id : List UInt8) (items : List Nd) (hn : ∀ y ∈ items, y.id ≠ id) : FnW Tryz.prog 118 [Pt sb 0, S id] base [[(sb, .cells #[(hdp (items)), (lastp (items))] 215 (0, 0))], ch 213 248 246 items .nilIface] (fun v Hs => v = .tuple #[.pointer none, lastp items] ∧ Hs = [[(sb, .cells #[(hdp (items)), (lastp (items))] 215 (0, 0))], ch 213 248 246 items .nilIface]) :=
  (got4 base sb id items).mono fun v Hs h => ⟨got_miss h.1 hn, h.2⟩
/-- (*given.example/pub-tinwright/pub/smithy/middleware.DeserializeStep).Get -/
theorem GetH4 (base sb : Nat) (A B : List Nd) (x : Nd) (items : List Nd) (hit : items = A ++ x :: B) (hA : ∀ y ∈ A, y.id ≠ x.id)  : FnW Tryz.prog 112 [Pt sb 0, S x.id] base [[(sb, .cells #[(hdp (items)), (lastp (items))] 215 (0, 0))], ch 213 248 246 items .nilIface] (fun v Hs => v = .tuple #[wv 246 x, .bool true] ∧ Hs = [[(sb, .cells #[(hdp (items)), (lastp (items))] 215 (0, 0))], ch 213 248 246 items .nilIface]) := by
  refine FnW.enter (n := 20) Tryz.func112 rfl rfl fun w0 R0 hbase => ?_
  subst hbase
  show WC _ _ _ _ _ _ _ ([[(sb, .cells #[(hdp (items)), (lastp (items))] 215 (0, 0))], ch 213 248 246 items .nilIface, R0])
  refine WC.sub (fr' := [(0, _), (1, _)]) ?_ ⟨rfl, rfl, trivial⟩
  refine WC.seq (WC.region ?_)
  refine WL.q (oq_assign rfl) rfl rfl rfl ?_
  refine WL.q (oq_assign rfl) rfl rfl rfl ?_
  refine WL.nil (WE.then_normal (WC.sub (fr' := [(0, _), (1, _)]) ?_ ⟨rfl, rfl, trivial⟩))
  refine WC.seq (WC.region ?_)
  refine WL.q (oq_move rfl) rfl rfl rfl ?_
  refine WL.q (oq_move rfl) rfl rfl rfl ?_
  refine WL.f1 ?_
  refine WL.f1 ?_
  refine WL.callW2 (gotH4 _ sb x.id A B x items hit rfl hA) call118 rfl rfl rfl fun v1_2 Hs1_2 hR1_2 => ?_
  obtain ⟨rfl, rfl⟩ := hR1_2
  refine WL.to2 ?_
  refine WL.q (oq_move rfl) rfl rfl rfl ?_
  refine WL.q (oq_extract rfl rfl) rfl rfl rfl ?_
  refine WL.q (oq_extract rfl rfl) rfl rfl rfl ?_
  refine WL.q (oq_assign rfl) rfl rfl rfl ?_
  refine WL.q (oq_assign rfl) rfl rfl rfl ?_
  refine WL.nil (WE.then_normal (WC.sub (fr' := [(6, _)]) ?_ ⟨rfl, trivial⟩))
  refine WC.seq (WC.seq (WC.region ?_))
  refine WL.q (oq_move rfl) rfl rfl rfl ?_
  refine WL.q (oq_peql Tryz.underlying213 rfl rfl) rfl rfl rfl ?_
  refine WL.nil (WE.then_normal (WC.sub (fr' := [(6, _), (15, _)]) ?_ ⟨rfl, rfl, trivial⟩))
  refine WC.cond rfl (fun q2 => ?_) (fun q2 => ?_)
  ·
    try simp only [Z1, Z2, Z3, Z4, Z5, Z6, Z7, Z8, Z9, Z0] at q2
    simp at q2
  ·
    try simp only [Z1, Z2, Z3, Z4, Z5, Z6, Z7, Z8, Z9, Z0] at q2
    refine WC.skip (WE.then_normal (WC.sub (fr' := [(6, _)]) ?_ ⟨rfl, trivial⟩))
    refine WC.seq (WC.region ?_)
    refine WL.q (oq_move rfl) rfl rfl rfl ?_
    refine WL.q (oq_nilCheck rfl) rfl rfl rfl ?_
    refine WL.q (oq_fieldAddr fld248_1 rfl) rfl rfl rfl ?_
    refine WL.q (oq_load flat183 rfl (.tail _ (.head _)) (by rw [hit]; exact ch_mem _ _ _ _) rfl) rfl rfl rfl ?_
    refine WL.q (oq_assign rfl) rfl rfl rfl ?_
    refine WL.q (oq_assign rfl) rfl rfl rfl ?_
    refine WL.nil (WE.then_normal (WC.sub (fr' := [(4, _), (5, _)]) ?_ ⟨rfl, rfl, trivial⟩))
    refine WC.ret ?_
    refine WE.endW2 (.inl rfl) (res2 Tryz.results112 rfl rfl) ?_
    -- end 0
    exact ⟨rfl, rfl⟩

/-- (*given.example/pub-tinwright/pub/smithy/middleware.DeserializeStep).Get -/
theorem GetM4 (base sb : Nat) (id : List UInt8) (items : List Nd) (hn : ∀ y ∈ items, y.id ≠ id) : FnW Tryz.prog 112 [Pt sb 0, S id] base [[(sb, .cells #[(hdp (items)), (lastp (items))] 215 (0, 0))], ch 213 248 246 items .nilIface] (fun v Hs => v = .tuple #[.nilIface, .bool false] ∧ Hs = [[(sb, .cells #[(hdp (items)), (lastp (items))] 215 (0, 0))], ch 213 248 246 items .nilIface]) := by
  refine FnW.enter (n := 20) Tryz.func112 rfl rfl fun w0 R0 hbase => ?_
  subst hbase
  show WC _ _ _ _ _ _ _ ([[(sb, .cells #[(hdp (items)), (lastp (items))] 215 (0, 0))], ch 213 248 246 items .nilIface, R0])
  refine WC.sub (fr' := [(0, _), (1, _)]) ?_ ⟨rfl, rfl, trivial⟩
  refine WC.seq (WC.region ?_)
  refine WL.q (oq_assign rfl) rfl rfl rfl ?_
  refine WL.q (oq_assign rfl) rfl rfl rfl ?_
  refine WL.nil (WE.then_normal (WC.sub (fr' := [(0, _), (1, _)]) ?_ ⟨rfl, rfl, trivial⟩))
  refine WC.seq (WC.region ?_)
  refine WL.q (oq_move rfl) rfl rfl rfl ?_
  refine WL.q (oq_move rfl) rfl rfl rfl ?_
  refine WL.f1 ?_
  refine WL.f1 ?_
  refine WL.callW2 (gotM4 _ sb id items hn) call118 rfl rfl rfl fun v1_2 Hs1_2 hR1_2 => ?_
  obtain ⟨rfl, rfl⟩ := hR1_2
  refine WL.to2 ?_
  refine WL.q (oq_move rfl) rfl rfl rfl ?_
  refine WL.q (oq_extract rfl rfl) rfl rfl rfl ?_
  refine WL.q (oq_extract rfl rfl) rfl rfl rfl ?_
  refine WL.q (oq_assign rfl) rfl rfl rfl ?_
  refine WL.q (oq_assign rfl) rfl rfl rfl ?_
  refine WL.nil (WE.then_normal (WC.sub (fr' := [(6, _)]) ?_ ⟨rfl, trivial⟩))
  refine WC.seq (WC.seq (WC.region ?_))
  refine WL.q (oq_move rfl) rfl rfl rfl ?_
  refine WL.q (oq_peql Tryz.underlying213 rfl rfl) rfl rfl rfl ?_
  refine WL.nil (WE.then_normal (WC.sub (fr' := [(6, _), (15, _)]) ?_ ⟨rfl, rfl, trivial⟩))
  refine WC.cond rfl (fun q2 => ?_) (fun q2 => ?_)
  ·
    try simp only [Z1, Z2, Z3, Z4, Z5, Z6, Z7, Z8, Z9, Z0] at q2
    refine WC.seq (WC.region ?_)
    refine WL.q (oq_assign rfl) rfl rfl rfl ?_
    refine WL.q (oq_assign rfl) rfl rfl rfl ?_
    refine WL.nil (WE.then_normal (WC.sub (fr' := [(4, _), (5, _)]) ?_ ⟨rfl, rfl, trivial⟩))
    refine WC.ret (WE.then_ret ?_)
    refine WE.endW2 (.inl rfl) (res2 Tryz.results112 rfl rfl) ?_
    -- end 0
    exact ⟨rfl, rfl⟩
  ·
    try simp only [Z1, Z2, Z3, Z4, Z5, Z6, Z7, Z8, Z9, Z0] at q2
    simp at q2

/-- (*given.example/pub-tinwright/pub/smithy/middleware.DeserializeStep).Clear -/
theorem Clear4 (base sb : Nat) (hv tv : Value) : FnW Tryz.prog 109 [Pt sb 0] base [[(sb, .cells #[hv, tv] 215 (0, 0))]] (fun v Hs => Hs = [[(sb, .cells #[.pointer none, .pointer none] 215 (0, 0))]]) := by
  refine FnW.enter (n := 8) Tryz.func109 rfl rfl fun w0 R0 hbase => ?_
  subst hbase
  show WC _ _ _ _ _ _ _ ([[(sb, .cells #[hv, tv] 215 (0, 0))], R0])
  refine WC.sub (fr' := [(0, _)]) ?_ ⟨rfl, trivial⟩
  refine WC.seq (WC.region ?_)
  refine WL.q (oq_move rfl) rfl rfl rfl ?_
  refine WL.q (oq_nilCheck rfl) rfl rfl rfl ?_
  refine WL.q (oq_fieldAddr fld215_0 rfl) rfl rfl rfl ?_
  refine WL.store1 #[_, _] ty213 rfl rfl (by first | rfl | exact OwS.one one_) (Nat.lt_of_lt_of_le (Nat.lt_succ_self _) (Nat.le_of_ble_eq_true rfl)) rfl rfl ?_
  refine WL.nil (WE.then_normal (WC.sub (fr' := [(0, _)]) ?_ ⟨rfl, trivial⟩))
  refine WC.region ?_
  refine WL.q (oq_move rfl) rfl rfl rfl ?_
  refine WL.q (oq_nilCheck rfl) rfl rfl rfl ?_
  refine WL.q (oq_fieldAddr fld215_1 rfl) rfl rfl rfl ?_
  refine WL.store1 #[_, _] ty213 rfl rfl (by first | rfl | exact OwS.one one_) (Nat.lt_of_lt_of_le (Nat.lt_succ_self _) (Nat.le_of_ble_eq_true rfl)) rfl rfl ?_
  refine WL.nil ?_
  refine WE.endW1 (.inr rfl) (res0 Tryz.results109) ?_
  -- end 0
  exact rfl

/-- (*given.example/pub-tinwright/pub/smithy/middleware.DeserializeStep).Add -/
theorem addN4 (base sb : Nat) (id : List UInt8) (fv : Value) (pos : Int) : FnW Tryz.prog 102 [Pt sb 0, .iface 246 (.agg #[S id, fv]), I pos] base [[(sb, .cells #[.pointer none, .pointer none] 215 (0, 0))]] (fun v Hs => v = .nilIface ∧ ∃ e, base ≤ e ∧ Hs = [[(sb, .cells #[Pt e 0, Pt e 0] 215 (0, 0))], [(e, .cells #[.nilIface, .iface 246 (.agg #[S id, fv])] 248 (0, 0))]]) := by
  refine FnW.enter (n := 54) Tryz.func102 rfl rfl fun w0 R0 hbase => ?_
  subst hbase
  show WC _ _ _ _ _ _ _ ([[(sb, .cells #[.pointer none, .pointer none] 215 (0, 0))], R0])
  refine WC.sub (fr' := [(0, _), (1, _), (2, _)]) ?_ ⟨rfl, rfl, rfl, trivial⟩
  refine WC.seq (WC.region ?_)
  refine WL.q (oq_assign rfl) rfl rfl rfl ?_
  refine WL.nil (WE.then_normal (WC.sub (fr' := [(0, _), (1, _), (2, _)]) ?_ ⟨rfl, rfl, rfl, trivial⟩))
  refine WC.seq (WC.seq (WC.region ?_))
  refine WL.q (oq_move rfl) rfl rfl rfl ?_
  refine WL.q (oq_nilCheck rfl) rfl rfl rfl ?_
  refine WL.q (oq_fieldAddr fld215_0 rfl) rfl rfl rfl ?_
  refine WL.q (oq_load flat213 rfl (.head _) (List.mem_singleton.2 rfl) rfl) rfl rfl rfl ?_
  refine WL.q (oq_peql Tryz.underlying213 rfl rfl) rfl rfl rfl ?_
  refine WL.nil (WE.then_normal (WC.sub (fr' := [(0, _), (1, _), (2, _), (12, _)]) ?_ ⟨rfl, rfl, rfl, rfl, trivial⟩))
  refine WC.cond rfl (fun q1 => ?_) (fun q1 => ?_)
  ·
    try simp only [Z1, Z2, Z3, Z4, Z5, Z6, Z7, Z8, Z9, Z0] at q1
    refine WC.seq (WC.region ?_)
    refine WL.q (oq_move rfl) rfl rfl rfl ?_
    refine WL.q (oq_move rfl) rfl rfl rfl ?_
    refine WL.q (oq_build #[_, _] str248 ty248 rfl rfl) rfl rfl rfl ?_
    refine WL.box rfl rfl rfl fun e he => ?_
    refine WL.q (oq_nilCheck rfl) rfl rfl rfl ?_
    refine WL.q (oq_fieldAddr fld215_0 rfl) rfl rfl rfl ?_
    refine WL.f1 ?_
    refine WL.store1 #[_, _] ty213 rfl rfl (by first | rfl | exact OwS.one one_) (Nat.lt_of_lt_of_le (Nat.lt_succ_self _) (Nat.le_of_ble_eq_true rfl)) rfl rfl ?_
    refine WL.nil (WE.then_normal (WC.sub (fr' := [(0, _)]) ?_ ⟨rfl, trivial⟩))
    refine WC.seq (WC.region ?_)
    refine WL.q (oq_move rfl) rfl rfl rfl ?_
    refine WL.q (oq_move rfl) rfl rfl rfl ?_
    refine WL.q (oq_nilCheck rfl) rfl rfl rfl ?_
    refine WL.q (oq_fieldAddr fld215_0 rfl) rfl rfl rfl ?_
    refine WL.q (oq_load flat213 rfl (.head _) (List.mem_singleton.2 rfl) rfl) rfl rfl rfl ?_
    refine WL.q (oq_nilCheck rfl) rfl rfl rfl ?_
    refine WL.q (oq_fieldAddr fld215_1 rfl) rfl rfl rfl ?_
    refine WL.store1 #[_, _] ty213 rfl rfl (by first | rfl | exact OwS.one one_) (Nat.lt_of_lt_of_le (Nat.lt_succ_self _) (Nat.le_of_ble_eq_true rfl)) rfl rfl ?_
    refine WL.nil (WE.then_normal (WC.sub (fr' := []) ?_ trivial))
    refine WC.seq (WC.region ?_)
    refine WL.q (oq_assign rfl) rfl rfl rfl ?_
    refine WL.nil (WE.then_normal (WC.sub (fr' := [(6, _)]) ?_ ⟨rfl, trivial⟩))
    refine WC.ret (WE.then_ret ?_)
    refine WE.endW2 (.inl rfl) (res1 Tryz.results102 rfl) ?_
    -- end 0
    exact ⟨rfl, e, he, rfl⟩
  ·
    try simp only [Z1, Z2, Z3, Z4, Z5, Z6, Z7, Z8, Z9, Z0] at q1
    simp at q1

/-- (*given.example/pub-tinwright/pub/smithy/middleware.DeserializeStep).Add -/
theorem addB4 (base sb hb : Nat) (tv : Value) (id : List UInt8) (fv : Value) : FnW Tryz.prog 102 [Pt sb 0, .iface 246 (.agg #[S id, fv]), I 1] base [[(sb, .cells #[Pt hb 0, tv] 215 (0, 0))]] (fun v Hs => v = .nilIface ∧ ∃ e, base ≤ e ∧ Hs = [[(sb, .cells #[Pt e 0, tv] 215 (0, 0))], [(e, .cells #[.iface 213 (Pt hb 0), .iface 246 (.agg #[S id, fv])] 248 (0, 0))]]) := by
  refine FnW.enter (n := 54) Tryz.func102 rfl rfl fun w0 R0 hbase => ?_
  subst hbase
  show WC _ _ _ _ _ _ _ ([[(sb, .cells #[Pt hb 0, tv] 215 (0, 0))], R0])
  refine WC.sub (fr' := [(0, _), (1, _), (2, _)]) ?_ ⟨rfl, rfl, rfl, trivial⟩
  refine WC.seq (WC.region ?_)
  refine WL.q (oq_assign rfl) rfl rfl rfl ?_
  refine WL.nil (WE.then_normal (WC.sub (fr' := [(0, _), (1, _), (2, _)]) ?_ ⟨rfl, rfl, rfl, trivial⟩))
  refine WC.seq (WC.seq (WC.region ?_))
  refine WL.q (oq_move rfl) rfl rfl rfl ?_
  refine WL.q (oq_nilCheck rfl) rfl rfl rfl ?_
  refine WL.q (oq_fieldAddr fld215_0 rfl) rfl rfl rfl ?_
  refine WL.q (oq_load flat213 rfl (.head _) (List.mem_singleton.2 rfl) rfl) rfl rfl rfl ?_
  refine WL.q (oq_peql Tryz.underlying213 rfl rfl) rfl rfl rfl ?_
  refine WL.nil (WE.then_normal (WC.sub (fr' := [(0, _), (1, _), (2, _), (12, _)]) ?_ ⟨rfl, rfl, rfl, rfl, trivial⟩))
  refine WC.cond rfl (fun q1 => ?_) (fun q1 => ?_)
  ·
    try simp only [Z1, Z2, Z3, Z4, Z5, Z6, Z7, Z8, Z9, Z0] at q1
    first | (simp at q1; done) | (simp at q5; done) | (exfalso; omega)
  ·
    try simp only [Z1, Z2, Z3, Z4, Z5, Z6, Z7, Z8, Z9, Z0] at q1
    refine WC.skip (WE.then_normal (WC.sub (fr' := [(0, _), (1, _), (2, _)]) ?_ ⟨rfl, rfl, rfl, trivial⟩))
    refine WC.seq (WC.seq (WC.region ?_))
    refine WL.q (oq_move rfl) rfl rfl rfl ?_
    refine WL.q (oq_eql rfl rfl) rfl rfl rfl ?_
    refine WL.nil (WE.then_normal (WC.sub (fr' := [(0, _), (1, _), (27, _)]) ?_ ⟨rfl, rfl, rfl, trivial⟩))
    refine WC.cond rfl (fun q5 => ?_) (fun q5 => ?_)
    ·
      try simp only [Z1, Z2, Z3, Z4, Z5, Z6, Z7, Z8, Z9, Z0] at q5
      refine WC.region ?_
      refine WL.q (oq_move rfl) rfl rfl rfl ?_
      refine WL.q (oq_move rfl) rfl rfl rfl ?_
      refine WL.q (oq_nilCheck rfl) rfl rfl rfl ?_
      refine WL.q (oq_fieldAddr fld215_0 rfl) rfl rfl rfl ?_
      refine WL.q (oq_load flat213 rfl (.head _) (List.mem_singleton.2 rfl) rfl) rfl rfl rfl ?_
      refine WL.q (oq_makeI conc213 rfl) rfl rfl rfl ?_
      refine WL.q (oq_move rfl) rfl rfl rfl ?_
      refine WL.q (oq_build #[_, _] str248 ty248 rfl rfl) rfl rfl rfl ?_
      refine WL.box rfl rfl rfl fun e he => ?_
      refine WL.q (oq_nilCheck rfl) rfl rfl rfl ?_
      refine WL.q (oq_fieldAddr fld215_0 rfl) rfl rfl rfl ?_
      refine WL.f1 ?_
      refine WL.store1 #[_, _] ty213 rfl rfl (by first | rfl | exact OwS.one one_) (Nat.lt_of_lt_of_le (Nat.lt_succ_self _) (Nat.le_of_ble_eq_true rfl)) rfl rfl ?_
      refine WL.nil (WE.then_normal (WC.sub (fr' := []) ?_ trivial))
      refine WC.seq (WC.region ?_)
      refine WL.q (oq_assign rfl) rfl rfl rfl ?_
      refine WL.nil (WE.then_normal (WC.sub (fr' := [(6, _)]) ?_ ⟨rfl, trivial⟩))
      refine WC.ret ?_
      refine WE.endW2 (.inl rfl) (res1 Tryz.results102 rfl) ?_
      -- end 0
      exact ⟨rfl, e, he, rfl⟩
    ·
      try simp only [Z1, Z2, Z3, Z4, Z5, Z6, Z7, Z8, Z9, Z0] at q5
      first | (simp at q1; done) | (simp at q5; done) | (exfalso; omega)

/-- (*given.example/pub-tinwright/pub/smithy/middleware.DeserializeStep).Add -/
theorem addA4 (base sb hb lb : Nat) (lw : Value) (id : List UInt8) (fv : Value) : FnW Tryz.prog 102 [Pt sb 0, .iface 246 (.agg #[S id, fv]), I 0] base [[(sb, .cells #[Pt hb 0, Pt lb 0] 215 (0, 0))], [(lb, .cells #[.nilIface, lw] 248 (0, 0))]] (fun v Hs => v = .nilIface ∧ ∃ e, base ≤ e ∧ Hs = [[(sb, .cells #[Pt hb 0, Pt e 0] 215 (0, 0))], [(lb, .cells #[.iface 213 (Pt e 0), lw] 248 (0, 0))], [(e, .cells #[.nilIface, .iface 246 (.agg #[S id, fv])] 248 (0, 0))]]) := by
  refine FnW.enter (n := 54) Tryz.func102 rfl rfl fun w0 R0 hbase => ?_
  subst hbase
  show WC _ _ _ _ _ _ _ ([[(sb, .cells #[Pt hb 0, Pt lb 0] 215 (0, 0))], [(lb, .cells #[.nilIface, lw] 248 (0, 0))], R0])
  refine WC.sub (fr' := [(0, _), (1, _), (2, _)]) ?_ ⟨rfl, rfl, rfl, trivial⟩
  refine WC.seq (WC.region ?_)
  refine WL.q (oq_assign rfl) rfl rfl rfl ?_
  refine WL.nil (WE.then_normal (WC.sub (fr' := [(0, _), (1, _), (2, _)]) ?_ ⟨rfl, rfl, rfl, trivial⟩))
  refine WC.seq (WC.seq (WC.region ?_))
  refine WL.q (oq_move rfl) rfl rfl rfl ?_
  refine WL.q (oq_nilCheck rfl) rfl rfl rfl ?_
  refine WL.q (oq_fieldAddr fld215_0 rfl) rfl rfl rfl ?_
  refine WL.q (oq_load flat213 rfl (.head _) (List.mem_singleton.2 rfl) rfl) rfl rfl rfl ?_
  refine WL.q (oq_peql Tryz.underlying213 rfl rfl) rfl rfl rfl ?_
  refine WL.nil (WE.then_normal (WC.sub (fr' := [(0, _), (1, _), (2, _), (12, _)]) ?_ ⟨rfl, rfl, rfl, rfl, trivial⟩))
  refine WC.cond rfl (fun q1 => ?_) (fun q1 => ?_)
  ·
    try simp only [Z1, Z2, Z3, Z4, Z5, Z6, Z7, Z8, Z9, Z0] at q1
    first | (simp at q1; done) | (simp at q5; done) | (exfalso; omega)
  ·
    try simp only [Z1, Z2, Z3, Z4, Z5, Z6, Z7, Z8, Z9, Z0] at q1
    refine WC.skip (WE.then_normal (WC.sub (fr' := [(0, _), (1, _), (2, _)]) ?_ ⟨rfl, rfl, rfl, trivial⟩))
    refine WC.seq (WC.seq (WC.region ?_))
    refine WL.q (oq_move rfl) rfl rfl rfl ?_
    refine WL.q (oq_eql rfl rfl) rfl rfl rfl ?_
    refine WL.nil (WE.then_normal (WC.sub (fr' := [(0, _), (1, _), (27, _)]) ?_ ⟨rfl, rfl, rfl, trivial⟩))
    refine WC.cond rfl (fun q5 => ?_) (fun q5 => ?_)
    ·
      try simp only [Z1, Z2, Z3, Z4, Z5, Z6, Z7, Z8, Z9, Z0] at q5
      first | (simp at q1; done) | (simp at q5; done) | (exfalso; omega)
    ·
      try simp only [Z1, Z2, Z3, Z4, Z5, Z6, Z7, Z8, Z9, Z0] at q5
      refine WC.seq (WC.region ?_)
      refine WL.q (oq_move rfl) rfl rfl rfl ?_
      refine WL.q (oq_build #[_, _] str248 ty248 rfl rfl) rfl rfl rfl ?_
      refine WL.box rfl rfl rfl fun e he => ?_
      refine WL.q (oq_assign rfl) rfl rfl rfl ?_
      refine WL.nil (WE.then_normal (WC.sub (fr' := [(0, _), (7, _)]) ?_ ⟨rfl, rfl, trivial⟩))
      refine WC.seq (WC.region ?_)
      refine WL.q (oq_move rfl) rfl rfl rfl ?_
      refine WL.q (oq_nilCheck rfl) rfl rfl rfl ?_
      refine WL.q (oq_fieldAddr fld215_1 rfl) rfl rfl rfl ?_
      refine WL.q (oq_load flat213 rfl (.tail _ (.head _)) (List.mem_singleton.2 rfl) rfl) rfl rfl rfl ?_
      refine WL.q (oq_move rfl) rfl rfl rfl ?_
      refine WL.q (oq_makeI conc213 rfl) rfl rfl rfl ?_
      refine WL.q (oq_nilCheck rfl) rfl rfl rfl ?_
      refine WL.q (oq_fieldAddr fld248_0 rfl) rfl rfl rfl ?_
      refine WL.f2 ?_
      refine WL.store1 #[_, _] ty187 rfl rfl (by first | rfl | exact OwS.one one_) (Nat.lt_of_lt_of_le (Nat.lt_succ_self _) (Nat.le_of_ble_eq_true rfl)) rfl rfl ?_
      refine WL.nil (WE.then_normal (WC.sub (fr' := [(0, _), (7, _)]) ?_ ⟨rfl, rfl, trivial⟩))
      refine WC.region ?_
      refine WL.q (oq_move rfl) rfl rfl rfl ?_
      refine WL.q (oq_move rfl) rfl rfl rfl ?_
      refine WL.q (oq_nilCheck rfl) rfl rfl rfl ?_
      refine WL.q (oq_fieldAddr fld215_1 rfl) rfl rfl rfl ?_
      refine WL.f2 ?_
      refine WL.store1 #[_, _] ty213 rfl rfl (by first | rfl | exact OwS.one one_) (Nat.lt_of_lt_of_le (Nat.lt_succ_self _) (Nat.le_of_ble_eq_true rfl)) rfl rfl ?_
      refine WL.nil (WE.then_normal (WC.sub (fr' := []) ?_ trivial))
      refine WC.seq (WC.region ?_)
      refine WL.q (oq_assign rfl) rfl rfl rfl ?_
      refine WL.nil (WE.then_normal (WC.sub (fr' := [(6, _)]) ?_ ⟨rfl, trivial⟩))
      refine WC.ret ?_
      refine WE.endW3 (.inl rfl) (res1 Tryz.results102 rfl) ?_
      -- end 0
      exact ⟨rfl, e, he, rfl⟩

end S1
end Go.Proofs.YtclafiglpcjhdaaGreat
