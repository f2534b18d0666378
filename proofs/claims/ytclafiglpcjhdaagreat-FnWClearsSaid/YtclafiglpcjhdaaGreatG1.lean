/- Metadata and the values of a stack, walked. -/
import Derived.Test.YtclafiglpcjhdaaGreatGA
import Derived.Test.YtclafiglpcjhdaaGreatProg
namespace Go.Proofs.YtclafiglpcjhdaaGreat
open Go Go.RowKit V GA
set_option linter.unusedSimpArgs false
set_option linter.unusedVariables false
set_option maxRecDepth 10000
namespace G1
theorem call21 : Callable Tryz.prog 21 := ⟨_, Tryz.func21, rfl, by kernel_rfl⟩
theorem flat20 : Flat Tryz.prog 20 := ⟨_, Tryz.underlying20, by simp⟩
theorem ty20 : Ty Tryz.prog 20 .nilIface 1 16 := ty_of (by kernel_rfl)
theorem ty71 : Ty Tryz.prog 71 (.agg #[]) 0 0 := ty_of (by kernel_rfl)
theorem ty95 : Ty Tryz.prog 95 (.agg #[.nilIface, .nilIface, .nilIface]) 3 48 := ty_of (by kernel_rfl)
theorem ty97 : Ty Tryz.prog 97 (.agg #[.nilIface, .nilIface, (.pointer none)]) 3 40 := ty_of (by kernel_rfl)
theorem conc71 : Conc Tryz.prog 71 := ⟨_, Tryz.underlying71, by simp⟩
theorem conc95 : Conc Tryz.prog 95 := ⟨_, Tryz.underlying95, by simp⟩
theorem str71 : Str Tryz.prog 71 #[] := ⟨_, Tryz.underlying71, fun w => by kernel_rfl⟩
theorem str95 : Str Tryz.prog 95 #[(0, 1), (1, 1), (2, 1)] := ⟨_, Tryz.underlying95, fun w => by kernel_rfl⟩
theorem str97 : Str Tryz.prog 97 #[(0, 1), (1, 1), (2, 1)] := ⟨_, Tryz.underlying97, fun w => by kernel_rfl⟩
theorem fld95_1 : Fld Tryz.prog 95 1 1 20 := fld_of Tryz.underlying95 rfl rfl rfl ty20 (by decide)
theorem fld95_2 : Fld Tryz.prog 95 2 2 20 := fld_of Tryz.underlying95 rfl rfl rfl ty20 (by decide)

theorem keyI : KeyOk Tryz.prog 20 KI := KeyOk.iface Tryz.underlying20 Tryz.underlying9 (i := _) rfl (by kernel_rfl)
theorem eqS (a b : List UInt8) : EqI Tryz.prog 20 (KI a) (KI b) (decide (a = b)) := eqI_str Tryz.underlying20 Tryz.underlying9 (i := _) rfl (by kernel_rfl) a b
theorem eqK : EqI Tryz.prog 20 KEY KEY true := fun w => by kernel_rfl
theorem inv70 : Inv1 Tryz.prog 70 "Value" 137 := fun x a w => by kernel_rfl
theorem inv95 : Inv1 Tryz.prog 95 "Value" 143 := fun x a w => by kernel_rfl
/-- (given.example/pub-tinwright/pub/ctx.empty).Value -/
theorem emptyV  : Fn0 Tryz.prog 137 [.agg #[], KEY] (.nilIface) := by
  refine Fn0.enter (n := 5) Tryz.func137 rfl rfl fun w0 => ?_
  refine WC.sub (fr' := [(0, _)]) ?_ ⟨rfl, trivial⟩
  refine WC.seq (WC.region ?_)
  refine WL.box rfl rfl rfl fun o2 ho2 => ?_
  refine WL.q (oq_assign rfl) rfl rfl rfl ?_
  refine WL.nil (WE.then_normal (WC.sub (fr' := []) ?_ trivial))
  refine WC.seq (WC.region ?_)
  refine WL.q (oq_assign rfl) rfl rfl rfl ?_
  refine WL.nil (WE.then_normal (WC.sub (fr' := [(4, _)]) ?_ ⟨rfl, trivial⟩))
  refine WC.ret ?_
  refine WE.lose ho2 ?_
  refine WE.end0 (.inl rfl) (res1 Tryz.results137 rfl) ?_
  -- end 0
  rfl

/-- (given.example/pub-tinwright/pub/ctx.with).Value -/
theorem withV (p m : Value) : Fn0 Tryz.prog 143 [.agg #[p, KEY, m], KEY] (m) := by
  refine Fn0.enter (n := 15) Tryz.func143 rfl rfl fun w0 => ?_
  refine WC.sub (fr' := [(0, _), (1, _)]) ?_ ⟨rfl, rfl, trivial⟩
  refine WC.seq (WC.region ?_)
  refine WL.box rfl rfl rfl fun o2 ho2 => ?_
  refine WL.q (oq_assign rfl) rfl rfl rfl ?_
  refine WL.nil (WE.then_normal (WC.sub (fr' := [(1, _), (2, _)]) ?_ ⟨rfl, rfl, trivial⟩))
  refine WC.seq (WC.seq (WC.region ?_))
  refine WL.q (oq_fieldAddr fld95_1 rfl) rfl rfl rfl ?_
  refine WL.q (oq_load flat20 rfl (.head _) (List.mem_singleton.2 rfl) rfl) rfl rfl rfl ?_
  refine WL.q (oq_move rfl) rfl rfl rfl ?_
  refine WL.q (oq_eqI (eqK) rfl rfl) rfl rfl rfl ?_
  refine WL.nil (WE.then_normal (WC.sub (fr' := [(1, _), (2, _), (8, _)]) ?_ ⟨rfl, rfl, rfl, trivial⟩))
  refine WC.cond_t rfl ?_
  refine WC.seq (WC.region ?_)
  refine WL.q (oq_fieldAddr fld95_2 rfl) rfl rfl rfl ?_
  refine WL.q (oq_load flat20 rfl (.head _) (List.mem_singleton.2 rfl) rfl) rfl rfl rfl ?_
  refine WL.q (oq_assign rfl) rfl rfl rfl ?_
  refine WL.nil (WE.then_normal (WC.sub (fr' := [(4, _)]) ?_ ⟨rfl, trivial⟩))
  refine WC.ret (WE.then_ret ?_)
  refine WE.lose ho2 ?_
  refine WE.end0 (.inl rfl) (res1 Tryz.results143 rfl) ?_
  -- end 0
  rfl


theorem ctxV {kx : TypeId} {vx : Value} {r : List (Nat × WP)} (h : CX kx vx r) : ∃ f, Inv1 Tryz.prog kx "Value" f ∧ Fn0 Tryz.prog f [vx, KEY] (top r) ∧ Callable Tryz.prog f := by
  rcases h with ⟨rfl, rfl, rfl⟩ | ⟨rfl, p, rfl⟩
  · exact ⟨137, inv70, emptyV, ⟨_, Tryz.func137, rfl, by kernel_rfl⟩⟩
  · exact ⟨143, inv95, withV _ _, ⟨_, Tryz.func143, rfl, by kernel_rfl⟩⟩
theorem par_top (r : List (Nat × WP)) : (r = [] ∧ par r = .pointer none ∧ top r = .nilIface) ∨ ∃ b, par r = Pt b 0 ∧ top r = .iface 72 (Pt b 0) := by
  cases r with
  | nil => exact .inl ⟨rfl, rfl, rfl⟩
  | cons x r => exact .inr ⟨x.1, rfl, rfl⟩
/-- given.example/pub-tinwright/pub/ctx.WithValue -/
theorem withValue (kx : TypeId) (vx : Value) (k m : TypeId × Value) : Fn0 Tryz.prog 21 [.iface kx vx, .iface k.1 k.2, .iface m.1 m.2] (.iface 95 (.agg #[.iface kx vx, .iface k.1 k.2, .iface m.1 m.2])) := by
  refine Fn0.enter (n := 12) Tryz.func21 rfl rfl fun w0 => ?_
  refine WC.sub (fr' := [(0, _), (1, _), (2, _)]) ?_ ⟨rfl, rfl, rfl, trivial⟩
  refine WC.seq (WC.region ?_)
  refine WL.q (oq_assign rfl) rfl rfl rfl ?_
  refine WL.nil (WE.then_normal (WC.sub (fr' := [(0, _), (1, _), (2, _)]) ?_ ⟨rfl, rfl, rfl, trivial⟩))
  refine WC.seq (WC.region ?_)
  refine WL.q (oq_move rfl) rfl rfl rfl ?_
  refine WL.q (oq_move rfl) rfl rfl rfl ?_
  refine WL.q (oq_move rfl) rfl rfl rfl ?_
  refine WL.q (oq_build #[_, _, _] str95 ty95 rfl rfl) rfl rfl rfl ?_
  refine WL.q (oq_makeI conc95 rfl) rfl rfl rfl ?_
  refine WL.q (oq_assign rfl) rfl rfl rfl ?_
  refine WL.nil (WE.then_normal (WC.sub (fr' := [(6, _)]) ?_ ⟨rfl, trivial⟩))
  refine WC.ret ?_
  refine WE.end0 (.inl rfl) (res1 Tryz.results21 rfl) ?_
  -- end 0
  rfl

/-- given.example/pub-tinwright/pub/ctx.WithValue -/
theorem withValueN (kx : TypeId) (vx : Value) (k : TypeId × Value) : Fn0 Tryz.prog 21 [.iface kx vx, .iface k.1 k.2, .nilIface] (.iface 95 (.agg #[.iface kx vx, .iface k.1 k.2, .nilIface])) := by
  refine Fn0.enter (n := 12) Tryz.func21 rfl rfl fun w0 => ?_
  refine WC.sub (fr' := [(0, _), (1, _), (2, _)]) ?_ ⟨rfl, rfl, rfl, trivial⟩
  refine WC.seq (WC.region ?_)
  refine WL.q (oq_assign rfl) rfl rfl rfl ?_
  refine WL.nil (WE.then_normal (WC.sub (fr' := [(0, _), (1, _), (2, _)]) ?_ ⟨rfl, rfl, rfl, trivial⟩))
  refine WC.seq (WC.region ?_)
  refine WL.q (oq_move rfl) rfl rfl rfl ?_
  refine WL.q (oq_move rfl) rfl rfl rfl ?_
  refine WL.q (oq_move rfl) rfl rfl rfl ?_
  refine WL.q (oq_build #[_, _, _] str95 ty95 rfl rfl) rfl rfl rfl ?_
  refine WL.q (oq_makeI conc95 rfl) rfl rfl rfl ?_
  refine WL.q (oq_assign rfl) rfl rfl rfl ?_
  refine WL.nil (WE.then_normal (WC.sub (fr' := [(6, _)]) ?_ ⟨rfl, trivial⟩))
  refine WC.ret ?_
  refine WE.end0 (.inl rfl) (res1 Tryz.results21 rfl) ?_
  -- end 0
  rfl

/-- given.example/pub-tinwright/pub/smithy/middleware.ClearStackValues -/
theorem clear (kx : TypeId) (vx : Value) : Fn0 Tryz.prog 14 [.iface kx vx] (.iface 95 (.agg #[.iface kx vx, KEY, .nilIface])) := by
  refine Fn0.enter (n := 7) Tryz.func14 rfl rfl fun w0 => ?_
  refine WC.sub (fr' := [(0, _)]) ?_ ⟨rfl, trivial⟩
  refine WC.seq (WC.region ?_)
  refine WL.q (oq_assign rfl) rfl rfl rfl ?_
  refine WL.nil (WE.then_normal (WC.sub (fr' := [(0, _)]) ?_ ⟨rfl, trivial⟩))
  refine WC.seq (WC.region ?_)
  refine WL.q (oq_move rfl) rfl rfl rfl ?_
  refine WL.q (oq_build #[] str71 ty71 rfl rfl) rfl rfl rfl ?_
  refine WL.q (oq_makeI conc71 rfl) rfl rfl rfl ?_
  refine WL.qc (oq_call (withValueN kx vx (71, .agg #[])) call21 rfl) rfl rfl rfl ?_
  refine WL.q (oq_assign rfl) rfl rfl rfl ?_
  refine WL.nil (WE.then_normal (WC.sub (fr' := [(2, _)]) ?_ ⟨rfl, trivial⟩))
  refine WC.ret ?_
  refine WE.end0 (.inl rfl) (res1 Tryz.results14 rfl) ?_
  -- end 0
  rfl

/-- given.example/pub-tinwright/pub/smithy/middleware.withStackValue -/
theorem newVal (r : List (Nat × WP)) (k v : List UInt8) : FnA Tryz.prog 22 [par r, KI k, KI v] [] (fun x N => ∃ b, x = Pt b 0 ∧ N = [(b, .cells #[KI k, KI v, par r] 97 (0, 0))]) := by
  refine FnA.enter0 (n := 15) Tryz.func22 rfl rfl fun w0 => ?_
  refine WC.sub (fr' := [(0, _), (1, _), (2, _)]) ?_ ⟨rfl, rfl, rfl, trivial⟩
  refine WC.seq (WC.region ?_)
  refine WL.q (oq_assign rfl) rfl rfl rfl ?_
  refine WL.nil (WE.then_normal (WC.sub (fr' := [(0, _), (1, _), (2, _)]) ?_ ⟨rfl, rfl, rfl, trivial⟩))
  refine WC.seq (WC.seq (WC.region ?_))
  refine WL.q (oq_move rfl) rfl rfl rfl ?_
  refine WL.q (oq_ieql Tryz.underlying20 rfl (.inr ⟨_, _, rfl⟩)) rfl rfl rfl ?_
  refine WL.nil (WE.then_normal (WC.sub (fr' := [(0, _), (1, _), (2, _), (8, _)]) ?_ ⟨rfl, rfl, rfl, rfl, trivial⟩))
  refine WC.cond rfl (fun q1 => ?_) (fun q1 => ?_)
  ·
    try simp only [Z1, Z2, Z3, Z4, Z5, Z6, Z7, Z8, Z9, Z0] at q1
    simp [nilI] at q1
  ·
    try simp only [Z1, Z2, Z3, Z4, Z5, Z6, Z7, Z8, Z9, Z0] at q1
    refine WC.skip (WE.then_normal (WC.sub (fr' := [(0, _), (1, _), (2, _)]) ?_ ⟨rfl, rfl, rfl, trivial⟩))
    refine WC.seq (WC.region ?_)
    refine WL.q (oq_move rfl) rfl rfl rfl ?_
    refine WL.q (oq_move rfl) rfl rfl rfl ?_
    refine WL.q (oq_move rfl) rfl rfl rfl ?_
    refine WL.q (oq_build (#[KI k, KI v, par r]) str97 ty97 rfl (by cases r <;> rfl)) rfl rfl rfl ?_
    refine WL.box rfl rfl rfl fun b hb => ?_
    refine WL.q (oq_assign rfl) rfl rfl rfl ?_
    refine WL.nil (WE.then_normal (WC.sub (fr' := [(6, _)]) ?_ ⟨rfl, trivial⟩))
    refine WC.ret ?_
    refine WE.endA0 (.inl rfl) (res1 Tryz.results22 rfl) ?_ (fresh1 hb)
    -- end 0
    exact ⟨_, rfl, rfl⟩

end G1
end Go.Proofs.YtclafiglpcjhdaaGreat
