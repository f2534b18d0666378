/- All five steps: made, and what is done with one of them. -/
import Derived.Test.YtclafiglpcjhdaaGreatS6
import Derived.Test.YtclafiglpcjhdaaGreatVP
namespace Go.Proofs.YtclafiglpcjhdaaGreat
open Go Go.RowKit V S0 S1 S2 S3 S4 S5 S6
set_option linter.unusedSimpArgs false
set_option linter.unusedVariables false
set_option maxRecDepth 10000
namespace S7
theorem call31 : Callable Tryz.prog 31 := ⟨_, Tryz.func31, rfl, by kernel_rfl⟩
theorem call32 : Callable Tryz.prog 32 := ⟨_, Tryz.func32, rfl, by kernel_rfl⟩
theorem call33 : Callable Tryz.prog 33 := ⟨_, Tryz.func33, rfl, by kernel_rfl⟩
theorem call34 : Callable Tryz.prog 34 := ⟨_, Tryz.func34, rfl, by kernel_rfl⟩
theorem call35 : Callable Tryz.prog 35 := ⟨_, Tryz.func35, rfl, by kernel_rfl⟩
theorem flat80 : Flat Tryz.prog 80 := ⟨_, Tryz.underlying80, by simp⟩
theorem flat81 : Flat Tryz.prog 81 := ⟨_, Tryz.underlying81, by simp⟩
theorem flat82 : Flat Tryz.prog 82 := ⟨_, Tryz.underlying82, by simp⟩
theorem flat83 : Flat Tryz.prog 83 := ⟨_, Tryz.underlying83, by simp⟩
theorem flat84 : Flat Tryz.prog 84 := ⟨_, Tryz.underlying84, by simp⟩
theorem ty62 : Ty Tryz.prog 62 (.agg #[.nilFunc, .nilFunc, .nilFunc, .nilFunc, .nilFunc, .nilFunc, .nilFunc]) 7 56 := ty_of (by kernel_rfl)
theorem ty86 : Ty Tryz.prog 86 (.agg #[(.pointer none), (.pointer none), (.pointer none), (.pointer none), (.pointer none), (S [])]) 6 56 := ty_of (by kernel_rfl)
theorem ty118 : Ty Tryz.prog 118 .nilFunc 1 8 := ty_of (by kernel_rfl)
theorem ty137 : Ty Tryz.prog 137 .nilFunc 1 8 := ty_of (by kernel_rfl)
theorem ty156 : Ty Tryz.prog 156 .nilFunc 1 8 := ty_of (by kernel_rfl)
theorem ty174 : Ty Tryz.prog 174 .nilFunc 1 8 := ty_of (by kernel_rfl)
theorem ty193 : Ty Tryz.prog 193 .nilFunc 1 8 := ty_of (by kernel_rfl)
theorem ty203 : Ty Tryz.prog 203 (.agg #[(.pointer none), (.pointer none)]) 2 16 := ty_of (by kernel_rfl)
theorem ty206 : Ty Tryz.prog 206 (.agg #[(.pointer none), (.pointer none), .nilFunc]) 3 24 := ty_of (by kernel_rfl)
theorem ty209 : Ty Tryz.prog 209 (.agg #[(.pointer none), (.pointer none)]) 2 16 := ty_of (by kernel_rfl)
theorem ty212 : Ty Tryz.prog 212 (.agg #[(.pointer none), (.pointer none)]) 2 16 := ty_of (by kernel_rfl)
theorem ty215 : Ty Tryz.prog 215 (.agg #[(.pointer none), (.pointer none)]) 2 16 := ty_of (by kernel_rfl)
theorem agg62 : Agg Tryz.prog 62 := agg_of Tryz.underlying62
theorem str62 : Str Tryz.prog 62 #[(0, 1), (1, 1), (2, 1), (3, 1), (4, 1), (5, 1), (6, 1)] := ⟨_, Tryz.underlying62, fun w => by kernel_rfl⟩
theorem str86 : Str Tryz.prog 86 #[(0, 1), (1, 1), (2, 1), (3, 1), (4, 1), (5, 1)] := ⟨_, Tryz.underlying86, fun w => by kernel_rfl⟩
theorem str203 : Str Tryz.prog 203 #[(0, 1), (1, 1)] := ⟨_, Tryz.underlying203, fun w => by kernel_rfl⟩
theorem str206 : Str Tryz.prog 206 #[(0, 1), (1, 1), (2, 1)] := ⟨_, Tryz.underlying206, fun w => by kernel_rfl⟩
theorem str209 : Str Tryz.prog 209 #[(0, 1), (1, 1)] := ⟨_, Tryz.underlying209, fun w => by kernel_rfl⟩
theorem str212 : Str Tryz.prog 212 #[(0, 1), (1, 1)] := ⟨_, Tryz.underlying212, fun w => by kernel_rfl⟩
theorem str215 : Str Tryz.prog 215 #[(0, 1), (1, 1)] := ⟨_, Tryz.underlying215, fun w => by kernel_rfl⟩

abbrev NR : Value := .func (.func 25) #[] #[]
/-- given.example/pub-tinwright/pub/smithy/middleware.NewInitializeStep -/
theorem new0  : FnA Tryz.prog 31 [] [] (fun v N => ∃ sb, v = Pt sb 0 ∧ N = stg 0 sb NR []) := by
  refine FnA.enter0 (n := 3) Tryz.func31 rfl rfl fun w0 => ?_
  refine WC.sub (fr' := []) ?_ trivial
  refine WC.seq (WC.region ?_)
  refine WL.q (oq_assign rfl) rfl rfl rfl ?_
  refine WL.nil (WE.then_normal (WC.sub (fr' := []) ?_ trivial))
  refine WC.seq (WC.region ?_)
  refine WL.q (oq_build #[_, _] str203 ty203 rfl rfl) rfl rfl rfl ?_
  refine WL.box rfl rfl rfl fun s hs => ?_
  refine WL.q (oq_assign rfl) rfl rfl rfl ?_
  refine WL.nil (WE.then_normal (WC.sub (fr' := [(0, _)]) ?_ ⟨rfl, trivial⟩))
  refine WC.ret ?_
  refine WE.endA0 (.inl rfl) (res1 Tryz.results31 rfl) ?_ (fresh1 hs)
  -- end 0
  exact ⟨_, rfl, rfl⟩

/-- given.example/pub-tinwright/impl.initializeStep -/
theorem mk0 (sb cb : Nat) : FnA Tryz.prog 26 [Pt sb 0, Pt cb 0] [] (fun v N => ∃ b2 b5 b3, v = .agg (stp 0 sb b2 b5) ∧ N = env 0 sb b2 b5 b3 ++ [(b3, .cells #[Pt cb 0] 66 (0, 0))]) := by
  refine FnA.enter0 (n := 17) Tryz.func26 rfl rfl fun w0 => ?_
  refine WC.sub (fr' := [(0, _), (1, _)]) ?_ ⟨rfl, rfl, trivial⟩
  refine WC.seq (WC.region ?_)
  refine WL.box rfl rfl rfl fun b2 hb2 => ?_
  refine WL.box rfl rfl rfl fun b3 hb3 => ?_
  refine WL.alloc ty62 rfl rfl fun rc hrc => ?_
  refine WL.nil (WE.then_normal (WC.sub (fr' := [(2, _), (3, _), (4, _)]) ?_ ⟨rfl, rfl, rfl, trivial⟩))
  refine WC.seq (WC.region ?_)
  refine WL.q (oq_makeFn rfl) rfl rfl rfl ?_
  refine WL.alloc ty118 rfl rfl fun b5 hb5 => ?_
  refine WL.store ty118 rfl rfl rfl (by decide) (by simp) rfl ?_
  refine WL.nil (WE.then_normal (WC.sub (fr' := [(2, _), (4, _), (5, _)]) ?_ ⟨rfl, rfl, rfl, trivial⟩))
  refine WC.seq (WC.region ?_)
  refine WL.q (oq_makeFn rfl) rfl rfl rfl ?_
  refine WL.q (oq_makeFn rfl) rfl rfl rfl ?_
  refine WL.q (oq_makeFn rfl) rfl rfl rfl ?_
  refine WL.q (oq_makeFn rfl) rfl rfl rfl ?_
  refine WL.q (oq_load flat80 rfl (.tail _ (.tail _ (.tail _ (.head _)))) (List.mem_singleton.2 rfl) rfl) rfl rfl rfl ?_
  refine WL.q (oq_makeBound rfl) rfl rfl rfl ?_
  refine WL.q (oq_load flat80 rfl (.tail _ (.tail _ (.tail _ (.head _)))) (List.mem_singleton.2 rfl) rfl) rfl rfl rfl ?_
  refine WL.q (oq_makeBound rfl) rfl rfl rfl ?_
  refine WL.q (oq_makeFn rfl) rfl rfl rfl ?_
  refine WL.q (oq_build (stp 0 sb b2 b5) str62 ty62 rfl (by kernel_rfl)) rfl rfl rfl ?_
  refine WL.f1 ?_
  refine WL.storeS (stp 0 sb b2 b5) ty62 rfl rfl (by kernel_rfl) (by kernel_rfl) (Nat.le_of_ble_eq_true rfl) (by kernel_rfl) rfl ?_
  refine WL.nil (WE.then_normal (WC.sub (fr' := [(4, _)]) ?_ ⟨rfl, trivial⟩))
  refine WC.ret ?_
  refine WE.endDA0 (.inl rfl) (rs1 Tryz.results26 (rv_cellS (stp 0 sb b2 b5).toList agg62 ty62 rfl (.head _) (List.mem_singleton.2 rfl) (by kernel_rfl) (by kernel_rfl))) (dr_lose hrc (dr_f1 (dr_f1 (dr_f2 (dr_cat (dr_cat dr_refl)))))) (fresh_cat (fresh_cat (fresh1 hb2) (fresh1 hb5)) (fresh1 hb3)) ?_
  -- end 0
  exact ⟨_, _, _, rfl, rfl⟩

/-- given.example/pub-tinwright/pub/smithy/middleware.NewSerializeStep -/
theorem new1  : FnA Tryz.prog 32 [NR] [] (fun v N => ∃ sb, v = Pt sb 0 ∧ N = stg 1 sb NR []) := by
  refine FnA.enter0 (n := 6) Tryz.func32 rfl rfl fun w0 => ?_
  refine WC.sub (fr' := [(0, _)]) ?_ ⟨rfl, trivial⟩
  refine WC.seq (WC.region ?_)
  refine WL.q (oq_assign rfl) rfl rfl rfl ?_
  refine WL.nil (WE.then_normal (WC.sub (fr' := [(0, _)]) ?_ ⟨rfl, trivial⟩))
  refine WC.seq (WC.region ?_)
  refine WL.q (oq_move rfl) rfl rfl rfl ?_
  refine WL.q (oq_build #[_, _, _] str206 ty206 rfl rfl) rfl rfl rfl ?_
  refine WL.box rfl rfl rfl fun s hs => ?_
  refine WL.q (oq_assign rfl) rfl rfl rfl ?_
  refine WL.nil (WE.then_normal (WC.sub (fr' := [(2, _)]) ?_ ⟨rfl, trivial⟩))
  refine WC.ret ?_
  refine WE.endA0 (.inl rfl) (res1 Tryz.results32 rfl) ?_ (fresh1 hs)
  -- end 0
  exact ⟨_, rfl, rfl⟩

/-- given.example/pub-tinwright/impl.serializeStep -/
theorem mk1 (sb cb : Nat) : FnA Tryz.prog 27 [Pt sb 0, Pt cb 0] [] (fun v N => ∃ b2 b5 b3, v = .agg (stp 1 sb b2 b5) ∧ N = env 1 sb b2 b5 b3 ++ [(b3, .cells #[Pt cb 0] 66 (0, 0))]) := by
  refine FnA.enter0 (n := 17) Tryz.func27 rfl rfl fun w0 => ?_
  refine WC.sub (fr' := [(0, _), (1, _)]) ?_ ⟨rfl, rfl, trivial⟩
  refine WC.seq (WC.region ?_)
  refine WL.box rfl rfl rfl fun b2 hb2 => ?_
  refine WL.box rfl rfl rfl fun b3 hb3 => ?_
  refine WL.alloc ty62 rfl rfl fun rc hrc => ?_
  refine WL.nil (WE.then_normal (WC.sub (fr' := [(2, _), (3, _), (4, _)]) ?_ ⟨rfl, rfl, rfl, trivial⟩))
  refine WC.seq (WC.region ?_)
  refine WL.q (oq_makeFn rfl) rfl rfl rfl ?_
  refine WL.alloc ty137 rfl rfl fun b5 hb5 => ?_
  refine WL.store ty137 rfl rfl rfl (by decide) (by simp) rfl ?_
  refine WL.nil (WE.then_normal (WC.sub (fr' := [(2, _), (4, _), (5, _)]) ?_ ⟨rfl, rfl, rfl, trivial⟩))
  refine WC.seq (WC.region ?_)
  refine WL.q (oq_makeFn rfl) rfl rfl rfl ?_
  refine WL.q (oq_makeFn rfl) rfl rfl rfl ?_
  refine WL.q (oq_makeFn rfl) rfl rfl rfl ?_
  refine WL.q (oq_makeFn rfl) rfl rfl rfl ?_
  refine WL.q (oq_load flat81 rfl (.tail _ (.tail _ (.tail _ (.head _)))) (List.mem_singleton.2 rfl) rfl) rfl rfl rfl ?_
  refine WL.q (oq_makeBound rfl) rfl rfl rfl ?_
  refine WL.q (oq_load flat81 rfl (.tail _ (.tail _ (.tail _ (.head _)))) (List.mem_singleton.2 rfl) rfl) rfl rfl rfl ?_
  refine WL.q (oq_makeBound rfl) rfl rfl rfl ?_
  refine WL.q (oq_makeFn rfl) rfl rfl rfl ?_
  refine WL.q (oq_build (stp 1 sb b2 b5) str62 ty62 rfl (by kernel_rfl)) rfl rfl rfl ?_
  refine WL.f1 ?_
  refine WL.storeS (stp 1 sb b2 b5) ty62 rfl rfl (by kernel_rfl) (by kernel_rfl) (Nat.le_of_ble_eq_true rfl) (by kernel_rfl) rfl ?_
  refine WL.nil (WE.then_normal (WC.sub (fr' := [(4, _)]) ?_ ⟨rfl, trivial⟩))
  refine WC.ret ?_
  refine WE.endDA0 (.inl rfl) (rs1 Tryz.results27 (rv_cellS (stp 1 sb b2 b5).toList agg62 ty62 rfl (.head _) (List.mem_singleton.2 rfl) (by kernel_rfl) (by kernel_rfl))) (dr_lose hrc (dr_f1 (dr_f1 (dr_f2 (dr_cat (dr_cat dr_refl)))))) (fresh_cat (fresh_cat (fresh1 hb2) (fresh1 hb5)) (fresh1 hb3)) ?_
  -- end 0
  exact ⟨_, _, _, rfl, rfl⟩

/-- given.example/pub-tinwright/pub/smithy/middleware.NewBuildStep -/
theorem new2  : FnA Tryz.prog 33 [] [] (fun v N => ∃ sb, v = Pt sb 0 ∧ N = stg 2 sb NR []) := by
  refine FnA.enter0 (n := 3) Tryz.func33 rfl rfl fun w0 => ?_
  refine WC.sub (fr' := []) ?_ trivial
  refine WC.seq (WC.region ?_)
  refine WL.q (oq_assign rfl) rfl rfl rfl ?_
  refine WL.nil (WE.then_normal (WC.sub (fr' := []) ?_ trivial))
  refine WC.seq (WC.region ?_)
  refine WL.q (oq_build #[_, _] str209 ty209 rfl rfl) rfl rfl rfl ?_
  refine WL.box rfl rfl rfl fun s hs => ?_
  refine WL.q (oq_assign rfl) rfl rfl rfl ?_
  refine WL.nil (WE.then_normal (WC.sub (fr' := [(0, _)]) ?_ ⟨rfl, trivial⟩))
  refine WC.ret ?_
  refine WE.endA0 (.inl rfl) (res1 Tryz.results33 rfl) ?_ (fresh1 hs)
  -- end 0
  exact ⟨_, rfl, rfl⟩

/-- given.example/pub-tinwright/impl.buildStep -/
theorem mk2 (sb cb : Nat) : FnA Tryz.prog 28 [Pt sb 0, Pt cb 0] [] (fun v N => ∃ b2 b5 b3, v = .agg (stp 2 sb b2 b5) ∧ N = env 2 sb b2 b5 b3 ++ [(b3, .cells #[Pt cb 0] 66 (0, 0))]) := by
  refine FnA.enter0 (n := 17) Tryz.func28 rfl rfl fun w0 => ?_
  refine WC.sub (fr' := [(0, _), (1, _)]) ?_ ⟨rfl, rfl, trivial⟩
  refine WC.seq (WC.region ?_)
  refine WL.box rfl rfl rfl fun b2 hb2 => ?_
  refine WL.box rfl rfl rfl fun b3 hb3 => ?_
  refine WL.alloc ty62 rfl rfl fun rc hrc => ?_
  refine WL.nil (WE.then_normal (WC.sub (fr' := [(2, _), (3, _), (4, _)]) ?_ ⟨rfl, rfl, rfl, trivial⟩))
  refine WC.seq (WC.region ?_)
  refine WL.q (oq_makeFn rfl) rfl rfl rfl ?_
  refine WL.alloc ty156 rfl rfl fun b5 hb5 => ?_
  refine WL.store ty156 rfl rfl rfl (by decide) (by simp) rfl ?_
  refine WL.nil (WE.then_normal (WC.sub (fr' := [(2, _), (4, _), (5, _)]) ?_ ⟨rfl, rfl, rfl, trivial⟩))
  refine WC.seq (WC.region ?_)
  refine WL.q (oq_makeFn rfl) rfl rfl rfl ?_
  refine WL.q (oq_makeFn rfl) rfl rfl rfl ?_
  refine WL.q (oq_makeFn rfl) rfl rfl rfl ?_
  refine WL.q (oq_makeFn rfl) rfl rfl rfl ?_
  refine WL.q (oq_load flat82 rfl (.tail _ (.tail _ (.tail _ (.head _)))) (List.mem_singleton.2 rfl) rfl) rfl rfl rfl ?_
  refine WL.q (oq_makeBound rfl) rfl rfl rfl ?_
  refine WL.q (oq_load flat82 rfl (.tail _ (.tail _ (.tail _ (.head _)))) (List.mem_singleton.2 rfl) rfl) rfl rfl rfl ?_
  refine WL.q (oq_makeBound rfl) rfl rfl rfl ?_
  refine WL.q (oq_makeFn rfl) rfl rfl rfl ?_
  refine WL.q (oq_build (stp 2 sb b2 b5) str62 ty62 rfl (by kernel_rfl)) rfl rfl rfl ?_
  refine WL.f1 ?_
  refine WL.storeS (stp 2 sb b2 b5) ty62 rfl rfl (by kernel_rfl) (by kernel_rfl) (Nat.le_of_ble_eq_true rfl) (by kernel_rfl) rfl ?_
  refine WL.nil (WE.then_normal (WC.sub (fr' := [(4, _)]) ?_ ⟨rfl, trivial⟩))
  refine WC.ret ?_
  refine WE.endDA0 (.inl rfl) (rs1 Tryz.results28 (rv_cellS (stp 2 sb b2 b5).toList agg62 ty62 rfl (.head _) (List.mem_singleton.2 rfl) (by kernel_rfl) (by kernel_rfl))) (dr_lose hrc (dr_f1 (dr_f1 (dr_f2 (dr_cat (dr_cat dr_refl)))))) (fresh_cat (fresh_cat (fresh1 hb2) (fresh1 hb5)) (fresh1 hb3)) ?_
  -- end 0
  exact ⟨_, _, _, rfl, rfl⟩

/-- given.example/pub-tinwright/pub/smithy/middleware.NewFinalizeStep -/
theorem new3  : FnA Tryz.prog 34 [] [] (fun v N => ∃ sb, v = Pt sb 0 ∧ N = stg 3 sb NR []) := by
  refine FnA.enter0 (n := 3) Tryz.func34 rfl rfl fun w0 => ?_
  refine WC.sub (fr' := []) ?_ trivial
  refine WC.seq (WC.region ?_)
  refine WL.q (oq_assign rfl) rfl rfl rfl ?_
  refine WL.nil (WE.then_normal (WC.sub (fr' := []) ?_ trivial))
  refine WC.seq (WC.region ?_)
  refine WL.q (oq_build #[_, _] str212 ty212 rfl rfl) rfl rfl rfl ?_
  refine WL.box rfl rfl rfl fun s hs => ?_
  refine WL.q (oq_assign rfl) rfl rfl rfl ?_
  refine WL.nil (WE.then_normal (WC.sub (fr' := [(0, _)]) ?_ ⟨rfl, trivial⟩))
  refine WC.ret ?_
  refine WE.endA0 (.inl rfl) (res1 Tryz.results34 rfl) ?_ (fresh1 hs)
  -- end 0
  exact ⟨_, rfl, rfl⟩

/-- given.example/pub-tinwright/impl.finalizeStep -/
theorem mk3 (sb cb : Nat) : FnA Tryz.prog 29 [Pt sb 0, Pt cb 0] [] (fun v N => ∃ b2 b5 b3, v = .agg (stp 3 sb b2 b5) ∧ N = env 3 sb b2 b5 b3 ++ [(b3, .cells #[Pt cb 0] 66 (0, 0))]) := by
  refine FnA.enter0 (n := 17) Tryz.func29 rfl rfl fun w0 => ?_
  refine WC.sub (fr' := [(0, _), (1, _)]) ?_ ⟨rfl, rfl, trivial⟩
  refine WC.seq (WC.region ?_)
  refine WL.box rfl rfl rfl fun b2 hb2 => ?_
  refine WL.box rfl rfl rfl fun b3 hb3 => ?_
  refine WL.alloc ty62 rfl rfl fun rc hrc => ?_
  refine WL.nil (WE.then_normal (WC.sub (fr' := [(2, _), (3, _), (4, _)]) ?_ ⟨rfl, rfl, rfl, trivial⟩))
  refine WC.seq (WC.region ?_)
  refine WL.q (oq_makeFn rfl) rfl rfl rfl ?_
  refine WL.alloc ty174 rfl rfl fun b5 hb5 => ?_
  refine WL.store ty174 rfl rfl rfl (by decide) (by simp) rfl ?_
  refine WL.nil (WE.then_normal (WC.sub (fr' := [(2, _), (4, _), (5, _)]) ?_ ⟨rfl, rfl, rfl, trivial⟩))
  refine WC.seq (WC.region ?_)
  refine WL.q (oq_makeFn rfl) rfl rfl rfl ?_
  refine WL.q (oq_makeFn rfl) rfl rfl rfl ?_
  refine WL.q (oq_makeFn rfl) rfl rfl rfl ?_
  refine WL.q (oq_makeFn rfl) rfl rfl rfl ?_
  refine WL.q (oq_load flat83 rfl (.tail _ (.tail _ (.tail _ (.head _)))) (List.mem_singleton.2 rfl) rfl) rfl rfl rfl ?_
  refine WL.q (oq_makeBound rfl) rfl rfl rfl ?_
  refine WL.q (oq_load flat83 rfl (.tail _ (.tail _ (.tail _ (.head _)))) (List.mem_singleton.2 rfl) rfl) rfl rfl rfl ?_
  refine WL.q (oq_makeBound rfl) rfl rfl rfl ?_
  refine WL.q (oq_makeFn rfl) rfl rfl rfl ?_
  refine WL.q (oq_build (stp 3 sb b2 b5) str62 ty62 rfl (by kernel_rfl)) rfl rfl rfl ?_
  refine WL.f1 ?_
  refine WL.storeS (stp 3 sb b2 b5) ty62 rfl rfl (by kernel_rfl) (by kernel_rfl) (Nat.le_of_ble_eq_true rfl) (by kernel_rfl) rfl ?_
  refine WL.nil (WE.then_normal (WC.sub (fr' := [(4, _)]) ?_ ⟨rfl, trivial⟩))
  refine WC.ret ?_
  refine WE.endDA0 (.inl rfl) (rs1 Tryz.results29 (rv_cellS (stp 3 sb b2 b5).toList agg62 ty62 rfl (.head _) (List.mem_singleton.2 rfl) (by kernel_rfl) (by kernel_rfl))) (dr_lose hrc (dr_f1 (dr_f1 (dr_f2 (dr_cat (dr_cat dr_refl)))))) (fresh_cat (fresh_cat (fresh1 hb2) (fresh1 hb5)) (fresh1 hb3)) ?_
  -- end 0
  exact ⟨_, _, _, rfl, rfl⟩

/-- given.example/pub-tinwright/pub/smithy/middleware.NewDeserializeStep -/
theorem new4  : FnA Tryz.prog 35 [] [] (fun v N => ∃ sb, v = Pt sb 0 ∧ N = stg 4 sb NR []) := by
  refine FnA.enter0 (n := 3) Tryz.func35 rfl rfl fun w0 => ?_
  refine WC.sub (fr' := []) ?_ trivial
  refine WC.seq (WC.region ?_)
  refine WL.q (oq_assign rfl) rfl rfl rfl ?_
  refine WL.nil (WE.then_normal (WC.sub (fr' := []) ?_ trivial))
  refine WC.seq (WC.region ?_)
  refine WL.q (oq_build #[_, _] str215 ty215 rfl rfl) rfl rfl rfl ?_
  refine WL.box rfl rfl rfl fun s hs => ?_
  refine WL.q (oq_assign rfl) rfl rfl rfl ?_
  refine WL.nil (WE.then_normal (WC.sub (fr' := [(0, _)]) ?_ ⟨rfl, trivial⟩))
  refine WC.ret ?_
  refine WE.endA0 (.inl rfl) (res1 Tryz.results35 rfl) ?_ (fresh1 hs)
  -- end 0
  exact ⟨_, rfl, rfl⟩

/-- given.example/pub-tinwright/impl.deserializeStep -/
theorem mk4 (sb cb : Nat) : FnA Tryz.prog 30 [Pt sb 0, Pt cb 0] [] (fun v N => ∃ b2 b5 b3, v = .agg (stp 4 sb b2 b5) ∧ N = env 4 sb b2 b5 b3 ++ [(b3, .cells #[Pt cb 0] 66 (0, 0))]) := by
  refine FnA.enter0 (n := 17) Tryz.func30 rfl rfl fun w0 => ?_
  refine WC.sub (fr' := [(0, _), (1, _)]) ?_ ⟨rfl, rfl, trivial⟩
  refine WC.seq (WC.region ?_)
  refine WL.box rfl rfl rfl fun b2 hb2 => ?_
  refine WL.box rfl rfl rfl fun b3 hb3 => ?_
  refine WL.alloc ty62 rfl rfl fun rc hrc => ?_
  refine WL.nil (WE.then_normal (WC.sub (fr' := [(2, _), (3, _), (4, _)]) ?_ ⟨rfl, rfl, rfl, trivial⟩))
  refine WC.seq (WC.region ?_)
  refine WL.q (oq_makeFn rfl) rfl rfl rfl ?_
  refine WL.alloc ty193 rfl rfl fun b5 hb5 => ?_
  refine WL.store ty193 rfl rfl rfl (by decide) (by simp) rfl ?_
  refine WL.nil (WE.then_normal (WC.sub (fr' := [(2, _), (4, _), (5, _)]) ?_ ⟨rfl, rfl, rfl, trivial⟩))
  refine WC.seq (WC.region ?_)
  refine WL.q (oq_makeFn rfl) rfl rfl rfl ?_
  refine WL.q (oq_makeFn rfl) rfl rfl rfl ?_
  refine WL.q (oq_makeFn rfl) rfl rfl rfl ?_
  refine WL.q (oq_makeFn rfl) rfl rfl rfl ?_
  refine WL.q (oq_load flat84 rfl (.tail _ (.tail _ (.tail _ (.head _)))) (List.mem_singleton.2 rfl) rfl) rfl rfl rfl ?_
  refine WL.q (oq_makeBound rfl) rfl rfl rfl ?_
  refine WL.q (oq_load flat84 rfl (.tail _ (.tail _ (.tail _ (.head _)))) (List.mem_singleton.2 rfl) rfl) rfl rfl rfl ?_
  refine WL.q (oq_makeBound rfl) rfl rfl rfl ?_
  refine WL.q (oq_makeFn rfl) rfl rfl rfl ?_
  refine WL.q (oq_build (stp 4 sb b2 b5) str62 ty62 rfl (by kernel_rfl)) rfl rfl rfl ?_
  refine WL.f1 ?_
  refine WL.storeS (stp 4 sb b2 b5) ty62 rfl rfl (by kernel_rfl) (by kernel_rfl) (Nat.le_of_ble_eq_true rfl) (by kernel_rfl) rfl ?_
  refine WL.nil (WE.then_normal (WC.sub (fr' := [(4, _)]) ?_ ⟨rfl, trivial⟩))
  refine WC.ret ?_
  refine WE.endDA0 (.inl rfl) (rs1 Tryz.results30 (rv_cellS (stp 4 sb b2 b5).toList agg62 ty62 rfl (.head _) (List.mem_singleton.2 rfl) (by kernel_rfl) (by kernel_rfl))) (dr_lose hrc (dr_f1 (dr_f1 (dr_f2 (dr_cat (dr_cat dr_refl)))))) (fresh_cat (fresh_cat (fresh1 hb2) (fresh1 hb5)) (fresh1 hb3)) ?_
  -- end 0
  exact ⟨_, _, _, rfl, rfl⟩

/-- given.example/pub-tinwright/pub/smithy/middleware.NewStack -/
theorem newStack (nm : List UInt8) : FnA Tryz.prog 24 [S nm, NR] [] (fun v N => ∃ st s0 s1 s2 s3 s4, v = Pt st 0 ∧ N = (((([(st, .cells #[Pt s0 0, Pt s1 0, Pt s2 0, Pt s3 0, Pt s4 0, S nm] 86 (0, 0))] ++ stg 0 s0 NR []) ++ stg 1 s1 NR []) ++ stg 2 s2 NR []) ++ stg 3 s3 NR []) ++ stg 4 s4 NR []) := by
  refine FnA.enter0 (n := 14) Tryz.func24 rfl rfl fun w0 => ?_
  refine WC.sub (fr' := [(0, _), (1, _)]) ?_ ⟨rfl, rfl, trivial⟩
  refine WC.seq (WC.region ?_)
  refine WL.q (oq_assign rfl) rfl rfl rfl ?_
  refine WL.nil (WE.then_normal (WC.sub (fr' := [(0, _), (1, _)]) ?_ ⟨rfl, rfl, trivial⟩))
  refine WC.seq (WC.region ?_)
  refine WL.q (oq_move rfl) rfl rfl rfl ?_
  refine WL.callA0 (new0) call31 rfl rfl rfl fun v1_1 N1_1 hR1_1 hN1_1 => ?_
  obtain ⟨s0, rfl, rfl⟩ := hR1_1
  refine WL.q (oq_move rfl) rfl rfl rfl ?_
  refine WL.callA0 (new1) call32 rfl rfl rfl fun v1_3 N1_3 hR1_3 hN1_3 => ?_
  obtain ⟨s1, rfl, rfl⟩ := hR1_3
  refine WL.callA0 (new2) call33 rfl rfl rfl fun v1_4 N1_4 hR1_4 hN1_4 => ?_
  obtain ⟨s2, rfl, rfl⟩ := hR1_4
  refine WL.callA0 (new3) call34 rfl rfl rfl fun v1_5 N1_5 hR1_5 hN1_5 => ?_
  obtain ⟨s3, rfl, rfl⟩ := hR1_5
  refine WL.callA0 (new4) call35 rfl rfl rfl fun v1_6 N1_6 hR1_6 hN1_6 => ?_
  obtain ⟨s4, rfl, rfl⟩ := hR1_6
  refine WL.q (oq_build (#[Pt s0 0, Pt s1 0, Pt s2 0, Pt s3 0, Pt s4 0, S nm]) str86 ty86 rfl (by kernel_rfl)) rfl rfl rfl ?_
  refine WL.box rfl rfl rfl fun st hst => ?_
  refine WL.q (oq_assign rfl) rfl rfl rfl ?_
  refine WL.nil (WE.then_normal (WC.sub (fr' := [(4, _)]) ?_ ⟨rfl, trivial⟩))
  refine WC.ret ?_
  refine WE.f1 ?_
  refine WE.f2 ?_
  refine WE.f3 ?_
  refine WE.f4 ?_
  refine WE.f5 ?_
  refine WE.f5 ?_
  refine WE.cat ?_
  refine WE.cat ?_
  refine WE.cat ?_
  refine WE.cat ?_
  refine WE.cat ?_
  refine WE.endA0 (.inl rfl) (res1 Tryz.results24 rfl) ?_ (fresh_cat (fresh_cat (fresh_cat (fresh_cat (fresh_cat (fresh1 hst) (hN1_1)) (hN1_3)) (hN1_4)) (hN1_5)) (hN1_6))
  -- end 0
  exact ⟨_, _, _, _, _, _, rfl, rfl⟩

theorem clAdd (i : Nat) (hi : i < 5) (base sb b2 b5 b3 : Nat) (nr : Value) (l : List Nd) (id : List UInt8) (aft : Bool) : FnW Tryz.prog (cAdd i) [S id, I (if aft then 0 else 1), Pt b2 0, Pt b5 0] base [env i sb b2 b5 b3, stg i sb nr l] (ClR i base sb b2 b5 b3 nr l (some (putI aft id (l.map Nd.id)))) := by
  match i, hi with
  | 0, _ => exact clAdd0 base sb b2 b5 b3 nr l id aft
  | 1, _ => exact clAdd1 base sb b2 b5 b3 nr l id aft
  | 2, _ => exact clAdd2 base sb b2 b5 b3 nr l id aft
  | 3, _ => exact clAdd3 base sb b2 b5 b3 nr l id aft
  | 4, _ => exact clAdd4 base sb b2 b5 b3 nr l id aft
theorem clIns (i : Nat) (hi : i < 5) (base sb b2 b5 b3 : Nat) (nr : Value) (l : List Nd) (id by_ : List UInt8) (aft : Bool) : FnW Tryz.prog (cIns i) [S id, S by_, I (if aft then 0 else 1), Pt b2 0, Pt b5 0] base [env i sb b2 b5 b3, stg i sb nr l] (ClR i base sb b2 b5 b3 nr l (insI by_ aft id (l.map Nd.id))) := by
  match i, hi with
  | 0, _ => exact clIns0 base sb b2 b5 b3 nr l id by_ aft
  | 1, _ => exact clIns1 base sb b2 b5 b3 nr l id by_ aft
  | 2, _ => exact clIns2 base sb b2 b5 b3 nr l id by_ aft
  | 3, _ => exact clIns3 base sb b2 b5 b3 nr l id by_ aft
  | 4, _ => exact clIns4 base sb b2 b5 b3 nr l id by_ aft
theorem clSwp (i : Nat) (hi : i < 5) (base sb b2 b5 b3 : Nat) (nr : Value) (l : List Nd) (id by_ : List UInt8) (hb : ∀ x ∈ l, base ≤ x.b) : FnW Tryz.prog (cSwp i) [S by_, S id, Pt b2 0, Pt b5 0] base [env i sb b2 b5 b3, stg i sb nr l] (ClR i base sb b2 b5 b3 nr l (swpI by_ id (l.map Nd.id))) := by
  match i, hi with
  | 0, _ => exact clSwp0 base sb b2 b5 b3 nr l id by_ hb
  | 1, _ => exact clSwp1 base sb b2 b5 b3 nr l id by_ hb
  | 2, _ => exact clSwp2 base sb b2 b5 b3 nr l id by_ hb
  | 3, _ => exact clSwp3 base sb b2 b5 b3 nr l id by_ hb
  | 4, _ => exact clSwp4 base sb b2 b5 b3 nr l id by_ hb
theorem clRem (i : Nat) (hi : i < 5) (base sb b2 b5 b3 : Nat) (nr : Value) (l : List Nd) (id : List UInt8) (hb : ∀ x ∈ l, base ≤ x.b) : FnW Tryz.prog (cRem i) [S id, Pt b2 0] base [env i sb b2 b5 b3, stg i sb nr l, []] (ClR i base sb b2 b5 b3 nr l (remI id (l.map Nd.id))) := by
  match i, hi with
  | 0, _ => exact clRem0 base sb b2 b5 b3 nr l id hb
  | 1, _ => exact clRem1 base sb b2 b5 b3 nr l id hb
  | 2, _ => exact clRem2 base sb b2 b5 b3 nr l id hb
  | 3, _ => exact clRem3 base sb b2 b5 b3 nr l id hb
  | 4, _ => exact clRem4 base sb b2 b5 b3 nr l id hb
theorem clHas (i : Nat) (hi : i < 5) (base sb b2 b5 b3 : Nat) (nr : Value) (l : List Nd) (id : List UInt8) : FnW Tryz.prog (cHas i) [S id, Pt b2 0] base [env i sb b2 b5 b3, stg i sb nr l] (fun v Hs => v = .bool (decide (id ∈ l.map Nd.id)) ∧ Hs = [env i sb b2 b5 b3, stg i sb nr l]) := by
  match i, hi with
  | 0, _ => exact clHas0 base sb b2 b5 b3 nr l id
  | 1, _ => exact clHas1 base sb b2 b5 b3 nr l id
  | 2, _ => exact clHas2 base sb b2 b5 b3 nr l id
  | 3, _ => exact clHas3 base sb b2 b5 b3 nr l id
  | 4, _ => exact clHas4 base sb b2 b5 b3 nr l id
theorem clrU (i : Nat) (hi : i < 5) (base sb : Nat) (nr : Value) (l : List Nd) (hb : ∀ x ∈ l, base ≤ x.b) : FnW Tryz.prog (fClear i) [Pt sb 0] base [stg i sb nr l] (fun v Hs => ∃ X, Hs = [stg i sb nr [], X] ∧ ∀ b o, (b, o) ∈ X → base ≤ b) := by
  match i, hi with
  | 0, _ => exact clrU0 base sb nr l hb
  | 1, _ => exact clrU1 base sb nr l hb
  | 2, _ => exact clrU2 base sb nr l hb
  | 3, _ => exact clrU3 base sb nr l hb
  | 4, _ => exact clrU4 base sb nr l hb
theorem lstU (i : Nat) (hi : i < 5) (sb : Nat) (nr : Value) (l : List Nd) (hl : l.length ≤ 100000) : FnA Tryz.prog (fList i) [Pt sb 0] (stg i sb nr l) (fun v N => OwS 0 9 1 v N l.length (strsV (l.map Nd.id))) := by
  match i, hi with
  | 0, _ => exact lstU0 sb nr l hl
  | 1, _ => exact lstU1 sb nr l hl
  | 2, _ => exact lstU2 sb nr l hl
  | 3, _ => exact lstU3 sb nr l hl
  | 4, _ => exact lstU4 sb nr l hl
theorem call_cAdd (i : Nat) (hi : i < 5) : Callable Tryz.prog (cAdd i) := by
  match i, hi with
  | 0, _ => exact ⟨_, Tryz.func41, rfl, by kernel_rfl⟩
  | 1, _ => exact ⟨_, Tryz.func56, rfl, by kernel_rfl⟩
  | 2, _ => exact ⟨_, Tryz.func71, rfl, by kernel_rfl⟩
  | 3, _ => exact ⟨_, Tryz.func86, rfl, by kernel_rfl⟩
  | 4, _ => exact ⟨_, Tryz.func101, rfl, by kernel_rfl⟩
theorem call_cIns (i : Nat) (hi : i < 5) : Callable Tryz.prog (cIns i) := by
  match i, hi with
  | 0, _ => exact ⟨_, Tryz.func43, rfl, by kernel_rfl⟩
  | 1, _ => exact ⟨_, Tryz.func58, rfl, by kernel_rfl⟩
  | 2, _ => exact ⟨_, Tryz.func73, rfl, by kernel_rfl⟩
  | 3, _ => exact ⟨_, Tryz.func88, rfl, by kernel_rfl⟩
  | 4, _ => exact ⟨_, Tryz.func103, rfl, by kernel_rfl⟩
theorem call_cSwp (i : Nat) (hi : i < 5) : Callable Tryz.prog (cSwp i) := by
  match i, hi with
  | 0, _ => exact ⟨_, Tryz.func45, rfl, by kernel_rfl⟩
  | 1, _ => exact ⟨_, Tryz.func60, rfl, by kernel_rfl⟩
  | 2, _ => exact ⟨_, Tryz.func75, rfl, by kernel_rfl⟩
  | 3, _ => exact ⟨_, Tryz.func90, rfl, by kernel_rfl⟩
  | 4, _ => exact ⟨_, Tryz.func105, rfl, by kernel_rfl⟩
theorem call_cRem (i : Nat) (hi : i < 5) : Callable Tryz.prog (cRem i) := by
  match i, hi with
  | 0, _ => exact ⟨_, Tryz.func47, rfl, by kernel_rfl⟩
  | 1, _ => exact ⟨_, Tryz.func62, rfl, by kernel_rfl⟩
  | 2, _ => exact ⟨_, Tryz.func77, rfl, by kernel_rfl⟩
  | 3, _ => exact ⟨_, Tryz.func92, rfl, by kernel_rfl⟩
  | 4, _ => exact ⟨_, Tryz.func107, rfl, by kernel_rfl⟩
theorem call_cHas (i : Nat) (hi : i < 5) : Callable Tryz.prog (cHas i) := by
  match i, hi with
  | 0, _ => exact ⟨_, Tryz.func51, rfl, by kernel_rfl⟩
  | 1, _ => exact ⟨_, Tryz.func66, rfl, by kernel_rfl⟩
  | 2, _ => exact ⟨_, Tryz.func81, rfl, by kernel_rfl⟩
  | 3, _ => exact ⟨_, Tryz.func96, rfl, by kernel_rfl⟩
  | 4, _ => exact ⟨_, Tryz.func111, rfl, by kernel_rfl⟩
theorem call_fClear (i : Nat) (hi : i < 5) : Callable Tryz.prog (fClear i) := by
  match i, hi with
  | 0, _ => exact ⟨_, Tryz.func49, rfl, by kernel_rfl⟩
  | 1, _ => exact ⟨_, Tryz.func64, rfl, by kernel_rfl⟩
  | 2, _ => exact ⟨_, Tryz.func79, rfl, by kernel_rfl⟩
  | 3, _ => exact ⟨_, Tryz.func94, rfl, by kernel_rfl⟩
  | 4, _ => exact ⟨_, Tryz.func109, rfl, by kernel_rfl⟩
theorem call_fList (i : Nat) (hi : i < 5) : Callable Tryz.prog (fList i) := by
  match i, hi with
  | 0, _ => exact ⟨_, Tryz.func50, rfl, by kernel_rfl⟩
  | 1, _ => exact ⟨_, Tryz.func65, rfl, by kernel_rfl⟩
  | 2, _ => exact ⟨_, Tryz.func80, rfl, by kernel_rfl⟩
  | 3, _ => exact ⟨_, Tryz.func95, rfl, by kernel_rfl⟩
  | 4, _ => exact ⟨_, Tryz.func110, rfl, by kernel_rfl⟩

/-! ### All five steps -/
structure SS where
  sb : Nat → Nat
  b2 : Nat → Nat
  b5 : Nat → Nat
  b3 : Nat → Nat
def one (G : SS) (its : Nat → List Nd) (i : Nat) : Hp := env i (G.sb i) (G.b2 i) (G.b5 i) (G.b3 i) ++ stg i (G.sb i) NR (its i)
def All (G : SS) (its : Nat → List Nd) : Hp := one G its 0 ++ (one G its 1 ++ (one G its 2 ++ (one G its 3 ++ one G its 4)))
def Rest (G : SS) (its : Nat → List Nd) (i : Nat) : Hp := match i with
  | 0 => one G its 1 ++ (one G its 2 ++ (one G its 3 ++ one G its 4))
  | 1 => one G its 0 ++ (one G its 2 ++ (one G its 3 ++ one G its 4))
  | 2 => one G its 0 ++ (one G its 1 ++ (one G its 3 ++ one G its 4))
  | 3 => one G its 0 ++ (one G its 1 ++ (one G its 2 ++ one G its 4))
  | _ => one G its 0 ++ (one G its 1 ++ (one G its 2 ++ one G its 3))
def updW {α : Type} (f : Nat → α) (i : Nat) (x : α) : Nat → α := fun j => if j = i then x else f j
theorem updW_at {α : Type} (f : Nat → α) (i : Nat) (x : α) : updW f i x i = x := if_pos rfl
theorem updW_ne {α : Type} (f : Nat → α) {i j : Nat} (x : α) (h : j ≠ i) : updW f i x j = f j := if_neg h
theorem p5 {α : Type} (A B C : List α) : (A ++ (B ++ C)).Perm (B ++ (A ++ C)) := by rw [← List.append_assoc, ← List.append_assoc]; exact List.perm_append_comm.append_right _
theorem all_out (G : SS) (its : Nat → List Nd) (i : Nat) (hi : i < 5) : (All G its).Perm (one G its i ++ Rest G its i) := by
  match i, hi with
  | 0, _ => exact List.Perm.refl _
  | 1, _ => exact p5 _ _ _
  | 2, _ => exact ((p5 _ _ _).append_left _).trans (p5 _ _ _)
  | 3, _ => exact (((p5 _ _ _).append_left _).append_left _).trans (((p5 _ _ _).append_left _).trans (p5 _ _ _))
  | 4, _ => exact (((List.perm_append_comm.append_left _).append_left _).append_left _).trans ((((p5 _ _ _).append_left _).append_left _).trans (((p5 _ _ _).append_left _).trans (p5 _ _ _)))
theorem rest_upd (G : SS) (its : Nat → List Nd) (i : Nat) (hi : i < 5) (m : List Nd) : Rest G (updW its i m) i = Rest G its i := by
  match i, hi with
  | 0, _ => rfl
  | 1, _ => rfl
  | 2, _ => rfl
  | 3, _ => rfl
  | 4, _ => rfl
theorem all_in (G : SS) (its : Nat → List Nd) (i : Nat) (hi : i < 5) (m : List Nd) : ((env i (G.sb i) (G.b2 i) (G.b5 i) (G.b3 i) ++ stg i (G.sb i) NR m) ++ Rest G its i).Perm (All G (updW its i m)) := by
  have := all_out G (updW its i m) i hi
  rw [rest_upd G its i hi m] at this
  unfold one at this
  rw [updW_at] at this
  exact this.symm
def ids (its : Nat → List Nd) : Nat → List (List UInt8) := fun j => (its j).map Nd.id
def Inv (G : SS) (base : Nat) (its : Nat → List Nd) (X : Hp) : Prop := (∀ b o, (b, o) ∈ X → base ≤ b) ∧ ∀ j, ∀ y ∈ its j, base ≤ y.b ∧ Okn j (G.b3 j) X y
def AR (G : SS) (base : Nat) (its : Nat → List Nd) (X : Hp) (i : Nat) (ri : Option (List (List UInt8))) (v : Value) (Hs : List Hp) : Prop :=
  ∃ its' X', Hs = [All G its', X'] ∧ Inv G base its' X' ∧ (∀ e, e ∈ X → e ∈ X') ∧ ((∃ l, ri = some l ∧ v = .nilIface ∧ ids its' = updW (ids its) i l) ∨ (ri = none ∧ its' = its ∧ ∃ k u, v = .iface k u))
theorem okn_mono {i b3 : Nat} {X X' : Hp} {y : Nd} (h : Okn i b3 X y) (hx : ∀ e, e ∈ X → e ∈ X') : Okn i b3 X' y := by
  obtain ⟨q, h1, h2⟩ := h
  exact ⟨q, h1, hx _ h2⟩
theorem ids_upd (its : Nat → List Nd) (i : Nat) (m : List Nd) : ids (updW its i m) = updW (ids its) i (m.map Nd.id) := by
  funext j
  unfold ids updW
  by_cases h : j = i
  · rw [if_pos h, if_pos h]
  · rw [if_neg h, if_neg h]
theorem updW_self (its : Nat → List Nd) (i : Nat) : updW its i (its i) = its := by
  funext j
  by_cases h : j = i
  · rw [h, updW_at]
  · exact updW_ne _ _ h
theorem perm3 {A B C D : Hp} : ([A, B, C, D] : List Hp).flatten.Perm ([(A ++ B) ++ D, C] : List Hp).flatten := by
  simp only [List.flatten_cons, List.flatten_nil, List.append_nil, List.append_assoc]
  exact (List.perm_append_comm.append_left _).append_left _
theorem ar_of {f : FuncId} {args : List Value} {G : SS} {base : Nat} {its : Nat → List Nd} {X E : Hp} {i : Nat} (hi : i < 5) {ri : Option (List (List UInt8))} (hI : Inv G base its X) (hE : E = [] ∨ False)
    (h : FnW Tryz.prog f args base [env i (G.sb i) (G.b2 i) (G.b5 i) (G.b3 i), stg i (G.sb i) NR (its i)] (ClR i base (G.sb i) (G.b2 i) (G.b5 i) (G.b3 i) NR (its i) ri)) : FnW Tryz.prog f args base [All G its, X] (AR G base its X i ri) := by
  refine ((h.frame (Rest G its i)).frame X).reg ?_ ?_
  · have := (all_out G its i hi).append_right X
    simpa [one] using this
  · rintro v Hs ⟨Hs1, ⟨Hs2, ⟨m, X1, rfl, hX1, hm, hv⟩, rfl⟩, rfl⟩
    refine ⟨[All G (updW its i m), X1 ++ X], ⟨_, _, rfl, ⟨?_, ?_⟩, fun e he => List.mem_append_right _ he, ?_⟩, ?_⟩
    · intro b o hb
      rcases List.mem_append.1 hb with hb | hb
      · exact hX1 b o hb
      · exact hI.1 b o hb
    · intro j y hy
      by_cases hj : j = i
      · subst hj
        rw [updW_at] at hy
        rcases hm y hy with h | ⟨h1, h2⟩
        · exact ⟨(hI.2 j y h).1, okn_mono (hI.2 j y h).2 fun e he => List.mem_append_right _ he⟩
        · exact ⟨h1, okn_mono h2 fun e he => List.mem_append_left _ he⟩
      · rw [updW_ne _ _ hj] at hy
        exact ⟨(hI.2 j y hy).1, okn_mono (hI.2 j y hy).2 fun e he => List.mem_append_right _ he⟩
    · rcases hv with ⟨h1, h2⟩ | ⟨h1, rfl, h2⟩
      · exact .inl ⟨_, h1, h2, ids_upd _ _ _⟩
      · exact .inr ⟨h1, updW_self _ _, h2⟩
    · have p := (all_in G its i hi m).append_right (X1 ++ X)
      refine List.Perm.trans ?_ (by simpa using p)
      simp only [List.cons_append, List.nil_append, List.flatten_cons, List.flatten_nil, List.append_nil, List.append_assoc]
      refine List.Perm.append_left _ (List.Perm.append_left _ ?_)
      exact p5 _ _ _
theorem fnA_wide {P : Program} {f : FuncId} {args : List Value} {A C D : Hp} {R : Value → Hp → Prop} (h : FnA P f args A R) (p : C.Perm (A ++ D)) : FnA P f args C R := fun w hw => by
  have hs : St w (A ++ D) w := hw.st.perm p
  refine (h w hs.has).mono fun e w' hh => ?_
  obtain ⟨v, N, h1, h2, h3, h4⟩ := hh
  exact ⟨v, N, h1, h2, h3, (hs.trans h4 rfl h3).perm (p.symm.append_left N)⟩
theorem aAdd {G : SS} {base : Nat} {its : Nat → List Nd} {X : Hp} {i : Nat} (hi : i < 5) (hI : Inv G base its X) (id : List UInt8) (aft : Bool) : FnW Tryz.prog (cAdd i) [S id, I (if aft then 0 else 1), Pt (G.b2 i) 0, Pt (G.b5 i) 0] base [All G its, X] (AR G base its X i (some (putI aft id (ids its i)))) :=
  ar_of (E := []) hi hI (.inl rfl) (clAdd i hi base _ _ _ _ NR _ id aft)
theorem aIns {G : SS} {base : Nat} {its : Nat → List Nd} {X : Hp} {i : Nat} (hi : i < 5) (hI : Inv G base its X) (id by_ : List UInt8) (aft : Bool) : FnW Tryz.prog (cIns i) [S id, S by_, I (if aft then 0 else 1), Pt (G.b2 i) 0, Pt (G.b5 i) 0] base [All G its, X] (AR G base its X i (insI by_ aft id (ids its i))) :=
  ar_of (E := []) hi hI (.inl rfl) (clIns i hi base _ _ _ _ NR _ id by_ aft)
theorem aSwp {G : SS} {base : Nat} {its : Nat → List Nd} {X : Hp} {i : Nat} (hi : i < 5) (hI : Inv G base its X) (id by_ : List UInt8) : FnW Tryz.prog (cSwp i) [S by_, S id, Pt (G.b2 i) 0, Pt (G.b5 i) 0] base [All G its, X] (AR G base its X i (swpI by_ id (ids its i))) :=
  ar_of (E := []) hi hI (.inl rfl) (clSwp i hi base _ _ _ _ NR _ id by_ fun x hx => (hI.2 i x hx).1)
theorem aRem {G : SS} {base : Nat} {its : Nat → List Nd} {X : Hp} {i : Nat} (hi : i < 5) (hI : Inv G base its X) (id : List UInt8) : FnW Tryz.prog (cRem i) [S id, Pt (G.b2 i) 0] base [All G its, X] (AR G base its X i (remI id (ids its i))) :=
  ar_of (E := []) hi hI (.inl rfl) ((clRem i hi base _ _ _ _ NR _ id fun x hx => (hI.2 i x hx).1).reg (by simp) fun v Hs h => ⟨Hs, h, List.Perm.refl _⟩)
theorem aHas {G : SS} {base : Nat} {its : Nat → List Nd} {i : Nat} (hi : i < 5) (id : List UInt8) : FnW Tryz.prog (cHas i) [S id, Pt (G.b2 i) 0] base [All G its] (fun v Hs => v = .bool (decide (id ∈ ids its i)) ∧ Hs = [All G its]) := by
  refine ((clHas i hi base _ _ _ _ NR (its i) id).frame (Rest G its i)).reg (by have := all_out G its i hi; simpa [one] using this) ?_
  rintro v Hs ⟨Hs1, ⟨rfl, rfl⟩, rfl⟩
  exact ⟨[All G its], ⟨rfl, rfl⟩, by have := (all_out G its i hi).symm; simpa [one] using this⟩
theorem aClr {G : SS} {base : Nat} {its : Nat → List Nd} {X : Hp} {i : Nat} (hi : i < 5) (hI : Inv G base its X) : FnW Tryz.prog (fClear i) [Pt (G.sb i) 0] base [All G its, X] (fun v Hs => ∃ w, AR G base its X i (some []) w Hs ∧ w = .nilIface) := by
  refine (((clrU i hi base (G.sb i) NR (its i) fun x hx => (hI.2 i x hx).1).frame (env i (G.sb i) (G.b2 i) (G.b5 i) (G.b3 i) ++ Rest G its i)).frame X).reg ?_ ?_
  · have := (all_out G its i hi).append_right X
    refine List.Perm.trans (by simpa [one] using this) ?_
    simp only [List.cons_append, List.nil_append, List.flatten_cons, List.flatten_nil, List.append_nil, List.append_assoc]
    exact p5 _ _ _
  · rintro v Hs ⟨Hs1, ⟨Hs2, ⟨X1, rfl, hX1⟩, rfl⟩, rfl⟩
    refine ⟨[All G (updW its i []), X1 ++ X], ⟨.nilIface, ⟨_, _, rfl, ⟨?_, ?_⟩, fun e he => List.mem_append_right _ he, .inl ⟨_, rfl, rfl, ids_upd _ _ _⟩⟩, rfl⟩, ?_⟩
    · intro b o hb
      rcases List.mem_append.1 hb with hb | hb
      · exact hX1 b o hb
      · exact hI.1 b o hb
    · intro j y hy
      by_cases hj : j = i
      · subst hj
        rw [updW_at] at hy
        cases hy
      · rw [updW_ne _ _ hj] at hy
        exact ⟨(hI.2 j y hy).1, okn_mono (hI.2 j y hy).2 fun e he => List.mem_append_right _ he⟩
    · have p := (all_in G its i hi []).append_right (X1 ++ X)
      refine List.Perm.trans ?_ (by simpa using p)
      simp only [List.cons_append, List.nil_append, List.flatten_cons, List.flatten_nil, List.append_nil, List.append_assoc]
      refine (List.Perm.append_left _ (p5 _ _ _)).trans ((p5 _ _ _).trans (List.Perm.append_left _ (List.Perm.append_left _ (p5 _ _ _))))
theorem aLst {G : SS} {its : Nat → List Nd} {i : Nat} (hi : i < 5) (hl : (its i).length ≤ 100000) : FnA Tryz.prog (fList i) [Pt (G.sb i) 0] (All G its) (fun v N => OwS 0 9 1 v N (its i).length (strsV (ids its i))) :=
  fnA_wide (D := env i (G.sb i) (G.b2 i) (G.b5 i) (G.b3 i) ++ Rest G its i) (lstU i hi (G.sb i) NR (its i) hl) (by
    refine (all_out G its i hi).trans ?_
    unfold one
    rw [List.append_assoc]
    exact p5 _ _ _)
end S7
end Go.Proofs.YtclafiglpcjhdaaGreat
