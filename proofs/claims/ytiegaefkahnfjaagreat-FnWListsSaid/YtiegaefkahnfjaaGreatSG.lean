/- The names that a stack lists, walked. -/
import Derived.Test.YtiegaefkahnfjaaGreatSD
namespace Go.Proofs.YtiegaefkahnfjaaGreat
open Go Go.RowKit V S0 S1 S2 S3 S4 S5 S6 S7 S8 SA SB S9 SC SD
set_option linter.unusedSimpArgs false
set_option linter.unusedVariables false
set_option maxRecDepth 10000
namespace SG
theorem call20 : Callable Tryz.prog 20 := ⟨_, Tryz.func20, rfl, by kernel_rfl⟩
theorem call24 : Callable Tryz.prog 24 := ⟨_, Tryz.func24, rfl, by kernel_rfl⟩
theorem call35 : Callable Tryz.prog 35 := ⟨_, Tryz.func35, rfl, by kernel_rfl⟩
theorem call36 : Callable Tryz.prog 36 := ⟨_, Tryz.func36, rfl, by kernel_rfl⟩
theorem call37 : Callable Tryz.prog 37 := ⟨_, Tryz.func37, rfl, by kernel_rfl⟩
theorem call38 : Callable Tryz.prog 38 := ⟨_, Tryz.func38, rfl, by kernel_rfl⟩
theorem call39 : Callable Tryz.prog 39 := ⟨_, Tryz.func39, rfl, by kernel_rfl⟩
theorem call40 : Callable Tryz.prog 40 := ⟨_, Tryz.func40, rfl, by kernel_rfl⟩
theorem call41 : Callable Tryz.prog 41 := ⟨_, Tryz.func41, rfl, by kernel_rfl⟩
theorem call42 : Callable Tryz.prog 42 := ⟨_, Tryz.func42, rfl, by kernel_rfl⟩
theorem call43 : Callable Tryz.prog 43 := ⟨_, Tryz.func43, rfl, by kernel_rfl⟩
theorem call44 : Callable Tryz.prog 44 := ⟨_, Tryz.func44, rfl, by kernel_rfl⟩
theorem flat9 : Flat Tryz.prog 9 := ⟨_, Tryz.underlying9, by simp⟩
theorem flat74 : Flat Tryz.prog 74 := ⟨_, Tryz.underlying74, by simp⟩
theorem flat75 : Flat Tryz.prog 75 := ⟨_, Tryz.underlying75, by simp⟩
theorem flat76 : Flat Tryz.prog 76 := ⟨_, Tryz.underlying76, by simp⟩
theorem flat77 : Flat Tryz.prog 77 := ⟨_, Tryz.underlying77, by simp⟩
theorem flat78 : Flat Tryz.prog 78 := ⟨_, Tryz.underlying78, by simp⟩
theorem ty9 : Ty Tryz.prog 9 (S []) 1 16 := ty_of (by kernel_rfl)
theorem ty51 : Ty Tryz.prog 51 (.agg #[.nilFunc, .nilFunc, .nilFunc, .nilFunc, .nilFunc, .nilFunc, .nilFunc, .nilFunc, .nilFunc, .nilFunc, .nilFunc, .nilFunc, .nilFunc, .nilFunc, .nilFunc, .nilFunc, .nilFunc, .nilFunc, .nilFunc, .nilFunc, .nilFunc, .nilFunc, .nilFunc, .nilFunc, .nilFunc, .nilFunc, .nilFunc, .nilFunc, .nilFunc, .nilFunc, .nilFunc, .nilFunc, .nilFunc, .nilFunc, .nilFunc]) 35 280 := ty_of (by kernel_rfl)
theorem ty56 : Ty Tryz.prog 56 (.agg #[(.slice none 0 0), (S []), (.bool false)]) 3 48 := ty_of (by kernel_rfl)
theorem ty74 : Ty Tryz.prog 74 (.pointer none) 1 8 := ty_of (by kernel_rfl)
theorem ty75 : Ty Tryz.prog 75 (.pointer none) 1 8 := ty_of (by kernel_rfl)
theorem ty76 : Ty Tryz.prog 76 (.pointer none) 1 8 := ty_of (by kernel_rfl)
theorem ty77 : Ty Tryz.prog 77 (.pointer none) 1 8 := ty_of (by kernel_rfl)
theorem ty78 : Ty Tryz.prog 78 (.pointer none) 1 8 := ty_of (by kernel_rfl)
theorem str56 : Str Tryz.prog 56 #[(0, 1), (1, 1), (2, 1)] := ⟨_, Tryz.underlying56, fun w => by kernel_rfl⟩
theorem fld80_0 : Fld Tryz.prog 80 0 0 74 := fld_of Tryz.underlying80 rfl rfl rfl ty74 (by decide)
theorem fld80_1 : Fld Tryz.prog 80 1 1 75 := fld_of Tryz.underlying80 rfl rfl rfl ty75 (by decide)
theorem fld80_2 : Fld Tryz.prog 80 2 2 76 := fld_of Tryz.underlying80 rfl rfl rfl ty76 (by decide)
theorem fld80_3 : Fld Tryz.prog 80 3 3 77 := fld_of Tryz.underlying80 rfl rfl rfl ty77 (by decide)
theorem fld80_4 : Fld Tryz.prog 80 4 4 78 := fld_of Tryz.underlying80 rfl rfl rfl ty78 (by decide)
theorem fld80_5 : Fld Tryz.prog 80 5 5 9 := fld_of Tryz.underlying80 rfl rfl rfl ty9 (by decide)
def sn0 : List UInt8 := [73, 110, 105, 116, 105, 97, 108, 105, 122, 101, 32, 115, 116, 97, 99, 107, 32, 115, 116, 101, 112]
def sn1 : List UInt8 := [83, 101, 114, 105, 97, 108, 105, 122, 101, 32, 115, 116, 97, 99, 107, 32, 115, 116, 101, 112]
def sn2 : List UInt8 := [66, 117, 105, 108, 100, 32, 115, 116, 97, 99, 107, 32, 115, 116, 101, 112]
def sn3 : List UInt8 := [70, 105, 110, 97, 108, 105, 122, 101, 32, 115, 116, 97, 99, 107, 32, 115, 116, 101, 112]
def sn4 : List UInt8 := [68, 101, 115, 101, 114, 105, 97, 108, 105, 122, 101, 32, 115, 116, 97, 99, 107, 32, 115, 116, 101, 112]

def snm : Nat → List UInt8
  | 0 => sn0
  | 1 => sn1
  | 2 => sn2
  | 3 => sn3
  | _ => sn4
/-- the names that a stack has -/
def namesK (q : Nat → List (List UInt8)) : Nat → List (List UInt8)
  | 0 => []
  | k + 1 => namesK q k ++ ([snm k] ++ q k)
theorem namesK_len (q : Nat → List (List UInt8)) (h : ∀ j, (q j).length ≤ 60) : ∀ k, (namesK q k).length ≤ 61 * k
  | 0 => Nat.le_refl _
  | k + 1 => by
    have := namesK_len q h k
    have := h k
    show (namesK q k ++ ([snm k] ++ q k)).length ≤ _
    simp only [List.length_append, List.length_cons, List.length_nil]; omega
/-- (*given.example/pub-tinwright/pub/smithy/middleware.InitializeStep).ID -/
theorem sid0 (p : Value) : Fn0 Tryz.prog 35 [p] (S sn0) := by
  refine Fn0.enter (n := 3) Tryz.func35 rfl rfl fun w0 => ?_
  refine WC.sub (fr' := []) ?_ trivial
  refine WC.seq (WC.region ?_)
  refine WL.q (oq_assign rfl) rfl rfl rfl ?_
  refine WL.nil (WE.then_normal (WC.sub (fr' := []) ?_ trivial))
  refine WC.seq (WC.region ?_)
  refine WL.q (oq_assign rfl) rfl rfl rfl ?_
  refine WL.nil (WE.then_normal (WC.sub (fr' := [(2, _)]) ?_ ⟨rfl, trivial⟩))
  refine WC.ret ?_
  refine WE.end0 (.inl rfl) (res1 Tryz.results35 rfl) ?_
  -- end 0
  rfl

/-- (*given.example/pub-tinwright/pub/smithy/middleware.SerializeStep).ID -/
theorem sid1 (p : Value) : Fn0 Tryz.prog 37 [p] (S sn1) := by
  refine Fn0.enter (n := 3) Tryz.func37 rfl rfl fun w0 => ?_
  refine WC.sub (fr' := []) ?_ trivial
  refine WC.seq (WC.region ?_)
  refine WL.q (oq_assign rfl) rfl rfl rfl ?_
  refine WL.nil (WE.then_normal (WC.sub (fr' := []) ?_ trivial))
  refine WC.seq (WC.region ?_)
  refine WL.q (oq_assign rfl) rfl rfl rfl ?_
  refine WL.nil (WE.then_normal (WC.sub (fr' := [(2, _)]) ?_ ⟨rfl, trivial⟩))
  refine WC.ret ?_
  refine WE.end0 (.inl rfl) (res1 Tryz.results37 rfl) ?_
  -- end 0
  rfl

/-- (*given.example/pub-tinwright/pub/smithy/middleware.BuildStep).ID -/
theorem sid2 (p : Value) : Fn0 Tryz.prog 39 [p] (S sn2) := by
  refine Fn0.enter (n := 3) Tryz.func39 rfl rfl fun w0 => ?_
  refine WC.sub (fr' := []) ?_ trivial
  refine WC.seq (WC.region ?_)
  refine WL.q (oq_assign rfl) rfl rfl rfl ?_
  refine WL.nil (WE.then_normal (WC.sub (fr' := []) ?_ trivial))
  refine WC.seq (WC.region ?_)
  refine WL.q (oq_assign rfl) rfl rfl rfl ?_
  refine WL.nil (WE.then_normal (WC.sub (fr' := [(2, _)]) ?_ ⟨rfl, trivial⟩))
  refine WC.ret ?_
  refine WE.end0 (.inl rfl) (res1 Tryz.results39 rfl) ?_
  -- end 0
  rfl

/-- (*given.example/pub-tinwright/pub/smithy/middleware.FinalizeStep).ID -/
theorem sid3 (p : Value) : Fn0 Tryz.prog 41 [p] (S sn3) := by
  refine Fn0.enter (n := 3) Tryz.func41 rfl rfl fun w0 => ?_
  refine WC.sub (fr' := []) ?_ trivial
  refine WC.seq (WC.region ?_)
  refine WL.q (oq_assign rfl) rfl rfl rfl ?_
  refine WL.nil (WE.then_normal (WC.sub (fr' := []) ?_ trivial))
  refine WC.seq (WC.region ?_)
  refine WL.q (oq_assign rfl) rfl rfl rfl ?_
  refine WL.nil (WE.then_normal (WC.sub (fr' := [(2, _)]) ?_ ⟨rfl, trivial⟩))
  refine WC.ret ?_
  refine WE.end0 (.inl rfl) (res1 Tryz.results41 rfl) ?_
  -- end 0
  rfl

/-- (*given.example/pub-tinwright/pub/smithy/middleware.DeserializeStep).ID -/
theorem sid4 (p : Value) : Fn0 Tryz.prog 43 [p] (S sn4) := by
  refine Fn0.enter (n := 3) Tryz.func43 rfl rfl fun w0 => ?_
  refine WC.sub (fr' := []) ?_ trivial
  refine WC.seq (WC.region ?_)
  refine WL.q (oq_assign rfl) rfl rfl rfl ?_
  refine WL.nil (WE.then_normal (WC.sub (fr' := []) ?_ trivial))
  refine WC.seq (WC.region ?_)
  refine WL.q (oq_assign rfl) rfl rfl rfl ?_
  refine WL.nil (WE.then_normal (WC.sub (fr' := [(2, _)]) ?_ ⟨rfl, trivial⟩))
  refine WC.ret ?_
  refine WE.end0 (.inl rfl) (res1 Tryz.results43 rfl) ?_
  -- end 0
  rfl

/-- (*given.example/pub-tinwright/pub/smithy/middleware.Stack).List -/
theorem stList (base st : Nat) (G : SS) (its : Nat → List Nd) (hl5 : ∀ j, (its j).length ≤ 60) : FnW Tryz.prog 24 [Pt st 0] base [stk st G nmS, All G its] (fun v Hs => ∃ N, Hs = [stk st G nmS, All G its, N] ∧ (∀ b o, (b, o) ∈ N → base ≤ b) ∧ RdS 1 v N (nmS :: namesK (ids its) 5).length (strsV (nmS :: namesK (ids its) 5))) := by
  have hb0 := hl5 0
  have hb1 := hl5 1
  have hb2 := hl5 2
  have hb3 := hl5 3
  have hb4 := hl5 4
  refine FnW.enter (n := 87) Tryz.func24 rfl rfl fun w0 R0 hbase => ?_
  subst hbase
  show WC _ _ _ _ _ _ _ ([stk st G nmS, All G its, R0])
  refine WC.sub (fr' := [(0, _)]) ?_ ⟨rfl, trivial⟩
  refine WC.seq (WC.region ?_)
  refine WL.q (oq_assign rfl) rfl rfl rfl ?_
  refine WL.nil (WE.then_normal (WC.sub (fr' := [(0, _)]) ?_ ⟨rfl, trivial⟩))
  refine WC.seq ?_
  refine WC.add0 ?_
  refine WC.region ?_
  refine WL.q (oq_assign rfl) rfl rfl rfl ?_
  refine WL.nil (WE.then_normal (WC.sub (fr' := [(0, _), (3, _)]) ?_ ⟨rfl, rfl, trivial⟩))
  refine WC.seq (WC.region ?_)
  refine WL.q (oq_move rfl) rfl rfl rfl ?_
  refine WL.q (oq_move rfl) rfl rfl rfl ?_
  refine WL.q (oq_nilCheck rfl) rfl rfl rfl ?_
  refine WL.q (oq_fieldAddr fld80_5 rfl) rfl rfl rfl ?_
  refine WL.q (oq_load flat9 rfl (.tail _ (.head _)) (List.mem_singleton.2 rfl) rfl) rfl rfl rfl ?_
  refine WL.append1 (OwS.nil w0.heap.size 9 1) Tryz.underlying26 ty9 rfl (by decide) (fun _ => rfl) rfl rfl (by unfold maxLen; omega) (by omega) rfl rfl (fun _ => rfl) rfl fun v2 A2 u2 ho2 hne2 => ?_
  refine WL.q (oq_assign rfl) rfl rfl rfl ?_
  refine WL.nil (WE.then_normal (WC.sub (fr' := [(0, _), (3, _)]) ?_ ⟨rfl, rfl, trivial⟩))
  refine WC.seq (WC.region ?_)
  refine WL.q (oq_move rfl) rfl rfl rfl ?_
  refine WL.q (oq_move rfl) rfl rfl rfl ?_
  refine WL.q (oq_nilCheck rfl) rfl rfl rfl ?_
  refine WL.q (oq_fieldAddr fld80_0 rfl) rfl rfl rfl ?_
  refine WL.q (oq_load flat74 rfl (.tail _ (.head _)) (List.mem_singleton.2 rfl) rfl) rfl rfl rfl ?_
  refine WL.qc (oq_call (sid0 _) call35 rfl) rfl rfl rfl ?_
  refine WL.append1 ho2 Tryz.underlying26 ty9 rfl (by decide) (fun _ => rfl) rfl rfl (by unfold maxLen; omega) (by omega) rfl rfl (fun _ => rfl) rfl fun v3 A3 u3 ho3 hne3 => ?_
  refine WL.q (oq_assign rfl) rfl rfl rfl ?_
  refine WL.nil (WE.then_normal (WC.sub (fr' := [(0, _), (3, _)]) ?_ ⟨rfl, rfl, trivial⟩))
  refine WC.seq (WC.region ?_)
  refine WL.q (oq_move rfl) rfl rfl rfl ?_
  refine WL.q (oq_move rfl) rfl rfl rfl ?_
  refine WL.q (oq_nilCheck rfl) rfl rfl rfl ?_
  refine WL.q (oq_fieldAddr fld80_0 rfl) rfl rfl rfl ?_
  refine WL.q (oq_load flat74 rfl (.tail _ (.head _)) (List.mem_singleton.2 rfl) rfl) rfl rfl rfl ?_
  refine WL.f2 ?_
  refine WL.callW1 (aLstW (its := its) (i := 0) (by decide) (Nat.le_trans (hl5 0) (by decide))) call36 rfl rfl rfl fun v4_5 Hs4_5 hR4_5 => ?_
  obtain ⟨N0, ho_0, hNf0, rfl⟩ := hR4_5
  refine WL.to2 ?_
  refine WL.f2 ?_
  refine WL.appendS ho3 Tryz.underlying26 ty9 rfl (by decide) rfl rfl ho_0.rd (.tail _ (.head _)) (strsV_one _) (by unfold maxLen; omega) (by omega) rfl rfl fun v4 A4 ho4 hne4 => ?_
  refine WL.q (oq_assign rfl) rfl rfl rfl ?_
  refine WL.nil (WE.then_normal (WC.sub (fr' := [(0, _), (3, _)]) ?_ ⟨rfl, rfl, trivial⟩))
  refine WC.seq (WC.region ?_)
  refine WL.q (oq_move rfl) rfl rfl rfl ?_
  refine WL.q (oq_move rfl) rfl rfl rfl ?_
  refine WL.q (oq_nilCheck rfl) rfl rfl rfl ?_
  refine WL.q (oq_fieldAddr fld80_1 rfl) rfl rfl rfl ?_
  refine WL.q (oq_load flat75 rfl (.tail _ (.tail _ (.tail _ (.head _)))) (List.mem_singleton.2 rfl) rfl) rfl rfl rfl ?_
  refine WL.qc (oq_call (sid1 _) call37 rfl) rfl rfl rfl ?_
  refine WL.append1 ho4 Tryz.underlying26 ty9 rfl (by decide) (fun _ => rfl) rfl rfl (by unfold maxLen; omega) (by omega) rfl rfl (fun _ => rfl) rfl fun v5 A5 u5 ho5 hne5 => ?_
  refine WL.q (oq_assign rfl) rfl rfl rfl ?_
  refine WL.nil (WE.then_normal (WC.sub (fr' := [(0, _), (3, _)]) ?_ ⟨rfl, rfl, trivial⟩))
  refine WC.seq (WC.region ?_)
  refine WL.q (oq_move rfl) rfl rfl rfl ?_
  refine WL.q (oq_move rfl) rfl rfl rfl ?_
  refine WL.q (oq_nilCheck rfl) rfl rfl rfl ?_
  refine WL.q (oq_fieldAddr fld80_1 rfl) rfl rfl rfl ?_
  refine WL.q (oq_load flat75 rfl (.tail _ (.tail _ (.tail _ (.head _)))) (List.mem_singleton.2 rfl) rfl) rfl rfl rfl ?_
  refine WL.f1 ?_
  refine WL.callW1 (aLstW (its := its) (i := 1) (by decide) (Nat.le_trans (hl5 1) (by decide))) call38 rfl rfl rfl fun v6_5 Hs6_5 hR6_5 => ?_
  obtain ⟨N1, ho_1, hNf1, rfl⟩ := hR6_5
  refine WL.to2 ?_
  refine WL.f2 ?_
  refine WL.appendS ho5 Tryz.underlying26 ty9 rfl (by decide) rfl rfl ho_1.rd (.tail _ (.head _)) (strsV_one _) (by unfold maxLen; omega) (by omega) rfl rfl fun v6 A6 ho6 hne6 => ?_
  refine WL.q (oq_assign rfl) rfl rfl rfl ?_
  refine WL.nil (WE.then_normal (WC.sub (fr' := [(0, _), (3, _)]) ?_ ⟨rfl, rfl, trivial⟩))
  refine WC.seq (WC.region ?_)
  refine WL.q (oq_move rfl) rfl rfl rfl ?_
  refine WL.q (oq_move rfl) rfl rfl rfl ?_
  refine WL.q (oq_nilCheck rfl) rfl rfl rfl ?_
  refine WL.q (oq_fieldAddr fld80_2 rfl) rfl rfl rfl ?_
  refine WL.q (oq_load flat76 rfl (.tail _ (.tail _ (.tail _ (.tail _ (.head _))))) (List.mem_singleton.2 rfl) rfl) rfl rfl rfl ?_
  refine WL.qc (oq_call (sid2 _) call39 rfl) rfl rfl rfl ?_
  refine WL.append1 ho6 Tryz.underlying26 ty9 rfl (by decide) (fun _ => rfl) rfl rfl (by unfold maxLen; omega) (by omega) rfl rfl (fun _ => rfl) rfl fun v7 A7 u7 ho7 hne7 => ?_
  refine WL.q (oq_assign rfl) rfl rfl rfl ?_
  refine WL.nil (WE.then_normal (WC.sub (fr' := [(0, _), (3, _)]) ?_ ⟨rfl, rfl, trivial⟩))
  refine WC.seq (WC.region ?_)
  refine WL.q (oq_move rfl) rfl rfl rfl ?_
  refine WL.q (oq_move rfl) rfl rfl rfl ?_
  refine WL.q (oq_nilCheck rfl) rfl rfl rfl ?_
  refine WL.q (oq_fieldAddr fld80_2 rfl) rfl rfl rfl ?_
  refine WL.q (oq_load flat76 rfl (.tail _ (.tail _ (.tail _ (.tail _ (.head _))))) (List.mem_singleton.2 rfl) rfl) rfl rfl rfl ?_
  refine WL.f1 ?_
  refine WL.callW1 (aLstW (its := its) (i := 2) (by decide) (Nat.le_trans (hl5 2) (by decide))) call40 rfl rfl rfl fun v8_5 Hs8_5 hR8_5 => ?_
  obtain ⟨N2, ho_2, hNf2, rfl⟩ := hR8_5
  refine WL.to2 ?_
  refine WL.f2 ?_
  refine WL.appendS ho7 Tryz.underlying26 ty9 rfl (by decide) rfl rfl ho_2.rd (.tail _ (.head _)) (strsV_one _) (by unfold maxLen; omega) (by omega) rfl rfl fun v8 A8 ho8 hne8 => ?_
  refine WL.q (oq_assign rfl) rfl rfl rfl ?_
  refine WL.nil (WE.then_normal (WC.sub (fr' := [(0, _), (3, _)]) ?_ ⟨rfl, rfl, trivial⟩))
  refine WC.seq (WC.region ?_)
  refine WL.q (oq_move rfl) rfl rfl rfl ?_
  refine WL.q (oq_move rfl) rfl rfl rfl ?_
  refine WL.q (oq_nilCheck rfl) rfl rfl rfl ?_
  refine WL.q (oq_fieldAddr fld80_3 rfl) rfl rfl rfl ?_
  refine WL.q (oq_load flat77 rfl (.tail _ (.tail _ (.tail _ (.tail _ (.tail _ (.head _)))))) (List.mem_singleton.2 rfl) rfl) rfl rfl rfl ?_
  refine WL.qc (oq_call (sid3 _) call41 rfl) rfl rfl rfl ?_
  refine WL.append1 ho8 Tryz.underlying26 ty9 rfl (by decide) (fun _ => rfl) rfl rfl (by unfold maxLen; omega) (by omega) rfl rfl (fun _ => rfl) rfl fun v9 A9 u9 ho9 hne9 => ?_
  refine WL.q (oq_assign rfl) rfl rfl rfl ?_
  refine WL.nil (WE.then_normal (WC.sub (fr' := [(0, _), (3, _)]) ?_ ⟨rfl, rfl, trivial⟩))
  refine WC.seq (WC.region ?_)
  refine WL.q (oq_move rfl) rfl rfl rfl ?_
  refine WL.q (oq_move rfl) rfl rfl rfl ?_
  refine WL.q (oq_nilCheck rfl) rfl rfl rfl ?_
  refine WL.q (oq_fieldAddr fld80_3 rfl) rfl rfl rfl ?_
  refine WL.q (oq_load flat77 rfl (.tail _ (.tail _ (.tail _ (.tail _ (.tail _ (.head _)))))) (List.mem_singleton.2 rfl) rfl) rfl rfl rfl ?_
  refine WL.f1 ?_
  refine WL.callW1 (aLstW (its := its) (i := 3) (by decide) (Nat.le_trans (hl5 3) (by decide))) call42 rfl rfl rfl fun v10_5 Hs10_5 hR10_5 => ?_
  obtain ⟨N3, ho_3, hNf3, rfl⟩ := hR10_5
  refine WL.to2 ?_
  refine WL.f2 ?_
  refine WL.appendS ho9 Tryz.underlying26 ty9 rfl (by decide) rfl rfl ho_3.rd (.tail _ (.head _)) (strsV_one _) (by unfold maxLen; omega) (by omega) rfl rfl fun v10 A10 ho10 hne10 => ?_
  refine WL.q (oq_assign rfl) rfl rfl rfl ?_
  refine WL.nil (WE.then_normal (WC.sub (fr' := [(0, _), (3, _)]) ?_ ⟨rfl, rfl, trivial⟩))
  refine WC.seq (WC.region ?_)
  refine WL.q (oq_move rfl) rfl rfl rfl ?_
  refine WL.q (oq_move rfl) rfl rfl rfl ?_
  refine WL.q (oq_nilCheck rfl) rfl rfl rfl ?_
  refine WL.q (oq_fieldAddr fld80_4 rfl) rfl rfl rfl ?_
  refine WL.q (oq_load flat78 rfl (.tail _ (.tail _ (.tail _ (.tail _ (.tail _ (.tail _ (.head _))))))) (List.mem_singleton.2 rfl) rfl) rfl rfl rfl ?_
  refine WL.qc (oq_call (sid4 _) call43 rfl) rfl rfl rfl ?_
  refine WL.append1 ho10 Tryz.underlying26 ty9 rfl (by decide) (fun _ => rfl) rfl rfl (by unfold maxLen; omega) (by omega) rfl rfl (fun _ => rfl) rfl fun v11 A11 u11 ho11 hne11 => ?_
  refine WL.q (oq_assign rfl) rfl rfl rfl ?_
  refine WL.nil (WE.then_normal (WC.sub (fr' := [(0, _), (3, _)]) ?_ ⟨rfl, rfl, trivial⟩))
  refine WC.seq (WC.region ?_)
  refine WL.q (oq_move rfl) rfl rfl rfl ?_
  refine WL.q (oq_move rfl) rfl rfl rfl ?_
  refine WL.q (oq_nilCheck rfl) rfl rfl rfl ?_
  refine WL.q (oq_fieldAddr fld80_4 rfl) rfl rfl rfl ?_
  refine WL.q (oq_load flat78 rfl (.tail _ (.tail _ (.tail _ (.tail _ (.tail _ (.tail _ (.head _))))))) (List.mem_singleton.2 rfl) rfl) rfl rfl rfl ?_
  refine WL.f1 ?_
  refine WL.callW1 (aLstW (its := its) (i := 4) (by decide) (Nat.le_trans (hl5 4) (by decide))) call44 rfl rfl rfl fun v12_5 Hs12_5 hR12_5 => ?_
  obtain ⟨N4, ho_4, hNf4, rfl⟩ := hR12_5
  refine WL.to2 ?_
  refine WL.f2 ?_
  refine WL.appendS ho11 Tryz.underlying26 ty9 rfl (by decide) rfl rfl ho_4.rd (.tail _ (.head _)) (strsV_one _) (by unfold maxLen; omega) (by omega) rfl rfl fun v12 A12 ho12 hne12 => ?_
  refine WL.q (oq_assign rfl) rfl rfl rfl ?_
  refine WL.nil (WE.then_normal (WC.sub (fr' := [(3, _)]) ?_ ⟨rfl, trivial⟩))
  refine WC.seq (WC.region ?_)
  refine WL.q (oq_move rfl) rfl rfl rfl ?_
  refine WL.q (oq_assign rfl) rfl rfl rfl ?_
  refine WL.nil (WE.then_normal (WC.sub (fr' := [(2, _)]) ?_ ⟨rfl, trivial⟩))
  refine WC.ret ?_
  refine WE.f2 ?_
  refine WE.forget hNf4 ?_
  refine WE.f2 ?_
  refine WE.forget hNf3 ?_
  refine WE.f2 ?_
  refine WE.forget hNf2 ?_
  refine WE.f2 ?_
  refine WE.forget hNf1 ?_
  refine WE.f2 ?_
  refine WE.forget hNf0 ?_
  refine WE.f3 ?_
  refine WE.f1 ?_
  refine WE.f2 ?_
  refine WE.f3 ?_
  refine WE.endW3 (.inl rfl) (res1 Tryz.results24 rfl) ?_
  -- end 0
  refine ⟨_, rfl, ho12.fresh, rdN ho12.rd ?_ ?_⟩
  · simp only [namesK, List.length_append, List.length_cons, List.length_nil, ids_len]; omega
  · simp only [namesK, strsV, List.map_append, List.map_cons, List.map_nil, List.append_assoc, List.cons_append, List.nil_append]; rfl

/-- given.example/pub-tinwright/impl.WNames -/
theorem wNames (v : Value) (A : Hp) (l : List WO) (hr : RdS 5 v A l.length (recsV wof l)) (hl : l.length ≤ 60) (hok : l.all lookP = true) : FnA Tryz.prog 17 [v] A (fun r N => RdS 1 r N (namesK (wst l).1 5).length (strsV (namesK (wst l).1 5))) := by
  refine FnA.enter (n := 17) Tryz.func17 rfl rfl fun w0 => ?_
  refine WC.sub (fr' := [(0, _)]) ?_ ⟨rfl, trivial⟩
  refine WC.seq (WC.region ?_)
  refine WL.q (oq_assign rfl) rfl rfl rfl ?_
  refine WL.nil (WE.then_normal (WC.sub (fr' := [(0, _)]) ?_ ⟨rfl, trivial⟩))
  refine WC.seq (WC.region ?_)
  refine WL.q (oq_move rfl) rfl rfl rfl ?_
  refine WL.q (oq_build #[_, _, _] str56 ty56 rfl rfl) rfl rfl rfl ?_
  refine WL.box rfl rfl rfl fun cb hcb => ?_
  refine WL.f1 ?_
  refine WL.callA (done v A l hr hl hok cb) call20 rfl rfl rfl fun v1_3 N1_3 hR1_3 hN1_3 => ?_
  obtain ⟨st, G, its, X, E, ve, rfl, rfl, hids, hre, hXb, hOk⟩ := hR1_3
  refine WL.reg split4 ?_
  refine WL.q (oq_move rfl) rfl rfl rfl ?_
  refine WL.q (oq_extract rfl rfl) rfl rfl rfl ?_
  refine WL.q (oq_extract rfl rfl) rfl rfl rfl ?_
  refine WL.q (oq_extract rfl rfl) rfl rfl rfl ?_
  refine WL.alloc ty51 rfl rfl fun tb htb => ?_
  refine WL.q (oq_assign rfl) rfl rfl rfl ?_
  refine WL.storeS (stps G) ty51 rfl rfl (by kernel_rfl) (by kernel_rfl) (Nat.le_of_ble_eq_true rfl) (by kernel_rfl) rfl ?_
  refine WL.q (oq_assign rfl) rfl rfl rfl ?_
  refine WL.nil (WE.then_normal (WC.sub (fr' := [(3, _)]) ?_ ⟨rfl, trivial⟩))
  refine WC.seq ?_
  have hl5 : ∀ j, (its j).length ≤ 60 := fun j => by have h1 := (wst_len l l.length (Nat.le_refl _)).1 j; rw [List.take_length, ← hids, ids_len] at h1; omega
  refine WC.region ?_
  refine WL.q (oq_move rfl) rfl rfl rfl ?_
  refine WL.f2 ?_
  refine WL.f2 ?_
  refine WL.callW2 (stList _ st G its hl5) call24 rfl rfl rfl fun v2_1 Hs2_1 hR2_1 => ?_
  obtain ⟨N, rfl, hNf, hrl⟩ := hR2_1
  obtain ⟨w1, hw1, hov1⟩ := slice_val (i := 1) (j := ((nmS :: namesK (ids its) 5).length : Int)) hrl ty9 (by simp only [List.length_cons]; omega)
  rw [cut_strsE] at hw1
  refine WL.to3 ?_
  refine WL.q (hov1 Tryz.underlying26 rfl ⟨_, rfl⟩ rfl) rfl rfl rfl ?_
  refine WL.q (oq_assign rfl) rfl rfl rfl ?_
  refine WL.nil (WE.then_normal (WC.sub (fr' := [(2, _)]) ?_ ⟨rfl, trivial⟩))
  refine WC.ret ?_
  refine WE.forget (fr_l (fr_l (fr_l hN1_3))) ?_
  refine WE.forget (fr_r (fr_l (fr_l hN1_3))) ?_
  refine WE.f1 ?_
  refine WE.lose htb ?_
  refine WE.f1 ?_
  refine WE.forget (fr_r (fr_l hN1_3)) ?_
  refine WE.f1 ?_
  refine WE.forget (fr_r hN1_3) ?_
  refine WE.f2 ?_
  refine WE.lose hcb ?_
  refine WE.endA (.inl rfl) (res1 Tryz.results17 rfl) ?_ (hNf)
  -- end 0
  exact rdN hw1 (by rw [← hids]; simp) (by rw [← hids]; rfl)

end SG
end Go.Proofs.YtiegaefkahnfjaaGreat
