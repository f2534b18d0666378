/- Lists of headers. -/
import Derived.Test.YtodlhaghdplclaaDoorEI
namespace Go.Proofs.YtodlhaghdplclaaDoor
open Go Go.RowKit V EA EB EC ED EE EF EG EH EI
set_option linter.unusedSimpArgs false
set_option linter.unusedVariables false
set_option maxRecDepth 10000
namespace EJ
theorem call29 : Callable Tryd.prog 29 := ⟨_, Tryd.func29, rfl, by kernel_rfl⟩
theorem call30 : Callable Tryd.prog 30 := ⟨_, Tryd.func30, rfl, by kernel_rfl⟩
theorem flat5 : Flat Tryd.prog 5 := ⟨_, Tryd.underlying5, by simp⟩
theorem flat9 : Flat Tryd.prog 9 := ⟨_, Tryd.underlying9, by simp⟩
theorem flat77 : Flat Tryd.prog 77 := ⟨_, Tryd.underlying77, by simp⟩
theorem ty5 : Ty Tryd.prog 5 (.int .u8 0) 1 1 := ty_of (by kernel_rfl)
theorem ty9 : Ty Tryd.prog 9 (S []) 1 16 := ty_of (by kernel_rfl)
theorem ty33 : Ty Tryd.prog 33 (.agg #[(.int .i64 0), (.int .i64 0), (.int .i64 0), (S [])]) 4 40 := ty_of (by kernel_rfl)
theorem ty35 : Ty Tryd.prog 35 (.agg #[(S []), (.int .i64 0), (.int .i64 0), (.int .i64 0), (S [])]) 5 56 := ty_of (by kernel_rfl)
theorem ty77 : Ty Tryd.prog 77 .nilIface 1 16 := ty_of (by kernel_rfl)
theorem ty80 : Ty Tryd.prog 80 (.agg #[(S []), .nilIface]) 2 32 := ty_of (by kernel_rfl)
theorem ty83 : Ty Tryd.prog 83 (.agg #[(S []), (.int .i64 0), (.int .i64 0), .nilIface]) 4 48 := ty_of (by kernel_rfl)
theorem ty84 : Ty Tryd.prog 84 (.agg #[(.int .u8 0), (.int .u8 0), (.int .u8 0), (.int .u8 0), (.int .u8 0), (.int .u8 0), (.int .u8 0), (.int .u8 0), (.int .u8 0), (.int .u8 0), (.int .u8 0), (.int .u8 0), (.int .u8 0), (.int .u8 0), (.int .u8 0), (.int .u8 0), (.int .u8 0), (.int .u8 0), (.int .u8 0), (.int .u8 0), (.int .u8 0), (.int .u8 0), (.int .u8 0), (.int .u8 0), (.int .u8 0), (.int .u8 0), (.int .u8 0), (.int .u8 0), (.int .u8 0), (.int .u8 0), (.int .u8 0), (.int .u8 0), (.int .u8 0), (.int .u8 0), (.int .u8 0), (.int .u8 0), (.int .u8 0), (.int .u8 0), (.int .u8 0), (.int .u8 0), (.int .u8 0), (.int .u8 0), (.int .u8 0), (.int .u8 0), (.int .u8 0), (.int .u8 0), (.int .u8 0), (.int .u8 0), (.int .u8 0), (.int .u8 0), (.int .u8 0), (.int .u8 0), (.int .u8 0), (.int .u8 0), (.int .u8 0), (.int .u8 0), (.int .u8 0), (.int .u8 0), (.int .u8 0), (.int .u8 0), (.int .u8 0), (.int .u8 0), (.int .u8 0), (.int .u8 0), (.int .u8 0), (.int .u8 0), (.int .u8 0), (.int .u8 0), (.int .u8 0), (.int .u8 0), (.int .u8 0), (.int .u8 0), (.int .u8 0), (.int .u8 0), (.int .u8 0), (.int .u8 0), (.int .u8 0), (.int .u8 0), (.int .u8 0), (.int .u8 0), (.int .u8 0), (.int .u8 0), (.int .u8 0), (.int .u8 0), (.int .u8 0), (.int .u8 0), (.int .u8 0), (.int .u8 0), (.int .u8 0), (.int .u8 0), (.int .u8 0), (.int .u8 0), (.int .u8 0), (.int .u8 0), (.int .u8 0), (.int .u8 0), (.int .u8 0), (.int .u8 0), (.int .u8 0), (.int .u8 0), (.int .u8 0), (.int .u8 0), (.int .u8 0), (.int .u8 0), (.int .u8 0), (.int .u8 0), (.int .u8 0), (.int .u8 0), (.int .u8 0), (.int .u8 0), (.int .u8 0), (.int .u8 0), (.int .u8 0), (.int .u8 0), (.int .u8 0), (.int .u8 0), (.int .u8 0), (.int .u8 0), (.int .u8 0), (.int .u8 0), (.int .u8 0), (.int .u8 0), (.int .u8 0), (.int .u8 0), (.int .u8 0), (.int .u8 0), (.int .u8 0), (.int .u8 0), (.int .u8 0), (.int .u8 0), (.int .u8 0), (.int .u8 0), (.int .u8 0), (.int .u8 0), (.int .u8 0), (.int .u8 0), (.int .u8 0), (.int .u8 0), (.int .u8 0), (.int .u8 0), (.int .u8 0), (.int .u8 0), (.int .u8 0), (.int .u8 0), (.int .u8 0), (.int .u8 0), (.int .u8 0), (.int .u8 0), (.int .u8 0), (.int .u8 0), (.int .u8 0), (.int .u8 0), (.int .u8 0), (.int .u8 0), (.int .u8 0), (.int .u8 0), (.int .u8 0), (.int .u8 0), (.int .u8 0), (.int .u8 0), (.int .u8 0), (.int .u8 0), (.int .u8 0), (.int .u8 0), (.int .u8 0), (.int .u8 0), (.int .u8 0), (.int .u8 0), (.int .u8 0), (.int .u8 0), (.int .u8 0), (.int .u8 0), (.int .u8 0), (.int .u8 0), (.int .u8 0), (.int .u8 0), (.int .u8 0), (.int .u8 0), (.int .u8 0), (.int .u8 0), (.int .u8 0), (.int .u8 0), (.int .u8 0), (.int .u8 0), (.int .u8 0), (.int .u8 0), (.int .u8 0), (.int .u8 0), (.int .u8 0), (.int .u8 0), (.int .u8 0), (.int .u8 0), (.int .u8 0), (.int .u8 0), (.int .u8 0), (.int .u8 0), (.int .u8 0), (.int .u8 0), (.int .u8 0), (.int .u8 0), (.int .u8 0), (.int .u8 0), (.int .u8 0), (.int .u8 0), (.int .u8 0), (.int .u8 0), (.int .u8 0), (.int .u8 0), (.int .u8 0), (.int .u8 0), (.int .u8 0), (.int .u8 0), (.int .u8 0), (.int .u8 0), (.int .u8 0), (.int .u8 0), (.int .u8 0), (.int .u8 0), (.int .u8 0), (.int .u8 0), (.int .u8 0), (.int .u8 0), (.int .u8 0), (.int .u8 0), (.int .u8 0), (.int .u8 0), (.int .u8 0), (.int .u8 0), (.int .u8 0), (.int .u8 0), (.int .u8 0), (.int .u8 0), (.int .u8 0), (.int .u8 0), (.int .u8 0), (.int .u8 0), (.int .u8 0), (.int .u8 0), (.int .u8 0), (.int .u8 0), (.int .u8 0), (.int .u8 0), (.int .u8 0), (.int .u8 0), (.int .u8 0), (.int .u8 0), (.int .u8 0), (.int .u8 0), (.int .u8 0), (.int .u8 0), (.int .u8 0), (.int .u8 0), (.int .u8 0), (.int .u8 0), (.int .u8 0)]) 255 255 := ty_of (by kernel_rfl)
theorem ty86 : Ty Tryd.prog 86 (.agg #[(.int .u8 0), (.int .u8 0), (.int .u8 0), (.int .u8 0), (.int .u8 0), (.int .u8 0), (.int .u8 0), (.int .u8 0), (.int .u8 0), (.int .u8 0), (.int .u8 0), (.int .u8 0), (.int .u8 0), (.int .u8 0), (.int .u8 0), (.int .u8 0), (.int .u8 0), (.int .u8 0), (.int .u8 0), (.int .u8 0), (.int .u8 0), (.int .u8 0), (.int .u8 0), (.int .u8 0), (.int .u8 0), (.int .u8 0), (.int .u8 0), (.int .u8 0), (.int .u8 0), (.int .u8 0), (.int .u8 0), (.int .u8 0), (.int .u8 0), (.int .u8 0), (.int .u8 0), (.int .u8 0), (.int .u8 0), (.int .u8 0), (.int .u8 0), (.int .u8 0), (.int .u8 0), (.int .u8 0), (.int .u8 0), (.int .u8 0), (.int .u8 0), (.int .u8 0), (.int .u8 0), (.int .u8 0), (.int .u8 0), (.int .u8 0), (.int .u8 0), (.int .u8 0), (.int .u8 0), (.int .u8 0), (.int .u8 0), (.int .u8 0), (.int .u8 0), (.int .u8 0), (.int .u8 0), (.int .u8 0), (.int .u8 0), (.int .u8 0), (.int .u8 0), (.int .u8 0), (.int .u8 0), (.int .u8 0), (.int .u8 0), (.int .u8 0), (.int .u8 0), (.int .u8 0), (.int .u8 0), (.int .u8 0), (.int .u8 0), (.int .u8 0), (.int .u8 0), (.int .u8 0), (.int .u8 0), (.int .u8 0), (.int .u8 0), (.int .u8 0), (.int .u8 0), (.int .u8 0), (.int .u8 0), (.int .u8 0), (.int .u8 0), (.int .u8 0), (.int .u8 0), (.int .u8 0), (.int .u8 0), (.int .u8 0), (.int .u8 0), (.int .u8 0), (.int .u8 0), (.int .u8 0), (.int .u8 0), (.int .u8 0), (.int .u8 0), (.int .u8 0), (.int .u8 0), (.int .u8 0), (.int .u8 0), (.int .u8 0), (.int .u8 0), (.int .u8 0), (.int .u8 0), (.int .u8 0), (.int .u8 0), (.int .u8 0), (.int .u8 0), (.int .u8 0), (.int .u8 0), (.int .u8 0), (.int .u8 0), (.int .u8 0), (.int .u8 0), (.int .u8 0), (.int .u8 0), (.int .u8 0), (.int .u8 0), (.int .u8 0), (.int .u8 0), (.int .u8 0), (.int .u8 0), (.int .u8 0), (.int .u8 0), (.int .u8 0), (.int .u8 0), (.int .u8 0), (.int .u8 0), (.int .u8 0), (.int .u8 0), (.int .u8 0), (.int .u8 0), (.int .u8 0), (.int .u8 0), (.int .u8 0), (.int .u8 0), (.int .u8 0), (.int .u8 0), (.int .u8 0), (.int .u8 0), (.int .u8 0), (.int .u8 0), (.int .u8 0), (.int .u8 0), (.int .u8 0), (.int .u8 0), (.int .u8 0), (.int .u8 0), (.int .u8 0), (.int .u8 0), (.int .u8 0), (.int .u8 0), (.int .u8 0), (.int .u8 0), (.int .u8 0), (.int .u8 0), (.int .u8 0), (.int .u8 0), (.int .u8 0), (.int .u8 0), (.int .u8 0), (.int .u8 0), (.int .u8 0), (.int .u8 0), (.int .u8 0), (.int .u8 0), (.int .u8 0), (.int .u8 0), (.int .u8 0), (.int .u8 0), (.int .u8 0), (.int .u8 0), (.int .u8 0), (.int .u8 0), (.int .u8 0), (.int .u8 0), (.int .u8 0), (.int .u8 0), (.int .u8 0), (.int .u8 0), (.int .u8 0), (.int .u8 0), (.int .u8 0), (.int .u8 0), (.int .u8 0), (.int .u8 0), (.int .u8 0), (.int .u8 0), (.int .u8 0), (.int .u8 0), (.int .u8 0), (.int .u8 0), (.int .u8 0), (.int .u8 0), (.int .u8 0), (.int .u8 0), (.int .u8 0), (.int .u8 0), (.int .u8 0), (.int .u8 0), (.int .u8 0), (.int .u8 0), (.int .u8 0), (.int .u8 0), (.int .u8 0), (.int .u8 0), (.int .u8 0), (.int .u8 0), (.int .u8 0), (.int .u8 0), (.int .u8 0), (.int .u8 0), (.int .u8 0), (.int .u8 0), (.int .u8 0), (.int .u8 0), (.int .u8 0), (.int .u8 0), (.int .u8 0), (.int .u8 0), (.int .u8 0), (.int .u8 0), (.int .u8 0), (.int .u8 0), (.int .u8 0), (.int .u8 0), (.int .u8 0), (.int .u8 0), (.int .u8 0), (.int .u8 0), (.int .u8 0), (.int .u8 0), (.int .u8 0), (.int .u8 0), (.int .u8 0), (.int .u8 0), (.int .u8 0), (.int .u8 0), (.int .u8 0), (.int .u8 0), (.int .u8 0), (.int .u8 0), (.int .u8 0), (.int .u8 0), (.int .u8 0), (.int .u8 0), (.int .u8 0), (.int .u8 0), (.int .u8 0), (.int .u8 0), (.int .u8 0), (.int .u8 0), (.int .u8 0), (.int .u8 0), (.int .u8 0)]) 256 256 := ty_of (by kernel_rfl)
theorem conc9 : Conc Tryd.prog 9 := ⟨_, Tryd.underlying9, by simp⟩
theorem conc83 : Conc Tryd.prog 83 := ⟨_, Tryd.underlying83, by simp⟩
theorem agg33 : Agg Tryd.prog 33 := agg_of Tryd.underlying33
theorem agg35 : Agg Tryd.prog 35 := agg_of Tryd.underlying35
theorem agg80 : Agg Tryd.prog 80 := agg_of Tryd.underlying80
theorem agg86 : Agg Tryd.prog 86 := agg_of Tryd.underlying86
theorem str80 : Str Tryd.prog 80 #[(0, 1), (1, 1)] := ⟨_, Tryd.underlying80, fun w => by kernel_rfl⟩
theorem str83 : Str Tryd.prog 83 #[(0, 1), (1, 1), (2, 1), (3, 1)] := ⟨_, Tryd.underlying83, fun w => by kernel_rfl⟩
theorem str86 : Str Tryd.prog 86 #[(0, 1), (1, 255)] := ⟨_, Tryd.underlying86, fun w => by kernel_rfl⟩
theorem fld35_0 : Fld Tryd.prog 35 0 0 9 := fld_of Tryd.underlying35 rfl rfl rfl ty9 (by decide)
theorem fld35_1 : Fld Tryd.prog 35 1 1 33 := fld_of Tryd.underlying35 rfl rfl rfl ty33 (by decide)
theorem fld80_0 : Fld Tryd.prog 80 0 0 9 := fld_of Tryd.underlying80 rfl rfl rfl ty9 (by decide)
theorem fld80_1 : Fld Tryd.prog 80 1 1 77 := fld_of Tryd.underlying80 rfl rfl rfl ty77 (by decide)
theorem fld86_0 : Fld Tryd.prog 86 0 0 5 := fld_of Tryd.underlying86 rfl rfl rfl ty5 (by decide)
theorem fld86_1 : Fld Tryd.prog 86 1 1 84 := fld_of Tryd.underlying86 rfl rfl rfl ty84 (by decide)

abbrev HV0 : HV := ⟨[], 0, 0, 0, []⟩
/-- a header, as the encoder takes it: a name, a value -/
structure PV where
  name : List UInt8
  k : TypeId
  r : Value
def PV.row (p : PV) : List Value := [S p.name, .iface p.k p.r]
abbrev PV0 : PV := ⟨[], 0, .nilIface⟩
/-- headers and their values' memory -/
def Pair (l : List HV) (ps : List PV) (Z : Hp) : Prop := ps.length = l.length ∧ ∀ i, i < l.length → (ps.getD i PV0).name = (l.getD i HV0).name ∧ VOk (l.getD i HV0) (.iface (ps.getD i PV0).k (ps.getD i PV0).r) Z
theorem Pair.nil : Pair [] [] [] := ⟨rfl, fun i h => nomatch h⟩
theorem Pair.snoc {l : List HV} {i : Nat} {ps : List PV} {Z N : Hp} {k : TypeId} {r : Value} (h : Pair (l.take i) ps Z) (hi : i < l.length) (hv : VOk (l.getD i HV0) (.iface k r) N) : Pair (l.take (i + 1)) (ps ++ [⟨(l.getD i HV0).name, k, r⟩]) (N ++ Z) := by
  have hl : ps.length = i := by rw [h.1, List.length_take]; omega
  refine ⟨by simp [h.1]; omega, fun j hj => ?_⟩
  rw [List.length_take] at hj
  have ht : ∀ m, j < m → (l.take m).getD j HV0 = l.getD j HV0 := fun m hm => by simp [List.getD_eq_getElem?_getD, List.getElem?_take, hm]
  rcases Nat.lt_or_ge j i with hji | hji
  · have h2 := h.2 j (by rw [List.length_take]; omega)
    rw [ht _ hji] at h2
    rw [ht _ (by omega)]
    have he : (ps ++ [(⟨(l.getD i HV0).name, k, r⟩ : PV)]).getD j PV0 = ps.getD j PV0 := by
      simp [List.getD_eq_getElem?_getD, List.getElem?_append, hl, hji]
    rw [he]
    exact ⟨h2.1, h2.2.wide (List.perm_append_comm)⟩
  · obtain rfl : j = i := by omega
    rw [ht _ (by omega)]
    have he : (ps ++ [(⟨(l.getD j HV0).name, k, r⟩ : PV)]).getD j PV0 = ⟨(l.getD j HV0).name, k, r⟩ := by
      simp [List.getD_eq_getElem?_getD, List.getElem?_append, hl]
    rw [he]
    exact ⟨rfl, hv.wide (List.Perm.refl _)⟩
theorem recsPV_snoc (ps : List PV) (p : PV) : recsV PV.row ps ++ [S p.name, .iface p.k p.r] = recsV PV.row (ps ++ [p]) := by
  unfold recsV; rw [List.flatMap_append]; simp [PV.row]
theorem onePV (n : List UInt8) (k : TypeId) (r : Value) : ∀ u ∈ [S n, Value.iface k r], u.oneCell' = true := fun u hu => by
  rcases List.mem_cons.1 hu with rfl | hu
  · rfl
  · rw [List.mem_singleton] at hu; subst hu; rfl
def okH (l : List HV) : Prop := ∀ i, i < l.length → fineV (l.getD i HV0) ∧ (l.getD i HV0).text.length ≤ 400000
/-- what the encoder is given -/
def HsOk (l : List HV) (v : Value) (N : Hp) : Prop := ∃ ps M Z, N = M ++ Z ∧ RdS 2 v M ps.length (recsV PV.row ps) ∧ Pair l ps Z
/-- given.example/pub-tinwright/impl.headersFor -/
theorem headersFor (v : Value) (L : Hp) (l : List HV) (hr : RdS 5 v L l.length (recsV HV.row l)) (hok : okH l) (hn : l.length ≤ 1000) : FnA Tryd.prog 15 [v] L (HsOk l) := by
  refine FnA.enter (n := 23) Tryd.func15 rfl rfl fun w0 => ?_
  refine WC.sub (fr' := [(0, _)]) ?_ ⟨rfl, trivial⟩
  refine WC.seq (WC.region ?_)
  refine WL.q (oq_assign rfl) rfl rfl rfl ?_
  refine WL.nil (WE.then_normal (WC.sub (fr' := [(0, _)]) ?_ ⟨rfl, trivial⟩))
  refine WC.seq ?_
  refine WC.add0 ?_
  refine WC.add0 ?_
  refine WC.region ?_
  refine WL.q (oq_assign rfl) rfl rfl rfl ?_
  refine WL.nil (WE.then_normal (WC.sub (fr' := [(0, _), (3, _)]) ?_ ⟨rfl, rfl, trivial⟩))
  refine WC.seq (WC.seq (WC.region ?_))
  refine WL.q (oq_move rfl) rfl rfl rfl ?_
  refine WL.q (oq_len_rd hr Tryd.underlying22 rfl) rfl rfl rfl ?_
  refine WL.q (oq_move rfl) rfl rfl rfl ?_
  refine WL.nil (WE.then_normal (WC.sub (fr' := [(3, _), (6, _), (7, _), (8, _)]) ?_ ⟨rfl, rfl, rfl, rfl, trivial⟩))
  refine WC.block ?_
  refine WC.f2 ?_
  refine WC.f1 ?_
  refine WC.f2 ?_
  refine WC.loop (ι := Nat × Value × Hp × Hp × (List PV)) (fun i_ => (fun (i : Nat) (u : Value) (B : Hp) (Z : Hp) (ps : List PV) => [(3, u), (6, v), (7, I (l.length : Int)), (8, I (i : Int))]) i_.1 i_.2.1 i_.2.2.1 i_.2.2.2.1 i_.2.2.2.2) (fun i_ => (fun (i : Nat) (u : Value) (B : Hp) (Z : Hp) (ps : List PV) => [B, Z, L]) i_.1 i_.2.1 i_.2.2.1 i_.2.2.2.1 i_.2.2.2.2) (fun i_ => (fun (i : Nat) (u : Value) (B : Hp) (Z : Hp) (ps : List PV) => i ≤ l.length ∧ (∀ b o, (b, o) ∈ Z → w0.heap.size ≤ b) ∧ OwS w0.heap.size 80 2 u B ps.length (recsV PV.row ps) ∧ Pair (l.take i) ps Z) i_.1 i_.2.1 i_.2.2.1 i_.2.2.2.1 i_.2.2.2.2) (fun i_ => (fun (i : Nat) (u : Value) (B : Hp) (Z : Hp) (ps : List PV) => l.length - i) i_.1 i_.2.1 i_.2.2.1 i_.2.2.2.1 i_.2.2.2.2) ((0, _, _, [], [])) ?_ ⟨rfl, rfl, rfl, rfl, trivial⟩ (List.Perm.refl _) ?_
  · try dsimp only
    exact ⟨by omega, (fun _ _ h => nomatch h), OwS.nil _ _ _, by simpa using Pair.nil⟩
  · rintro ⟨i, u, B, Z, ps⟩ hp
    try dsimp only at hp
    obtain ⟨hi, hZ, ho, hp⟩ := hp
    show WC _ _ _ _ _ _ ([(3, u), (6, v), (7, I (l.length : Int)), (8, I (i : Int))]) ([B, Z, L])
    refine WC.seq (WC.region ?_)
    refine WL.q (oq_lss rfl rfl) rfl rfl rfl ?_
    refine WL.nil (WE.then_normal (WC.sub (fr' := [(3, _), (6, _), (7, _), (8, _), (9, _)]) ?_ ⟨rfl, rfl, rfl, rfl, rfl, trivial⟩))
    refine WC.seq ?_
    refine WC.cond rfl (fun q3 => ?_) (fun q3 => ?_)
    ·
      try simp only [Z1, Z2, Z3, Z4, Z5, Z6, Z7, Z8, Z9, Z0] at q3
      refine WC.skip (WE.then_normal (WC.sub (fr' := [(3, _), (6, _), (7, _), (8, _)]) ?_ ⟨rfl, rfl, rfl, rfl, trivial⟩))
      refine WC.seq (WC.block (WC.seq ?_))
      have hlt : i < l.length := by omega
      have hpl : ps.length = i := by rw [hp.1, List.length_take]; omega
      refine WC.region ?_
      refine WL.q (oq_ixaddr hr Tryd.underlying22 ty35 rfl rfl (by (first | omega | (simp only [List.length_cons, List.length_nil, List.length_append, List.length_drop, List.length_take]; omega)))) rfl rfl rfl ?_
      refine WL.q (oq_loadEl (f := HV.row) HV0 [_, _, _, _, _] (fun _ => rfl) agg35 ty35 hr (.tail _ (.tail _ (.head _))) rfl (by (first | omega | (simp only [List.length_cons, List.length_nil, List.length_append, List.length_drop, List.length_take]; omega))) (by first | exact Int.toNat_natCast _ | exact rfl) rfl) rfl rfl rfl ?_
      refine WL.alloc ty35 rfl rfl fun o5 ho5 => ?_
      refine WL.storeS #[_, _, _, _, _] ty35 rfl rfl rfl rfl (Nat.le_of_ble_eq_true rfl) rfl rfl ?_
      refine WL.nil (WE.then_normal (WC.sub (fr' := [(3, _), (5, _), (6, _), (7, _), (8, _)]) ?_ ⟨rfl, rfl, rfl, rfl, rfl, trivial⟩))
      refine WC.gate 7 ([(o5, .cells #[S (l.getD i HV0).name, I (l.getD i HV0).kind, I (l.getD i HV0).width, I (l.getD i HV0).int, S (l.getD i HV0).text] 35 (0, 0))]) (by kernel_rfl) ?_
      refine WG.p 0 rfl (.inr (.head _)) (fun w0 => oq_move rfl) rfl rfl rfl ?_
      refine WG.q 1 [6, 2] rfl (.head _) (fun w0 => oq_fieldAddr fld35_0 rfl) rfl rfl rfl ?_
      refine WG.q 2 [6] rfl (.head _) (fun w0 => oq_load flat9 rfl (.head _) (List.mem_singleton.2 rfl) rfl) rfl rfl rfl ?_
      refine WG.q 3 [6, 5, 4] rfl (.head _) (fun w0 => oq_fieldAddr fld35_1 rfl) rfl rfl rfl ?_
      refine WG.q 4 [6, 5] rfl (.head _) (fun w0 => oq_loadS [_, _, _, _] agg33 ty33 rfl (.head _) (List.mem_singleton.2 rfl) rfl rfl) rfl rfl rfl ?_
      refine WG.step (i := 5) (by kernel_rfl) rfl ?_
      refine WL.callA0 (valueFor (l.getD i HV0) (hok i hlt).1 (hok i hlt).2) call29 rfl rfl rfl fun v5_5 N5_5 hR5_5 hN5_5 => ?_
      obtain ⟨k5, r5, f5, rfl, hi5, hf5⟩ := hR5_5
      have hvo : VOk (l.getD i HV0) (.iface k5 r5) N5_5 := ⟨k5, r5, f5, rfl, hi5, hf5⟩
      refine WL.nil ?_
      refine WE.toG (.tail _ (.head _)) ?_
      refine WG.q 6 [] rfl (.tail _ (.head _)) (fun w0 => oq_build #[_, _] str80 ty80 rfl rfl) rfl rfl rfl ?_
      refine WG.step (i := 7) (by kernel_rfl) rfl ?_
      refine WL.buildSS (#[S (l.getD i HV0).name, .iface k5 r5]) Tryd.underlying47 ty80 rfl (by decide) (by decide) (by kernel_rfl) (by kernel_rfl) rfl rfl fun v5_7 A5_7 ho5_7 hne5_7 => ?_
      refine WL.nil ?_
      refine WE.toG0 (by kernel_rfl) ?_
      refine WG.step (i := 8) (by kernel_rfl) rfl ?_
      refine WL.f3 ?_
      refine WL.appendS ho Tryd.underlying47 ty80 rfl (by decide) rfl rfl ho5_7.rd (.head _) (onePV _ _ _) (by unfold maxLen; omega) (by omega) rfl rfl fun v5b A5b ho5b hne5b => ?_
      refine WL.nil ?_
      refine WE.toG0 (by kernel_rfl) ?_
      refine WG.p 9 rfl (.inl (by kernel_rfl)) (fun w0 => oq_assign rfl) rfl rfl rfl ?_
      refine WG.done (by kernel_rfl) ?_
      refine WE.block_normal (WE.then_normal (WC.sub (fr' := [(3, _), (6, _), (7, _), (8, _)]) ?_ ⟨rfl, rfl, rfl, rfl, trivial⟩))
      refine WC.f4 ?_
      refine WC.f3 ?_
      refine WC.cat ?_
      refine WC.region ?_
      refine WL.q (oq_add rfl rfl (by rw [i64_lo, i64_hi]; (first | omega | (simp only [List.length_cons, List.length_nil, List.length_append, List.length_drop, List.length_take]; omega)))) rfl rfl rfl ?_
      refine WL.q (oq_move rfl) rfl rfl rfl ?_
      refine WL.nil ?_
      refine WE.f2 ?_
      refine WE.forget ho5_7.fresh ?_
      refine WE.f2 ?_
      refine WE.lose ho5 ?_
      refine WE.f2 ?_
      refine WE.f1 ?_
      refine WE.f2 ?_
      refine WE.again (i + 1, _, _, _, ps ++ [⟨(l.getD i HV0).name, k5, r5⟩]) ?_ ?_ ⟨rfl, rfl, rfl, rfl, trivial⟩ (List.Perm.refl _)
      · try dsimp only   -- again 0
        exact ⟨by omega, fresh_cat hN5_5 hZ, by have h2 := ho5b; rw [recsPV_snoc ps ⟨_, _, _⟩] at h2; simpa using h2, hp.snoc hlt hvo⟩
      · (try dsimp only); omega
    ·
      try simp only [Z1, Z2, Z3, Z4, Z5, Z6, Z7, Z8, Z9, Z0] at q3
      refine WC.exit (WE.then_exit (WE.then_exit (WE.block_same (WE.then_normal (WC.sub (fr' := [(3, _)]) ?_ ⟨rfl, trivial⟩)))))
      refine WC.seq ?_
      obtain rfl : i = l.length := by omega
      rw [List.take_length] at hp
      refine WC.region ?_
      refine WL.q (oq_move rfl) rfl rfl rfl ?_
      refine WL.q (oq_assign rfl) rfl rfl rfl ?_
      refine WL.nil (WE.then_normal (WC.sub (fr' := [(2, _)]) ?_ ⟨rfl, trivial⟩))
      refine WC.ret ?_
      refine WE.cat ?_
      refine WE.endA (.inl rfl) (res1 Tryd.results15 rfl) ?_ (fresh_cat (ho.fresh) (hZ))
      -- end 0
      exact ⟨ps, _, _, rfl, ho.rd, hp⟩


def hdr (h : HV) : List UInt8 := UInt8.ofNat h.name.length :: (h.name ++ enc h)
def hdrs (l : List HV) : List UInt8 := l.flatMap hdr
def badH (h : HV) : Bool := decide (255 < h.name.length) || badT h
def szH (h : HV) : Nat := h.name.length + h.text.length + 12
def szL (l : List HV) : Nat := (l.map szH).sum
theorem enc_len {h : HV} (hf : fineV h) : (enc h).length ≤ h.text.length + 11 := by
  obtain ⟨_, _, h1, _, _⟩ := hf
  unfold enc
  split
  · rename_i hk
    have := h1 hk
    rw [List.length_cons, be_len]; omega
  · split
    · simp [be_len]; omega
    · split
      · simp [be_len]; omega
      · split
        · simp [be_len]
        · split <;> simp
theorem hdr_len {h : HV} (hf : fineV h) : (hdr h).length ≤ szH h := by
  have := enc_len hf
  unfold hdr szH; simp; omega
theorem take_snoc {l : List HV} {i : Nat} (hi : i < l.length) : l.take (i + 1) = l.take i ++ [l.getD i HV0] := by
  rw [List.take_add_one, List.getD_eq_getElem?_getD, List.getElem?_eq_getElem hi]; rfl
theorem hdrs_snoc {l : List HV} {i : Nat} (hi : i < l.length) : hdrs (l.take (i + 1)) = hdrs (l.take i) ++ hdr (l.getD i HV0) := by
  rw [take_snoc hi]; simp [hdrs]
theorem szL_snoc {l : List HV} {i : Nat} (hi : i < l.length) : szL (l.take (i + 1)) = szL (l.take i) + szH (l.getD i HV0) := by
  rw [take_snoc hi]; simp [szL]
theorem szL_take (l : List HV) (i : Nat) : szL (l.take i) ≤ szL l := by
  have : szL l = szL (l.take i) + szL (l.drop i) := by unfold szL; rw [← List.sum_append, ← List.map_append, List.take_append_drop]
  omega
theorem hdrs_len {l : List HV} (hok : okH l) : ∀ i, i ≤ l.length → (hdrs (l.take i)).length ≤ szL (l.take i)
  | 0, _ => by simp [hdrs]
  | i + 1, h => by
    rw [hdrs_snoc (by omega), szL_snoc (by omega), List.length_append]
    have h1 := hdrs_len hok i (by omega)
    have h2 := hdr_len (hok i (by omega)).1
    omega
theorem cp_name (nm : List UInt8) (b0 : UInt8) (hn8 : b0.toNat = nm.length) : List.take (0 + 1 + 0) (b0 :: List.replicate 255 0) ++ List.take (min nm.length (b0.toNat - 0)) nm ++ List.drop (0 + 1 + 0 + min nm.length (b0.toNat - 0)) (b0 :: List.replicate 255 0) = b0 :: (nm ++ List.replicate (255 - nm.length) 0) := by
  rw [hn8, Nat.sub_zero, Nat.min_self, List.take_length, show 0 + 1 + 0 + nm.length = nm.length + 1 by omega, List.drop_succ_cons, List.drop_replicate]; rfl
theorem nm_len (nm : List UInt8) (h : nm.length ≤ 255) : (nm ++ List.replicate (255 - nm.length) (0 : UInt8)).length = 255 := by rw [List.length_append, List.length_replicate]; omega
theorem nm_len2 (b0 : UInt8) (nm : List UInt8) (h : nm.length ≤ 255) : (b0 :: (nm ++ List.replicate (255 - nm.length) (0 : UInt8))).length = 256 := by rw [List.length_cons, nm_len nm h]
/-- headers written, or one that can not be -/
def HdR (base bb : Nat) (l : List HV) (acc : List UInt8) (M Z : Hp) (w : Value) (Hs : List Hp) : Prop :=
  ∃ G' acc', Hs = [G', M, Z] ∧ BufG base bb acc' G' ∧ if l.any badH then ∃ k e, w = .iface k e else w = .nilIface ∧ acc' = acc ++ hdrs l
theorem any_take {l : List HV} {i : Nat} (hi : i < l.length) (hb : badH (l.getD i HV0) = true) : l.any badH = true := by
  rw [List.any_eq_true]
  refine ⟨l.getD i HV0, ?_, hb⟩
  rw [List.getD_eq_getElem?_getD, List.getElem?_eq_getElem hi]; exact List.getElem_mem hi
theorem any_snoc {l : List HV} {i : Nat} (hi : i < l.length) (h : (l.take i).any badH = false) (hb : badH (l.getD i HV0) = false) : (l.take (i + 1)).any badH = false := by
  rw [take_snoc hi, List.any_append, h, List.any_cons, hb]; rfl
theorem encR_split {base bb : Nat} {h : HV} {acc : List UInt8} {N : Hp} {w : Value} {Hs : List Hp} (hE : EncR base bb h acc N w Hs) : ∃ G', Hs = [G', N] ∧ (w = .nilIface ∨ ∃ k u, w = .iface k u) ∧ (nilI w = true → badT h = false ∧ BufG base bb (acc ++ enc h) G') ∧ (nilI w = false → badT h = true ∧ (∃ k e, w = .iface k e) ∧ BufG base bb acc G') := by
  unfold EncR at hE
  cases hb : badT h with
  | true => rw [hb] at hE; obtain ⟨e, G', rfl, rfl, hG⟩ := hE; exact ⟨G', rfl, (.inr ⟨_, _, rfl⟩), (fun h => nomatch h), (fun _ => ⟨rfl, ⟨_, _, rfl⟩, hG⟩)⟩
  | false => rw [hb] at hE; obtain ⟨G', rfl, rfl, hG⟩ := hE; exact ⟨G', rfl, (.inl rfl), (fun _ => ⟨rfl, hG⟩), (fun h => nomatch h)⟩
/-- given.example/pub-tinwright/pub/smithy/eventstream.EncodeHeaders -/
theorem encHeaders (base bb : Nat) (acc : List UInt8) (G : Hp) (hG : BufG base bb acc G) (v : Value) (M Z : Hp) (l : List HV) (ps : List PV) (hr : RdS 2 v M ps.length (recsV PV.row ps)) (hp : Pair l ps Z) (hok : okH l) (hn : l.length ≤ 1000) (hsz : acc.length + szL l ≤ 200000) : FnW Tryd.prog 19 [.iface 45 (Pt bb 0), v] base [G, M, Z] (HdR base bb l acc M Z) := by
  have hpl := hp.1
  refine FnW.enter (n := 54) Tryd.func19 rfl rfl fun w0 R0 hbase => ?_
  subst hbase
  show WC _ _ _ _ _ _ _ ([G, M, Z, R0])
  refine WC.sub (fr' := [(0, _), (1, _)]) ?_ ⟨rfl, rfl, trivial⟩
  refine WC.seq (WC.region ?_)
  refine WL.q (oq_assign rfl) rfl rfl rfl ?_
  refine WL.nil (WE.then_normal (WC.sub (fr' := [(0, _), (1, _)]) ?_ ⟨rfl, rfl, trivial⟩))
  refine WC.seq (WC.seq (WC.region ?_))
  refine WL.q (oq_move rfl) rfl rfl rfl ?_
  refine WL.q (oq_len_rd hr Tryd.underlying47 rfl) rfl rfl rfl ?_
  refine WL.q (oq_move rfl) rfl rfl rfl ?_
  refine WL.nil (WE.then_normal (WC.sub (fr' := [(0, _), (10, _), (11, _), (12, _)]) ?_ ⟨rfl, rfl, rfl, rfl, trivial⟩))
  refine WC.block ?_
  refine WC.loop (ι := Nat × Hp) (fun i_ => (fun (i : Nat) (X : Hp) => [(0, .iface 45 (Pt bb 0)), (10, v), (11, I (ps.length : Int)), (12, I (i : Int))]) i_.1 i_.2) (fun i_ => (fun (i : Nat) (X : Hp) => [X, M, Z, R0]) i_.1 i_.2) (fun i_ => (fun (i : Nat) (X : Hp) => i ≤ l.length ∧ (l.take i).any badH = false ∧ BufG w0.heap.size bb (acc ++ hdrs (l.take i)) X) i_.1 i_.2) (fun i_ => (fun (i : Nat) (X : Hp) => l.length - i) i_.1 i_.2) ((0, G)) ?_ ⟨rfl, rfl, rfl, rfl, trivial⟩ (List.Perm.refl _) ?_
  · try dsimp only
    exact ⟨by omega, rfl, by simpa [hdrs] using hG⟩
  · rintro ⟨i, X⟩ hp
    try dsimp only at hp
    obtain ⟨hi, hno, hX⟩ := hp
    show WC _ _ _ _ _ _ ([(0, .iface 45 (Pt bb 0)), (10, v), (11, I (ps.length : Int)), (12, I (i : Int))]) ([X, M, Z, R0])
    refine WC.seq (WC.region ?_)
    refine WL.q (oq_lss rfl rfl) rfl rfl rfl ?_
    refine WL.nil (WE.then_normal (WC.sub (fr' := [(0, _), (10, _), (11, _), (12, _), (13, _)]) ?_ ⟨rfl, rfl, rfl, rfl, rfl, trivial⟩))
    refine WC.seq ?_
    refine WC.cond rfl (fun q2 => ?_) (fun q2 => ?_)
    ·
      try simp only [Z1, Z2, Z3, Z4, Z5, Z6, Z7, Z8, Z9, Z0] at q2
      refine WC.skip (WE.then_normal (WC.sub (fr' := [(0, _), (10, _), (11, _), (12, _)]) ?_ ⟨rfl, rfl, rfl, rfl, trivial⟩))
      refine WC.seq (WC.block (WC.seq ?_))
      have hlt : i < l.length := by omega
      obtain ⟨hpn, hvo⟩ := hp.2 i hlt
      have hls := szL_take l (i + 1)
      rw [szL_snoc hlt] at hls
      have hll := hdrs_len hok i hi
      have hle : szH (l.getD i HV0) = (l.getD i HV0).name.length + (l.getD i HV0).text.length + 12 := rfl
      refine WC.region ?_
      refine WL.q (oq_ixaddr hr Tryd.underlying47 ty80 rfl rfl (by (first | omega | (simp only [List.length_cons, List.length_nil, List.length_append, List.length_drop, List.length_take]; omega)))) rfl rfl rfl ?_
      refine WL.q (oq_loadEl (f := PV.row) PV0 [_, _] (fun _ => rfl) agg80 ty80 hr (.tail _ (.head _)) rfl (by (first | omega | (simp only [List.length_cons, List.length_nil, List.length_append, List.length_drop, List.length_take]; omega))) (by first | exact Int.toNat_natCast _ | exact rfl) rfl) rfl rfl rfl ?_
      refine WL.alloc ty80 rfl rfl fun o6 ho6 => ?_
      refine WL.storeS #[_, _] ty80 rfl rfl rfl rfl (Nat.le_of_ble_eq_true rfl) rfl rfl ?_
      refine WL.nil (WE.then_normal (WC.sub (fr' := [(0, _), (6, _), (10, _), (11, _), (12, _)]) ?_ ⟨rfl, rfl, rfl, rfl, rfl, trivial⟩))
      refine WC.seq (WC.seq (WC.region ?_))
      refine WL.q (oq_fieldAddr fld80_0 rfl) rfl rfl rfl ?_
      refine WL.q (oq_load flat9 rfl (.head _) (List.mem_singleton.2 rfl) rfl) rfl rfl rfl ?_
      refine WL.q (oq_len_s Tryd.underlying9 rfl) rfl rfl rfl ?_
      refine WL.q (oq_gtr rfl rfl) rfl rfl rfl ?_
      refine WL.nil (WE.then_normal (WC.sub (fr' := [(0, _), (6, _), (10, _), (11, _), (12, _), (19, _)]) ?_ ⟨rfl, rfl, rfl, rfl, rfl, rfl, trivial⟩))
      refine WC.cond rfl (fun q4 => ?_) (fun q4 => ?_)
      ·
        try simp only [Z1, Z2, Z3, Z4, Z5, Z6, Z7, Z8, Z9, Z0] at q4
        refine WC.seq (WC.region ?_)
        refine WL.q (oq_fieldAddr fld80_0 rfl) rfl rfl rfl ?_
        refine WL.q (oq_load flat9 rfl (.head _) (List.mem_singleton.2 rfl) rfl) rfl rfl rfl ?_
        refine WL.q (oq_len_s Tryd.underlying9 rfl) rfl rfl rfl ?_
        refine WL.q (oq_fieldAddr fld80_0 rfl) rfl rfl rfl ?_
        refine WL.q (oq_load flat9 rfl (.head _) (List.mem_singleton.2 rfl) rfl) rfl rfl rfl ?_
        refine WL.q (oq_makeI conc9 rfl) rfl rfl rfl ?_
        refine WL.q (oq_build #[_, _, _, _] str83 ty83 rfl rfl) rfl rfl rfl ?_
        refine WL.q (oq_makeI conc83 rfl) rfl rfl rfl ?_
        refine WL.q (oq_assign rfl) rfl rfl rfl ?_
        refine WL.nil (WE.then_normal (WC.sub (fr' := [(4, _)]) ?_ ⟨rfl, trivial⟩))
        refine WC.ret (WE.then_ret (WE.block_ret (WE.then_ret (WE.then_ret (WE.block_ret (WE.then_ret ?_))))))
        refine WE.lose ho6 ?_
        refine WE.endW3 (.inl rfl) (res1 Tryd.results19 rfl) ?_
        -- end 0
        exact ⟨_, _, rfl, hX, by rw [if_pos (any_take hlt (by unfold badH; rw [← hpn, decide_eq_true (by omega)]; rfl))]; exact ⟨_, _, rfl⟩⟩
      ·
        try simp only [Z1, Z2, Z3, Z4, Z5, Z6, Z7, Z8, Z9, Z0] at q4
        refine WC.skip (WE.then_normal (WC.sub (fr' := [(0, _), (6, _), (10, _), (11, _), (12, _)]) ?_ ⟨rfl, rfl, rfl, rfl, rfl, trivial⟩))
        refine WC.seq (WC.region ?_)
        refine WL.q (oq_fieldAddr fld80_0 rfl) rfl rfl rfl ?_
        refine WL.q (oq_load flat9 rfl (.head _) (List.mem_singleton.2 rfl) rfl) rfl rfl rfl ?_
        refine WL.q (oq_len_s Tryd.underlying9 rfl) rfl rfl rfl ?_
        refine WL.q ((oq_conv Tryd.underlying3 Tryd.underlying5 rfl (by rw [u8_lo, u8_hi]; omega)).to (v' := .int .u8 ((UInt8.ofNat (ps.getD i PV0).name.length).toNat : Int)) (by rw [UInt8.toNat_ofNat']; congr 1; omega)) rfl rfl rfl ?_
        refine WL.q (oq_build ((bytesV (UInt8.ofNat (ps.getD i PV0).name.length :: List.replicate 255 0)).toArray) str86 ty86 rfl (by kernel_rfl)) rfl rfl rfl ?_
        refine WL.alloc ty86 rfl rfl fun o7 ho7 => ?_
        refine WL.storeS ((bytesV (UInt8.ofNat (ps.getD i PV0).name.length :: List.replicate 255 0)).toArray) ty86 rfl rfl (by kernel_rfl) (by kernel_rfl) (Nat.le_of_ble_eq_true rfl) (by kernel_rfl) rfl ?_
        refine WL.nil (WE.then_normal (WC.sub (fr' := [(0, _), (6, _), (7, _), (10, _), (11, _), (12, _)]) ?_ ⟨rfl, rfl, rfl, rfl, rfl, rfl, trivial⟩))
        refine WC.seq ?_
        have hn8 : (UInt8.ofNat (ps.getD i PV0).name.length).toNat = (ps.getD i PV0).name.length := by rw [UInt8.toNat_ofNat']; omega
        refine WC.tailM (pl := []) (ql := [_, _, _, _, _, _]) (tl := [_]) [] [0, 1, 2, 3, 4, 5] 6 [] (by kernel_rfl) (by kernel_rfl) (by kernel_rfl) (by kernel_rfl) (by kernel_rfl) (by kernel_rfl) (by decide) rfl rfl rfl (by decide) (by repeat (first | with_reducible exact QOk.body | with_reducible apply QOk.then | with_reducible apply QOk.block | exact QOk.body | apply QOk.then | apply QOk.block)) ?_
        refine WM.nil ?_
        refine WY.q (oq_fieldAddr fld86_1 rfl) rfl rfl rfl ?_
        refine WY.q (oq_fieldAddr fld86_0 rfl) rfl rfl rfl ?_
        refine WY.q (oq_load flat5 rfl (.head _) (List.mem_singleton.2 rfl) rfl) rfl rfl rfl ?_
        refine WY.q (oq_sliceArr (j := (UInt8.ofNat (ps.getD i PV0).name.length).toNat) Tryd.underlying84 ty5 rfl rfl ⟨_, rfl⟩ (by (first | omega | (simp only [List.length_cons, List.length_replicate]; omega))) (by (first | omega | (simp only [List.length_cons, List.length_replicate]; omega)))) rfl rfl rfl ?_
        refine WY.q (oq_fieldAddr fld80_0 rfl) rfl rfl rfl ?_
        refine WY.q (oq_load flat9 rfl (.tail _ (.head _)) (List.mem_singleton.2 rfl) rfl) rfl rfl rfl ?_
        refine WY.nil ?_
        refine WL.copyBS Tryd.underlying23 ty5 rfl rfl (by (first | omega | (simp only [List.length_cons, List.length_replicate]; omega))) rfl rfl ?_
        refine WL.nil (WE.then_normal (WC.sub (fr' := [(0, _), (6, _), (7, _), (10, _), (11, _), (12, _)]) ?_ ⟨rfl, rfl, rfl, rfl, rfl, rfl, trivial⟩))
        refine WC.seq (WC.seq ?_)
        rw [cp_name (ps.getD i PV0).name (UInt8.ofNat (ps.getD i PV0).name.length) hn8]
        refine WC.region ?_
        refine WL.q (oq_loadArr agg86 ty86 ((nm_len2 _ _ (by omega))) rfl (.head _)) rfl rfl rfl ?_
        refine WL.q (oq_move rfl) rfl rfl rfl ?_
        refine WL.f2 ?_
        refine WL.callW1 (nameEnc _ _ _ _ _ (bufWr _ bb) _ X hX (UInt8.ofNat (ps.getD i PV0).name.length) ((ps.getD i PV0).name ++ List.replicate (255 - (ps.getD i PV0).name.length) 0) (nm_len _ (by omega)) (by rw [List.length_append]; omega)) call30 rfl rfl rfl fun v8_2 Hs8_2 hR8_2 => ?_
        obtain ⟨X2, rfl, rfl, hX2⟩ := hR8_2
        refine WL.to1 ?_
        refine WL.q (oq_assign rfl) rfl rfl rfl ?_
        refine WL.nil (WE.then_normal (WC.sub (fr' := [(0, _), (6, _), (8, _), (10, _), (11, _), (12, _)]) ?_ ⟨rfl, rfl, rfl, rfl, rfl, rfl, trivial⟩))
        refine WC.seq (WC.region ?_)
        refine WL.q (oq_move rfl) rfl rfl rfl ?_
        refine WL.q (oq_ineq Tryd.underlying41 rfl (.inl rfl)) rfl rfl rfl ?_
        refine WL.nil (WE.then_normal (WC.sub (fr' := [(0, _), (6, _), (8, _), (10, _), (11, _), (12, _), (44, _)]) ?_ ⟨rfl, rfl, rfl, rfl, rfl, rfl, rfl, trivial⟩))
        refine WC.cond rfl (fun q9 => ?_) (fun q9 => ?_)
        ·
          try simp only [Z1, Z2, Z3, Z4, Z5, Z6, Z7, Z8, Z9, Z0] at q9
          first | contradiction | (exfalso; omega) | (exfalso; simp_all; done)
        ·
          try simp only [Z1, Z2, Z3, Z4, Z5, Z6, Z7, Z8, Z9, Z0] at q9
          refine WC.skip (WE.then_normal (WC.sub (fr' := [(0, _), (6, _), (10, _), (11, _), (12, _)]) ?_ ⟨rfl, rfl, rfl, rfl, rfl, trivial⟩))
          refine WC.seq (WC.region ?_)
          refine WL.q (oq_fieldAddr fld80_1 rfl) rfl rfl rfl ?_
          refine WL.q (oq_load flat77 rfl (.tail _ (.tail _ (.head _))) (List.mem_singleton.2 rfl) rfl) rfl rfl rfl ?_
          refine WL.q (oq_move rfl) rfl rfl rfl ?_
          have hX3 : BufG w0.heap.size bb (acc ++ hdrs (l.take i) ++ (UInt8.ofNat (ps.getD i PV0).name.length :: (ps.getD i PV0).name)) X2 := by
            have e1 : (UInt8.ofNat (ps.getD i PV0).name.length).toNat = (ps.getD i PV0).name.length := by rw [UInt8.toNat_ofNat']; omega
            rw [e1, List.take_left' rfl] at hX2; exact hX2
          obtain ⟨_, _, f5, hkr, hi5, hf5⟩ := hvo
          injection hkr with hk1 hk2
          subst hk1 hk2
          refine WL.f4 ?_
          refine WL.f1 ?_
          refine WL.callWE (fun a w hf => ent_inv1 hi5 rfl rfl hf w) (hf5 _ bb _ X2 hX3 (by simp only [List.length_append, List.length_cons, hpn]; omega)) rfl rfl rfl rfl fun v11_3 Hs11_3 hR11_3 => ?_
          obtain ⟨X4, rfl, hei, he0, he1⟩ := encR_split hR11_3
          refine WL.app2 ?_
          refine WL.q (oq_assign rfl) rfl rfl rfl ?_
          refine WL.nil (WE.then_normal (WC.sub (fr' := [(0, _), (9, _), (10, _), (11, _), (12, _)]) ?_ ⟨rfl, rfl, rfl, rfl, rfl, trivial⟩))
          refine WC.seq (WC.region ?_)
          refine WL.q (oq_move rfl) rfl rfl rfl ?_
          refine WL.q (oq_ineq Tryd.underlying41 rfl (hei)) rfl rfl rfl ?_
          refine WL.nil (WE.then_normal (WC.sub (fr' := [(0, _), (9, _), (10, _), (11, _), (12, _), (51, _)]) ?_ ⟨rfl, rfl, rfl, rfl, rfl, rfl, trivial⟩))
          refine WC.cond rfl (fun q12 => ?_) (fun q12 => ?_)
          ·
            try simp only [Z1, Z2, Z3, Z4, Z5, Z6, Z7, Z8, Z9, Z0] at q12
            refine WC.seq (WC.region ?_)
            refine WL.q (oq_move rfl) rfl rfl rfl ?_
            refine WL.q (oq_assign rfl) rfl rfl rfl ?_
            refine WL.nil (WE.then_normal (WC.sub (fr' := [(4, _)]) ?_ ⟨rfl, trivial⟩))
            refine WC.ret (WE.block_ret (WE.then_ret (WE.then_ret (WE.block_ret (WE.then_ret ?_)))))
            refine WE.f2 ?_
            refine WE.lose ho7 ?_
            refine WE.f2 ?_
            refine WE.lose ho6 ?_
            refine WE.f3 ?_
            refine WE.f2 ?_
            refine WE.f3 ?_
            refine WE.f3 ?_
            refine WE.endW3 (.inl rfl) (res1 Tryd.results19 rfl) ?_
            -- end 1
            obtain ⟨hb, ⟨k9, e9, rfl⟩, hG9⟩ := he1 (by simpa using q12)
            exact ⟨_, _, rfl, hG9, by rw [if_pos (any_take hlt (by unfold badH; rw [hb, Bool.or_true]))]; exact ⟨_, _, rfl⟩⟩
          ·
            try simp only [Z1, Z2, Z3, Z4, Z5, Z6, Z7, Z8, Z9, Z0] at q12
            refine WC.skip (WE.block_normal (WE.then_normal (WC.sub (fr' := [(0, _), (10, _), (11, _), (12, _)]) ?_ ⟨rfl, rfl, rfl, rfl, trivial⟩)))
            refine WC.region ?_
            refine WL.q (oq_add rfl rfl (by rw [i64_lo, i64_hi]; (first | omega | (simp only [List.length_cons, List.length_nil, List.length_append, List.length_drop, List.length_take]; omega)))) rfl rfl rfl ?_
            refine WL.q (oq_move rfl) rfl rfl rfl ?_
            refine WL.nil ?_
            refine WE.f2 ?_
            refine WE.lose ho7 ?_
            refine WE.f2 ?_
            refine WE.lose ho6 ?_
            refine WE.f3 ?_
            refine WE.f2 ?_
            refine WE.f3 ?_
            refine WE.f3 ?_
            refine WE.again (i + 1, X4) ?_ ?_ ⟨rfl, rfl, rfl, rfl, trivial⟩ (List.Perm.refl _)
            · try dsimp only   -- again 0
              have hz := he0 (by simpa using q12)
              refine ⟨by omega, any_snoc hlt hno (by unfold badH; rw [hz.1, ← hpn, decide_eq_false (by omega)]; rfl), ?_⟩
              have hz2 := hz.2
              rw [hpn] at hz2
              rw [hdrs_snoc hlt, ← List.append_assoc]
              simpa [hdr] using hz2
            · (try dsimp only); omega
    ·
      try simp only [Z1, Z2, Z3, Z4, Z5, Z6, Z7, Z8, Z9, Z0] at q2
      refine WC.exit (WE.then_exit (WE.then_exit (WE.block_same (WE.then_normal (WC.sub (fr' := []) ?_ trivial)))))
      refine WC.seq ?_
      obtain rfl : i = l.length := by omega
      rw [List.take_length] at hX hno
      refine WC.region ?_
      refine WL.q (oq_assign rfl) rfl rfl rfl ?_
      refine WL.nil (WE.then_normal (WC.sub (fr' := [(4, _)]) ?_ ⟨rfl, trivial⟩))
      refine WC.ret ?_
      refine WE.endW3 (.inl rfl) (res1 Tryd.results19 rfl) ?_
      -- end 2
      exact ⟨_, _, rfl, hX, by rw [hno, if_neg (by simp)]; exact ⟨rfl, rfl⟩⟩

end EJ
end Go.Proofs.YtodlhaghdplclaaDoor
