/- Walks: where a name stands in a step. -/
import Derived.Test.YtiegaefkahnfjaaGreatVO
import Derived.Test.YtiegaefkahnfjaaGreatProg
namespace Go.Proofs.YtiegaefkahnfjaaGreat
open Go Go.RowKit V
set_option linter.unusedSimpArgs false
set_option linter.unusedVariables false
set_option maxRecDepth 10000
namespace S0
theorem flat9 : Flat Tryz.prog 9 := ⟨_, Tryz.underlying9, by simp⟩
theorem flat98 : Flat Tryz.prog 98 := ⟨_, Tryz.underlying98, by simp⟩
theorem flat103 : Flat Tryz.prog 103 := ⟨_, Tryz.underlying103, by simp⟩
theorem flat121 : Flat Tryz.prog 121 := ⟨_, Tryz.underlying121, by simp⟩
theorem flat126 : Flat Tryz.prog 126 := ⟨_, Tryz.underlying126, by simp⟩
theorem flat140 : Flat Tryz.prog 140 := ⟨_, Tryz.underlying140, by simp⟩
theorem flat145 : Flat Tryz.prog 145 := ⟨_, Tryz.underlying145, by simp⟩
theorem flat159 : Flat Tryz.prog 159 := ⟨_, Tryz.underlying159, by simp⟩
theorem flat163 : Flat Tryz.prog 163 := ⟨_, Tryz.underlying163, by simp⟩
theorem flat177 : Flat Tryz.prog 177 := ⟨_, Tryz.underlying177, by simp⟩
theorem flat181 : Flat Tryz.prog 181 := ⟨_, Tryz.underlying181, by simp⟩
theorem flat200 : Flat Tryz.prog 200 := ⟨_, Tryz.underlying200, by simp⟩
theorem flat206 : Flat Tryz.prog 206 := ⟨_, Tryz.underlying206, by simp⟩
theorem flat212 : Flat Tryz.prog 212 := ⟨_, Tryz.underlying212, by simp⟩
theorem flat218 : Flat Tryz.prog 218 := ⟨_, Tryz.underlying218, by simp⟩
theorem flat224 : Flat Tryz.prog 224 := ⟨_, Tryz.underlying224, by simp⟩
theorem ty9 : Ty Tryz.prog 9 (S []) 1 16 := ty_of (by kernel_rfl)
theorem ty98 : Ty Tryz.prog 98 .nilIface 1 16 := ty_of (by kernel_rfl)
theorem ty103 : Ty Tryz.prog 103 .nilIface 1 16 := ty_of (by kernel_rfl)
theorem ty121 : Ty Tryz.prog 121 .nilIface 1 16 := ty_of (by kernel_rfl)
theorem ty126 : Ty Tryz.prog 126 .nilIface 1 16 := ty_of (by kernel_rfl)
theorem ty140 : Ty Tryz.prog 140 .nilIface 1 16 := ty_of (by kernel_rfl)
theorem ty145 : Ty Tryz.prog 145 .nilIface 1 16 := ty_of (by kernel_rfl)
theorem ty159 : Ty Tryz.prog 159 .nilIface 1 16 := ty_of (by kernel_rfl)
theorem ty163 : Ty Tryz.prog 163 .nilIface 1 16 := ty_of (by kernel_rfl)
theorem ty177 : Ty Tryz.prog 177 .nilIface 1 16 := ty_of (by kernel_rfl)
theorem ty181 : Ty Tryz.prog 181 .nilIface 1 16 := ty_of (by kernel_rfl)
theorem ty200 : Ty Tryz.prog 200 (.pointer none) 1 8 := ty_of (by kernel_rfl)
theorem ty206 : Ty Tryz.prog 206 (.pointer none) 1 8 := ty_of (by kernel_rfl)
theorem ty212 : Ty Tryz.prog 212 (.pointer none) 1 8 := ty_of (by kernel_rfl)
theorem ty218 : Ty Tryz.prog 218 (.pointer none) 1 8 := ty_of (by kernel_rfl)
theorem ty224 : Ty Tryz.prog 224 (.pointer none) 1 8 := ty_of (by kernel_rfl)
theorem conc200 : Conc Tryz.prog 200 := ⟨_, Tryz.underlying200, by simp⟩
theorem conc206 : Conc Tryz.prog 206 := ⟨_, Tryz.underlying206, by simp⟩
theorem conc212 : Conc Tryz.prog 212 := ⟨_, Tryz.underlying212, by simp⟩
theorem conc218 : Conc Tryz.prog 218 := ⟨_, Tryz.underlying218, by simp⟩
theorem conc224 : Conc Tryz.prog 224 := ⟨_, Tryz.underlying224, by simp⟩
theorem fld202_0 : Fld Tryz.prog 202 0 0 200 := fld_of Tryz.underlying202 rfl rfl rfl ty200 (by decide)
theorem fld204_0 : Fld Tryz.prog 204 0 0 103 := fld_of Tryz.underlying204 rfl rfl rfl ty103 (by decide)
theorem fld204_1 : Fld Tryz.prog 204 1 1 98 := fld_of Tryz.underlying204 rfl rfl rfl ty98 (by decide)
theorem fld208_0 : Fld Tryz.prog 208 0 0 206 := fld_of Tryz.underlying208 rfl rfl rfl ty206 (by decide)
theorem fld210_0 : Fld Tryz.prog 210 0 0 126 := fld_of Tryz.underlying210 rfl rfl rfl ty126 (by decide)
theorem fld210_1 : Fld Tryz.prog 210 1 1 121 := fld_of Tryz.underlying210 rfl rfl rfl ty121 (by decide)
theorem fld214_0 : Fld Tryz.prog 214 0 0 212 := fld_of Tryz.underlying214 rfl rfl rfl ty212 (by decide)
theorem fld216_0 : Fld Tryz.prog 216 0 0 145 := fld_of Tryz.underlying216 rfl rfl rfl ty145 (by decide)
theorem fld216_1 : Fld Tryz.prog 216 1 1 140 := fld_of Tryz.underlying216 rfl rfl rfl ty140 (by decide)
theorem fld220_0 : Fld Tryz.prog 220 0 0 218 := fld_of Tryz.underlying220 rfl rfl rfl ty218 (by decide)
theorem fld222_0 : Fld Tryz.prog 222 0 0 163 := fld_of Tryz.underlying222 rfl rfl rfl ty163 (by decide)
theorem fld222_1 : Fld Tryz.prog 222 1 1 159 := fld_of Tryz.underlying222 rfl rfl rfl ty159 (by decide)
theorem fld226_0 : Fld Tryz.prog 226 0 0 224 := fld_of Tryz.underlying226 rfl rfl rfl ty224 (by decide)
theorem fld228_0 : Fld Tryz.prog 228 0 0 181 := fld_of Tryz.underlying228 rfl rfl rfl ty181 (by decide)
theorem fld228_1 : Fld Tryz.prog 228 1 1 177 := fld_of Tryz.underlying228 rfl rfl rfl ty177 (by decide)
theorem fld231_0 : Fld Tryz.prog 231 0 0 9 := fld_of Tryz.underlying231 rfl rfl rfl ty9 (by decide)
theorem fld235_0 : Fld Tryz.prog 235 0 0 9 := fld_of Tryz.underlying235 rfl rfl rfl ty9 (by decide)
theorem fld239_0 : Fld Tryz.prog 239 0 0 9 := fld_of Tryz.underlying239 rfl rfl rfl ty9 (by decide)
theorem fld243_0 : Fld Tryz.prog 243 0 0 9 := fld_of Tryz.underlying243 rfl rfl rfl ty9 (by decide)
theorem fld247_0 : Fld Tryz.prog 247 0 0 9 := fld_of Tryz.underlying247 rfl rfl rfl ty9 (by decide)
theorem invID0 : Inv0 Tryz.prog 231 "ID" 155 := fun x w => by kernel_rfl
theorem invID1 : Inv0 Tryz.prog 235 "ID" 157 := fun x w => by kernel_rfl
theorem invID2 : Inv0 Tryz.prog 239 "ID" 159 := fun x w => by kernel_rfl
theorem invID3 : Inv0 Tryz.prog 243 "ID" 161 := fun x w => by kernel_rfl
theorem invID4 : Inv0 Tryz.prog 247 "ID" 163 := fun x w => by kernel_rfl
theorem nextOf_or (PD : TypeId) (B : List Nd) : nextOf PD B .nilIface = .nilIface ∨ ∃ k u, nextOf PD B .nilIface = .iface k u := by
 cases B with
 | nil => exact .inl rfl
 | cons y r => exact .inr ⟨_, _, rfl⟩
theorem nextOf_cons {PD : TypeId} {B : List Nd} (h : nilI (nextOf PD B .nilIface) = false) : ∃ y B2, B = y :: B2 := by
 cases B with
 | nil => simp [nextOf, nilI] at h
 | cons y r => exact ⟨y, r, rfl⟩
theorem nextOf_nil {PD : TypeId} {B : List Nd} (h : nilI (nextOf PD B .nilIface) = true) : B = [] := by
 cases B with
 | nil => rfl
 | cons y r => simp [nextOf, nilI] at h
def GotV (id : List UInt8) (items : List Nd) (v : Value) : Prop :=
 (∃ A x B, items = A ++ x :: B ∧ x.id = id ∧ (∀ y ∈ A, y.id ≠ id) ∧ v = .tuple #[Pt x.b 0, lastp A]) ∨ ((∀ y ∈ items, y.id ≠ id) ∧ v = .tuple #[.pointer none, lastp items])
theorem got_hit {id : List UInt8} {A B : List Nd} {x : Nd} {v : Value} (h : GotV id (A ++ x :: B) v) (hx : x.id = id) (hA : ∀ y ∈ A, y.id ≠ id) : v = .tuple #[Pt x.b 0, lastp A] := by
 rcases h with ⟨A', x', B', e, hx', hA', rfl⟩ | ⟨h, _⟩
 ·have key : ∀ (A A' : List Nd), A ++ x :: B = A' ++ x' :: B' → (∀ y ∈ A, y.id ≠ id) → (∀ y ∈ A', y.id ≠ id) → A = A' ∧ x = x' := by
   intro A
   induction A with
   | nil =>
    intro A' e h1 h2
    cases A' with
    | nil => simp at e; exact ⟨rfl, e.1⟩
    | cons a r => simp at e; exact absurd hx (e.1 ▸ h2 a List.mem_cons_self)
   | cons a r ih =>
    intro A' e h1 h2
    cases A' with
    | nil => simp at e; exact absurd hx' (e.1 ▸ h1 a List.mem_cons_self)
    | cons a' r' =>
     simp at e
     obtain ⟨e1, e2⟩ := ih r' e.2 (fun y hy => h1 y (List.mem_cons_of_mem _ hy)) (fun y hy => h2 y (List.mem_cons_of_mem _ hy))
     exact ⟨by rw [e.1, e1], e2⟩
  obtain ⟨rfl, rfl⟩ := key A A' e hA hA'
  rfl
 ·exact absurd hx (h x (by simp))
theorem got_miss {id : List UInt8} {items : List Nd} {v : Value} (h : GotV id items v) (hn : ∀ y ∈ items, y.id ≠ id) : v = .tuple #[.pointer none, lastp items] := by
 rcases h with ⟨A, x, B, rfl, hx, _, _⟩ | ⟨_, h⟩
 ·exact absurd hx (hn x (by simp))
 ·exact h
theorem id0 (base : Nat) (i : List UInt8) (fv : Value) : FnW Tryz.prog 155 [.agg #[S i, fv]] base [] (fun v Hs => v = S i ∧ Hs = []) := by
 refine FnW.enter (n := 5) Tryz.func155 rfl rfl fun w0 R0 hbase => ?_
 subst hbase
 show WC _ _ _ _ _ _ _ ([R0])
 refine WC.sub (fr' := [(0, _)]) ?_ ⟨rfl, trivial⟩
 refine WC.seq (WC.region ?_)
 refine WL.box rfl rfl rfl fun b0_0 hb0_0 => ?_
 refine WL.q (oq_assign rfl) rfl rfl rfl ?_
 refine WL.nil (WE.then_normal (WC.sub (fr' := [(1, _)]) ?_ ⟨rfl, trivial⟩))
 refine WC.seq (WC.region ?_)
 refine WL.q (oq_fieldAddr fld231_0 rfl) rfl rfl rfl ?_
 refine WL.q (oq_load flat9 rfl (.head _) (List.mem_singleton.2 rfl) rfl) rfl rfl rfl ?_
 refine WL.q (oq_assign rfl) rfl rfl rfl ?_
 refine WL.nil (WE.then_normal (WC.sub (fr' := [(2, _)]) ?_ ⟨rfl, trivial⟩))
 refine WC.ret ?_
 refine WE.lose hb0_0 ?_
 refine WE.endW0 (.inl rfl) (res1 Tryz.results155 rfl) ?_
 exact ⟨rfl, rfl⟩
theorem getC0 (base sb : Nat) (items : List Nd) (x0 : Nd) (r0 : List Nd) (h0 : items = x0 :: r0) (id : List UInt8) : FnW Tryz.prog 123 [Pt sb 0, S id] base [[(sb, .cells #[hdp items, lastp items] 202 (0, 0))], ch 200 204 231 items .nilIface] (fun v Hs => GotV id items v ∧ Hs = [[(sb, .cells #[hdp items, lastp items] 202 (0, 0))], ch 200 204 231 items .nilIface]) := by
 refine FnW.enter (n := 35) Tryz.func123 rfl rfl fun w0 R0 hbase => ?_
 subst hbase
 show WC _ _ _ _ _ _ _ ([[(sb, .cells #[hdp items, lastp items] 202 (0, 0))], ch 200 204 231 items .nilIface, R0])
 refine WC.sub (fr' := [(0, _), (1, _)]) ?_ ⟨rfl, rfl, trivial⟩
 refine WC.seq (WC.region ?_)
 refine WL.q (oq_assign rfl) rfl rfl rfl ?_
 refine WL.q (oq_assign rfl) rfl rfl rfl ?_
 refine WL.nil (WE.then_normal (WC.sub (fr' := [(0, _), (1, _), (4, _), (5, _)]) ?_ ⟨rfl, rfl, rfl, rfl, trivial⟩))
 refine WC.seq (WC.seq ?_)
 have hd0 : hdp items = Pt x0.b 0 := by rw [h0]; rfl
 rw [hd0]
 refine WC.region ?_
 refine WL.q (oq_move rfl) rfl rfl rfl ?_
 refine WL.q (oq_nilCheck rfl) rfl rfl rfl ?_
 refine WL.q (oq_fieldAddr fld202_0 rfl) rfl rfl rfl ?_
 refine WL.q (oq_load flat200 rfl (.head _) (List.mem_singleton.2 rfl) rfl) rfl rfl rfl ?_
 refine WL.q (oq_assign rfl) rfl rfl rfl ?_
 refine WL.nil (WE.then_normal (WC.sub (fr' := [(1, _), (4, _), (5, _), (6, _)]) ?_ ⟨rfl, rfl, rfl, rfl, trivial⟩))
 refine WC.block ?_
 refine WC.loop (ι := (List Nd) × Nd × (List Nd)) (fun i_ => (fun (A : List Nd) (x : Nd) (B : List Nd) => [(1, S id), (4, .pointer none), (5, lastp A), (6, Pt x.b 0)]) i_.1 i_.2.1 i_.2.2) (fun i_ => (fun (A : List Nd) (x : Nd) (B : List Nd) => [[(sb, .cells #[(Pt x0.b 0), (lastp items)] 202 (0, 0))], ch 200 204 231 items .nilIface, R0]) i_.1 i_.2.1 i_.2.2) (fun i_ => (fun (A : List Nd) (x : Nd) (B : List Nd) => items = A ++ x :: B ∧ ∀ y ∈ A, y.id ≠ id) i_.1 i_.2.1 i_.2.2) (fun i_ => (fun (A : List Nd) (x : Nd) (B : List Nd) => B.length) i_.1 i_.2.1 i_.2.2) (([], x0, r0)) ?_ ⟨rfl, rfl, rfl, rfl, trivial⟩ (List.Perm.refl _) ?_
 ·try dsimp only
  exact ⟨h0, by simp⟩
 ·rintro ⟨A, x, B⟩ hp
  try dsimp only at hp
  obtain ⟨hit, hA⟩ := hp
  show WC _ _ _ _ _ _ ([(1, S id), (4, .pointer none), (5, lastp A), (6, Pt x.b 0)]) ([[(sb, .cells #[(Pt x0.b 0), (lastp items)] 202 (0, 0))], ch 200 204 231 items .nilIface, R0])
  refine WC.seq (WC.seq (WC.region ?_))
  refine WL.q (oq_move rfl) rfl rfl rfl ?_
  refine WL.q (oq_pneq Tryz.underlying200 rfl rfl) rfl rfl rfl ?_
  refine WL.nil (WE.then_normal (WC.sub (fr' := [(1, _), (4, _), (5, _), (6, _), (12, _)]) ?_ ⟨rfl, rfl, rfl, rfl, rfl, trivial⟩))
  refine WC.cond rfl (fun q2 => ?_) (fun q2 => ?_)
  ·
   try simp only [Z1, Z2, Z3, Z4, Z5, Z6, Z7, Z8, Z9, Z0] at q2
   refine WC.skip (WE.then_normal (WC.sub (fr' := [(1, _), (4, _), (5, _), (6, _)]) ?_ ⟨rfl, rfl, rfl, rfl, trivial⟩))
   refine WC.block (WC.seq (WC.seq (WC.region ?_)))
   refine WL.q (oq_move rfl) rfl rfl rfl ?_
   refine WL.q (oq_nilCheck rfl) rfl rfl rfl ?_
   refine WL.q (oq_fieldAddr fld204_1 rfl) rfl rfl rfl ?_
   refine WL.q (oq_load flat98 rfl (.tail _ (.head _)) (by rw [hit]; exact ch_mem _ _ _ _) rfl) rfl rfl rfl ?_
   refine WL.callWE (fun a w hf => ent_inv0 invID0 rfl hf w) (id0 _ x.id x.fv) rfl rfl rfl rfl fun v3_4 Hs3_4 hR3_4 => ?_
   obtain ⟨rfl, rfl⟩ := hR3_4
   refine WL.q (oq_move rfl) rfl rfl rfl ?_
   refine WL.q (oq_seql rfl rfl) rfl rfl rfl ?_
   refine WL.nil (WE.then_normal (WC.sub (fr' := [(1, _), (4, _), (5, _), (6, _), (19, _)]) ?_ ⟨rfl, rfl, rfl, rfl, rfl, trivial⟩))
   refine WC.cond rfl (fun q3 => ?_) (fun q3 => ?_)
   ·
    try simp only [Z1, Z2, Z3, Z4, Z5, Z6, Z7, Z8, Z9, Z0] at q3
    refine WC.seq (WC.region ?_)
    refine WL.q (oq_move rfl) rfl rfl rfl ?_
    refine WL.q (oq_assign rfl) rfl rfl rfl ?_
    refine WL.nil (WE.then_normal (WC.sub (fr' := [(4, _), (5, _)]) ?_ ⟨rfl, rfl, trivial⟩))
    refine WC.ret (WE.then_ret (WE.block_ret (WE.then_ret (WE.block_ret (WE.then_ret ?_)))))
    refine WE.endW2 (.inl rfl) (res2 Tryz.results123 rfl rfl) ?_
    exact ⟨.inl ⟨A, x, B, hit, q3, hA, rfl⟩, rfl⟩
   ·
    try simp only [Z1, Z2, Z3, Z4, Z5, Z6, Z7, Z8, Z9, Z0] at q3
    refine WC.skip (WE.then_normal (WC.sub (fr' := [(1, _), (4, _), (6, _)]) ?_ ⟨rfl, rfl, rfl, trivial⟩))
    refine WC.seq (WC.region ?_)
    refine WL.q (oq_move rfl) rfl rfl rfl ?_
    refine WL.q (oq_assign rfl) rfl rfl rfl ?_
    refine WL.nil (WE.then_normal (WC.sub (fr' := [(1, _), (4, _), (5, _), (6, _)]) ?_ ⟨rfl, rfl, rfl, rfl, trivial⟩))
    refine WC.seq (WC.seq (WC.region ?_))
    refine WL.q (oq_move rfl) rfl rfl rfl ?_
    refine WL.q (oq_nilCheck rfl) rfl rfl rfl ?_
    refine WL.q (oq_fieldAddr fld204_0 rfl) rfl rfl rfl ?_
    refine WL.q (oq_load flat103 rfl (.tail _ (.head _)) (by rw [hit]; exact ch_mem _ _ _ _) rfl) rfl rfl rfl ?_
    refine WL.q (oq_ieql Tryz.underlying103 rfl (nextOf_or _ _)) rfl rfl rfl ?_
    refine WL.nil (WE.then_normal (WC.sub (fr' := [(1, _), (4, _), (5, _), (6, _), (26, _)]) ?_ ⟨rfl, rfl, rfl, rfl, rfl, trivial⟩))
    refine WC.cond rfl (fun q6 => ?_) (fun q6 => ?_)
    ·
     try simp only [Z1, Z2, Z3, Z4, Z5, Z6, Z7, Z8, Z9, Z0] at q6
     refine WC.ret (WE.then_ret (WE.block_ret (WE.then_ret (WE.block_ret (WE.then_ret ?_)))))
     refine WE.endW2 (.inl rfl) (res2 Tryz.results123 rfl rfl) ?_
     have hB := nextOf_nil q6
     subst hB
     exact ⟨.inr ⟨fun z hz => by rw [hit] at hz; rcases List.mem_append.1 hz with h | h; exact hA z h; rw [List.mem_singleton.1 h]; exact q3, by rw [hit, lastp_snoc]⟩, rfl⟩
    ·
     try simp only [Z1, Z2, Z3, Z4, Z5, Z6, Z7, Z8, Z9, Z0] at q6
     refine WC.skip (WE.then_normal (WC.sub (fr' := [(1, _), (4, _), (5, _), (6, _)]) ?_ ⟨rfl, rfl, rfl, rfl, trivial⟩))
     obtain ⟨y, B2, rfl⟩ := nextOf_cons q6
     refine WC.region ?_
     refine WL.q (oq_move rfl) rfl rfl rfl ?_
     refine WL.q (oq_nilCheck rfl) rfl rfl rfl ?_
     refine WL.q (oq_fieldAddr fld204_0 rfl) rfl rfl rfl ?_
     refine WL.q (oq_load flat103 rfl (.tail _ (.head _)) (by rw [hit]; exact ch_mem _ _ _ _) rfl) rfl rfl rfl ?_
     refine WL.q (oq_askC conc200 rfl) rfl rfl rfl ?_
     refine WL.q (oq_move rfl) rfl rfl rfl ?_
     refine WL.q (oq_extract rfl rfl) rfl rfl rfl ?_
     refine WL.q (oq_extract rfl rfl) rfl rfl rfl ?_
     refine WL.q (oq_assign rfl) rfl rfl rfl ?_
     refine WL.nil (WE.block_normal ?_)
     refine WE.again (A ++ [x], y, B2) ?_ ?_ ⟨rfl, rfl, (gtv rfl (lastp_snoc _ _).symm), rfl, trivial⟩ (List.Perm.refl _)
     ·try dsimp only
      exact ⟨by rw [hit]; simp, fun z hz => by rcases List.mem_append.1 hz with h | h; exact hA z h; rw [List.mem_singleton.1 h]; exact q3⟩
     ·(try dsimp only); simp
  ·
   try simp only [Z1, Z2, Z3, Z4, Z5, Z6, Z7, Z8, Z9, Z0] at q2
   simp at q2
theorem getN0 (base sb : Nat) (id : List UInt8) : FnW Tryz.prog 123 [Pt sb 0, S id] base [[(sb, .cells #[.pointer none, .pointer none] 202 (0, 0))]] (fun v Hs => GotV id [] v ∧ Hs = [[(sb, .cells #[.pointer none, .pointer none] 202 (0, 0))]]) := by
 refine FnW.enter (n := 35) Tryz.func123 rfl rfl fun w0 R0 hbase => ?_
 subst hbase
 show WC _ _ _ _ _ _ _ ([[(sb, .cells #[.pointer none, .pointer none] 202 (0, 0))], R0])
 refine WC.sub (fr' := [(0, _), (1, _)]) ?_ ⟨rfl, rfl, trivial⟩
 refine WC.seq (WC.region ?_)
 refine WL.q (oq_assign rfl) rfl rfl rfl ?_
 refine WL.q (oq_assign rfl) rfl rfl rfl ?_
 refine WL.nil (WE.then_normal (WC.sub (fr' := [(0, _), (1, _), (4, _), (5, _)]) ?_ ⟨rfl, rfl, rfl, rfl, trivial⟩))
 refine WC.seq (WC.seq (WC.region ?_))
 refine WL.q (oq_move rfl) rfl rfl rfl ?_
 refine WL.q (oq_nilCheck rfl) rfl rfl rfl ?_
 refine WL.q (oq_fieldAddr fld202_0 rfl) rfl rfl rfl ?_
 refine WL.q (oq_load flat200 rfl (.head _) (List.mem_singleton.2 rfl) rfl) rfl rfl rfl ?_
 refine WL.q (oq_assign rfl) rfl rfl rfl ?_
 refine WL.nil (WE.then_normal (WC.sub (fr' := [(1, _), (4, _), (5, _), (6, _)]) ?_ ⟨rfl, rfl, rfl, rfl, trivial⟩))
 refine WC.block ?_
 refine WC.loop (ι := Unit) (fun _ => [(1, S id), (4, .pointer none), (5, .pointer none), (6, .pointer none)]) (fun _ => [[(sb, .cells #[.pointer none, .pointer none] 202 (0, 0))], R0]) (fun _ => True) (fun _ => 0) (()) ?_ ⟨rfl, rfl, rfl, rfl, trivial⟩ (List.Perm.refl _) ?_
 ·try dsimp only
  all_goals trivial
 ·rintro _ hp
  try dsimp only at hp
  show WC _ _ _ _ _ _ ([(1, S id), (4, .pointer none), (5, .pointer none), (6, .pointer none)]) ([[(sb, .cells #[.pointer none, .pointer none] 202 (0, 0))], R0])
  refine WC.seq (WC.seq (WC.region ?_))
  refine WL.q (oq_move rfl) rfl rfl rfl ?_
  refine WL.q (oq_pneq Tryz.underlying200 rfl rfl) rfl rfl rfl ?_
  refine WL.nil (WE.then_normal (WC.sub (fr' := [(1, _), (4, _), (5, _), (6, _), (12, _)]) ?_ ⟨rfl, rfl, rfl, rfl, rfl, trivial⟩))
  refine WC.cond rfl (fun q2 => ?_) (fun q2 => ?_)
  ·
   try simp only [Z1, Z2, Z3, Z4, Z5, Z6, Z7, Z8, Z9, Z0] at q2
   simp at q2
  ·
   try simp only [Z1, Z2, Z3, Z4, Z5, Z6, Z7, Z8, Z9, Z0] at q2
   refine WC.exit (WE.then_exit (WE.then_exit (WE.block_same (WE.then_normal (WC.sub (fr' := [(4, _), (5, _)]) ?_ ⟨rfl, rfl, trivial⟩)))))
   refine WC.ret ?_
   refine WE.endW1 (.inl rfl) (res2 Tryz.results123 rfl rfl) ?_
   exact ⟨.inr ⟨by simp, rfl⟩, rfl⟩
theorem id1 (base : Nat) (i : List UInt8) (fv : Value) : FnW Tryz.prog 157 [.agg #[S i, fv]] base [] (fun v Hs => v = S i ∧ Hs = []) := by
 refine FnW.enter (n := 5) Tryz.func157 rfl rfl fun w0 R0 hbase => ?_
 subst hbase
 show WC _ _ _ _ _ _ _ ([R0])
 refine WC.sub (fr' := [(0, _)]) ?_ ⟨rfl, trivial⟩
 refine WC.seq (WC.region ?_)
 refine WL.box rfl rfl rfl fun b0_0 hb0_0 => ?_
 refine WL.q (oq_assign rfl) rfl rfl rfl ?_
 refine WL.nil (WE.then_normal (WC.sub (fr' := [(1, _)]) ?_ ⟨rfl, trivial⟩))
 refine WC.seq (WC.region ?_)
 refine WL.q (oq_fieldAddr fld235_0 rfl) rfl rfl rfl ?_
 refine WL.q (oq_load flat9 rfl (.head _) (List.mem_singleton.2 rfl) rfl) rfl rfl rfl ?_
 refine WL.q (oq_assign rfl) rfl rfl rfl ?_
 refine WL.nil (WE.then_normal (WC.sub (fr' := [(2, _)]) ?_ ⟨rfl, trivial⟩))
 refine WC.ret ?_
 refine WE.lose hb0_0 ?_
 refine WE.endW0 (.inl rfl) (res1 Tryz.results157 rfl) ?_
 exact ⟨rfl, rfl⟩
theorem getC1 (base sb : Nat) (nr : Value) (items : List Nd) (x0 : Nd) (r0 : List Nd) (h0 : items = x0 :: r0) (id : List UInt8) : FnW Tryz.prog 124 [Pt sb 0, S id] base [[(sb, .cells #[hdp items, lastp items, nr] 208 (0, 0))], ch 206 210 235 items .nilIface] (fun v Hs => GotV id items v ∧ Hs = [[(sb, .cells #[hdp items, lastp items, nr] 208 (0, 0))], ch 206 210 235 items .nilIface]) := by
 refine FnW.enter (n := 35) Tryz.func124 rfl rfl fun w0 R0 hbase => ?_
 subst hbase
 show WC _ _ _ _ _ _ _ ([[(sb, .cells #[hdp items, lastp items, nr] 208 (0, 0))], ch 206 210 235 items .nilIface, R0])
 refine WC.sub (fr' := [(0, _), (1, _)]) ?_ ⟨rfl, rfl, trivial⟩
 refine WC.seq (WC.region ?_)
 refine WL.q (oq_assign rfl) rfl rfl rfl ?_
 refine WL.q (oq_assign rfl) rfl rfl rfl ?_
 refine WL.nil (WE.then_normal (WC.sub (fr' := [(0, _), (1, _), (4, _), (5, _)]) ?_ ⟨rfl, rfl, rfl, rfl, trivial⟩))
 refine WC.seq (WC.seq ?_)
 have hd0 : hdp items = Pt x0.b 0 := by rw [h0]; rfl
 rw [hd0]
 refine WC.region ?_
 refine WL.q (oq_move rfl) rfl rfl rfl ?_
 refine WL.q (oq_nilCheck rfl) rfl rfl rfl ?_
 refine WL.q (oq_fieldAddr fld208_0 rfl) rfl rfl rfl ?_
 refine WL.q (oq_load flat206 rfl (.head _) (List.mem_singleton.2 rfl) rfl) rfl rfl rfl ?_
 refine WL.q (oq_assign rfl) rfl rfl rfl ?_
 refine WL.nil (WE.then_normal (WC.sub (fr' := [(1, _), (4, _), (5, _), (6, _)]) ?_ ⟨rfl, rfl, rfl, rfl, trivial⟩))
 refine WC.block ?_
 refine WC.loop (ι := (List Nd) × Nd × (List Nd)) (fun i_ => (fun (A : List Nd) (x : Nd) (B : List Nd) => [(1, S id), (4, .pointer none), (5, lastp A), (6, Pt x.b 0)]) i_.1 i_.2.1 i_.2.2) (fun i_ => (fun (A : List Nd) (x : Nd) (B : List Nd) => [[(sb, .cells #[(Pt x0.b 0), (lastp items), nr] 208 (0, 0))], ch 206 210 235 items .nilIface, R0]) i_.1 i_.2.1 i_.2.2) (fun i_ => (fun (A : List Nd) (x : Nd) (B : List Nd) => items = A ++ x :: B ∧ ∀ y ∈ A, y.id ≠ id) i_.1 i_.2.1 i_.2.2) (fun i_ => (fun (A : List Nd) (x : Nd) (B : List Nd) => B.length) i_.1 i_.2.1 i_.2.2) (([], x0, r0)) ?_ ⟨rfl, rfl, rfl, rfl, trivial⟩ (List.Perm.refl _) ?_
 ·try dsimp only
  exact ⟨h0, by simp⟩
 ·rintro ⟨A, x, B⟩ hp
  try dsimp only at hp
  obtain ⟨hit, hA⟩ := hp
  show WC _ _ _ _ _ _ ([(1, S id), (4, .pointer none), (5, lastp A), (6, Pt x.b 0)]) ([[(sb, .cells #[(Pt x0.b 0), (lastp items), nr] 208 (0, 0))], ch 206 210 235 items .nilIface, R0])
  refine WC.seq (WC.seq (WC.region ?_))
  refine WL.q (oq_move rfl) rfl rfl rfl ?_
  refine WL.q (oq_pneq Tryz.underlying206 rfl rfl) rfl rfl rfl ?_
  refine WL.nil (WE.then_normal (WC.sub (fr' := [(1, _), (4, _), (5, _), (6, _), (12, _)]) ?_ ⟨rfl, rfl, rfl, rfl, rfl, trivial⟩))
  refine WC.cond rfl (fun q2 => ?_) (fun q2 => ?_)
  ·
   try simp only [Z1, Z2, Z3, Z4, Z5, Z6, Z7, Z8, Z9, Z0] at q2
   refine WC.skip (WE.then_normal (WC.sub (fr' := [(1, _), (4, _), (5, _), (6, _)]) ?_ ⟨rfl, rfl, rfl, rfl, trivial⟩))
   refine WC.block (WC.seq (WC.seq (WC.region ?_)))
   refine WL.q (oq_move rfl) rfl rfl rfl ?_
   refine WL.q (oq_nilCheck rfl) rfl rfl rfl ?_
   refine WL.q (oq_fieldAddr fld210_1 rfl) rfl rfl rfl ?_
   refine WL.q (oq_load flat121 rfl (.tail _ (.head _)) (by rw [hit]; exact ch_mem _ _ _ _) rfl) rfl rfl rfl ?_
   refine WL.callWE (fun a w hf => ent_inv0 invID1 rfl hf w) (id1 _ x.id x.fv) rfl rfl rfl rfl fun v3_4 Hs3_4 hR3_4 => ?_
   obtain ⟨rfl, rfl⟩ := hR3_4
   refine WL.q (oq_move rfl) rfl rfl rfl ?_
   refine WL.q (oq_seql rfl rfl) rfl rfl rfl ?_
   refine WL.nil (WE.then_normal (WC.sub (fr' := [(1, _), (4, _), (5, _), (6, _), (19, _)]) ?_ ⟨rfl, rfl, rfl, rfl, rfl, trivial⟩))
   refine WC.cond rfl (fun q3 => ?_) (fun q3 => ?_)
   ·
    try simp only [Z1, Z2, Z3, Z4, Z5, Z6, Z7, Z8, Z9, Z0] at q3
    refine WC.seq (WC.region ?_)
    refine WL.q (oq_move rfl) rfl rfl rfl ?_
    refine WL.q (oq_assign rfl) rfl rfl rfl ?_
    refine WL.nil (WE.then_normal (WC.sub (fr' := [(4, _), (5, _)]) ?_ ⟨rfl, rfl, trivial⟩))
    refine WC.ret (WE.then_ret (WE.block_ret (WE.then_ret (WE.block_ret (WE.then_ret ?_)))))
    refine WE.endW2 (.inl rfl) (res2 Tryz.results124 rfl rfl) ?_
    exact ⟨.inl ⟨A, x, B, hit, q3, hA, rfl⟩, rfl⟩
   ·
    try simp only [Z1, Z2, Z3, Z4, Z5, Z6, Z7, Z8, Z9, Z0] at q3
    refine WC.skip (WE.then_normal (WC.sub (fr' := [(1, _), (4, _), (6, _)]) ?_ ⟨rfl, rfl, rfl, trivial⟩))
    refine WC.seq (WC.region ?_)
    refine WL.q (oq_move rfl) rfl rfl rfl ?_
    refine WL.q (oq_assign rfl) rfl rfl rfl ?_
    refine WL.nil (WE.then_normal (WC.sub (fr' := [(1, _), (4, _), (5, _), (6, _)]) ?_ ⟨rfl, rfl, rfl, rfl, trivial⟩))
    refine WC.seq (WC.seq (WC.region ?_))
    refine WL.q (oq_move rfl) rfl rfl rfl ?_
    refine WL.q (oq_nilCheck rfl) rfl rfl rfl ?_
    refine WL.q (oq_fieldAddr fld210_0 rfl) rfl rfl rfl ?_
    refine WL.q (oq_load flat126 rfl (.tail _ (.head _)) (by rw [hit]; exact ch_mem _ _ _ _) rfl) rfl rfl rfl ?_
    refine WL.q (oq_ieql Tryz.underlying126 rfl (nextOf_or _ _)) rfl rfl rfl ?_
    refine WL.nil (WE.then_normal (WC.sub (fr' := [(1, _), (4, _), (5, _), (6, _), (26, _)]) ?_ ⟨rfl, rfl, rfl, rfl, rfl, trivial⟩))
    refine WC.cond rfl (fun q6 => ?_) (fun q6 => ?_)
    ·
     try simp only [Z1, Z2, Z3, Z4, Z5, Z6, Z7, Z8, Z9, Z0] at q6
     refine WC.ret (WE.then_ret (WE.block_ret (WE.then_ret (WE.block_ret (WE.then_ret ?_)))))
     refine WE.endW2 (.inl rfl) (res2 Tryz.results124 rfl rfl) ?_
     have hB := nextOf_nil q6
     subst hB
     exact ⟨.inr ⟨fun z hz => by rw [hit] at hz; rcases List.mem_append.1 hz with h | h; exact hA z h; rw [List.mem_singleton.1 h]; exact q3, by rw [hit, lastp_snoc]⟩, rfl⟩
    ·
     try simp only [Z1, Z2, Z3, Z4, Z5, Z6, Z7, Z8, Z9, Z0] at q6
     refine WC.skip (WE.then_normal (WC.sub (fr' := [(1, _), (4, _), (5, _), (6, _)]) ?_ ⟨rfl, rfl, rfl, rfl, trivial⟩))
     obtain ⟨y, B2, rfl⟩ := nextOf_cons q6
     refine WC.region ?_
     refine WL.q (oq_move rfl) rfl rfl rfl ?_
     refine WL.q (oq_nilCheck rfl) rfl rfl rfl ?_
     refine WL.q (oq_fieldAddr fld210_0 rfl) rfl rfl rfl ?_
     refine WL.q (oq_load flat126 rfl (.tail _ (.head _)) (by rw [hit]; exact ch_mem _ _ _ _) rfl) rfl rfl rfl ?_
     refine WL.q (oq_askC conc206 rfl) rfl rfl rfl ?_
     refine WL.q (oq_move rfl) rfl rfl rfl ?_
     refine WL.q (oq_extract rfl rfl) rfl rfl rfl ?_
     refine WL.q (oq_extract rfl rfl) rfl rfl rfl ?_
     refine WL.q (oq_assign rfl) rfl rfl rfl ?_
     refine WL.nil (WE.block_normal ?_)
     refine WE.again (A ++ [x], y, B2) ?_ ?_ ⟨rfl, rfl, (gtv rfl (lastp_snoc _ _).symm), rfl, trivial⟩ (List.Perm.refl _)
     ·try dsimp only
      exact ⟨by rw [hit]; simp, fun z hz => by rcases List.mem_append.1 hz with h | h; exact hA z h; rw [List.mem_singleton.1 h]; exact q3⟩
     ·(try dsimp only); simp
  ·
   try simp only [Z1, Z2, Z3, Z4, Z5, Z6, Z7, Z8, Z9, Z0] at q2
   simp at q2
theorem getN1 (base sb : Nat) (nr : Value) (id : List UInt8) : FnW Tryz.prog 124 [Pt sb 0, S id] base [[(sb, .cells #[.pointer none, .pointer none, nr] 208 (0, 0))]] (fun v Hs => GotV id [] v ∧ Hs = [[(sb, .cells #[.pointer none, .pointer none, nr] 208 (0, 0))]]) := by
 refine FnW.enter (n := 35) Tryz.func124 rfl rfl fun w0 R0 hbase => ?_
 subst hbase
 show WC _ _ _ _ _ _ _ ([[(sb, .cells #[.pointer none, .pointer none, nr] 208 (0, 0))], R0])
 refine WC.sub (fr' := [(0, _), (1, _)]) ?_ ⟨rfl, rfl, trivial⟩
 refine WC.seq (WC.region ?_)
 refine WL.q (oq_assign rfl) rfl rfl rfl ?_
 refine WL.q (oq_assign rfl) rfl rfl rfl ?_
 refine WL.nil (WE.then_normal (WC.sub (fr' := [(0, _), (1, _), (4, _), (5, _)]) ?_ ⟨rfl, rfl, rfl, rfl, trivial⟩))
 refine WC.seq (WC.seq (WC.region ?_))
 refine WL.q (oq_move rfl) rfl rfl rfl ?_
 refine WL.q (oq_nilCheck rfl) rfl rfl rfl ?_
 refine WL.q (oq_fieldAddr fld208_0 rfl) rfl rfl rfl ?_
 refine WL.q (oq_load flat206 rfl (.head _) (List.mem_singleton.2 rfl) rfl) rfl rfl rfl ?_
 refine WL.q (oq_assign rfl) rfl rfl rfl ?_
 refine WL.nil (WE.then_normal (WC.sub (fr' := [(1, _), (4, _), (5, _), (6, _)]) ?_ ⟨rfl, rfl, rfl, rfl, trivial⟩))
 refine WC.block ?_
 refine WC.loop (ι := Unit) (fun _ => [(1, S id), (4, .pointer none), (5, .pointer none), (6, .pointer none)]) (fun _ => [[(sb, .cells #[.pointer none, .pointer none, nr] 208 (0, 0))], R0]) (fun _ => True) (fun _ => 0) (()) ?_ ⟨rfl, rfl, rfl, rfl, trivial⟩ (List.Perm.refl _) ?_
 ·try dsimp only
  all_goals trivial
 ·rintro _ hp
  try dsimp only at hp
  show WC _ _ _ _ _ _ ([(1, S id), (4, .pointer none), (5, .pointer none), (6, .pointer none)]) ([[(sb, .cells #[.pointer none, .pointer none, nr] 208 (0, 0))], R0])
  refine WC.seq (WC.seq (WC.region ?_))
  refine WL.q (oq_move rfl) rfl rfl rfl ?_
  refine WL.q (oq_pneq Tryz.underlying206 rfl rfl) rfl rfl rfl ?_
  refine WL.nil (WE.then_normal (WC.sub (fr' := [(1, _), (4, _), (5, _), (6, _), (12, _)]) ?_ ⟨rfl, rfl, rfl, rfl, rfl, trivial⟩))
  refine WC.cond rfl (fun q2 => ?_) (fun q2 => ?_)
  ·
   try simp only [Z1, Z2, Z3, Z4, Z5, Z6, Z7, Z8, Z9, Z0] at q2
   simp at q2
  ·
   try simp only [Z1, Z2, Z3, Z4, Z5, Z6, Z7, Z8, Z9, Z0] at q2
   refine WC.exit (WE.then_exit (WE.then_exit (WE.block_same (WE.then_normal (WC.sub (fr' := [(4, _), (5, _)]) ?_ ⟨rfl, rfl, trivial⟩)))))
   refine WC.ret ?_
   refine WE.endW1 (.inl rfl) (res2 Tryz.results124 rfl rfl) ?_
   exact ⟨.inr ⟨by simp, rfl⟩, rfl⟩
theorem id2 (base : Nat) (i : List UInt8) (fv : Value) : FnW Tryz.prog 159 [.agg #[S i, fv]] base [] (fun v Hs => v = S i ∧ Hs = []) := by
 refine FnW.enter (n := 5) Tryz.func159 rfl rfl fun w0 R0 hbase => ?_
 subst hbase
 show WC _ _ _ _ _ _ _ ([R0])
 refine WC.sub (fr' := [(0, _)]) ?_ ⟨rfl, trivial⟩
 refine WC.seq (WC.region ?_)
 refine WL.box rfl rfl rfl fun b0_0 hb0_0 => ?_
 refine WL.q (oq_assign rfl) rfl rfl rfl ?_
 refine WL.nil (WE.then_normal (WC.sub (fr' := [(1, _)]) ?_ ⟨rfl, trivial⟩))
 refine WC.seq (WC.region ?_)
 refine WL.q (oq_fieldAddr fld239_0 rfl) rfl rfl rfl ?_
 refine WL.q (oq_load flat9 rfl (.head _) (List.mem_singleton.2 rfl) rfl) rfl rfl rfl ?_
 refine WL.q (oq_assign rfl) rfl rfl rfl ?_
 refine WL.nil (WE.then_normal (WC.sub (fr' := [(2, _)]) ?_ ⟨rfl, trivial⟩))
 refine WC.ret ?_
 refine WE.lose hb0_0 ?_
 refine WE.endW0 (.inl rfl) (res1 Tryz.results159 rfl) ?_
 exact ⟨rfl, rfl⟩
theorem getC2 (base sb : Nat) (items : List Nd) (x0 : Nd) (r0 : List Nd) (h0 : items = x0 :: r0) (id : List UInt8) : FnW Tryz.prog 125 [Pt sb 0, S id] base [[(sb, .cells #[hdp items, lastp items] 214 (0, 0))], ch 212 216 239 items .nilIface] (fun v Hs => GotV id items v ∧ Hs = [[(sb, .cells #[hdp items, lastp items] 214 (0, 0))], ch 212 216 239 items .nilIface]) := by
 refine FnW.enter (n := 35) Tryz.func125 rfl rfl fun w0 R0 hbase => ?_
 subst hbase
 show WC _ _ _ _ _ _ _ ([[(sb, .cells #[hdp items, lastp items] 214 (0, 0))], ch 212 216 239 items .nilIface, R0])
 refine WC.sub (fr' := [(0, _), (1, _)]) ?_ ⟨rfl, rfl, trivial⟩
 refine WC.seq (WC.region ?_)
 refine WL.q (oq_assign rfl) rfl rfl rfl ?_
 refine WL.q (oq_assign rfl) rfl rfl rfl ?_
 refine WL.nil (WE.then_normal (WC.sub (fr' := [(0, _), (1, _), (4, _), (5, _)]) ?_ ⟨rfl, rfl, rfl, rfl, trivial⟩))
 refine WC.seq (WC.seq ?_)
 have hd0 : hdp items = Pt x0.b 0 := by rw [h0]; rfl
 rw [hd0]
 refine WC.region ?_
 refine WL.q (oq_move rfl) rfl rfl rfl ?_
 refine WL.q (oq_nilCheck rfl) rfl rfl rfl ?_
 refine WL.q (oq_fieldAddr fld214_0 rfl) rfl rfl rfl ?_
 refine WL.q (oq_load flat212 rfl (.head _) (List.mem_singleton.2 rfl) rfl) rfl rfl rfl ?_
 refine WL.q (oq_assign rfl) rfl rfl rfl ?_
 refine WL.nil (WE.then_normal (WC.sub (fr' := [(1, _), (4, _), (5, _), (6, _)]) ?_ ⟨rfl, rfl, rfl, rfl, trivial⟩))
 refine WC.block ?_
 refine WC.loop (ι := (List Nd) × Nd × (List Nd)) (fun i_ => (fun (A : List Nd) (x : Nd) (B : List Nd) => [(1, S id), (4, .pointer none), (5, lastp A), (6, Pt x.b 0)]) i_.1 i_.2.1 i_.2.2) (fun i_ => (fun (A : List Nd) (x : Nd) (B : List Nd) => [[(sb, .cells #[(Pt x0.b 0), (lastp items)] 214 (0, 0))], ch 212 216 239 items .nilIface, R0]) i_.1 i_.2.1 i_.2.2) (fun i_ => (fun (A : List Nd) (x : Nd) (B : List Nd) => items = A ++ x :: B ∧ ∀ y ∈ A, y.id ≠ id) i_.1 i_.2.1 i_.2.2) (fun i_ => (fun (A : List Nd) (x : Nd) (B : List Nd) => B.length) i_.1 i_.2.1 i_.2.2) (([], x0, r0)) ?_ ⟨rfl, rfl, rfl, rfl, trivial⟩ (List.Perm.refl _) ?_
 ·try dsimp only
  exact ⟨h0, by simp⟩
 ·rintro ⟨A, x, B⟩ hp
  try dsimp only at hp
  obtain ⟨hit, hA⟩ := hp
  show WC _ _ _ _ _ _ ([(1, S id), (4, .pointer none), (5, lastp A), (6, Pt x.b 0)]) ([[(sb, .cells #[(Pt x0.b 0), (lastp items)] 214 (0, 0))], ch 212 216 239 items .nilIface, R0])
  refine WC.seq (WC.seq (WC.region ?_))
  refine WL.q (oq_move rfl) rfl rfl rfl ?_
  refine WL.q (oq_pneq Tryz.underlying212 rfl rfl) rfl rfl rfl ?_
  refine WL.nil (WE.then_normal (WC.sub (fr' := [(1, _), (4, _), (5, _), (6, _), (12, _)]) ?_ ⟨rfl, rfl, rfl, rfl, rfl, trivial⟩))
  refine WC.cond rfl (fun q2 => ?_) (fun q2 => ?_)
  ·
   try simp only [Z1, Z2, Z3, Z4, Z5, Z6, Z7, Z8, Z9, Z0] at q2
   refine WC.skip (WE.then_normal (WC.sub (fr' := [(1, _), (4, _), (5, _), (6, _)]) ?_ ⟨rfl, rfl, rfl, rfl, trivial⟩))
   refine WC.block (WC.seq (WC.seq (WC.region ?_)))
   refine WL.q (oq_move rfl) rfl rfl rfl ?_
   refine WL.q (oq_nilCheck rfl) rfl rfl rfl ?_
   refine WL.q (oq_fieldAddr fld216_1 rfl) rfl rfl rfl ?_
   refine WL.q (oq_load flat140 rfl (.tail _ (.head _)) (by rw [hit]; exact ch_mem _ _ _ _) rfl) rfl rfl rfl ?_
   refine WL.callWE (fun a w hf => ent_inv0 invID2 rfl hf w) (id2 _ x.id x.fv) rfl rfl rfl rfl fun v3_4 Hs3_4 hR3_4 => ?_
   obtain ⟨rfl, rfl⟩ := hR3_4
   refine WL.q (oq_move rfl) rfl rfl rfl ?_
   refine WL.q (oq_seql rfl rfl) rfl rfl rfl ?_
   refine WL.nil (WE.then_normal (WC.sub (fr' := [(1, _), (4, _), (5, _), (6, _), (19, _)]) ?_ ⟨rfl, rfl, rfl, rfl, rfl, trivial⟩))
   refine WC.cond rfl (fun q3 => ?_) (fun q3 => ?_)
   ·
    try simp only [Z1, Z2, Z3, Z4, Z5, Z6, Z7, Z8, Z9, Z0] at q3
    refine WC.seq (WC.region ?_)
    refine WL.q (oq_move rfl) rfl rfl rfl ?_
    refine WL.q (oq_assign rfl) rfl rfl rfl ?_
    refine WL.nil (WE.then_normal (WC.sub (fr' := [(4, _), (5, _)]) ?_ ⟨rfl, rfl, trivial⟩))
    refine WC.ret (WE.then_ret (WE.block_ret (WE.then_ret (WE.block_ret (WE.then_ret ?_)))))
    refine WE.endW2 (.inl rfl) (res2 Tryz.results125 rfl rfl) ?_
    exact ⟨.inl ⟨A, x, B, hit, q3, hA, rfl⟩, rfl⟩
   ·
    try simp only [Z1, Z2, Z3, Z4, Z5, Z6, Z7, Z8, Z9, Z0] at q3
    refine WC.skip (WE.then_normal (WC.sub (fr' := [(1, _), (4, _), (6, _)]) ?_ ⟨rfl, rfl, rfl, trivial⟩))
    refine WC.seq (WC.region ?_)
    refine WL.q (oq_move rfl) rfl rfl rfl ?_
    refine WL.q (oq_assign rfl) rfl rfl rfl ?_
    refine WL.nil (WE.then_normal (WC.sub (fr' := [(1, _), (4, _), (5, _), (6, _)]) ?_ ⟨rfl, rfl, rfl, rfl, trivial⟩))
    refine WC.seq (WC.seq (WC.region ?_))
    refine WL.q (oq_move rfl) rfl rfl rfl ?_
    refine WL.q (oq_nilCheck rfl) rfl rfl rfl ?_
    refine WL.q (oq_fieldAddr fld216_0 rfl) rfl rfl rfl ?_
    refine WL.q (oq_load flat145 rfl (.tail _ (.head _)) (by rw [hit]; exact ch_mem _ _ _ _) rfl) rfl rfl rfl ?_
    refine WL.q (oq_ieql Tryz.underlying145 rfl (nextOf_or _ _)) rfl rfl rfl ?_
    refine WL.nil (WE.then_normal (WC.sub (fr' := [(1, _), (4, _), (5, _), (6, _), (26, _)]) ?_ ⟨rfl, rfl, rfl, rfl, rfl, trivial⟩))
    refine WC.cond rfl (fun q6 => ?_) (fun q6 => ?_)
    ·
     try simp only [Z1, Z2, Z3, Z4, Z5, Z6, Z7, Z8, Z9, Z0] at q6
     refine WC.ret (WE.then_ret (WE.block_ret (WE.then_ret (WE.block_ret (WE.then_ret ?_)))))
     refine WE.endW2 (.inl rfl) (res2 Tryz.results125 rfl rfl) ?_
     have hB := nextOf_nil q6
     subst hB
     exact ⟨.inr ⟨fun z hz => by rw [hit] at hz; rcases List.mem_append.1 hz with h | h; exact hA z h; rw [List.mem_singleton.1 h]; exact q3, by rw [hit, lastp_snoc]⟩, rfl⟩
    ·
     try simp only [Z1, Z2, Z3, Z4, Z5, Z6, Z7, Z8, Z9, Z0] at q6
     refine WC.skip (WE.then_normal (WC.sub (fr' := [(1, _), (4, _), (5, _), (6, _)]) ?_ ⟨rfl, rfl, rfl, rfl, trivial⟩))
     obtain ⟨y, B2, rfl⟩ := nextOf_cons q6
     refine WC.region ?_
     refine WL.q (oq_move rfl) rfl rfl rfl ?_
     refine WL.q (oq_nilCheck rfl) rfl rfl rfl ?_
     refine WL.q (oq_fieldAddr fld216_0 rfl) rfl rfl rfl ?_
     refine WL.q (oq_load flat145 rfl (.tail _ (.head _)) (by rw [hit]; exact ch_mem _ _ _ _) rfl) rfl rfl rfl ?_
     refine WL.q (oq_askC conc212 rfl) rfl rfl rfl ?_
     refine WL.q (oq_move rfl) rfl rfl rfl ?_
     refine WL.q (oq_extract rfl rfl) rfl rfl rfl ?_
     refine WL.q (oq_extract rfl rfl) rfl rfl rfl ?_
     refine WL.q (oq_assign rfl) rfl rfl rfl ?_
     refine WL.nil (WE.block_normal ?_)
     refine WE.again (A ++ [x], y, B2) ?_ ?_ ⟨rfl, rfl, (gtv rfl (lastp_snoc _ _).symm), rfl, trivial⟩ (List.Perm.refl _)
     ·try dsimp only
      exact ⟨by rw [hit]; simp, fun z hz => by rcases List.mem_append.1 hz with h | h; exact hA z h; rw [List.mem_singleton.1 h]; exact q3⟩
     ·(try dsimp only); simp
  ·
   try simp only [Z1, Z2, Z3, Z4, Z5, Z6, Z7, Z8, Z9, Z0] at q2
   simp at q2
theorem getN2 (base sb : Nat) (id : List UInt8) : FnW Tryz.prog 125 [Pt sb 0, S id] base [[(sb, .cells #[.pointer none, .pointer none] 214 (0, 0))]] (fun v Hs => GotV id [] v ∧ Hs = [[(sb, .cells #[.pointer none, .pointer none] 214 (0, 0))]]) := by
 refine FnW.enter (n := 35) Tryz.func125 rfl rfl fun w0 R0 hbase => ?_
 subst hbase
 show WC _ _ _ _ _ _ _ ([[(sb, .cells #[.pointer none, .pointer none] 214 (0, 0))], R0])
 refine WC.sub (fr' := [(0, _), (1, _)]) ?_ ⟨rfl, rfl, trivial⟩
 refine WC.seq (WC.region ?_)
 refine WL.q (oq_assign rfl) rfl rfl rfl ?_
 refine WL.q (oq_assign rfl) rfl rfl rfl ?_
 refine WL.nil (WE.then_normal (WC.sub (fr' := [(0, _), (1, _), (4, _), (5, _)]) ?_ ⟨rfl, rfl, rfl, rfl, trivial⟩))
 refine WC.seq (WC.seq (WC.region ?_))
 refine WL.q (oq_move rfl) rfl rfl rfl ?_
 refine WL.q (oq_nilCheck rfl) rfl rfl rfl ?_
 refine WL.q (oq_fieldAddr fld214_0 rfl) rfl rfl rfl ?_
 refine WL.q (oq_load flat212 rfl (.head _) (List.mem_singleton.2 rfl) rfl) rfl rfl rfl ?_
 refine WL.q (oq_assign rfl) rfl rfl rfl ?_
 refine WL.nil (WE.then_normal (WC.sub (fr' := [(1, _), (4, _), (5, _), (6, _)]) ?_ ⟨rfl, rfl, rfl, rfl, trivial⟩))
 refine WC.block ?_
 refine WC.loop (ι := Unit) (fun _ => [(1, S id), (4, .pointer none), (5, .pointer none), (6, .pointer none)]) (fun _ => [[(sb, .cells #[.pointer none, .pointer none] 214 (0, 0))], R0]) (fun _ => True) (fun _ => 0) (()) ?_ ⟨rfl, rfl, rfl, rfl, trivial⟩ (List.Perm.refl _) ?_
 ·try dsimp only
  all_goals trivial
 ·rintro _ hp
  try dsimp only at hp
  show WC _ _ _ _ _ _ ([(1, S id), (4, .pointer none), (5, .pointer none), (6, .pointer none)]) ([[(sb, .cells #[.pointer none, .pointer none] 214 (0, 0))], R0])
  refine WC.seq (WC.seq (WC.region ?_))
  refine WL.q (oq_move rfl) rfl rfl rfl ?_
  refine WL.q (oq_pneq Tryz.underlying212 rfl rfl) rfl rfl rfl ?_
  refine WL.nil (WE.then_normal (WC.sub (fr' := [(1, _), (4, _), (5, _), (6, _), (12, _)]) ?_ ⟨rfl, rfl, rfl, rfl, rfl, trivial⟩))
  refine WC.cond rfl (fun q2 => ?_) (fun q2 => ?_)
  ·
   try simp only [Z1, Z2, Z3, Z4, Z5, Z6, Z7, Z8, Z9, Z0] at q2
   simp at q2
  ·
   try simp only [Z1, Z2, Z3, Z4, Z5, Z6, Z7, Z8, Z9, Z0] at q2
   refine WC.exit (WE.then_exit (WE.then_exit (WE.block_same (WE.then_normal (WC.sub (fr' := [(4, _), (5, _)]) ?_ ⟨rfl, rfl, trivial⟩)))))
   refine WC.ret ?_
   refine WE.endW1 (.inl rfl) (res2 Tryz.results125 rfl rfl) ?_
   exact ⟨.inr ⟨by simp, rfl⟩, rfl⟩
theorem id3 (base : Nat) (i : List UInt8) (fv : Value) : FnW Tryz.prog 161 [.agg #[S i, fv]] base [] (fun v Hs => v = S i ∧ Hs = []) := by
 refine FnW.enter (n := 5) Tryz.func161 rfl rfl fun w0 R0 hbase => ?_
 subst hbase
 show WC _ _ _ _ _ _ _ ([R0])
 refine WC.sub (fr' := [(0, _)]) ?_ ⟨rfl, trivial⟩
 refine WC.seq (WC.region ?_)
 refine WL.box rfl rfl rfl fun b0_0 hb0_0 => ?_
 refine WL.q (oq_assign rfl) rfl rfl rfl ?_
 refine WL.nil (WE.then_normal (WC.sub (fr' := [(1, _)]) ?_ ⟨rfl, trivial⟩))
 refine WC.seq (WC.region ?_)
 refine WL.q (oq_fieldAddr fld243_0 rfl) rfl rfl rfl ?_
 refine WL.q (oq_load flat9 rfl (.head _) (List.mem_singleton.2 rfl) rfl) rfl rfl rfl ?_
 refine WL.q (oq_assign rfl) rfl rfl rfl ?_
 refine WL.nil (WE.then_normal (WC.sub (fr' := [(2, _)]) ?_ ⟨rfl, trivial⟩))
 refine WC.ret ?_
 refine WE.lose hb0_0 ?_
 refine WE.endW0 (.inl rfl) (res1 Tryz.results161 rfl) ?_
 exact ⟨rfl, rfl⟩
theorem getC3 (base sb : Nat) (items : List Nd) (x0 : Nd) (r0 : List Nd) (h0 : items = x0 :: r0) (id : List UInt8) : FnW Tryz.prog 126 [Pt sb 0, S id] base [[(sb, .cells #[hdp items, lastp items] 220 (0, 0))], ch 218 222 243 items .nilIface] (fun v Hs => GotV id items v ∧ Hs = [[(sb, .cells #[hdp items, lastp items] 220 (0, 0))], ch 218 222 243 items .nilIface]) := by
 refine FnW.enter (n := 35) Tryz.func126 rfl rfl fun w0 R0 hbase => ?_
 subst hbase
 show WC _ _ _ _ _ _ _ ([[(sb, .cells #[hdp items, lastp items] 220 (0, 0))], ch 218 222 243 items .nilIface, R0])
 refine WC.sub (fr' := [(0, _), (1, _)]) ?_ ⟨rfl, rfl, trivial⟩
 refine WC.seq (WC.region ?_)
 refine WL.q (oq_assign rfl) rfl rfl rfl ?_
 refine WL.q (oq_assign rfl) rfl rfl rfl ?_
 refine WL.nil (WE.then_normal (WC.sub (fr' := [(0, _), (1, _), (4, _), (5, _)]) ?_ ⟨rfl, rfl, rfl, rfl, trivial⟩))
 refine WC.seq (WC.seq ?_)
 have hd0 : hdp items = Pt x0.b 0 := by rw [h0]; rfl
 rw [hd0]
 refine WC.region ?_
 refine WL.q (oq_move rfl) rfl rfl rfl ?_
 refine WL.q (oq_nilCheck rfl) rfl rfl rfl ?_
 refine WL.q (oq_fieldAddr fld220_0 rfl) rfl rfl rfl ?_
 refine WL.q (oq_load flat218 rfl (.head _) (List.mem_singleton.2 rfl) rfl) rfl rfl rfl ?_
 refine WL.q (oq_assign rfl) rfl rfl rfl ?_
 refine WL.nil (WE.then_normal (WC.sub (fr' := [(1, _), (4, _), (5, _), (6, _)]) ?_ ⟨rfl, rfl, rfl, rfl, trivial⟩))
 refine WC.block ?_
 refine WC.loop (ι := (List Nd) × Nd × (List Nd)) (fun i_ => (fun (A : List Nd) (x : Nd) (B : List Nd) => [(1, S id), (4, .pointer none), (5, lastp A), (6, Pt x.b 0)]) i_.1 i_.2.1 i_.2.2) (fun i_ => (fun (A : List Nd) (x : Nd) (B : List Nd) => [[(sb, .cells #[(Pt x0.b 0), (lastp items)] 220 (0, 0))], ch 218 222 243 items .nilIface, R0]) i_.1 i_.2.1 i_.2.2) (fun i_ => (fun (A : List Nd) (x : Nd) (B : List Nd) => items = A ++ x :: B ∧ ∀ y ∈ A, y.id ≠ id) i_.1 i_.2.1 i_.2.2) (fun i_ => (fun (A : List Nd) (x : Nd) (B : List Nd) => B.length) i_.1 i_.2.1 i_.2.2) (([], x0, r0)) ?_ ⟨rfl, rfl, rfl, rfl, trivial⟩ (List.Perm.refl _) ?_
 ·try dsimp only
  exact ⟨h0, by simp⟩
 ·rintro ⟨A, x, B⟩ hp
  try dsimp only at hp
  obtain ⟨hit, hA⟩ := hp
  show WC _ _ _ _ _ _ ([(1, S id), (4, .pointer none), (5, lastp A), (6, Pt x.b 0)]) ([[(sb, .cells #[(Pt x0.b 0), (lastp items)] 220 (0, 0))], ch 218 222 243 items .nilIface, R0])
  refine WC.seq (WC.seq (WC.region ?_))
  refine WL.q (oq_move rfl) rfl rfl rfl ?_
  refine WL.q (oq_pneq Tryz.underlying218 rfl rfl) rfl rfl rfl ?_
  refine WL.nil (WE.then_normal (WC.sub (fr' := [(1, _), (4, _), (5, _), (6, _), (12, _)]) ?_ ⟨rfl, rfl, rfl, rfl, rfl, trivial⟩))
  refine WC.cond rfl (fun q2 => ?_) (fun q2 => ?_)
  ·
   try simp only [Z1, Z2, Z3, Z4, Z5, Z6, Z7, Z8, Z9, Z0] at q2
   refine WC.skip (WE.then_normal (WC.sub (fr' := [(1, _), (4, _), (5, _), (6, _)]) ?_ ⟨rfl, rfl, rfl, rfl, trivial⟩))
   refine WC.block (WC.seq (WC.seq (WC.region ?_)))
   refine WL.q (oq_move rfl) rfl rfl rfl ?_
   refine WL.q (oq_nilCheck rfl) rfl rfl rfl ?_
   refine WL.q (oq_fieldAddr fld222_1 rfl) rfl rfl rfl ?_
   refine WL.q (oq_load flat159 rfl (.tail _ (.head _)) (by rw [hit]; exact ch_mem _ _ _ _) rfl) rfl rfl rfl ?_
   refine WL.callWE (fun a w hf => ent_inv0 invID3 rfl hf w) (id3 _ x.id x.fv) rfl rfl rfl rfl fun v3_4 Hs3_4 hR3_4 => ?_
   obtain ⟨rfl, rfl⟩ := hR3_4
   refine WL.q (oq_move rfl) rfl rfl rfl ?_
   refine WL.q (oq_seql rfl rfl) rfl rfl rfl ?_
   refine WL.nil (WE.then_normal (WC.sub (fr' := [(1, _), (4, _), (5, _), (6, _), (19, _)]) ?_ ⟨rfl, rfl, rfl, rfl, rfl, trivial⟩))
   refine WC.cond rfl (fun q3 => ?_) (fun q3 => ?_)
   ·
    try simp only [Z1, Z2, Z3, Z4, Z5, Z6, Z7, Z8, Z9, Z0] at q3
    refine WC.seq (WC.region ?_)
    refine WL.q (oq_move rfl) rfl rfl rfl ?_
    refine WL.q (oq_assign rfl) rfl rfl rfl ?_
    refine WL.nil (WE.then_normal (WC.sub (fr' := [(4, _), (5, _)]) ?_ ⟨rfl, rfl, trivial⟩))
    refine WC.ret (WE.then_ret (WE.block_ret (WE.then_ret (WE.block_ret (WE.then_ret ?_)))))
    refine WE.endW2 (.inl rfl) (res2 Tryz.results126 rfl rfl) ?_
    exact ⟨.inl ⟨A, x, B, hit, q3, hA, rfl⟩, rfl⟩
   ·
    try simp only [Z1, Z2, Z3, Z4, Z5, Z6, Z7, Z8, Z9, Z0] at q3
    refine WC.skip (WE.then_normal (WC.sub (fr' := [(1, _), (4, _), (6, _)]) ?_ ⟨rfl, rfl, rfl, trivial⟩))
    refine WC.seq (WC.region ?_)
    refine WL.q (oq_move rfl) rfl rfl rfl ?_
    refine WL.q (oq_assign rfl) rfl rfl rfl ?_
    refine WL.nil (WE.then_normal (WC.sub (fr' := [(1, _), (4, _), (5, _), (6, _)]) ?_ ⟨rfl, rfl, rfl, rfl, trivial⟩))
    refine WC.seq (WC.seq (WC.region ?_))
    refine WL.q (oq_move rfl) rfl rfl rfl ?_
    refine WL.q (oq_nilCheck rfl) rfl rfl rfl ?_
    refine WL.q (oq_fieldAddr fld222_0 rfl) rfl rfl rfl ?_
    refine WL.q (oq_load flat163 rfl (.tail _ (.head _)) (by rw [hit]; exact ch_mem _ _ _ _) rfl) rfl rfl rfl ?_
    refine WL.q (oq_ieql Tryz.underlying163 rfl (nextOf_or _ _)) rfl rfl rfl ?_
    refine WL.nil (WE.then_normal (WC.sub (fr' := [(1, _), (4, _), (5, _), (6, _), (26, _)]) ?_ ⟨rfl, rfl, rfl, rfl, rfl, trivial⟩))
    refine WC.cond rfl (fun q6 => ?_) (fun q6 => ?_)
    ·
     try simp only [Z1, Z2, Z3, Z4, Z5, Z6, Z7, Z8, Z9, Z0] at q6
     refine WC.ret (WE.then_ret (WE.block_ret (WE.then_ret (WE.block_ret (WE.then_ret ?_)))))
     refine WE.endW2 (.inl rfl) (res2 Tryz.results126 rfl rfl) ?_
     have hB := nextOf_nil q6
     subst hB
     exact ⟨.inr ⟨fun z hz => by rw [hit] at hz; rcases List.mem_append.1 hz with h | h; exact hA z h; rw [List.mem_singleton.1 h]; exact q3, by rw [hit, lastp_snoc]⟩, rfl⟩
    ·
     try simp only [Z1, Z2, Z3, Z4, Z5, Z6, Z7, Z8, Z9, Z0] at q6
     refine WC.skip (WE.then_normal (WC.sub (fr' := [(1, _), (4, _), (5, _), (6, _)]) ?_ ⟨rfl, rfl, rfl, rfl, trivial⟩))
     obtain ⟨y, B2, rfl⟩ := nextOf_cons q6
     refine WC.region ?_
     refine WL.q (oq_move rfl) rfl rfl rfl ?_
     refine WL.q (oq_nilCheck rfl) rfl rfl rfl ?_
     refine WL.q (oq_fieldAddr fld222_0 rfl) rfl rfl rfl ?_
     refine WL.q (oq_load flat163 rfl (.tail _ (.head _)) (by rw [hit]; exact ch_mem _ _ _ _) rfl) rfl rfl rfl ?_
     refine WL.q (oq_askC conc218 rfl) rfl rfl rfl ?_
     refine WL.q (oq_move rfl) rfl rfl rfl ?_
     refine WL.q (oq_extract rfl rfl) rfl rfl rfl ?_
     refine WL.q (oq_extract rfl rfl) rfl rfl rfl ?_
     refine WL.q (oq_assign rfl) rfl rfl rfl ?_
     refine WL.nil (WE.block_normal ?_)
     refine WE.again (A ++ [x], y, B2) ?_ ?_ ⟨rfl, rfl, (gtv rfl (lastp_snoc _ _).symm), rfl, trivial⟩ (List.Perm.refl _)
     ·try dsimp only
      exact ⟨by rw [hit]; simp, fun z hz => by rcases List.mem_append.1 hz with h | h; exact hA z h; rw [List.mem_singleton.1 h]; exact q3⟩
     ·(try dsimp only); simp
  ·
   try simp only [Z1, Z2, Z3, Z4, Z5, Z6, Z7, Z8, Z9, Z0] at q2
   simp at q2
theorem getN3 (base sb : Nat) (id : List UInt8) : FnW Tryz.prog 126 [Pt sb 0, S id] base [[(sb, .cells #[.pointer none, .pointer none] 220 (0, 0))]] (fun v Hs => GotV id [] v ∧ Hs = [[(sb, .cells #[.pointer none, .pointer none] 220 (0, 0))]]) := by
 refine FnW.enter (n := 35) Tryz.func126 rfl rfl fun w0 R0 hbase => ?_
 subst hbase
 show WC _ _ _ _ _ _ _ ([[(sb, .cells #[.pointer none, .pointer none] 220 (0, 0))], R0])
 refine WC.sub (fr' := [(0, _), (1, _)]) ?_ ⟨rfl, rfl, trivial⟩
 refine WC.seq (WC.region ?_)
 refine WL.q (oq_assign rfl) rfl rfl rfl ?_
 refine WL.q (oq_assign rfl) rfl rfl rfl ?_
 refine WL.nil (WE.then_normal (WC.sub (fr' := [(0, _), (1, _), (4, _), (5, _)]) ?_ ⟨rfl, rfl, rfl, rfl, trivial⟩))
 refine WC.seq (WC.seq (WC.region ?_))
 refine WL.q (oq_move rfl) rfl rfl rfl ?_
 refine WL.q (oq_nilCheck rfl) rfl rfl rfl ?_
 refine WL.q (oq_fieldAddr fld220_0 rfl) rfl rfl rfl ?_
 refine WL.q (oq_load flat218 rfl (.head _) (List.mem_singleton.2 rfl) rfl) rfl rfl rfl ?_
 refine WL.q (oq_assign rfl) rfl rfl rfl ?_
 refine WL.nil (WE.then_normal (WC.sub (fr' := [(1, _), (4, _), (5, _), (6, _)]) ?_ ⟨rfl, rfl, rfl, rfl, trivial⟩))
 refine WC.block ?_
 refine WC.loop (ι := Unit) (fun _ => [(1, S id), (4, .pointer none), (5, .pointer none), (6, .pointer none)]) (fun _ => [[(sb, .cells #[.pointer none, .pointer none] 220 (0, 0))], R0]) (fun _ => True) (fun _ => 0) (()) ?_ ⟨rfl, rfl, rfl, rfl, trivial⟩ (List.Perm.refl _) ?_
 ·try dsimp only
  all_goals trivial
 ·rintro _ hp
  try dsimp only at hp
  show WC _ _ _ _ _ _ ([(1, S id), (4, .pointer none), (5, .pointer none), (6, .pointer none)]) ([[(sb, .cells #[.pointer none, .pointer none] 220 (0, 0))], R0])
  refine WC.seq (WC.seq (WC.region ?_))
  refine WL.q (oq_move rfl) rfl rfl rfl ?_
  refine WL.q (oq_pneq Tryz.underlying218 rfl rfl) rfl rfl rfl ?_
  refine WL.nil (WE.then_normal (WC.sub (fr' := [(1, _), (4, _), (5, _), (6, _), (12, _)]) ?_ ⟨rfl, rfl, rfl, rfl, rfl, trivial⟩))
  refine WC.cond rfl (fun q2 => ?_) (fun q2 => ?_)
  ·
   try simp only [Z1, Z2, Z3, Z4, Z5, Z6, Z7, Z8, Z9, Z0] at q2
   simp at q2
  ·
   try simp only [Z1, Z2, Z3, Z4, Z5, Z6, Z7, Z8, Z9, Z0] at q2
   refine WC.exit (WE.then_exit (WE.then_exit (WE.block_same (WE.then_normal (WC.sub (fr' := [(4, _), (5, _)]) ?_ ⟨rfl, rfl, trivial⟩)))))
   refine WC.ret ?_
   refine WE.endW1 (.inl rfl) (res2 Tryz.results126 rfl rfl) ?_
   exact ⟨.inr ⟨by simp, rfl⟩, rfl⟩
theorem id4 (base : Nat) (i : List UInt8) (fv : Value) : FnW Tryz.prog 163 [.agg #[S i, fv]] base [] (fun v Hs => v = S i ∧ Hs = []) := by
 refine FnW.enter (n := 5) Tryz.func163 rfl rfl fun w0 R0 hbase => ?_
 subst hbase
 show WC _ _ _ _ _ _ _ ([R0])
 refine WC.sub (fr' := [(0, _)]) ?_ ⟨rfl, trivial⟩
 refine WC.seq (WC.region ?_)
 refine WL.box rfl rfl rfl fun b0_0 hb0_0 => ?_
 refine WL.q (oq_assign rfl) rfl rfl rfl ?_
 refine WL.nil (WE.then_normal (WC.sub (fr' := [(1, _)]) ?_ ⟨rfl, trivial⟩))
 refine WC.seq (WC.region ?_)
 refine WL.q (oq_fieldAddr fld247_0 rfl) rfl rfl rfl ?_
 refine WL.q (oq_load flat9 rfl (.head _) (List.mem_singleton.2 rfl) rfl) rfl rfl rfl ?_
 refine WL.q (oq_assign rfl) rfl rfl rfl ?_
 refine WL.nil (WE.then_normal (WC.sub (fr' := [(2, _)]) ?_ ⟨rfl, trivial⟩))
 refine WC.ret ?_
 refine WE.lose hb0_0 ?_
 refine WE.endW0 (.inl rfl) (res1 Tryz.results163 rfl) ?_
 exact ⟨rfl, rfl⟩
theorem getC4 (base sb : Nat) (items : List Nd) (x0 : Nd) (r0 : List Nd) (h0 : items = x0 :: r0) (id : List UInt8) : FnW Tryz.prog 127 [Pt sb 0, S id] base [[(sb, .cells #[hdp items, lastp items] 226 (0, 0))], ch 224 228 247 items .nilIface] (fun v Hs => GotV id items v ∧ Hs = [[(sb, .cells #[hdp items, lastp items] 226 (0, 0))], ch 224 228 247 items .nilIface]) := by
 refine FnW.enter (n := 35) Tryz.func127 rfl rfl fun w0 R0 hbase => ?_
 subst hbase
 show WC _ _ _ _ _ _ _ ([[(sb, .cells #[hdp items, lastp items] 226 (0, 0))], ch 224 228 247 items .nilIface, R0])
 refine WC.sub (fr' := [(0, _), (1, _)]) ?_ ⟨rfl, rfl, trivial⟩
 refine WC.seq (WC.region ?_)
 refine WL.q (oq_assign rfl) rfl rfl rfl ?_
 refine WL.q (oq_assign rfl) rfl rfl rfl ?_
 refine WL.nil (WE.then_normal (WC.sub (fr' := [(0, _), (1, _), (4, _), (5, _)]) ?_ ⟨rfl, rfl, rfl, rfl, trivial⟩))
 refine WC.seq (WC.seq ?_)
 have hd0 : hdp items = Pt x0.b 0 := by rw [h0]; rfl
 rw [hd0]
 refine WC.region ?_
 refine WL.q (oq_move rfl) rfl rfl rfl ?_
 refine WL.q (oq_nilCheck rfl) rfl rfl rfl ?_
 refine WL.q (oq_fieldAddr fld226_0 rfl) rfl rfl rfl ?_
 refine WL.q (oq_load flat224 rfl (.head _) (List.mem_singleton.2 rfl) rfl) rfl rfl rfl ?_
 refine WL.q (oq_assign rfl) rfl rfl rfl ?_
 refine WL.nil (WE.then_normal (WC.sub (fr' := [(1, _), (4, _), (5, _), (6, _)]) ?_ ⟨rfl, rfl, rfl, rfl, trivial⟩))
 refine WC.block ?_
 refine WC.loop (ι := (List Nd) × Nd × (List Nd)) (fun i_ => (fun (A : List Nd) (x : Nd) (B : List Nd) => [(1, S id), (4, .pointer none), (5, lastp A), (6, Pt x.b 0)]) i_.1 i_.2.1 i_.2.2) (fun i_ => (fun (A : List Nd) (x : Nd) (B : List Nd) => [[(sb, .cells #[(Pt x0.b 0), (lastp items)] 226 (0, 0))], ch 224 228 247 items .nilIface, R0]) i_.1 i_.2.1 i_.2.2) (fun i_ => (fun (A : List Nd) (x : Nd) (B : List Nd) => items = A ++ x :: B ∧ ∀ y ∈ A, y.id ≠ id) i_.1 i_.2.1 i_.2.2) (fun i_ => (fun (A : List Nd) (x : Nd) (B : List Nd) => B.length) i_.1 i_.2.1 i_.2.2) (([], x0, r0)) ?_ ⟨rfl, rfl, rfl, rfl, trivial⟩ (List.Perm.refl _) ?_
 ·try dsimp only
  exact ⟨h0, by simp⟩
 ·rintro ⟨A, x, B⟩ hp
  try dsimp only at hp
  obtain ⟨hit, hA⟩ := hp
  show WC _ _ _ _ _ _ ([(1, S id), (4, .pointer none), (5, lastp A), (6, Pt x.b 0)]) ([[(sb, .cells #[(Pt x0.b 0), (lastp items)] 226 (0, 0))], ch 224 228 247 items .nilIface, R0])
  refine WC.seq (WC.seq (WC.region ?_))
  refine WL.q (oq_move rfl) rfl rfl rfl ?_
  refine WL.q (oq_pneq Tryz.underlying224 rfl rfl) rfl rfl rfl ?_
  refine WL.nil (WE.then_normal (WC.sub (fr' := [(1, _), (4, _), (5, _), (6, _), (12, _)]) ?_ ⟨rfl, rfl, rfl, rfl, rfl, trivial⟩))
  refine WC.cond rfl (fun q2 => ?_) (fun q2 => ?_)
  ·
   try simp only [Z1, Z2, Z3, Z4, Z5, Z6, Z7, Z8, Z9, Z0] at q2
   refine WC.skip (WE.then_normal (WC.sub (fr' := [(1, _), (4, _), (5, _), (6, _)]) ?_ ⟨rfl, rfl, rfl, rfl, trivial⟩))
   refine WC.block (WC.seq (WC.seq (WC.region ?_)))
   refine WL.q (oq_move rfl) rfl rfl rfl ?_
   refine WL.q (oq_nilCheck rfl) rfl rfl rfl ?_
   refine WL.q (oq_fieldAddr fld228_1 rfl) rfl rfl rfl ?_
   refine WL.q (oq_load flat177 rfl (.tail _ (.head _)) (by rw [hit]; exact ch_mem _ _ _ _) rfl) rfl rfl rfl ?_
   refine WL.callWE (fun a w hf => ent_inv0 invID4 rfl hf w) (id4 _ x.id x.fv) rfl rfl rfl rfl fun v3_4 Hs3_4 hR3_4 => ?_
   obtain ⟨rfl, rfl⟩ := hR3_4
   refine WL.q (oq_move rfl) rfl rfl rfl ?_
   refine WL.q (oq_seql rfl rfl) rfl rfl rfl ?_
   refine WL.nil (WE.then_normal (WC.sub (fr' := [(1, _), (4, _), (5, _), (6, _), (19, _)]) ?_ ⟨rfl, rfl, rfl, rfl, rfl, trivial⟩))
   refine WC.cond rfl (fun q3 => ?_) (fun q3 => ?_)
   ·
    try simp only [Z1, Z2, Z3, Z4, Z5, Z6, Z7, Z8, Z9, Z0] at q3
    refine WC.seq (WC.region ?_)
    refine WL.q (oq_move rfl) rfl rfl rfl ?_
    refine WL.q (oq_assign rfl) rfl rfl rfl ?_
    refine WL.nil (WE.then_normal (WC.sub (fr' := [(4, _), (5, _)]) ?_ ⟨rfl, rfl, trivial⟩))
    refine WC.ret (WE.then_ret (WE.block_ret (WE.then_ret (WE.block_ret (WE.then_ret ?_)))))
    refine WE.endW2 (.inl rfl) (res2 Tryz.results127 rfl rfl) ?_
    exact ⟨.inl ⟨A, x, B, hit, q3, hA, rfl⟩, rfl⟩
   ·
    try simp only [Z1, Z2, Z3, Z4, Z5, Z6, Z7, Z8, Z9, Z0] at q3
    refine WC.skip (WE.then_normal (WC.sub (fr' := [(1, _), (4, _), (6, _)]) ?_ ⟨rfl, rfl, rfl, trivial⟩))
    refine WC.seq (WC.region ?_)
    refine WL.q (oq_move rfl) rfl rfl rfl ?_
    refine WL.q (oq_assign rfl) rfl rfl rfl ?_
    refine WL.nil (WE.then_normal (WC.sub (fr' := [(1, _), (4, _), (5, _), (6, _)]) ?_ ⟨rfl, rfl, rfl, rfl, trivial⟩))
    refine WC.seq (WC.seq (WC.region ?_))
    refine WL.q (oq_move rfl) rfl rfl rfl ?_
    refine WL.q (oq_nilCheck rfl) rfl rfl rfl ?_
    refine WL.q (oq_fieldAddr fld228_0 rfl) rfl rfl rfl ?_
    refine WL.q (oq_load flat181 rfl (.tail _ (.head _)) (by rw [hit]; exact ch_mem _ _ _ _) rfl) rfl rfl rfl ?_
    refine WL.q (oq_ieql Tryz.underlying181 rfl (nextOf_or _ _)) rfl rfl rfl ?_
    refine WL.nil (WE.then_normal (WC.sub (fr' := [(1, _), (4, _), (5, _), (6, _), (26, _)]) ?_ ⟨rfl, rfl, rfl, rfl, rfl, trivial⟩))
    refine WC.cond rfl (fun q6 => ?_) (fun q6 => ?_)
    ·
     try simp only [Z1, Z2, Z3, Z4, Z5, Z6, Z7, Z8, Z9, Z0] at q6
     refine WC.ret (WE.then_ret (WE.block_ret (WE.then_ret (WE.block_ret (WE.then_ret ?_)))))
     refine WE.endW2 (.inl rfl) (res2 Tryz.results127 rfl rfl) ?_
     have hB := nextOf_nil q6
     subst hB
     exact ⟨.inr ⟨fun z hz => by rw [hit] at hz; rcases List.mem_append.1 hz with h | h; exact hA z h; rw [List.mem_singleton.1 h]; exact q3, by rw [hit, lastp_snoc]⟩, rfl⟩
    ·
     try simp only [Z1, Z2, Z3, Z4, Z5, Z6, Z7, Z8, Z9, Z0] at q6
     refine WC.skip (WE.then_normal (WC.sub (fr' := [(1, _), (4, _), (5, _), (6, _)]) ?_ ⟨rfl, rfl, rfl, rfl, trivial⟩))
     obtain ⟨y, B2, rfl⟩ := nextOf_cons q6
     refine WC.region ?_
     refine WL.q (oq_move rfl) rfl rfl rfl ?_
     refine WL.q (oq_nilCheck rfl) rfl rfl rfl ?_
     refine WL.q (oq_fieldAddr fld228_0 rfl) rfl rfl rfl ?_
     refine WL.q (oq_load flat181 rfl (.tail _ (.head _)) (by rw [hit]; exact ch_mem _ _ _ _) rfl) rfl rfl rfl ?_
     refine WL.q (oq_askC conc224 rfl) rfl rfl rfl ?_
     refine WL.q (oq_move rfl) rfl rfl rfl ?_
     refine WL.q (oq_extract rfl rfl) rfl rfl rfl ?_
     refine WL.q (oq_extract rfl rfl) rfl rfl rfl ?_
     refine WL.q (oq_assign rfl) rfl rfl rfl ?_
     refine WL.nil (WE.block_normal ?_)
     refine WE.again (A ++ [x], y, B2) ?_ ?_ ⟨rfl, rfl, (gtv rfl (lastp_snoc _ _).symm), rfl, trivial⟩ (List.Perm.refl _)
     ·try dsimp only
      exact ⟨by rw [hit]; simp, fun z hz => by rcases List.mem_append.1 hz with h | h; exact hA z h; rw [List.mem_singleton.1 h]; exact q3⟩
     ·(try dsimp only); simp
  ·
   try simp only [Z1, Z2, Z3, Z4, Z5, Z6, Z7, Z8, Z9, Z0] at q2
   simp at q2
theorem getN4 (base sb : Nat) (id : List UInt8) : FnW Tryz.prog 127 [Pt sb 0, S id] base [[(sb, .cells #[.pointer none, .pointer none] 226 (0, 0))]] (fun v Hs => GotV id [] v ∧ Hs = [[(sb, .cells #[.pointer none, .pointer none] 226 (0, 0))]]) := by
 refine FnW.enter (n := 35) Tryz.func127 rfl rfl fun w0 R0 hbase => ?_
 subst hbase
 show WC _ _ _ _ _ _ _ ([[(sb, .cells #[.pointer none, .pointer none] 226 (0, 0))], R0])
 refine WC.sub (fr' := [(0, _), (1, _)]) ?_ ⟨rfl, rfl, trivial⟩
 refine WC.seq (WC.region ?_)
 refine WL.q (oq_assign rfl) rfl rfl rfl ?_
 refine WL.q (oq_assign rfl) rfl rfl rfl ?_
 refine WL.nil (WE.then_normal (WC.sub (fr' := [(0, _), (1, _), (4, _), (5, _)]) ?_ ⟨rfl, rfl, rfl, rfl, trivial⟩))
 refine WC.seq (WC.seq (WC.region ?_))
 refine WL.q (oq_move rfl) rfl rfl rfl ?_
 refine WL.q (oq_nilCheck rfl) rfl rfl rfl ?_
 refine WL.q (oq_fieldAddr fld226_0 rfl) rfl rfl rfl ?_
 refine WL.q (oq_load flat224 rfl (.head _) (List.mem_singleton.2 rfl) rfl) rfl rfl rfl ?_
 refine WL.q (oq_assign rfl) rfl rfl rfl ?_
 refine WL.nil (WE.then_normal (WC.sub (fr' := [(1, _), (4, _), (5, _), (6, _)]) ?_ ⟨rfl, rfl, rfl, rfl, trivial⟩))
 refine WC.block ?_
 refine WC.loop (ι := Unit) (fun _ => [(1, S id), (4, .pointer none), (5, .pointer none), (6, .pointer none)]) (fun _ => [[(sb, .cells #[.pointer none, .pointer none] 226 (0, 0))], R0]) (fun _ => True) (fun _ => 0) (()) ?_ ⟨rfl, rfl, rfl, rfl, trivial⟩ (List.Perm.refl _) ?_
 ·try dsimp only
  all_goals trivial
 ·rintro _ hp
  try dsimp only at hp
  show WC _ _ _ _ _ _ ([(1, S id), (4, .pointer none), (5, .pointer none), (6, .pointer none)]) ([[(sb, .cells #[.pointer none, .pointer none] 226 (0, 0))], R0])
  refine WC.seq (WC.seq (WC.region ?_))
  refine WL.q (oq_move rfl) rfl rfl rfl ?_
  refine WL.q (oq_pneq Tryz.underlying224 rfl rfl) rfl rfl rfl ?_
  refine WL.nil (WE.then_normal (WC.sub (fr' := [(1, _), (4, _), (5, _), (6, _), (12, _)]) ?_ ⟨rfl, rfl, rfl, rfl, rfl, trivial⟩))
  refine WC.cond rfl (fun q2 => ?_) (fun q2 => ?_)
  ·
   try simp only [Z1, Z2, Z3, Z4, Z5, Z6, Z7, Z8, Z9, Z0] at q2
   simp at q2
  ·
   try simp only [Z1, Z2, Z3, Z4, Z5, Z6, Z7, Z8, Z9, Z0] at q2
   refine WC.exit (WE.then_exit (WE.then_exit (WE.block_same (WE.then_normal (WC.sub (fr' := [(4, _), (5, _)]) ?_ ⟨rfl, rfl, trivial⟩)))))
   refine WC.ret ?_
   refine WE.endW1 (.inl rfl) (res2 Tryz.results127 rfl rfl) ?_
   exact ⟨.inr ⟨by simp, rfl⟩, rfl⟩
end S0
end Go.Proofs.YtiegaefkahnfjaaGreat
