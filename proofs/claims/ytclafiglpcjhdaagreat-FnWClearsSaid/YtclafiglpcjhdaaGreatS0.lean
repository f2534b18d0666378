/- Walks: where a name stands in a step. -/
import Derived.Test.YtclafiglpcjhdaaGreatVO
import Derived.Test.YtclafiglpcjhdaaGreatProg
namespace Go.Proofs.YtclafiglpcjhdaaGreat
open Go Go.RowKit V
set_option linter.unusedSimpArgs false
set_option linter.unusedVariables false
set_option maxRecDepth 10000
namespace S0
theorem flat9 : Flat Tryz.prog 9 := ⟨_, Tryz.underlying9, by simp⟩
theorem flat104 : Flat Tryz.prog 104 := ⟨_, Tryz.underlying104, by simp⟩
theorem flat109 : Flat Tryz.prog 109 := ⟨_, Tryz.underlying109, by simp⟩
theorem flat127 : Flat Tryz.prog 127 := ⟨_, Tryz.underlying127, by simp⟩
theorem flat132 : Flat Tryz.prog 132 := ⟨_, Tryz.underlying132, by simp⟩
theorem flat146 : Flat Tryz.prog 146 := ⟨_, Tryz.underlying146, by simp⟩
theorem flat151 : Flat Tryz.prog 151 := ⟨_, Tryz.underlying151, by simp⟩
theorem flat165 : Flat Tryz.prog 165 := ⟨_, Tryz.underlying165, by simp⟩
theorem flat169 : Flat Tryz.prog 169 := ⟨_, Tryz.underlying169, by simp⟩
theorem flat183 : Flat Tryz.prog 183 := ⟨_, Tryz.underlying183, by simp⟩
theorem flat187 : Flat Tryz.prog 187 := ⟨_, Tryz.underlying187, by simp⟩
theorem flat201 : Flat Tryz.prog 201 := ⟨_, Tryz.underlying201, by simp⟩
theorem flat204 : Flat Tryz.prog 204 := ⟨_, Tryz.underlying204, by simp⟩
theorem flat207 : Flat Tryz.prog 207 := ⟨_, Tryz.underlying207, by simp⟩
theorem flat210 : Flat Tryz.prog 210 := ⟨_, Tryz.underlying210, by simp⟩
theorem flat213 : Flat Tryz.prog 213 := ⟨_, Tryz.underlying213, by simp⟩
theorem ty9 : Ty Tryz.prog 9 (S []) 1 16 := ty_of (by kernel_rfl)
theorem ty104 : Ty Tryz.prog 104 .nilIface 1 16 := ty_of (by kernel_rfl)
theorem ty109 : Ty Tryz.prog 109 .nilIface 1 16 := ty_of (by kernel_rfl)
theorem ty127 : Ty Tryz.prog 127 .nilIface 1 16 := ty_of (by kernel_rfl)
theorem ty132 : Ty Tryz.prog 132 .nilIface 1 16 := ty_of (by kernel_rfl)
theorem ty146 : Ty Tryz.prog 146 .nilIface 1 16 := ty_of (by kernel_rfl)
theorem ty151 : Ty Tryz.prog 151 .nilIface 1 16 := ty_of (by kernel_rfl)
theorem ty165 : Ty Tryz.prog 165 .nilIface 1 16 := ty_of (by kernel_rfl)
theorem ty169 : Ty Tryz.prog 169 .nilIface 1 16 := ty_of (by kernel_rfl)
theorem ty183 : Ty Tryz.prog 183 .nilIface 1 16 := ty_of (by kernel_rfl)
theorem ty187 : Ty Tryz.prog 187 .nilIface 1 16 := ty_of (by kernel_rfl)
theorem ty201 : Ty Tryz.prog 201 (.pointer none) 1 8 := ty_of (by kernel_rfl)
theorem ty204 : Ty Tryz.prog 204 (.pointer none) 1 8 := ty_of (by kernel_rfl)
theorem ty207 : Ty Tryz.prog 207 (.pointer none) 1 8 := ty_of (by kernel_rfl)
theorem ty210 : Ty Tryz.prog 210 (.pointer none) 1 8 := ty_of (by kernel_rfl)
theorem ty213 : Ty Tryz.prog 213 (.pointer none) 1 8 := ty_of (by kernel_rfl)
theorem conc201 : Conc Tryz.prog 201 := ⟨_, Tryz.underlying201, by simp⟩
theorem conc204 : Conc Tryz.prog 204 := ⟨_, Tryz.underlying204, by simp⟩
theorem conc207 : Conc Tryz.prog 207 := ⟨_, Tryz.underlying207, by simp⟩
theorem conc210 : Conc Tryz.prog 210 := ⟨_, Tryz.underlying210, by simp⟩
theorem conc213 : Conc Tryz.prog 213 := ⟨_, Tryz.underlying213, by simp⟩
theorem fld203_0 : Fld Tryz.prog 203 0 0 201 := fld_of Tryz.underlying203 rfl rfl rfl ty201 (by decide)
theorem fld206_0 : Fld Tryz.prog 206 0 0 204 := fld_of Tryz.underlying206 rfl rfl rfl ty204 (by decide)
theorem fld209_0 : Fld Tryz.prog 209 0 0 207 := fld_of Tryz.underlying209 rfl rfl rfl ty207 (by decide)
theorem fld212_0 : Fld Tryz.prog 212 0 0 210 := fld_of Tryz.underlying212 rfl rfl rfl ty210 (by decide)
theorem fld215_0 : Fld Tryz.prog 215 0 0 213 := fld_of Tryz.underlying215 rfl rfl rfl ty213 (by decide)
theorem fld217_0 : Fld Tryz.prog 217 0 0 9 := fld_of Tryz.underlying217 rfl rfl rfl ty9 (by decide)
theorem fld219_0 : Fld Tryz.prog 219 0 0 109 := fld_of Tryz.underlying219 rfl rfl rfl ty109 (by decide)
theorem fld219_1 : Fld Tryz.prog 219 1 1 104 := fld_of Tryz.underlying219 rfl rfl rfl ty104 (by decide)
theorem fld225_0 : Fld Tryz.prog 225 0 0 9 := fld_of Tryz.underlying225 rfl rfl rfl ty9 (by decide)
theorem fld227_0 : Fld Tryz.prog 227 0 0 132 := fld_of Tryz.underlying227 rfl rfl rfl ty132 (by decide)
theorem fld227_1 : Fld Tryz.prog 227 1 1 127 := fld_of Tryz.underlying227 rfl rfl rfl ty127 (by decide)
theorem fld232_0 : Fld Tryz.prog 232 0 0 9 := fld_of Tryz.underlying232 rfl rfl rfl ty9 (by decide)
theorem fld234_0 : Fld Tryz.prog 234 0 0 151 := fld_of Tryz.underlying234 rfl rfl rfl ty151 (by decide)
theorem fld234_1 : Fld Tryz.prog 234 1 1 146 := fld_of Tryz.underlying234 rfl rfl rfl ty146 (by decide)
theorem fld239_0 : Fld Tryz.prog 239 0 0 9 := fld_of Tryz.underlying239 rfl rfl rfl ty9 (by decide)
theorem fld241_0 : Fld Tryz.prog 241 0 0 169 := fld_of Tryz.underlying241 rfl rfl rfl ty169 (by decide)
theorem fld241_1 : Fld Tryz.prog 241 1 1 165 := fld_of Tryz.underlying241 rfl rfl rfl ty165 (by decide)
theorem fld246_0 : Fld Tryz.prog 246 0 0 9 := fld_of Tryz.underlying246 rfl rfl rfl ty9 (by decide)
theorem fld248_0 : Fld Tryz.prog 248 0 0 187 := fld_of Tryz.underlying248 rfl rfl rfl ty187 (by decide)
theorem fld248_1 : Fld Tryz.prog 248 1 1 183 := fld_of Tryz.underlying248 rfl rfl rfl ty183 (by decide)
theorem invID0 : Inv0 Tryz.prog 217 "ID" 150 := fun x w => by kernel_rfl
theorem invID1 : Inv0 Tryz.prog 225 "ID" 152 := fun x w => by kernel_rfl
theorem invID2 : Inv0 Tryz.prog 232 "ID" 154 := fun x w => by kernel_rfl
theorem invID3 : Inv0 Tryz.prog 239 "ID" 156 := fun x w => by kernel_rfl
theorem invID4 : Inv0 Tryz.prog 246 "ID" 158 := fun x w => by kernel_rfl
theorem nextOf_or (PD : TypeId) (B : List Nd) : nextOf PD B .nilIface = .nilIface ∨ ∃ k u, nextOf PD B .nilIface = .iface k u := by
  cases B with
  | nil => exact .inl rfl
  | cons y r => exact .inr ⟨_, _, rfl⟩
theorem nextOf_cons {PD : TypeId} {B : List Nd} (h : nilI (nextOf PD B .nilIface) = false) : ∃ y B2, B = y :: B2 := by
  cases B with
  | nil => simp [nextOf, nilI] at h
  | cons y r => exact ⟨y, r, rfl⟩
theorem nextOf_nil {PD : TypeId} {B : List Nd} (h : nilI (nextOf PD B .nilIface) = true) : B = [] := by
  cases B with
  | nil => rfl
  | cons y r => simp [nextOf, nilI] at h
/-- where a name is first, with the node ahead of it; or that it is nowhere, with the last node -/
def GotV (id : List UInt8) (items : List Nd) (v : Value) : Prop :=
  (∃ A x B, items = A ++ x :: B ∧ x.id = id ∧ (∀ y ∈ A, y.id ≠ id) ∧ v = .tuple #[Pt x.b 0, lastp A]) ∨ ((∀ y ∈ items, y.id ≠ id) ∧ v = .tuple #[.pointer none, lastp items])
theorem got_hit {id : List UInt8} {A B : List Nd} {x : Nd} {v : Value} (h : GotV id (A ++ x :: B) v) (hx : x.id = id) (hA : ∀ y ∈ A, y.id ≠ id) : v = .tuple #[Pt x.b 0, lastp A] := by
  rcases h with ⟨A', x', B', e, hx', hA', rfl⟩ | ⟨h, _⟩
  · have key : ∀ (A A' : List Nd), A ++ x :: B = A' ++ x' :: B' → (∀ y ∈ A, y.id ≠ id) → (∀ y ∈ A', y.id ≠ id) → A = A' ∧ x = x' := by
      intro A
      induction A with
      | nil =>
        intro A' e h1 h2
        cases A' with
        | nil => simp at e; exact ⟨rfl, e.1⟩
        | cons a r => simp at e; exact absurd hx (e.1 ▸ h2 a List.mem_cons_self)
      | cons a r ih =>
        intro A' e h1 h2
        cases A' with
        | nil => simp at e; exact absurd hx' (e.1 ▸ h1 a List.mem_cons_self)
        | cons a' r' =>
          simp at e
          obtain ⟨e1, e2⟩ := ih r' e.2 (fun y hy => h1 y (List.mem_cons_of_mem _ hy)) (fun y hy => h2 y (List.mem_cons_of_mem _ hy))
          exact ⟨by rw [e.1, e1], e2⟩
    obtain ⟨rfl, rfl⟩ := key A A' e hA hA'
    rfl
  · exact absurd hx (h x (by simp))
theorem got_miss {id : List UInt8} {items : List Nd} {v : Value} (h : GotV id items v) (hn : ∀ y ∈ items, y.id ≠ id) : v = .tuple #[.pointer none, lastp items] := by
  rcases h with ⟨A, x, B, rfl, hx, _, _⟩ | ⟨_, h⟩
  · exact absurd hx (hn x (by simp))
  · exact h
/-- (given.example/pub-tinwright/pub/smithy/middleware.initializeMiddlewareFunc).ID -/
theorem id0 (base : Nat) (i : List UInt8) (fv : Value) : FnW Tryz.prog 150 [.agg #[S i, fv]] base [] (fun v Hs => v = S i ∧ Hs = []) := by
  refine FnW.enter (n := 5) Tryz.func150 rfl rfl fun w0 R0 hbase => ?_
  subst hbase
  show WC _ _ _ _ _ _ _ ([R0])
  refine WC.sub (fr' := [(0, _)]) ?_ ⟨rfl, trivial⟩
  refine WC.seq (WC.region ?_)
  refine WL.box rfl rfl rfl fun b0_0 hb0_0 => ?_
  refine WL.q (oq_assign rfl) rfl rfl rfl ?_
  refine WL.nil (WE.then_normal (WC.sub (fr' := [(1, _)]) ?_ ⟨rfl, trivial⟩))
  refine WC.seq (WC.region ?_)
  refine WL.q (oq_fieldAddr fld217_0 rfl) rfl rfl rfl ?_
  refine WL.q (oq_load flat9 rfl (.head _) (List.mem_singleton.2 rfl) rfl) rfl rfl rfl ?_
  refine WL.q (oq_assign rfl) rfl rfl rfl ?_
  refine WL.nil (WE.then_normal (WC.sub (fr' := [(2, _)]) ?_ ⟨rfl, trivial⟩))
  refine WC.ret ?_
  refine WE.lose hb0_0 ?_
  refine WE.endW0 (.inl rfl) (res1 Tryz.results150 rfl) ?_
  -- end 0
  exact ⟨rfl, rfl⟩

/-- (*given.example/pub-tinwright/pub/smithy/middleware.InitializeStep).get -/
theorem getC0 (base sb : Nat) (items : List Nd) (x0 : Nd) (r0 : List Nd) (h0 : items = x0 :: r0) (id : List UInt8) : FnW Tryz.prog 114 [Pt sb 0, S id] base [[(sb, .cells #[hdp items, lastp items] 203 (0, 0))], ch 201 219 217 items .nilIface] (fun v Hs => GotV id items v ∧ Hs = [[(sb, .cells #[hdp items, lastp items] 203 (0, 0))], ch 201 219 217 items .nilIface]) := by
  refine FnW.enter (n := 35) Tryz.func114 rfl rfl fun w0 R0 hbase => ?_
  subst hbase
  show WC _ _ _ _ _ _ _ ([[(sb, .cells #[hdp items, lastp items] 203 (0, 0))], ch 201 219 217 items .nilIface, R0])
  refine WC.sub (fr' := [(0, _), (1, _)]) ?_ ⟨rfl, rfl, trivial⟩
  refine WC.seq (WC.region ?_)
  refine WL.q (oq_assign rfl) rfl rfl rfl ?_
  refine WL.q (oq_assign rfl) rfl rfl rfl ?_
  refine WL.nil (WE.then_normal (WC.sub (fr' := [(0, _), (1, _), (4, _), (5, _)]) ?_ ⟨rfl, rfl, rfl, rfl, trivial⟩))
  refine WC.seq (WC.seq ?_)
  have hd0 : hdp items = Pt x0.b 0 := by rw [h0]; rfl
  rw [hd0]
  refine WC.region ?_
  refine WL.q (oq_move rfl) rfl rfl rfl ?_
  refine WL.q (oq_nilCheck rfl) rfl rfl rfl ?_
  refine WL.q (oq_fieldAddr fld203_0 rfl) rfl rfl rfl ?_
  refine WL.q (oq_load flat201 rfl (.head _) (List.mem_singleton.2 rfl) rfl) rfl rfl rfl ?_
  refine WL.q (oq_assign rfl) rfl rfl rfl ?_
  refine WL.nil (WE.then_normal (WC.sub (fr' := [(1, _), (4, _), (5, _), (6, _)]) ?_ ⟨rfl, rfl, rfl, rfl, trivial⟩))
  refine WC.block ?_
  refine WC.loop (ι := (List Nd) × Nd × (List Nd)) (fun i_ => (fun (A : List Nd) (x : Nd) (B : List Nd) => [(1, S id), (4, .pointer none), (5, lastp A), (6, Pt x.b 0)]) i_.1 i_.2.1 i_.2.2) (fun i_ => (fun (A : List Nd) (x : Nd) (B : List Nd) => [[(sb, .cells #[(Pt x0.b 0), (lastp items)] 203 (0, 0))], ch 201 219 217 items .nilIface, R0]) i_.1 i_.2.1 i_.2.2) (fun i_ => (fun (A : List Nd) (x : Nd) (B : List Nd) => items = A ++ x :: B ∧ ∀ y ∈ A, y.id ≠ id) i_.1 i_.2.1 i_.2.2) (fun i_ => (fun (A : List Nd) (x : Nd) (B : List Nd) => B.length) i_.1 i_.2.1 i_.2.2) (([], x0, r0)) ?_ ⟨rfl, rfl, rfl, rfl, trivial⟩ (List.Perm.refl _) ?_
  · try dsimp only
    exact ⟨h0, by simp⟩
  · rintro ⟨A, x, B⟩ hp
    try dsimp only at hp
    obtain ⟨hit, hA⟩ := hp
    show WC _ _ _ _ _ _ ([(1, S id), (4, .pointer none), (5, lastp A), (6, Pt x.b 0)]) ([[(sb, .cells #[(Pt x0.b 0), (lastp items)] 203 (0, 0))], ch 201 219 217 items .nilIface, R0])
    refine WC.seq (WC.seq (WC.region ?_))
    refine WL.q (oq_move rfl) rfl rfl rfl ?_
    refine WL.q (oq_pneq Tryz.underlying201 rfl rfl) rfl rfl rfl ?_
    refine WL.nil (WE.then_normal (WC.sub (fr' := [(1, _), (4, _), (5, _), (6, _), (12, _)]) ?_ ⟨rfl, rfl, rfl, rfl, rfl, trivial⟩))
    refine WC.cond rfl (fun q2 => ?_) (fun q2 => ?_)
    ·
      try simp only [Z1, Z2, Z3, Z4, Z5, Z6, Z7, Z8, Z9, Z0] at q2
      refine WC.skip (WE.then_normal (WC.sub (fr' := [(1, _), (4, _), (5, _), (6, _)]) ?_ ⟨rfl, rfl, rfl, rfl, trivial⟩))
      refine WC.block (WC.seq (WC.seq (WC.region ?_)))
      refine WL.q (oq_move rfl) rfl rfl rfl ?_
      refine WL.q (oq_nilCheck rfl) rfl rfl rfl ?_
      refine WL.q (oq_fieldAddr fld219_1 rfl) rfl rfl rfl ?_
      refine WL.q (oq_load flat104 rfl (.tail _ (.head _)) (by rw [hit]; exact ch_mem _ _ _ _) rfl) rfl rfl rfl ?_
      refine WL.callWE (fun a w hf => ent_inv0 invID0 rfl hf w) (id0 _ x.id x.fv) rfl rfl rfl rfl fun v3_4 Hs3_4 hR3_4 => ?_
      obtain ⟨rfl, rfl⟩ := hR3_4
      refine WL.q (oq_move rfl) rfl rfl rfl ?_
      refine WL.q (oq_seql rfl rfl) rfl rfl rfl ?_
      refine WL.nil (WE.then_normal (WC.sub (fr' := [(1, _), (4, _), (5, _), (6, _), (19, _)]) ?_ ⟨rfl, rfl, rfl, rfl, rfl, trivial⟩))
      refine WC.cond rfl (fun q3 => ?_) (fun q3 => ?_)
      ·
        try simp only [Z1, Z2, Z3, Z4, Z5, Z6, Z7, Z8, Z9, Z0] at q3
        refine WC.seq (WC.region ?_)
        refine WL.q (oq_move rfl) rfl rfl rfl ?_
        refine WL.q (oq_assign rfl) rfl rfl rfl ?_
        refine WL.nil (WE.then_normal (WC.sub (fr' := [(4, _), (5, _)]) ?_ ⟨rfl, rfl, trivial⟩))
        refine WC.ret (WE.then_ret (WE.block_ret (WE.then_ret (WE.block_ret (WE.then_ret ?_)))))
        refine WE.endW2 (.inl rfl) (res2 Tryz.results114 rfl rfl) ?_
        -- end 0
        exact ⟨.inl ⟨A, x, B, hit, q3, hA, rfl⟩, rfl⟩
      ·
        try simp only [Z1, Z2, Z3, Z4, Z5, Z6, Z7, Z8, Z9, Z0] at q3
        refine WC.skip (WE.then_normal (WC.sub (fr' := [(1, _), (4, _), (6, _)]) ?_ ⟨rfl, rfl, rfl, trivial⟩))
        refine WC.seq (WC.region ?_)
        refine WL.q (oq_move rfl) rfl rfl rfl ?_
        refine WL.q (oq_assign rfl) rfl rfl rfl ?_
        refine WL.nil (WE.then_normal (WC.sub (fr' := [(1, _), (4, _), (5, _), (6, _)]) ?_ ⟨rfl, rfl, rfl, rfl, trivial⟩))
        refine WC.seq (WC.seq (WC.region ?_))
        refine WL.q (oq_move rfl) rfl rfl rfl ?_
        refine WL.q (oq_nilCheck rfl) rfl rfl rfl ?_
        refine WL.q (oq_fieldAddr fld219_0 rfl) rfl rfl rfl ?_
        refine WL.q (oq_load flat109 rfl (.tail _ (.head _)) (by rw [hit]; exact ch_mem _ _ _ _) rfl) rfl rfl rfl ?_
        refine WL.q (oq_ieql Tryz.underlying109 rfl (nextOf_or _ _)) rfl rfl rfl ?_
        refine WL.nil (WE.then_normal (WC.sub (fr' := [(1, _), (4, _), (5, _), (6, _), (26, _)]) ?_ ⟨rfl, rfl, rfl, rfl, rfl, trivial⟩))
        refine WC.cond rfl (fun q6 => ?_) (fun q6 => ?_)
        ·
          try simp only [Z1, Z2, Z3, Z4, Z5, Z6, Z7, Z8, Z9, Z0] at q6
          refine WC.ret (WE.then_ret (WE.block_ret (WE.then_ret (WE.block_ret (WE.then_ret ?_)))))
          refine WE.endW2 (.inl rfl) (res2 Tryz.results114 rfl rfl) ?_
          -- end 1
          have hB := nextOf_nil q6
          subst hB
          exact ⟨.inr ⟨fun z hz => by rw [hit] at hz; rcases List.mem_append.1 hz with h | h; exact hA z h; rw [List.mem_singleton.1 h]; exact q3, by rw [hit, lastp_snoc]⟩, rfl⟩
        ·
          try simp only [Z1, Z2, Z3, Z4, Z5, Z6, Z7, Z8, Z9, Z0] at q6
          refine WC.skip (WE.then_normal (WC.sub (fr' := [(1, _), (4, _), (5, _), (6, _)]) ?_ ⟨rfl, rfl, rfl, rfl, trivial⟩))
          obtain ⟨y, B2, rfl⟩ := nextOf_cons q6
          refine WC.region ?_
          refine WL.q (oq_move rfl) rfl rfl rfl ?_
          refine WL.q (oq_nilCheck rfl) rfl rfl rfl ?_
          refine WL.q (oq_fieldAddr fld219_0 rfl) rfl rfl rfl ?_
          refine WL.q (oq_load flat109 rfl (.tail _ (.head _)) (by rw [hit]; exact ch_mem _ _ _ _) rfl) rfl rfl rfl ?_
          refine WL.q (oq_askC conc201 rfl) rfl rfl rfl ?_
          refine WL.q (oq_move rfl) rfl rfl rfl ?_
          refine WL.q (oq_extract rfl rfl) rfl rfl rfl ?_
          refine WL.q (oq_extract rfl rfl) rfl rfl rfl ?_
          refine WL.q (oq_assign rfl) rfl rfl rfl ?_
          refine WL.nil (WE.block_normal ?_)
          refine WE.again (A ++ [x], y, B2) ?_ ?_ ⟨rfl, rfl, (gtv rfl (lastp_snoc _ _).symm), rfl, trivial⟩ (List.Perm.refl _)
          · try dsimp only   -- again 0
            exact ⟨by rw [hit]; simp, fun z hz => by rcases List.mem_append.1 hz with h | h; exact hA z h; rw [List.mem_singleton.1 h]; exact q3⟩
          · (try dsimp only); simp
    ·
      try simp only [Z1, Z2, Z3, Z4, Z5, Z6, Z7, Z8, Z9, Z0] at q2
      simp at q2

/-- (*given.example/pub-tinwright/pub/smithy/middleware.InitializeStep).get -/
theorem getN0 (base sb : Nat) (id : List UInt8) : FnW Tryz.prog 114 [Pt sb 0, S id] base [[(sb, .cells #[.pointer none, .pointer none] 203 (0, 0))]] (fun v Hs => GotV id [] v ∧ Hs = [[(sb, .cells #[.pointer none, .pointer none] 203 (0, 0))]]) := by
  refine FnW.enter (n := 35) Tryz.func114 rfl rfl fun w0 R0 hbase => ?_
  subst hbase
  show WC _ _ _ _ _ _ _ ([[(sb, .cells #[.pointer none, .pointer none] 203 (0, 0))], R0])
  refine WC.sub (fr' := [(0, _), (1, _)]) ?_ ⟨rfl, rfl, trivial⟩
  refine WC.seq (WC.region ?_)
  refine WL.q (oq_assign rfl) rfl rfl rfl ?_
  refine WL.q (oq_assign rfl) rfl rfl rfl ?_
  refine WL.nil (WE.then_normal (WC.sub (fr' := [(0, _), (1, _), (4, _), (5, _)]) ?_ ⟨rfl, rfl, rfl, rfl, trivial⟩))
  refine WC.seq (WC.seq (WC.region ?_))
  refine WL.q (oq_move rfl) rfl rfl rfl ?_
  refine WL.q (oq_nilCheck rfl) rfl rfl rfl ?_
  refine WL.q (oq_fieldAddr fld203_0 rfl) rfl rfl rfl ?_
  refine WL.q (oq_load flat201 rfl (.head _) (List.mem_singleton.2 rfl) rfl) rfl rfl rfl ?_
  refine WL.q (oq_assign rfl) rfl rfl rfl ?_
  refine WL.nil (WE.then_normal (WC.sub (fr' := [(1, _), (4, _), (5, _), (6, _)]) ?_ ⟨rfl, rfl, rfl, rfl, trivial⟩))
  refine WC.block ?_
  refine WC.loop (ι := Unit) (fun _ => [(1, S id), (4, .pointer none), (5, .pointer none), (6, .pointer none)]) (fun _ => [[(sb, .cells #[.pointer none, .pointer none] 203 (0, 0))], R0]) (fun _ => True) (fun _ => 0) (()) ?_ ⟨rfl, rfl, rfl, rfl, trivial⟩ (List.Perm.refl _) ?_
  · try dsimp only
    all_goals trivial
  · rintro _ hp
    try dsimp only at hp
    show WC _ _ _ _ _ _ ([(1, S id), (4, .pointer none), (5, .pointer none), (6, .pointer none)]) ([[(sb, .cells #[.pointer none, .pointer none] 203 (0, 0))], R0])
    refine WC.seq (WC.seq (WC.region ?_))
    refine WL.q (oq_move rfl) rfl rfl rfl ?_
    refine WL.q (oq_pneq Tryz.underlying201 rfl rfl) rfl rfl rfl ?_
    refine WL.nil (WE.then_normal (WC.sub (fr' := [(1, _), (4, _), (5, _), (6, _), (12, _)]) ?_ ⟨rfl, rfl, rfl, rfl, rfl, trivial⟩))
    refine WC.cond rfl (fun q2 => ?_) (fun q2 => ?_)
    ·
      try simp only [Z1, Z2, Z3, Z4, Z5, Z6, Z7, Z8, Z9, Z0] at q2
      simp at q2
    ·
      try simp only [Z1, Z2, Z3, Z4, Z5, Z6, Z7, Z8, Z9, Z0] at q2
      refine WC.exit (WE.then_exit (WE.then_exit (WE.block_same (WE.then_normal (WC.sub (fr' := [(4, _), (5, _)]) ?_ ⟨rfl, rfl, trivial⟩)))))
      refine WC.ret ?_
      refine WE.endW1 (.inl rfl) (res2 Tryz.results114 rfl rfl) ?_
      -- end 0
      exact ⟨.inr ⟨by simp, rfl⟩, rfl⟩

/-- (given.example/pub-tinwright/pub/smithy/middleware.serializeMiddlewareFunc).ID -/
theorem id1 (base : Nat) (i : List UInt8) (fv : Value) : FnW Tryz.prog 152 [.agg #[S i, fv]] base [] (fun v Hs => v = S i ∧ Hs = []) := by
  refine FnW.enter (n := 5) Tryz.func152 rfl rfl fun w0 R0 hbase => ?_
  subst hbase
  show WC _ _ _ _ _ _ _ ([R0])
  refine WC.sub (fr' := [(0, _)]) ?_ ⟨rfl, trivial⟩
  refine WC.seq (WC.region ?_)
  refine WL.box rfl rfl rfl fun b0_0 hb0_0 => ?_
  refine WL.q (oq_assign rfl) rfl rfl rfl ?_
  refine WL.nil (WE.then_normal (WC.sub (fr' := [(1, _)]) ?_ ⟨rfl, trivial⟩))
  refine WC.seq (WC.region ?_)
  refine WL.q (oq_fieldAddr fld225_0 rfl) rfl rfl rfl ?_
  refine WL.q (oq_load flat9 rfl (.head _) (List.mem_singleton.2 rfl) rfl) rfl rfl rfl ?_
  refine WL.q (oq_assign rfl) rfl rfl rfl ?_
  refine WL.nil (WE.then_normal (WC.sub (fr' := [(2, _)]) ?_ ⟨rfl, trivial⟩))
  refine WC.ret ?_
  refine WE.lose hb0_0 ?_
  refine WE.endW0 (.inl rfl) (res1 Tryz.results152 rfl) ?_
  -- end 0
  exact ⟨rfl, rfl⟩

/-- (*given.example/pub-tinwright/pub/smithy/middleware.SerializeStep).get -/
theorem getC1 (base sb : Nat) (nr : Value) (items : List Nd) (x0 : Nd) (r0 : List Nd) (h0 : items = x0 :: r0) (id : List UInt8) : FnW Tryz.prog 115 [Pt sb 0, S id] base [[(sb, .cells #[hdp items, lastp items, nr] 206 (0, 0))], ch 204 227 225 items .nilIface] (fun v Hs => GotV id items v ∧ Hs = [[(sb, .cells #[hdp items, lastp items, nr] 206 (0, 0))], ch 204 227 225 items .nilIface]) := by
  refine FnW.enter (n := 35) Tryz.func115 rfl rfl fun w0 R0 hbase => ?_
  subst hbase
  show WC _ _ _ _ _ _ _ ([[(sb, .cells #[hdp items, lastp items, nr] 206 (0, 0))], ch 204 227 225 items .nilIface, R0])
  refine WC.sub (fr' := [(0, _), (1, _)]) ?_ ⟨rfl, rfl, trivial⟩
  refine WC.seq (WC.region ?_)
  refine WL.q (oq_assign rfl) rfl rfl rfl ?_
  refine WL.q (oq_assign rfl) rfl rfl rfl ?_
  refine WL.nil (WE.then_normal (WC.sub (fr' := [(0, _), (1, _), (4, _), (5, _)]) ?_ ⟨rfl, rfl, rfl, rfl, trivial⟩))
  refine WC.seq (WC.seq ?_)
  have hd0 : hdp items = Pt x0.b 0 := by rw [h0]; rfl
  rw [hd0]
  refine WC.region ?_
  refine WL.q (oq_move rfl) rfl rfl rfl ?_
  refine WL.q (oq_nilCheck rfl) rfl rfl rfl ?_
  refine WL.q (oq_fieldAddr fld206_0 rfl) rfl rfl rfl ?_
  refine WL.q (oq_load flat204 rfl (.head _) (List.mem_singleton.2 rfl) rfl) rfl rfl rfl ?_
  refine WL.q (oq_assign rfl) rfl rfl rfl ?_
  refine WL.nil (WE.then_normal (WC.sub (fr' := [(1, _), (4, _), (5, _), (6, _)]) ?_ ⟨rfl, rfl, rfl, rfl, trivial⟩))
  refine WC.block ?_
  refine WC.loop (ι := (List Nd) × Nd × (List Nd)) (fun i_ => (fun (A : List Nd) (x : Nd) (B : List Nd) => [(1, S id), (4, .pointer none), (5, lastp A), (6, Pt x.b 0)]) i_.1 i_.2.1 i_.2.2) (fun i_ => (fun (A : List Nd) (x : Nd) (B : List Nd) => [[(sb, .cells #[(Pt x0.b 0), (lastp items), nr] 206 (0, 0))], ch 204 227 225 items .nilIface, R0]) i_.1 i_.2.1 i_.2.2) (fun i_ => (fun (A : List Nd) (x : Nd) (B : List Nd) => items = A ++ x :: B ∧ ∀ y ∈ A, y.id ≠ id) i_.1 i_.2.1 i_.2.2) (fun i_ => (fun (A : List Nd) (x : Nd) (B : List Nd) => B.length) i_.1 i_.2.1 i_.2.2) (([], x0, r0)) ?_ ⟨rfl, rfl, rfl, rfl, trivial⟩ (List.Perm.refl _) ?_
  · try dsimp only
    exact ⟨h0, by simp⟩
  · rintro ⟨A, x, B⟩ hp
    try dsimp only at hp
    obtain ⟨hit, hA⟩ := hp
    show WC _ _ _ _ _ _ ([(1, S id), (4, .pointer none), (5, lastp A), (6, Pt x.b 0)]) ([[(sb, .cells #[(Pt x0.b 0), (lastp items), nr] 206 (0, 0))], ch 204 227 225 items .nilIface, R0])
    refine WC.seq (WC.seq (WC.region ?_))
    refine WL.q (oq_move rfl) rfl rfl rfl ?_
    refine WL.q (oq_pneq Tryz.underlying204 rfl rfl) rfl rfl rfl ?_
    refine WL.nil (WE.then_normal (WC.sub (fr' := [(1, _), (4, _), (5, _), (6, _), (12, _)]) ?_ ⟨rfl, rfl, rfl, rfl, rfl, trivial⟩))
    refine WC.cond rfl (fun q2 => ?_) (fun q2 => ?_)
    ·
      try simp only [Z1, Z2, Z3, Z4, Z5, Z6, Z7, Z8, Z9, Z0] at q2
      refine WC.skip (WE.then_normal (WC.sub (fr' := [(1, _), (4, _), (5, _), (6, _)]) ?_ ⟨rfl, rfl, rfl, rfl, trivial⟩))
      refine WC.block (WC.seq (WC.seq (WC.region ?_)))
      refine WL.q (oq_move rfl) rfl rfl rfl ?_
      refine WL.q (oq_nilCheck rfl) rfl rfl rfl ?_
      refine WL.q (oq_fieldAddr fld227_1 rfl) rfl rfl rfl ?_
      refine WL.q (oq_load flat127 rfl (.tail _ (.head _)) (by rw [hit]; exact ch_mem _ _ _ _) rfl) rfl rfl rfl ?_
      refine WL.callWE (fun a w hf => ent_inv0 invID1 rfl hf w) (id1 _ x.id x.fv) rfl rfl rfl rfl fun v3_4 Hs3_4 hR3_4 => ?_
      obtain ⟨rfl, rfl⟩ := hR3_4
      refine WL.q (oq_move rfl) rfl rfl rfl ?_
      refine WL.q (oq_seql rfl rfl) rfl rfl rfl ?_
      refine WL.nil (WE.then_normal (WC.sub (fr' := [(1, _), (4, _), (5, _), (6, _), (19, _)]) ?_ ⟨rfl, rfl, rfl, rfl, rfl, trivial⟩))
      refine WC.cond rfl (fun q3 => ?_) (fun q3 => ?_)
      ·
        try simp only [Z1, Z2, Z3, Z4, Z5, Z6, Z7, Z8, Z9, Z0] at q3
        refine WC.seq (WC.region ?_)
        refine WL.q (oq_move rfl) rfl rfl rfl ?_
        refine WL.q (oq_assign rfl) rfl rfl rfl ?_
        refine WL.nil (WE.then_normal (WC.sub (fr' := [(4, _), (5, _)]) ?_ ⟨rfl, rfl, trivial⟩))
        refine WC.ret (WE.then_ret (WE.block_ret (WE.then_ret (WE.block_ret (WE.then_ret ?_)))))
        refine WE.endW2 (.inl rfl) (res2 Tryz.results115 rfl rfl) ?_
        -- end 0
        exact ⟨.inl ⟨A, x, B, hit, q3, hA, rfl⟩, rfl⟩
      ·
        try simp only [Z1, Z2, Z3, Z4, Z5, Z6, Z7, Z8, Z9, Z0] at q3
        refine WC.skip (WE.then_normal (WC.sub (fr' := [(1, _), (4, _), (6, _)]) ?_ ⟨rfl, rfl, rfl, trivial⟩))
        refine WC.seq (WC.region ?_)
        refine WL.q (oq_move rfl) rfl rfl rfl ?_
        refine WL.q (oq_assign rfl) rfl rfl rfl ?_
        refine WL.nil (WE.then_normal (WC.sub (fr' := [(1, _), (4, _), (5, _), (6, _)]) ?_ ⟨rfl, rfl, rfl, rfl, trivial⟩))
        refine WC.seq (WC.seq (WC.region ?_))
        refine WL.q (oq_move rfl) rfl rfl rfl ?_
        refine WL.q (oq_nilCheck rfl) rfl rfl rfl ?_
        refine WL.q (oq_fieldAddr fld227_0 rfl) rfl rfl rfl ?_
        refine WL.q (oq_load flat132 rfl (.tail _ (.head _)) (by rw [hit]; exact ch_mem _ _ _ _) rfl) rfl rfl rfl ?_
        refine WL.q (oq_ieql Tryz.underlying132 rfl (nextOf_or _ _)) rfl rfl rfl ?_
        refine WL.nil (WE.then_normal (WC.sub (fr' := [(1, _), (4, _), (5, _), (6, _), (26, _)]) ?_ ⟨rfl, rfl, rfl, rfl, rfl, trivial⟩))
        refine WC.cond rfl (fun q6 => ?_) (fun q6 => ?_)
        ·
          try simp only [Z1, Z2, Z3, Z4, Z5, Z6, Z7, Z8, Z9, Z0] at q6
          refine WC.ret (WE.then_ret (WE.block_ret (WE.then_ret (WE.block_ret (WE.then_ret ?_)))))
          refine WE.endW2 (.inl rfl) (res2 Tryz.results115 rfl rfl) ?_
          -- end 1
          have hB := nextOf_nil q6
          subst hB
          exact ⟨.inr ⟨fun z hz => by rw [hit] at hz; rcases List.mem_append.1 hz with h | h; exact hA z h; rw [List.mem_singleton.1 h]; exact q3, by rw [hit, lastp_snoc]⟩, rfl⟩
        ·
          try simp only [Z1, Z2, Z3, Z4, Z5, Z6, Z7, Z8, Z9, Z0] at q6
          refine WC.skip (WE.then_normal (WC.sub (fr' := [(1, _), (4, _), (5, _), (6, _)]) ?_ ⟨rfl, rfl, rfl, rfl, trivial⟩))
          obtain ⟨y, B2, rfl⟩ := nextOf_cons q6
          refine WC.region ?_
          refine WL.q (oq_move rfl) rfl rfl rfl ?_
          refine WL.q (oq_nilCheck rfl) rfl rfl rfl ?_
          refine WL.q (oq_fieldAddr fld227_0 rfl) rfl rfl rfl ?_
          refine WL.q (oq_load flat132 rfl (.tail _ (.head _)) (by rw [hit]; exact ch_mem _ _ _ _) rfl) rfl rfl rfl ?_
          refine WL.q (oq_askC conc204 rfl) rfl rfl rfl ?_
          refine WL.q (oq_move rfl) rfl rfl rfl ?_
          refine WL.q (oq_extract rfl rfl) rfl rfl rfl ?_
          refine WL.q (oq_extract rfl rfl) rfl rfl rfl ?_
          refine WL.q (oq_assign rfl) rfl rfl rfl ?_
          refine WL.nil (WE.block_normal ?_)
          refine WE.again (A ++ [x], y, B2) ?_ ?_ ⟨rfl, rfl, (gtv rfl (lastp_snoc _ _).symm), rfl, trivial⟩ (List.Perm.refl _)
          · try dsimp only   -- again 0
            exact ⟨by rw [hit]; simp, fun z hz => by rcases List.mem_append.1 hz with h | h; exact hA z h; rw [List.mem_singleton.1 h]; exact q3⟩
          · (try dsimp only); simp
    ·
      try simp only [Z1, Z2, Z3, Z4, Z5, Z6, Z7, Z8, Z9, Z0] at q2
      simp at q2

/-- (*given.example/pub-tinwright/pub/smithy/middleware.SerializeStep).get -/
theorem getN1 (base sb : Nat) (nr : Value) (id : List UInt8) : FnW Tryz.prog 115 [Pt sb 0, S id] base [[(sb, .cells #[.pointer none, .pointer none, nr] 206 (0, 0))]] (fun v Hs => GotV id [] v ∧ Hs = [[(sb, .cells #[.pointer none, .pointer none, nr] 206 (0, 0))]]) := by
  refine FnW.enter (n := 35) Tryz.func115 rfl rfl fun w0 R0 hbase => ?_
  subst hbase
  show WC _ _ _ _ _ _ _ ([[(sb, .cells #[.pointer none, .pointer none, nr] 206 (0, 0))], R0])
  refine WC.sub (fr' := [(0, _), (1, _)]) ?_ ⟨rfl, rfl, trivial⟩
  refine WC.seq (WC.region ?_)
  refine WL.q (oq_assign rfl) rfl rfl rfl ?_
  refine WL.q (oq_assign rfl) rfl rfl rfl ?_
  refine WL.nil (WE.then_normal (WC.sub (fr' := [(0, _), (1, _), (4, _), (5, _)]) ?_ ⟨rfl, rfl, rfl, rfl, trivial⟩))
  refine WC.seq (WC.seq (WC.region ?_))
  refine WL.q (oq_move rfl) rfl rfl rfl ?_
  refine WL.q (oq_nilCheck rfl) rfl rfl rfl ?_
  refine WL.q (oq_fieldAddr fld206_0 rfl) rfl rfl rfl ?_
  refine WL.q (oq_load flat204 rfl (.head _) (List.mem_singleton.2 rfl) rfl) rfl rfl rfl ?_
  refine WL.q (oq_assign rfl) rfl rfl rfl ?_
  refine WL.nil (WE.then_normal (WC.sub (fr' := [(1, _), (4, _), (5, _), (6, _)]) ?_ ⟨rfl, rfl, rfl, rfl, trivial⟩))
  refine WC.block ?_
  refine WC.loop (ι := Unit) (fun _ => [(1, S id), (4, .pointer none), (5, .pointer none), (6, .pointer none)]) (fun _ => [[(sb, .cells #[.pointer none, .pointer none, nr] 206 (0, 0))], R0]) (fun _ => True) (fun _ => 0) (()) ?_ ⟨rfl, rfl, rfl, rfl, trivial⟩ (List.Perm.refl _) ?_
  · try dsimp only
    all_goals trivial
  · rintro _ hp
    try dsimp only at hp
    show WC _ _ _ _ _ _ ([(1, S id), (4, .pointer none), (5, .pointer none), (6, .pointer none)]) ([[(sb, .cells #[.pointer none, .pointer none, nr] 206 (0, 0))], R0])
    refine WC.seq (WC.seq (WC.region ?_))
    refine WL.q (oq_move rfl) rfl rfl rfl ?_
    refine WL.q (oq_pneq Tryz.underlying204 rfl rfl) rfl rfl rfl ?_
    refine WL.nil (WE.then_normal (WC.sub (fr' := [(1, _), (4, _), (5, _), (6, _), (12, _)]) ?_ ⟨rfl, rfl, rfl, rfl, rfl, trivial⟩))
    refine WC.cond rfl (fun q2 => ?_) (fun q2 => ?_)
    ·
      try simp only [Z1, Z2, Z3, Z4, Z5, Z6, Z7, Z8, Z9, Z0] at q2
      simp at q2
    ·
      try simp only [Z1, Z2, Z3, Z4, Z5, Z6, Z7, Z8, Z9, Z0] at q2
      refine WC.exit (WE.then_exit (WE.then_exit (WE.block_same (WE.then_normal (WC.sub (fr' := [(4, _), (5, _)]) ?_ ⟨rfl, rfl, trivial⟩)))))
      refine WC.ret ?_
      refine WE.endW1 (.inl rfl) (res2 Tryz.results115 rfl rfl) ?_
      -- end 0
      exact ⟨.inr ⟨by simp, rfl⟩, rfl⟩

/-- (given.example/pub-tinwright/pub/smithy/middleware.buildMiddlewareFunc).ID -/
theorem id2 (base : Nat) (i : List UInt8) (fv : Value) : FnW Tryz.prog 154 [.agg #[S i, fv]] base [] (fun v Hs => v = S i ∧ Hs = []) := by
  refine FnW.enter (n := 5) Tryz.func154 rfl rfl fun w0 R0 hbase => ?_
  subst hbase
  show WC _ _ _ _ _ _ _ ([R0])
  refine WC.sub (fr' := [(0, _)]) ?_ ⟨rfl, trivial⟩
  refine WC.seq (WC.region ?_)
  refine WL.box rfl rfl rfl fun b0_0 hb0_0 => ?_
  refine WL.q (oq_assign rfl) rfl rfl rfl ?_
  refine WL.nil (WE.then_normal (WC.sub (fr' := [(1, _)]) ?_ ⟨rfl, trivial⟩))
  refine WC.seq (WC.region ?_)
  refine WL.q (oq_fieldAddr fld232_0 rfl) rfl rfl rfl ?_
  refine WL.q (oq_load flat9 rfl (.head _) (List.mem_singleton.2 rfl) rfl) rfl rfl rfl ?_
  refine WL.q (oq_assign rfl) rfl rfl rfl ?_
  refine WL.nil (WE.then_normal (WC.sub (fr' := [(2, _)]) ?_ ⟨rfl, trivial⟩))
  refine WC.ret ?_
  refine WE.lose hb0_0 ?_
  refine WE.endW0 (.inl rfl) (res1 Tryz.results154 rfl) ?_
  -- end 0
  exact ⟨rfl, rfl⟩

/-- (*given.example/pub-tinwright/pub/smithy/middleware.BuildStep).get -/
theorem getC2 (base sb : Nat) (items : List Nd) (x0 : Nd) (r0 : List Nd) (h0 : items = x0 :: r0) (id : List UInt8) : FnW Tryz.prog 116 [Pt sb 0, S id] base [[(sb, .cells #[hdp items, lastp items] 209 (0, 0))], ch 207 234 232 items .nilIface] (fun v Hs => GotV id items v ∧ Hs = [[(sb, .cells #[hdp items, lastp items] 209 (0, 0))], ch 207 234 232 items .nilIface]) := by
  refine FnW.enter (n := 35) Tryz.func116 rfl rfl fun w0 R0 hbase => ?_
  subst hbase
  show WC _ _ _ _ _ _ _ ([[(sb, .cells #[hdp items, lastp items] 209 (0, 0))], ch 207 234 232 items .nilIface, R0])
  refine WC.sub (fr' := [(0, _), (1, _)]) ?_ ⟨rfl, rfl, trivial⟩
  refine WC.seq (WC.region ?_)
  refine WL.q (oq_assign rfl) rfl rfl rfl ?_
  refine WL.q (oq_assign rfl) rfl rfl rfl ?_
  refine WL.nil (WE.then_normal (WC.sub (fr' := [(0, _), (1, _), (4, _), (5, _)]) ?_ ⟨rfl, rfl, rfl, rfl, trivial⟩))
  refine WC.seq (WC.seq ?_)
  have hd0 : hdp items = Pt x0.b 0 := by rw [h0]; rfl
  rw [hd0]
  refine WC.region ?_
  refine WL.q (oq_move rfl) rfl rfl rfl ?_
  refine WL.q (oq_nilCheck rfl) rfl rfl rfl ?_
  refine WL.q (oq_fieldAddr fld209_0 rfl) rfl rfl rfl ?_
  refine WL.q (oq_load flat207 rfl (.head _) (List.mem_singleton.2 rfl) rfl) rfl rfl rfl ?_
  refine WL.q (oq_assign rfl) rfl rfl rfl ?_
  refine WL.nil (WE.then_normal (WC.sub (fr' := [(1, _), (4, _), (5, _), (6, _)]) ?_ ⟨rfl, rfl, rfl, rfl, trivial⟩))
  refine WC.block ?_
  refine WC.loop (ι := (List Nd) × Nd × (List Nd)) (fun i_ => (fun (A : List Nd) (x : Nd) (B : List Nd) => [(1, S id), (4, .pointer none), (5, lastp A), (6, Pt x.b 0)]) i_.1 i_.2.1 i_.2.2) (fun i_ => (fun (A : List Nd) (x : Nd) (B : List Nd) => [[(sb, .cells #[(Pt x0.b 0), (lastp items)] 209 (0, 0))], ch 207 234 232 items .nilIface, R0]) i_.1 i_.2.1 i_.2.2) (fun i_ => (fun (A : List Nd) (x : Nd) (B : List Nd) => items = A ++ x :: B ∧ ∀ y ∈ A, y.id ≠ id) i_.1 i_.2.1 i_.2.2) (fun i_ => (fun (A : List Nd) (x : Nd) (B : List Nd) => B.length) i_.1 i_.2.1 i_.2.2) (([], x0, r0)) ?_ ⟨rfl, rfl, rfl, rfl, trivial⟩ (List.Perm.refl _) ?_
  · try dsimp only
    exact ⟨h0, by simp⟩
  · rintro ⟨A, x, B⟩ hp
    try dsimp only at hp
    obtain ⟨hit, hA⟩ := hp
    show WC _ _ _ _ _ _ ([(1, S id), (4, .pointer none), (5, lastp A), (6, Pt x.b 0)]) ([[(sb, .cells #[(Pt x0.b 0), (lastp items)] 209 (0, 0))], ch 207 234 232 items .nilIface, R0])
    refine WC.seq (WC.seq (WC.region ?_))
    refine WL.q (oq_move rfl) rfl rfl rfl ?_
    refine WL.q (oq_pneq Tryz.underlying207 rfl rfl) rfl rfl rfl ?_
    refine WL.nil (WE.then_normal (WC.sub (fr' := [(1, _), (4, _), (5, _), (6, _), (12, _)]) ?_ ⟨rfl, rfl, rfl, rfl, rfl, trivial⟩))
    refine WC.cond rfl (fun q2 => ?_) (fun q2 => ?_)
    ·
      try simp only [Z1, Z2, Z3, Z4, Z5, Z6, Z7, Z8, Z9, Z0] at q2
      refine WC.skip (WE.then_normal (WC.sub (fr' := [(1, _), (4, _), (5, _), (6, _)]) ?_ ⟨rfl, rfl, rfl, rfl, trivial⟩))
      refine WC.block (WC.seq (WC.seq (WC.region ?_)))
      refine WL.q (oq_move rfl) rfl rfl rfl ?_
      refine WL.q (oq_nilCheck rfl) rfl rfl rfl ?_
      refine WL.q (oq_fieldAddr fld234_1 rfl) rfl rfl rfl ?_
      refine WL.q (oq_load flat146 rfl (.tail _ (.head _)) (by rw [hit]; exact ch_mem _ _ _ _) rfl) rfl rfl rfl ?_
      refine WL.callWE (fun a w hf => ent_inv0 invID2 rfl hf w) (id2 _ x.id x.fv) rfl rfl rfl rfl fun v3_4 Hs3_4 hR3_4 => ?_
      obtain ⟨rfl, rfl⟩ := hR3_4
      refine WL.q (oq_move rfl) rfl rfl rfl ?_
      refine WL.q (oq_seql rfl rfl) rfl rfl rfl ?_
      refine WL.nil (WE.then_normal (WC.sub (fr' := [(1, _), (4, _), (5, _), (6, _), (19, _)]) ?_ ⟨rfl, rfl, rfl, rfl, rfl, trivial⟩))
      refine WC.cond rfl (fun q3 => ?_) (fun q3 => ?_)
      ·
        try simp only [Z1, Z2, Z3, Z4, Z5, Z6, Z7, Z8, Z9, Z0] at q3
        refine WC.seq (WC.region ?_)
        refine WL.q (oq_move rfl) rfl rfl rfl ?_
        refine WL.q (oq_assign rfl) rfl rfl rfl ?_
        refine WL.nil (WE.then_normal (WC.sub (fr' := [(4, _), (5, _)]) ?_ ⟨rfl, rfl, trivial⟩))
        refine WC.ret (WE.then_ret (WE.block_ret (WE.then_ret (WE.block_ret (WE.then_ret ?_)))))
        refine WE.endW2 (.inl rfl) (res2 Tryz.results116 rfl rfl) ?_
        -- end 0
        exact ⟨.inl ⟨A, x, B, hit, q3, hA, rfl⟩, rfl⟩
      ·
        try simp only [Z1, Z2, Z3, Z4, Z5, Z6, Z7, Z8, Z9, Z0] at q3
        refine WC.skip (WE.then_normal (WC.sub (fr' := [(1, _), (4, _), (6, _)]) ?_ ⟨rfl, rfl, rfl, trivial⟩))
        refine WC.seq (WC.region ?_)
        refine WL.q (oq_move rfl) rfl rfl rfl ?_
        refine WL.q (oq_assign rfl) rfl rfl rfl ?_
        refine WL.nil (WE.then_normal (WC.sub (fr' := [(1, _), (4, _), (5, _), (6, _)]) ?_ ⟨rfl, rfl, rfl, rfl, trivial⟩))
        refine WC.seq (WC.seq (WC.region ?_))
        refine WL.q (oq_move rfl) rfl rfl rfl ?_
        refine WL.q (oq_nilCheck rfl) rfl rfl rfl ?_
        refine WL.q (oq_fieldAddr fld234_0 rfl) rfl rfl rfl ?_
        refine WL.q (oq_load flat151 rfl (.tail _ (.head _)) (by rw [hit]; exact ch_mem _ _ _ _) rfl) rfl rfl rfl ?_
        refine WL.q (oq_ieql Tryz.underlying151 rfl (nextOf_or _ _)) rfl rfl rfl ?_
        refine WL.nil (WE.then_normal (WC.sub (fr' := [(1, _), (4, _), (5, _), (6, _), (26, _)]) ?_ ⟨rfl, rfl, rfl, rfl, rfl, trivial⟩))
        refine WC.cond rfl (fun q6 => ?_) (fun q6 => ?_)
        ·
          try simp only [Z1, Z2, Z3, Z4, Z5, Z6, Z7, Z8, Z9, Z0] at q6
          refine WC.ret (WE.then_ret (WE.block_ret (WE.then_ret (WE.block_ret (WE.then_ret ?_)))))
          refine WE.endW2 (.inl rfl) (res2 Tryz.results116 rfl rfl) ?_
          -- end 1
          have hB := nextOf_nil q6
          subst hB
          exact ⟨.inr ⟨fun z hz => by rw [hit] at hz; rcases List.mem_append.1 hz with h | h; exact hA z h; rw [List.mem_singleton.1 h]; exact q3, by rw [hit, lastp_snoc]⟩, rfl⟩
        ·
          try simp only [Z1, Z2, Z3, Z4, Z5, Z6, Z7, Z8, Z9, Z0] at q6
          refine WC.skip (WE.then_normal (WC.sub (fr' := [(1, _), (4, _), (5, _), (6, _)]) ?_ ⟨rfl, rfl, rfl, rfl, trivial⟩))
          obtain ⟨y, B2, rfl⟩ := nextOf_cons q6
          refine WC.region ?_
          refine WL.q (oq_move rfl) rfl rfl rfl ?_
          refine WL.q (oq_nilCheck rfl) rfl rfl rfl ?_
          refine WL.q (oq_fieldAddr fld234_0 rfl) rfl rfl rfl ?_
          refine WL.q (oq_load flat151 rfl (.tail _ (.head _)) (by rw [hit]; exact ch_mem _ _ _ _) rfl) rfl rfl rfl ?_
          refine WL.q (oq_askC conc207 rfl) rfl rfl rfl ?_
          refine WL.q (oq_move rfl) rfl rfl rfl ?_
          refine WL.q (oq_extract rfl rfl) rfl rfl rfl ?_
          refine WL.q (oq_extract rfl rfl) rfl rfl rfl ?_
          refine WL.q (oq_assign rfl) rfl rfl rfl ?_
          refine WL.nil (WE.block_normal ?_)
          refine WE.again (A ++ [x], y, B2) ?_ ?_ ⟨rfl, rfl, (gtv rfl (lastp_snoc _ _).symm), rfl, trivial⟩ (List.Perm.refl _)
          · try dsimp only   -- again 0
            exact ⟨by rw [hit]; simp, fun z hz => by rcases List.mem_append.1 hz with h | h; exact hA z h; rw [List.mem_singleton.1 h]; exact q3⟩
          · (try dsimp only); simp
    ·
      try simp only [Z1, Z2, Z3, Z4, Z5, Z6, Z7, Z8, Z9, Z0] at q2
      simp at q2

/-- (*given.example/pub-tinwright/pub/smithy/middleware.BuildStep).get -/
theorem getN2 (base sb : Nat) (id : List UInt8) : FnW Tryz.prog 116 [Pt sb 0, S id] base [[(sb, .cells #[.pointer none, .pointer none] 209 (0, 0))]] (fun v Hs => GotV id [] v ∧ Hs = [[(sb, .cells #[.pointer none, .pointer none] 209 (0, 0))]]) := by
  refine FnW.enter (n := 35) Tryz.func116 rfl rfl fun w0 R0 hbase => ?_
  subst hbase
  show WC _ _ _ _ _ _ _ ([[(sb, .cells #[.pointer none, .pointer none] 209 (0, 0))], R0])
  refine WC.sub (fr' := [(0, _), (1, _)]) ?_ ⟨rfl, rfl, trivial⟩
  refine WC.seq (WC.region ?_)
  refine WL.q (oq_assign rfl) rfl rfl rfl ?_
  refine WL.q (oq_assign rfl) rfl rfl rfl ?_
  refine WL.nil (WE.then_normal (WC.sub (fr' := [(0, _), (1, _), (4, _), (5, _)]) ?_ ⟨rfl, rfl, rfl, rfl, trivial⟩))
  refine WC.seq (WC.seq (WC.region ?_))
  refine WL.q (oq_move rfl) rfl rfl rfl ?_
  refine WL.q (oq_nilCheck rfl) rfl rfl rfl ?_
  refine WL.q (oq_fieldAddr fld209_0 rfl) rfl rfl rfl ?_
  refine WL.q (oq_load flat207 rfl (.head _) (List.mem_singleton.2 rfl) rfl) rfl rfl rfl ?_
  refine WL.q (oq_assign rfl) rfl rfl rfl ?_
  refine WL.nil (WE.then_normal (WC.sub (fr' := [(1, _), (4, _), (5, _), (6, _)]) ?_ ⟨rfl, rfl, rfl, rfl, trivial⟩))
  refine WC.block ?_
  refine WC.loop (ι := Unit) (fun _ => [(1, S id), (4, .pointer none), (5, .pointer none), (6, .pointer none)]) (fun _ => [[(sb, .cells #[.pointer none, .pointer none] 209 (0, 0))], R0]) (fun _ => True) (fun _ => 0) (()) ?_ ⟨rfl, rfl, rfl, rfl, trivial⟩ (List.Perm.refl _) ?_
  · try dsimp only
    all_goals trivial
  · rintro _ hp
    try dsimp only at hp
    show WC _ _ _ _ _ _ ([(1, S id), (4, .pointer none), (5, .pointer none), (6, .pointer none)]) ([[(sb, .cells #[.pointer none, .pointer none] 209 (0, 0))], R0])
    refine WC.seq (WC.seq (WC.region ?_))
    refine WL.q (oq_move rfl) rfl rfl rfl ?_
    refine WL.q (oq_pneq Tryz.underlying207 rfl rfl) rfl rfl rfl ?_
    refine WL.nil (WE.then_normal (WC.sub (fr' := [(1, _), (4, _), (5, _), (6, _), (12, _)]) ?_ ⟨rfl, rfl, rfl, rfl, rfl, trivial⟩))
    refine WC.cond rfl (fun q2 => ?_) (fun q2 => ?_)
    ·
      try simp only [Z1, Z2, Z3, Z4, Z5, Z6, Z7, Z8, Z9, Z0] at q2
      simp at q2
    ·
      try simp only [Z1, Z2, Z3, Z4, Z5, Z6, Z7, Z8, Z9, Z0] at q2
      refine WC.exit (WE.then_exit (WE.then_exit (WE.block_same (WE.then_normal (WC.sub (fr' := [(4, _), (5, _)]) ?_ ⟨rfl, rfl, trivial⟩)))))
      refine WC.ret ?_
      refine WE.endW1 (.inl rfl) (res2 Tryz.results116 rfl rfl) ?_
      -- end 0
      exact ⟨.inr ⟨by simp, rfl⟩, rfl⟩

/-- (given.example/pub-tinwright/pub/smithy/middleware.finalizeMiddlewareFunc).ID -/
theorem id3 (base : Nat) (i : List UInt8) (fv : Value) : FnW Tryz.prog 156 [.agg #[S i, fv]] base [] (fun v Hs => v = S i ∧ Hs = []) := by
  refine FnW.enter (n := 5) Tryz.func156 rfl rfl fun w0 R0 hbase => ?_
  subst hbase
  show WC _ _ _ _ _ _ _ ([R0])
  refine WC.sub (fr' := [(0, _)]) ?_ ⟨rfl, trivial⟩
  refine WC.seq (WC.region ?_)
  refine WL.box rfl rfl rfl fun b0_0 hb0_0 => ?_
  refine WL.q (oq_assign rfl) rfl rfl rfl ?_
  refine WL.nil (WE.then_normal (WC.sub (fr' := [(1, _)]) ?_ ⟨rfl, trivial⟩))
  refine WC.seq (WC.region ?_)
  refine WL.q (oq_fieldAddr fld239_0 rfl) rfl rfl rfl ?_
  refine WL.q (oq_load flat9 rfl (.head _) (List.mem_singleton.2 rfl) rfl) rfl rfl rfl ?_
  refine WL.q (oq_assign rfl) rfl rfl rfl ?_
  refine WL.nil (WE.then_normal (WC.sub (fr' := [(2, _)]) ?_ ⟨rfl, trivial⟩))
  refine WC.ret ?_
  refine WE.lose hb0_0 ?_
  refine WE.endW0 (.inl rfl) (res1 Tryz.results156 rfl) ?_
  -- end 0
  exact ⟨rfl, rfl⟩

/-- (*given.example/pub-tinwright/pub/smithy/middleware.FinalizeStep).get -/
theorem getC3 (base sb : Nat) (items : List Nd) (x0 : Nd) (r0 : List Nd) (h0 : items = x0 :: r0) (id : List UInt8) : FnW Tryz.prog 117 [Pt sb 0, S id] base [[(sb, .cells #[hdp items, lastp items] 212 (0, 0))], ch 210 241 239 items .nilIface] (fun v Hs => GotV id items v ∧ Hs = [[(sb, .cells #[hdp items, lastp items] 212 (0, 0))], ch 210 241 239 items .nilIface]) := by
  refine FnW.enter (n := 35) Tryz.func117 rfl rfl fun w0 R0 hbase => ?_
  subst hbase
  show WC _ _ _ _ _ _ _ ([[(sb, .cells #[hdp items, lastp items] 212 (0, 0))], ch 210 241 239 items .nilIface, R0])
  refine WC.sub (fr' := [(0, _), (1, _)]) ?_ ⟨rfl, rfl, trivial⟩
  refine WC.seq (WC.region ?_)
  refine WL.q (oq_assign rfl) rfl rfl rfl ?_
  refine WL.q (oq_assign rfl) rfl rfl rfl ?_
  refine WL.nil (WE.then_normal (WC.sub (fr' := [(0, _), (1, _), (4, _), (5, _)]) ?_ ⟨rfl, rfl, rfl, rfl, trivial⟩))
  refine WC.seq (WC.seq ?_)
  have hd0 : hdp items = Pt x0.b 0 := by rw [h0]; rfl
  rw [hd0]
  refine WC.region ?_
  refine WL.q (oq_move rfl) rfl rfl rfl ?_
  refine WL.q (oq_nilCheck rfl) rfl rfl rfl ?_
  refine WL.q (oq_fieldAddr fld212_0 rfl) rfl rfl rfl ?_
  refine WL.q (oq_load flat210 rfl (.head _) (List.mem_singleton.2 rfl) rfl) rfl rfl rfl ?_
  refine WL.q (oq_assign rfl) rfl rfl rfl ?_
  refine WL.nil (WE.then_normal (WC.sub (fr' := [(1, _), (4, _), (5, _), (6, _)]) ?_ ⟨rfl, rfl, rfl, rfl, trivial⟩))
  refine WC.block ?_
  refine WC.loop (ι := (List Nd) × Nd × (List Nd)) (fun i_ => (fun (A : List Nd) (x : Nd) (B : List Nd) => [(1, S id), (4, .pointer none), (5, lastp A), (6, Pt x.b 0)]) i_.1 i_.2.1 i_.2.2) (fun i_ => (fun (A : List Nd) (x : Nd) (B : List Nd) => [[(sb, .cells #[(Pt x0.b 0), (lastp items)] 212 (0, 0))], ch 210 241 239 items .nilIface, R0]) i_.1 i_.2.1 i_.2.2) (fun i_ => (fun (A : List Nd) (x : Nd) (B : List Nd) => items = A ++ x :: B ∧ ∀ y ∈ A, y.id ≠ id) i_.1 i_.2.1 i_.2.2) (fun i_ => (fun (A : List Nd) (x : Nd) (B : List Nd) => B.length) i_.1 i_.2.1 i_.2.2) (([], x0, r0)) ?_ ⟨rfl, rfl, rfl, rfl, trivial⟩ (List.Perm.refl _) ?_
  · try dsimp only
    exact ⟨h0, by simp⟩
  · rintro ⟨A, x, B⟩ hp
    try dsimp only at hp
    obtain ⟨hit, hA⟩ := hp
    show WC _ _ _ _ _ _ ([(1, S id), (4, .pointer none), (5, lastp A), (6, Pt x.b 0)]) ([[(sb, .cells #[(Pt x0.b 0), (lastp items)] 212 (0, 0))], ch 210 241 239 items .nilIface, R0])
    refine WC.seq (WC.seq (WC.region ?_))
    refine WL.q (oq_move rfl) rfl rfl rfl ?_
    refine WL.q (oq_pneq Tryz.underlying210 rfl rfl) rfl rfl rfl ?_
    refine WL.nil (WE.then_normal (WC.sub (fr' := [(1, _), (4, _), (5, _), (6, _), (12, _)]) ?_ ⟨rfl, rfl, rfl, rfl, rfl, trivial⟩))
    refine WC.cond rfl (fun q2 => ?_) (fun q2 => ?_)
    ·
      try simp only [Z1, Z2, Z3, Z4, Z5, Z6, Z7, Z8, Z9, Z0] at q2
      refine WC.skip (WE.then_normal (WC.sub (fr' := [(1, _), (4, _), (5, _), (6, _)]) ?_ ⟨rfl, rfl, rfl, rfl, trivial⟩))
      refine WC.block (WC.seq (WC.seq (WC.region ?_)))
      refine WL.q (oq_move rfl) rfl rfl rfl ?_
      refine WL.q (oq_nilCheck rfl) rfl rfl rfl ?_
      refine WL.q (oq_fieldAddr fld241_1 rfl) rfl rfl rfl ?_
      refine WL.q (oq_load flat165 rfl (.tail _ (.head _)) (by rw [hit]; exact ch_mem _ _ _ _) rfl) rfl rfl rfl ?_
      refine WL.callWE (fun a w hf => ent_inv0 invID3 rfl hf w) (id3 _ x.id x.fv) rfl rfl rfl rfl fun v3_4 Hs3_4 hR3_4 => ?_
      obtain ⟨rfl, rfl⟩ := hR3_4
      refine WL.q (oq_move rfl) rfl rfl rfl ?_
      refine WL.q (oq_seql rfl rfl) rfl rfl rfl ?_
      refine WL.nil (WE.then_normal (WC.sub (fr' := [(1, _), (4, _), (5, _), (6, _), (19, _)]) ?_ ⟨rfl, rfl, rfl, rfl, rfl, trivial⟩))
      refine WC.cond rfl (fun q3 => ?_) (fun q3 => ?_)
      ·
        try simp only [Z1, Z2, Z3, Z4, Z5, Z6, Z7, Z8, Z9, Z0] at q3
        refine WC.seq (WC.region ?_)
        refine WL.q (oq_move rfl) rfl rfl rfl ?_
        refine WL.q (oq_assign rfl) rfl rfl rfl ?_
        refine WL.nil (WE.then_normal (WC.sub (fr' := [(4, _), (5, _)]) ?_ ⟨rfl, rfl, trivial⟩))
        refine WC.ret (WE.then_ret (WE.block_ret (WE.then_ret (WE.block_ret (WE.then_ret ?_)))))
        refine WE.endW2 (.inl rfl) (res2 Tryz.results117 rfl rfl) ?_
        -- end 0
        exact ⟨.inl ⟨A, x, B, hit, q3, hA, rfl⟩, rfl⟩
      ·
        try simp only [Z1, Z2, Z3, Z4, Z5, Z6, Z7, Z8, Z9, Z0] at q3
        refine WC.skip (WE.then_normal (WC.sub (fr' := [(1, _), (4, _), (6, _)]) ?_ ⟨rfl, rfl, rfl, trivial⟩))
        refine WC.seq (WC.region ?_)
        refine WL.q (oq_move rfl) rfl rfl rfl ?_
        refine WL.q (oq_assign rfl) rfl rfl rfl ?_
        refine WL.nil (WE.then_normal (WC.sub (fr' := [(1, _), (4, _), (5, _), (6, _)]) ?_ ⟨rfl, rfl, rfl, rfl, trivial⟩))
        refine WC.seq (WC.seq (WC.region ?_))
        refine WL.q (oq_move rfl) rfl rfl rfl ?_
        refine WL.q (oq_nilCheck rfl) rfl rfl rfl ?_
        refine WL.q (oq_fieldAddr fld241_0 rfl) rfl rfl rfl ?_
        refine WL.q (oq_load flat169 rfl (.tail _ (.head _)) (by rw [hit]; exact ch_mem _ _ _ _) rfl) rfl rfl rfl ?_
        refine WL.q (oq_ieql Tryz.underlying169 rfl (nextOf_or _ _)) rfl rfl rfl ?_
        refine WL.nil (WE.then_normal (WC.sub (fr' := [(1, _), (4, _), (5, _), (6, _), (26, _)]) ?_ ⟨rfl, rfl, rfl, rfl, rfl, trivial⟩))
        refine WC.cond rfl (fun q6 => ?_) (fun q6 => ?_)
        ·
          try simp only [Z1, Z2, Z3, Z4, Z5, Z6, Z7, Z8, Z9, Z0] at q6
          refine WC.ret (WE.then_ret (WE.block_ret (WE.then_ret (WE.block_ret (WE.then_ret ?_)))))
          refine WE.endW2 (.inl rfl) (res2 Tryz.results117 rfl rfl) ?_
          -- end 1
          have hB := nextOf_nil q6
          subst hB
          exact ⟨.inr ⟨fun z hz => by rw [hit] at hz; rcases List.mem_append.1 hz with h | h; exact hA z h; rw [List.mem_singleton.1 h]; exact q3, by rw [hit, lastp_snoc]⟩, rfl⟩
        ·
          try simp only [Z1, Z2, Z3, Z4, Z5, Z6, Z7, Z8, Z9, Z0] at q6
          refine WC.skip (WE.then_normal (WC.sub (fr' := [(1, _), (4, _), (5, _), (6, _)]) ?_ ⟨rfl, rfl, rfl, rfl, trivial⟩))
          obtain ⟨y, B2, rfl⟩ := nextOf_cons q6
          refine WC.region ?_
          refine WL.q (oq_move rfl) rfl rfl rfl ?_
          refine WL.q (oq_nilCheck rfl) rfl rfl rfl ?_
          refine WL.q (oq_fieldAddr fld241_0 rfl) rfl rfl rfl ?_
          refine WL.q (oq_load flat169 rfl (.tail _ (.head _)) (by rw [hit]; exact ch_mem _ _ _ _) rfl) rfl rfl rfl ?_
          refine WL.q (oq_askC conc210 rfl) rfl rfl rfl ?_
          refine WL.q (oq_move rfl) rfl rfl rfl ?_
          refine WL.q (oq_extract rfl rfl) rfl rfl rfl ?_
          refine WL.q (oq_extract rfl rfl) rfl rfl rfl ?_
          refine WL.q (oq_assign rfl) rfl rfl rfl ?_
          refine WL.nil (WE.block_normal ?_)
          refine WE.again (A ++ [x], y, B2) ?_ ?_ ⟨rfl, rfl, (gtv rfl (lastp_snoc _ _).symm), rfl, trivial⟩ (List.Perm.refl _)
          · try dsimp only   -- again 0
            exact ⟨by rw [hit]; simp, fun z hz => by rcases List.mem_append.1 hz with h | h; exact hA z h; rw [List.mem_singleton.1 h]; exact q3⟩
          · (try dsimp only); simp
    ·
      try simp only [Z1, Z2, Z3, Z4, Z5, Z6, Z7, Z8, Z9, Z0] at q2
      simp at q2

/-- (*given.example/pub-tinwright/pub/smithy/middleware.FinalizeStep).get -/
theorem getN3 (base sb : Nat) (id : List UInt8) : FnW Tryz.prog 117 [Pt sb 0, S id] base [[(sb, .cells #[.pointer none, .pointer none] 212 (0, 0))]] (fun v Hs => GotV id [] v ∧ Hs = [[(sb, .cells #[.pointer none, .pointer none] 212 (0, 0))]]) := by
  refine FnW.enter (n := 35) Tryz.func117 rfl rfl fun w0 R0 hbase => ?_
  subst hbase
  show WC _ _ _ _ _ _ _ ([[(sb, .cells #[.pointer none, .pointer none] 212 (0, 0))], R0])
  refine WC.sub (fr' := [(0, _), (1, _)]) ?_ ⟨rfl, rfl, trivial⟩
  refine WC.seq (WC.region ?_)
  refine WL.q (oq_assign rfl) rfl rfl rfl ?_
  refine WL.q (oq_assign rfl) rfl rfl rfl ?_
  refine WL.nil (WE.then_normal (WC.sub (fr' := [(0, _), (1, _), (4, _), (5, _)]) ?_ ⟨rfl, rfl, rfl, rfl, trivial⟩))
  refine WC.seq (WC.seq (WC.region ?_))
  refine WL.q (oq_move rfl) rfl rfl rfl ?_
  refine WL.q (oq_nilCheck rfl) rfl rfl rfl ?_
  refine WL.q (oq_fieldAddr fld212_0 rfl) rfl rfl rfl ?_
  refine WL.q (oq_load flat210 rfl (.head _) (List.mem_singleton.2 rfl) rfl) rfl rfl rfl ?_
  refine WL.q (oq_assign rfl) rfl rfl rfl ?_
  refine WL.nil (WE.then_normal (WC.sub (fr' := [(1, _), (4, _), (5, _), (6, _)]) ?_ ⟨rfl, rfl, rfl, rfl, trivial⟩))
  refine WC.block ?_
  refine WC.loop (ι := Unit) (fun _ => [(1, S id), (4, .pointer none), (5, .pointer none), (6, .pointer none)]) (fun _ => [[(sb, .cells #[.pointer none, .pointer none] 212 (0, 0))], R0]) (fun _ => True) (fun _ => 0) (()) ?_ ⟨rfl, rfl, rfl, rfl, trivial⟩ (List.Perm.refl _) ?_
  · try dsimp only
    all_goals trivial
  · rintro _ hp
    try dsimp only at hp
    show WC _ _ _ _ _ _ ([(1, S id), (4, .pointer none), (5, .pointer none), (6, .pointer none)]) ([[(sb, .cells #[.pointer none, .pointer none] 212 (0, 0))], R0])
    refine WC.seq (WC.seq (WC.region ?_))
    refine WL.q (oq_move rfl) rfl rfl rfl ?_
    refine WL.q (oq_pneq Tryz.underlying210 rfl rfl) rfl rfl rfl ?_
    refine WL.nil (WE.then_normal (WC.sub (fr' := [(1, _), (4, _), (5, _), (6, _), (12, _)]) ?_ ⟨rfl, rfl, rfl, rfl, rfl, trivial⟩))
    refine WC.cond rfl (fun q2 => ?_) (fun q2 => ?_)
    ·
      try simp only [Z1, Z2, Z3, Z4, Z5, Z6, Z7, Z8, Z9, Z0] at q2
      simp at q2
    ·
      try simp only [Z1, Z2, Z3, Z4, Z5, Z6, Z7, Z8, Z9, Z0] at q2
      refine WC.exit (WE.then_exit (WE.then_exit (WE.block_same (WE.then_normal (WC.sub (fr' := [(4, _), (5, _)]) ?_ ⟨rfl, rfl, trivial⟩)))))
      refine WC.ret ?_
      refine WE.endW1 (.inl rfl) (res2 Tryz.results117 rfl rfl) ?_
      -- end 0
      exact ⟨.inr ⟨by simp, rfl⟩, rfl⟩

/-- (given.example/pub-tinwright/pub/smithy/middleware.deserializeMiddlewareFunc).ID -/
theorem id4 (base : Nat) (i : List UInt8) (fv : Value) : FnW Tryz.prog 158 [.agg #[S i, fv]] base [] (fun v Hs => v = S i ∧ Hs = []) := by
  refine FnW.enter (n := 5) Tryz.func158 rfl rfl fun w0 R0 hbase => ?_
  subst hbase
  show WC _ _ _ _ _ _ _ ([R0])
  refine WC.sub (fr' := [(0, _)]) ?_ ⟨rfl, trivial⟩
  refine WC.seq (WC.region ?_)
  refine WL.box rfl rfl rfl fun b0_0 hb0_0 => ?_
  refine WL.q (oq_assign rfl) rfl rfl rfl ?_
  refine WL.nil (WE.then_normal (WC.sub (fr' := [(1, _)]) ?_ ⟨rfl, trivial⟩))
  refine WC.seq (WC.region ?_)
  refine WL.q (oq_fieldAddr fld246_0 rfl) rfl rfl rfl ?_
  refine WL.q (oq_load flat9 rfl (.head _) (List.mem_singleton.2 rfl) rfl) rfl rfl rfl ?_
  refine WL.q (oq_assign rfl) rfl rfl rfl ?_
  refine WL.nil (WE.then_normal (WC.sub (fr' := [(2, _)]) ?_ ⟨rfl, trivial⟩))
  refine WC.ret ?_
  refine WE.lose hb0_0 ?_
  refine WE.endW0 (.inl rfl) (res1 Tryz.results158 rfl) ?_
  -- end 0
  exact ⟨rfl, rfl⟩

/-- (*given.example/pub-tinwright/pub/smithy/middleware.DeserializeStep).get -/
theorem getC4 (base sb : Nat) (items : List Nd) (x0 : Nd) (r0 : List Nd) (h0 : items = x0 :: r0) (id : List UInt8) : FnW Tryz.prog 118 [Pt sb 0, S id] base [[(sb, .cells #[hdp items, lastp items] 215 (0, 0))], ch 213 248 246 items .nilIface] (fun v Hs => GotV id items v ∧ Hs = [[(sb, .cells #[hdp items, lastp items] 215 (0, 0))], ch 213 248 246 items .nilIface]) := by
  refine FnW.enter (n := 35) Tryz.func118 rfl rfl fun w0 R0 hbase => ?_
  subst hbase
  show WC _ _ _ _ _ _ _ ([[(sb, .cells #[hdp items, lastp items] 215 (0, 0))], ch 213 248 246 items .nilIface, R0])
  refine WC.sub (fr' := [(0, _), (1, _)]) ?_ ⟨rfl, rfl, trivial⟩
  refine WC.seq (WC.region ?_)
  refine WL.q (oq_assign rfl) rfl rfl rfl ?_
  refine WL.q (oq_assign rfl) rfl rfl rfl ?_
  refine WL.nil (WE.then_normal (WC.sub (fr' := [(0, _), (1, _), (4, _), (5, _)]) ?_ ⟨rfl, rfl, rfl, rfl, trivial⟩))
  refine WC.seq (WC.seq ?_)
  have hd0 : hdp items = Pt x0.b 0 := by rw [h0]; rfl
  rw [hd0]
  refine WC.region ?_
  refine WL.q (oq_move rfl) rfl rfl rfl ?_
  refine WL.q (oq_nilCheck rfl) rfl rfl rfl ?_
  refine WL.q (oq_fieldAddr fld215_0 rfl) rfl rfl rfl ?_
  refine WL.q (oq_load flat213 rfl (.head _) (List.mem_singleton.2 rfl) rfl) rfl rfl rfl ?_
  refine WL.q (oq_assign rfl) rfl rfl rfl ?_
  refine WL.nil (WE.then_normal (WC.sub (fr' := [(1, _), (4, _), (5, _), (6, _)]) ?_ ⟨rfl, rfl, rfl, rfl, trivial⟩))
  refine WC.block ?_
  refine WC.loop (ι := (List Nd) × Nd × (List Nd)) (fun i_ => (fun (A : List Nd) (x : Nd) (B : List Nd) => [(1, S id), (4, .pointer none), (5, lastp A), (6, Pt x.b 0)]) i_.1 i_.2.1 i_.2.2) (fun i_ => (fun (A : List Nd) (x : Nd) (B : List Nd) => [[(sb, .cells #[(Pt x0.b 0), (lastp items)] 215 (0, 0))], ch 213 248 246 items .nilIface, R0]) i_.1 i_.2.1 i_.2.2) (fun i_ => (fun (A : List Nd) (x : Nd) (B : List Nd) => items = A ++ x :: B ∧ ∀ y ∈ A, y.id ≠ id) i_.1 i_.2.1 i_.2.2) (fun i_ => (fun (A : List Nd) (x : Nd) (B : List Nd) => B.length) i_.1 i_.2.1 i_.2.2) (([], x0, r0)) ?_ ⟨rfl, rfl, rfl, rfl, trivial⟩ (List.Perm.refl _) ?_
  · try dsimp only
    exact ⟨h0, by simp⟩
  · rintro ⟨A, x, B⟩ hp
    try dsimp only at hp
    obtain ⟨hit, hA⟩ := hp
    show WC _ _ _ _ _ _ ([(1, S id), (4, .pointer none), (5, lastp A), (6, Pt x.b 0)]) ([[(sb, .cells #[(Pt x0.b 0), (lastp items)] 215 (0, 0))], ch 213 248 246 items .nilIface, R0])
    refine WC.seq (WC.seq (WC.region ?_))
    refine WL.q (oq_move rfl) rfl rfl rfl ?_
    refine WL.q (oq_pneq Tryz.underlying213 rfl rfl) rfl rfl rfl ?_
    refine WL.nil (WE.then_normal (WC.sub (fr' := [(1, _), (4, _), (5, _), (6, _), (12, _)]) ?_ ⟨rfl, rfl, rfl, rfl, rfl, trivial⟩))
    refine WC.cond rfl (fun q2 => ?_) (fun q2 => ?_)
    ·
      try simp only [Z1, Z2, Z3, Z4, Z5, Z6, Z7, Z8, Z9, Z0] at q2
      refine WC.skip (WE.then_normal (WC.sub (fr' := [(1, _), (4, _), (5, _), (6, _)]) ?_ ⟨rfl, rfl, rfl, rfl, trivial⟩))
      refine WC.block (WC.seq (WC.seq (WC.region ?_)))
      refine WL.q (oq_move rfl) rfl rfl rfl ?_
      refine WL.q (oq_nilCheck rfl) rfl rfl rfl ?_
      refine WL.q (oq_fieldAddr fld248_1 rfl) rfl rfl rfl ?_
      refine WL.q (oq_load flat183 rfl (.tail _ (.head _)) (by rw [hit]; exact ch_mem _ _ _ _) rfl) rfl rfl rfl ?_
      refine WL.callWE (fun a w hf => ent_inv0 invID4 rfl hf w) (id4 _ x.id x.fv) rfl rfl rfl rfl fun v3_4 Hs3_4 hR3_4 => ?_
      obtain ⟨rfl, rfl⟩ := hR3_4
      refine WL.q (oq_move rfl) rfl rfl rfl ?_
      refine WL.q (oq_seql rfl rfl) rfl rfl rfl ?_
      refine WL.nil (WE.then_normal (WC.sub (fr' := [(1, _), (4, _), (5, _), (6, _), (19, _)]) ?_ ⟨rfl, rfl, rfl, rfl, rfl, trivial⟩))
      refine WC.cond rfl (fun q3 => ?_) (fun q3 => ?_)
      ·
        try simp only [Z1, Z2, Z3, Z4, Z5, Z6, Z7, Z8, Z9, Z0] at q3
        refine WC.seq (WC.region ?_)
        refine WL.q (oq_move rfl) rfl rfl rfl ?_
        refine WL.q (oq_assign rfl) rfl rfl rfl ?_
        refine WL.nil (WE.then_normal (WC.sub (fr' := [(4, _), (5, _)]) ?_ ⟨rfl, rfl, trivial⟩))
        refine WC.ret (WE.then_ret (WE.block_ret (WE.then_ret (WE.block_ret (WE.then_ret ?_)))))
        refine WE.endW2 (.inl rfl) (res2 Tryz.results118 rfl rfl) ?_
        -- end 0
        exact ⟨.inl ⟨A, x, B, hit, q3, hA, rfl⟩, rfl⟩
      ·
        try simp only [Z1, Z2, Z3, Z4, Z5, Z6, Z7, Z8, Z9, Z0] at q3
        refine WC.skip (WE.then_normal (WC.sub (fr' := [(1, _), (4, _), (6, _)]) ?_ ⟨rfl, rfl, rfl, trivial⟩))
        refine WC.seq (WC.region ?_)
        refine WL.q (oq_move rfl) rfl rfl rfl ?_
        refine WL.q (oq_assign rfl) rfl rfl rfl ?_
        refine WL.nil (WE.then_normal (WC.sub (fr' := [(1, _), (4, _), (5, _), (6, _)]) ?_ ⟨rfl, rfl, rfl, rfl, trivial⟩))
        refine WC.seq (WC.seq (WC.region ?_))
        refine WL.q (oq_move rfl) rfl rfl rfl ?_
        refine WL.q (oq_nilCheck rfl) rfl rfl rfl ?_
        refine WL.q (oq_fieldAddr fld248_0 rfl) rfl rfl rfl ?_
        refine WL.q (oq_load flat187 rfl (.tail _ (.head _)) (by rw [hit]; exact ch_mem _ _ _ _) rfl) rfl rfl rfl ?_
        refine WL.q (oq_ieql Tryz.underlying187 rfl (nextOf_or _ _)) rfl rfl rfl ?_
        refine WL.nil (WE.then_normal (WC.sub (fr' := [(1, _), (4, _), (5, _), (6, _), (26, _)]) ?_ ⟨rfl, rfl, rfl, rfl, rfl, trivial⟩))
        refine WC.cond rfl (fun q6 => ?_) (fun q6 => ?_)
        ·
          try simp only [Z1, Z2, Z3, Z4, Z5, Z6, Z7, Z8, Z9, Z0] at q6
          refine WC.ret (WE.then_ret (WE.block_ret (WE.then_ret (WE.block_ret (WE.then_ret ?_)))))
          refine WE.endW2 (.inl rfl) (res2 Tryz.results118 rfl rfl) ?_
          -- end 1
          have hB := nextOf_nil q6
          subst hB
          exact ⟨.inr ⟨fun z hz => by rw [hit] at hz; rcases List.mem_append.1 hz with h | h; exact hA z h; rw [List.mem_singleton.1 h]; exact q3, by rw [hit, lastp_snoc]⟩, rfl⟩
        ·
          try simp only [Z1, Z2, Z3, Z4, Z5, Z6, Z7, Z8, Z9, Z0] at q6
          refine WC.skip (WE.then_normal (WC.sub (fr' := [(1, _), (4, _), (5, _), (6, _)]) ?_ ⟨rfl, rfl, rfl, rfl, trivial⟩))
          obtain ⟨y, B2, rfl⟩ := nextOf_cons q6
          refine WC.region ?_
          refine WL.q (oq_move rfl) rfl rfl rfl ?_
          refine WL.q (oq_nilCheck rfl) rfl rfl rfl ?_
          refine WL.q (oq_fieldAddr fld248_0 rfl) rfl rfl rfl ?_
          refine WL.q (oq_load flat187 rfl (.tail _ (.head _)) (by rw [hit]; exact ch_mem _ _ _ _) rfl) rfl rfl rfl ?_
          refine WL.q (oq_askC conc213 rfl) rfl rfl rfl ?_
          refine WL.q (oq_move rfl) rfl rfl rfl ?_
          refine WL.q (oq_extract rfl rfl) rfl rfl rfl ?_
          refine WL.q (oq_extract rfl rfl) rfl rfl rfl ?_
          refine WL.q (oq_assign rfl) rfl rfl rfl ?_
          refine WL.nil (WE.block_normal ?_)
          refine WE.again (A ++ [x], y, B2) ?_ ?_ ⟨rfl, rfl, (gtv rfl (lastp_snoc _ _).symm), rfl, trivial⟩ (List.Perm.refl _)
          · try dsimp only   -- again 0
            exact ⟨by rw [hit]; simp, fun z hz => by rcases List.mem_append.1 hz with h | h; exact hA z h; rw [List.mem_singleton.1 h]; exact q3⟩
          · (try dsimp only); simp
    ·
      try simp only [Z1, Z2, Z3, Z4, Z5, Z6, Z7, Z8, Z9, Z0] at q2
      simp at q2

/-- (*given.example/pub-tinwright/pub/smithy/middleware.DeserializeStep).get -/
theorem getN4 (base sb : Nat) (id : List UInt8) : FnW Tryz.prog 118 [Pt sb 0, S id] base [[(sb, .cells #[.pointer none, .pointer none] 215 (0, 0))]] (fun v Hs => GotV id [] v ∧ Hs = [[(sb, .cells #[.pointer none, .pointer none] 215 (0, 0))]]) := by
  refine FnW.enter (n := 35) Tryz.func118 rfl rfl fun w0 R0 hbase => ?_
  subst hbase
  show WC _ _ _ _ _ _ _ ([[(sb, .cells #[.pointer none, .pointer none] 215 (0, 0))], R0])
  refine WC.sub (fr' := [(0, _), (1, _)]) ?_ ⟨rfl, rfl, trivial⟩
  refine WC.seq (WC.region ?_)
  refine WL.q (oq_assign rfl) rfl rfl rfl ?_
  refine WL.q (oq_assign rfl) rfl rfl rfl ?_
  refine WL.nil (WE.then_normal (WC.sub (fr' := [(0, _), (1, _), (4, _), (5, _)]) ?_ ⟨rfl, rfl, rfl, rfl, trivial⟩))
  refine WC.seq (WC.seq (WC.region ?_))
  refine WL.q (oq_move rfl) rfl rfl rfl ?_
  refine WL.q (oq_nilCheck rfl) rfl rfl rfl ?_
  refine WL.q (oq_fieldAddr fld215_0 rfl) rfl rfl rfl ?_
  refine WL.q (oq_load flat213 rfl (.head _) (List.mem_singleton.2 rfl) rfl) rfl rfl rfl ?_
  refine WL.q (oq_assign rfl) rfl rfl rfl ?_
  refine WL.nil (WE.then_normal (WC.sub (fr' := [(1, _), (4, _), (5, _), (6, _)]) ?_ ⟨rfl, rfl, rfl, rfl, trivial⟩))
  refine WC.block ?_
  refine WC.loop (ι := Unit) (fun _ => [(1, S id), (4, .pointer none), (5, .pointer none), (6, .pointer none)]) (fun _ => [[(sb, .cells #[.pointer none, .pointer none] 215 (0, 0))], R0]) (fun _ => True) (fun _ => 0) (()) ?_ ⟨rfl, rfl, rfl, rfl, trivial⟩ (List.Perm.refl _) ?_
  · try dsimp only
    all_goals trivial
  · rintro _ hp
    try dsimp only at hp
    show WC _ _ _ _ _ _ ([(1, S id), (4, .pointer none), (5, .pointer none), (6, .pointer none)]) ([[(sb, .cells #[.pointer none, .pointer none] 215 (0, 0))], R0])
    refine WC.seq (WC.seq (WC.region ?_))
    refine WL.q (oq_move rfl) rfl rfl rfl ?_
    refine WL.q (oq_pneq Tryz.underlying213 rfl rfl) rfl rfl rfl ?_
    refine WL.nil (WE.then_normal (WC.sub (fr' := [(1, _), (4, _), (5, _), (6, _), (12, _)]) ?_ ⟨rfl, rfl, rfl, rfl, rfl, trivial⟩))
    refine WC.cond rfl (fun q2 => ?_) (fun q2 => ?_)
    ·
      try simp only [Z1, Z2, Z3, Z4, Z5, Z6, Z7, Z8, Z9, Z0] at q2
      simp at q2
    ·
      try simp only [Z1, Z2, Z3, Z4, Z5, Z6, Z7, Z8, Z9, Z0] at q2
      refine WC.exit (WE.then_exit (WE.then_exit (WE.block_same (WE.then_normal (WC.sub (fr' := [(4, _), (5, _)]) ?_ ⟨rfl, rfl, trivial⟩)))))
      refine WC.ret ?_
      refine WE.endW1 (.inl rfl) (res2 Tryz.results118 rfl rfl) ?_
      -- end 0
      exact ⟨.inr ⟨by simp, rfl⟩, rfl⟩

end S0
end Go.Proofs.YtclafiglpcjhdaaGreat
