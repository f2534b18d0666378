/- Walks of a step: its names. -/
import Derived.Test.YtclafiglpcjhdaaGreatS2
import Derived.Test.YtclafiglpcjhdaaGreatL2
namespace Go.Proofs.YtclafiglpcjhdaaGreat
open Go Go.RowKit V S0 S1 S2 L2
set_option linter.unusedSimpArgs false
set_option linter.unusedVariables false
set_option maxRecDepth 10000
namespace S4
theorem flat104 : Flat Tryz.prog 104 := ⟨_, Tryz.underlying104, by simp⟩
theorem flat109 : Flat Tryz.prog 109 := ⟨_, Tryz.underlying109, by simp⟩
theorem flat127 : Flat Tryz.prog 127 := ⟨_, Tryz.underlying127, by simp⟩
theorem flat132 : Flat Tryz.prog 132 := ⟨_, Tryz.underlying132, by simp⟩
theorem flat146 : Flat Tryz.prog 146 := ⟨_, Tryz.underlying146, by simp⟩
theorem flat151 : Flat Tryz.prog 151 := ⟨_, Tryz.underlying151, by simp⟩
theorem flat165 : Flat Tryz.prog 165 := ⟨_, Tryz.underlying165, by simp⟩
theorem flat169 : Flat Tryz.prog 169 := ⟨_, Tryz.underlying169, by simp⟩
theorem flat183 : Flat Tryz.prog 183 := ⟨_, Tryz.underlying183, by simp⟩
theorem flat187 : Flat Tryz.prog 187 := ⟨_, Tryz.underlying187, by simp⟩
theorem flat201 : Flat Tryz.prog 201 := ⟨_, Tryz.underlying201, by simp⟩
theorem flat204 : Flat Tryz.prog 204 := ⟨_, Tryz.underlying204, by simp⟩
theorem flat207 : Flat Tryz.prog 207 := ⟨_, Tryz.underlying207, by simp⟩
theorem flat210 : Flat Tryz.prog 210 := ⟨_, Tryz.underlying210, by simp⟩
theorem flat213 : Flat Tryz.prog 213 := ⟨_, Tryz.underlying213, by simp⟩
theorem ty9 : Ty Tryz.prog 9 (S []) 1 16 := ty_of (by kernel_rfl)
theorem ty104 : Ty Tryz.prog 104 .nilIface 1 16 := ty_of (by kernel_rfl)
theorem ty109 : Ty Tryz.prog 109 .nilIface 1 16 := ty_of (by kernel_rfl)
theorem ty127 : Ty Tryz.prog 127 .nilIface 1 16 := ty_of (by kernel_rfl)
theorem ty132 : Ty Tryz.prog 132 .nilIface 1 16 := ty_of (by kernel_rfl)
theorem ty146 : Ty Tryz.prog 146 .nilIface 1 16 := ty_of (by kernel_rfl)
theorem ty151 : Ty Tryz.prog 151 .nilIface 1 16 := ty_of (by kernel_rfl)
theorem ty165 : Ty Tryz.prog 165 .nilIface 1 16 := ty_of (by kernel_rfl)
theorem ty169 : Ty Tryz.prog 169 .nilIface 1 16 := ty_of (by kernel_rfl)
theorem ty183 : Ty Tryz.prog 183 .nilIface 1 16 := ty_of (by kernel_rfl)
theorem ty187 : Ty Tryz.prog 187 .nilIface 1 16 := ty_of (by kernel_rfl)
theorem ty201 : Ty Tryz.prog 201 (.pointer none) 1 8 := ty_of (by kernel_rfl)
theorem ty204 : Ty Tryz.prog 204 (.pointer none) 1 8 := ty_of (by kernel_rfl)
theorem ty207 : Ty Tryz.prog 207 (.pointer none) 1 8 := ty_of (by kernel_rfl)
theorem ty210 : Ty Tryz.prog 210 (.pointer none) 1 8 := ty_of (by kernel_rfl)
theorem ty213 : Ty Tryz.prog 213 (.pointer none) 1 8 := ty_of (by kernel_rfl)
theorem conc201 : Conc Tryz.prog 201 := ⟨_, Tryz.underlying201, by simp⟩
theorem conc204 : Conc Tryz.prog 204 := ⟨_, Tryz.underlying204, by simp⟩
theorem conc207 : Conc Tryz.prog 207 := ⟨_, Tryz.underlying207, by simp⟩
theorem conc210 : Conc Tryz.prog 210 := ⟨_, Tryz.underlying210, by simp⟩
theorem conc213 : Conc Tryz.prog 213 := ⟨_, Tryz.underlying213, by simp⟩
theorem fld203_0 : Fld Tryz.prog 203 0 0 201 := fld_of Tryz.underlying203 rfl rfl rfl ty201 (by decide)
theorem fld206_0 : Fld Tryz.prog 206 0 0 204 := fld_of Tryz.underlying206 rfl rfl rfl ty204 (by decide)
theorem fld209_0 : Fld Tryz.prog 209 0 0 207 := fld_of Tryz.underlying209 rfl rfl rfl ty207 (by decide)
theorem fld212_0 : Fld Tryz.prog 212 0 0 210 := fld_of Tryz.underlying212 rfl rfl rfl ty210 (by decide)
theorem fld215_0 : Fld Tryz.prog 215 0 0 213 := fld_of Tryz.underlying215 rfl rfl rfl ty213 (by decide)
theorem fld219_0 : Fld Tryz.prog 219 0 0 109 := fld_of Tryz.underlying219 rfl rfl rfl ty109 (by decide)
theorem fld219_1 : Fld Tryz.prog 219 1 1 104 := fld_of Tryz.underlying219 rfl rfl rfl ty104 (by decide)
theorem fld227_0 : Fld Tryz.prog 227 0 0 132 := fld_of Tryz.underlying227 rfl rfl rfl ty132 (by decide)
theorem fld227_1 : Fld Tryz.prog 227 1 1 127 := fld_of Tryz.underlying227 rfl rfl rfl ty127 (by decide)
theorem fld234_0 : Fld Tryz.prog 234 0 0 151 := fld_of Tryz.underlying234 rfl rfl rfl ty151 (by decide)
theorem fld234_1 : Fld Tryz.prog 234 1 1 146 := fld_of Tryz.underlying234 rfl rfl rfl ty146 (by decide)
theorem fld241_0 : Fld Tryz.prog 241 0 0 169 := fld_of Tryz.underlying241 rfl rfl rfl ty169 (by decide)
theorem fld241_1 : Fld Tryz.prog 241 1 1 165 := fld_of Tryz.underlying241 rfl rfl rfl ty165 (by decide)
theorem fld248_0 : Fld Tryz.prog 248 0 0 187 := fld_of Tryz.underlying248 rfl rfl rfl ty187 (by decide)
theorem fld248_1 : Fld Tryz.prog 248 1 1 183 := fld_of Tryz.underlying248 rfl rfl rfl ty183 (by decide)
/-- (*given.example/pub-tinwright/pub/smithy/middleware.InitializeStep).List -/
theorem listC0 (sb : Nat) (items : List Nd) (x0 : Nd) (r0 : List Nd) (h0 : items = x0 :: r0) (hl : items.length ≤ 100000) : FnA Tryz.prog 50 [Pt sb 0] ([(sb, .cells #[(hdp (items)), (lastp (items))] 203 (0, 0))] ++ ch 201 219 217 items .nilIface) (fun v N => OwS 0 9 1 v N items.length (strsV (items.map Nd.id))) := by
  refine FnA.enter (n := 37) Tryz.func50 rfl rfl fun w0 => ?_
  refine WC.sub (fr' := [(0, _)]) ?_ ⟨rfl, trivial⟩
  refine WC.seq (WC.region ?_)
  refine WL.q (oq_assign rfl) rfl rfl rfl ?_
  refine WL.nil (WE.then_normal (WC.sub (fr' := [(0, _)]) ?_ ⟨rfl, trivial⟩))
  refine WC.seq ?_
  refine WC.add0 ?_
  refine WC.region ?_
  refine WL.q (oq_assign rfl) rfl rfl rfl ?_
  refine WL.nil (WE.then_normal (WC.sub (fr' := [(0, _), (3, _)]) ?_ ⟨rfl, rfl, trivial⟩))
  refine WC.seq (WC.seq ?_)
  have hd0 : hdp items = Pt x0.b 0 := by rw [h0]; rfl
  rw [hd0]
  refine WC.region ?_
  refine WL.q (oq_move rfl) rfl rfl rfl ?_
  refine WL.q (oq_nilCheck rfl) rfl rfl rfl ?_
  refine WL.q (oq_fieldAddr fld203_0 rfl) rfl rfl rfl ?_
  refine WL.q (oq_load flat201 rfl (.tail _ (.head _)) (List.mem_append_left _ (List.mem_singleton.2 rfl)) rfl) rfl rfl rfl ?_
  refine WL.q (oq_assign rfl) rfl rfl rfl ?_
  refine WL.nil (WE.then_normal (WC.sub (fr' := [(3, _), (4, _)]) ?_ ⟨rfl, rfl, trivial⟩))
  refine WC.block ?_
  refine WC.loop (ι := (List Nd) × Nd × (List Nd) × Value × Hp) (fun i_ => (fun (B1 : List Nd) (x : Nd) (B : List Nd) (v : Value) (V : Hp) => [(3, v), (4, Pt x.b 0)]) i_.1 i_.2.1 i_.2.2.1 i_.2.2.2.1 i_.2.2.2.2) (fun i_ => (fun (B1 : List Nd) (x : Nd) (B : List Nd) (v : Value) (V : Hp) => [V, ([(sb, .cells #[Pt x0.b 0, (lastp items)] 203 (0, 0))] ++ ch 201 219 217 items .nilIface)]) i_.1 i_.2.1 i_.2.2.1 i_.2.2.2.1 i_.2.2.2.2) (fun i_ => (fun (B1 : List Nd) (x : Nd) (B : List Nd) (v : Value) (V : Hp) => items = B1 ++ x :: B ∧ OwS w0.heap.size 9 1 v V B1.length (strsV (B1.map Nd.id))) i_.1 i_.2.1 i_.2.2.1 i_.2.2.2.1 i_.2.2.2.2) (fun i_ => (fun (B1 : List Nd) (x : Nd) (B : List Nd) (v : Value) (V : Hp) => B.length) i_.1 i_.2.1 i_.2.2.1 i_.2.2.2.1 i_.2.2.2.2) (([], x0, r0, _, _)) ?_ ⟨rfl, rfl, trivial⟩ (List.Perm.refl _) ?_
  · try dsimp only
    exact ⟨h0, OwS.nil _ _ _⟩
  · rintro ⟨B1, x, B, v, V⟩ hp
    try dsimp only at hp
    obtain ⟨hit, ho⟩ := hp
    show WC _ _ _ _ _ _ ([(3, v), (4, Pt x.b 0)]) ([V, ([(sb, .cells #[Pt x0.b 0, (lastp items)] 203 (0, 0))] ++ ch 201 219 217 items .nilIface)])
    have hBl : B1.length < items.length := by rw [hit]; simp
    refine WC.seq (WC.seq (WC.region ?_))
    refine WL.q (oq_move rfl) rfl rfl rfl ?_
    refine WL.q (oq_pneq Tryz.underlying201 rfl rfl) rfl rfl rfl ?_
    refine WL.nil (WE.then_normal (WC.sub (fr' := [(3, _), (4, _), (12, _)]) ?_ ⟨rfl, rfl, rfl, trivial⟩))
    refine WC.cond rfl (fun q3 => ?_) (fun q3 => ?_)
    ·
      try simp only [Z1, Z2, Z3, Z4, Z5, Z6, Z7, Z8, Z9, Z0] at q3
      refine WC.skip (WE.then_normal (WC.sub (fr' := [(3, _), (4, _)]) ?_ ⟨rfl, rfl, trivial⟩))
      refine WC.block (WC.seq (WC.region ?_))
      refine WL.q (oq_move rfl) rfl rfl rfl ?_
      refine WL.q (oq_move rfl) rfl rfl rfl ?_
      refine WL.q (oq_nilCheck rfl) rfl rfl rfl ?_
      refine WL.q (oq_fieldAddr fld219_1 rfl) rfl rfl rfl ?_
      refine WL.q (oq_load flat104 rfl (.tail _ (.head _)) (List.mem_append_right _ (mem_of hit)) rfl) rfl rfl rfl ?_
      refine WL.callWE (fun a w hf => ent_inv0 invID0 rfl hf w) (id0 _ x.id x.fv) rfl rfl rfl rfl fun v4_5 Hs4_5 hR4_5 => ?_
      obtain ⟨rfl, rfl⟩ := hR4_5
      refine WL.append1 ho Tryz.underlying23 ty9 rfl (by decide) (fun _ => rfl) rfl rfl (by unfold maxLen; omega) (by omega) rfl rfl (fun _ => rfl) rfl fun v4 A4 u4 ho4 hne4 => ?_
      refine WL.q (oq_assign rfl) rfl rfl rfl ?_
      refine WL.nil (WE.then_normal (WC.sub (fr' := [(3, _), (4, _)]) ?_ ⟨rfl, rfl, trivial⟩))
      refine WC.seq (WC.seq (WC.region ?_))
      refine WL.q (oq_move rfl) rfl rfl rfl ?_
      refine WL.q (oq_nilCheck rfl) rfl rfl rfl ?_
      refine WL.q (oq_fieldAddr fld219_0 rfl) rfl rfl rfl ?_
      refine WL.q (oq_load flat109 rfl (.tail _ (.head _)) (List.mem_append_right _ (mem_of hit)) rfl) rfl rfl rfl ?_
      refine WL.q (oq_ieql Tryz.underlying109 rfl (nextOf_or _ _)) rfl rfl rfl ?_
      refine WL.nil (WE.then_normal (WC.sub (fr' := [(3, _), (4, _), (25, _)]) ?_ ⟨rfl, rfl, rfl, trivial⟩))
      refine WC.cond rfl (fun q5 => ?_) (fun q5 => ?_)
      ·
        try simp only [Z1, Z2, Z3, Z4, Z5, Z6, Z7, Z8, Z9, Z0] at q5
        refine WC.exit (WE.then_exit ?_)
        refine WE.block_other rfl ?_
        refine WE.then_exit (WE.block_same (WE.then_normal (WC.sub (fr' := [(3, _)]) ?_ ⟨rfl, trivial⟩)))
        refine WC.seq (WC.region ?_)
        refine WL.q (oq_move rfl) rfl rfl rfl ?_
        refine WL.q (oq_assign rfl) rfl rfl rfl ?_
        refine WL.nil (WE.then_normal (WC.sub (fr' := [(2, _)]) ?_ ⟨rfl, trivial⟩))
        refine WC.ret ?_
        refine WE.endA (.inl rfl) (res1 Tryz.results50 rfl) ?_ (ho4.fresh)
        -- end 0
        have hB := nextOf_nil q5
        subst hB
        exact (strs_eq ho4 (by rw [hit]; simp) (by rw [hit]; simp [strsV])).mono (Nat.zero_le _)
      ·
        try simp only [Z1, Z2, Z3, Z4, Z5, Z6, Z7, Z8, Z9, Z0] at q5
        refine WC.skip (WE.then_normal (WC.sub (fr' := [(3, _), (4, _)]) ?_ ⟨rfl, rfl, trivial⟩))
        refine WC.seq ?_
        obtain ⟨y, B2, rfl⟩ := nextOf_cons q5
        refine WC.region ?_
        refine WL.q (oq_move rfl) rfl rfl rfl ?_
        refine WL.q (oq_nilCheck rfl) rfl rfl rfl ?_
        refine WL.q (oq_fieldAddr fld219_0 rfl) rfl rfl rfl ?_
        refine WL.q (oq_load flat109 rfl (.tail _ (.head _)) (List.mem_append_right _ (mem_of hit)) rfl) rfl rfl rfl ?_
        refine WL.q (oq_askC conc201 rfl) rfl rfl rfl ?_
        refine WL.q (oq_move rfl) rfl rfl rfl ?_
        refine WL.q (oq_extract rfl rfl) rfl rfl rfl ?_
        refine WL.q (oq_extract rfl rfl) rfl rfl rfl ?_
        refine WL.q (oq_assign rfl) rfl rfl rfl ?_
        refine WL.q (oq_assign rfl) rfl rfl rfl ?_
        refine WL.nil (WE.then_normal (WC.sub (fr' := [(3, _), (5, _), (6, _)]) ?_ ⟨rfl, rfl, rfl, trivial⟩))
        refine WC.seq (WC.region ?_)
        refine WL.q (oq_move rfl) rfl rfl rfl ?_
        refine WL.nil (WE.then_normal (WC.sub (fr' := [(3, _), (5, _), (34, _)]) ?_ ⟨rfl, rfl, rfl, trivial⟩))
        refine WC.cond rfl (fun q7 => ?_) (fun q7 => ?_)
        ·
          try simp only [Z1, Z2, Z3, Z4, Z5, Z6, Z7, Z8, Z9, Z0] at q7
          refine WC.region ?_
          refine WL.q (oq_move rfl) rfl rfl rfl ?_
          refine WL.q (oq_assign rfl) rfl rfl rfl ?_
          refine WL.nil (WE.block_normal ?_)
          refine WE.again (B1 ++ [x], y, B2, _, _) ?_ ?_ ⟨rfl, rfl, trivial⟩ (List.Perm.refl _)
          · try dsimp only   -- again 0
            exact ⟨by rw [hit]; simp, strs_eq ho4 (by simp) (by simp [strsV])⟩
          · (try dsimp only); simp
        ·
          try simp only [Z1, Z2, Z3, Z4, Z5, Z6, Z7, Z8, Z9, Z0] at q7
          first | (simp at q3; done) | (simp at q7; done)
    ·
      try simp only [Z1, Z2, Z3, Z4, Z5, Z6, Z7, Z8, Z9, Z0] at q3
      first | (simp at q3; done) | (simp at q7; done)

/-- (*given.example/pub-tinwright/pub/smithy/middleware.InitializeStep).List -/
theorem listN0 (sb : Nat) : FnA Tryz.prog 50 [Pt sb 0] ([(sb, .cells #[(hdp ([])), (lastp ([]))] 203 (0, 0))] ++ ch 201 219 217 [] .nilIface) (fun v N => OwS 0 9 1 v N 0 (strsV [])) := by
  refine FnA.enter (n := 37) Tryz.func50 rfl rfl fun w0 => ?_
  refine WC.sub (fr' := [(0, _)]) ?_ ⟨rfl, trivial⟩
  refine WC.seq (WC.region ?_)
  refine WL.q (oq_assign rfl) rfl rfl rfl ?_
  refine WL.nil (WE.then_normal (WC.sub (fr' := [(0, _)]) ?_ ⟨rfl, trivial⟩))
  refine WC.seq ?_
  refine WC.add0 ?_
  refine WC.region ?_
  refine WL.q (oq_assign rfl) rfl rfl rfl ?_
  refine WL.nil (WE.then_normal (WC.sub (fr' := [(0, _), (3, _)]) ?_ ⟨rfl, rfl, trivial⟩))
  refine WC.seq (WC.seq (WC.region ?_))
  refine WL.q (oq_move rfl) rfl rfl rfl ?_
  refine WL.q (oq_nilCheck rfl) rfl rfl rfl ?_
  refine WL.q (oq_fieldAddr fld203_0 rfl) rfl rfl rfl ?_
  refine WL.q (oq_load flat201 rfl (.tail _ (.head _)) (List.mem_append_left _ (List.mem_singleton.2 rfl)) rfl) rfl rfl rfl ?_
  refine WL.q (oq_assign rfl) rfl rfl rfl ?_
  refine WL.nil (WE.then_normal (WC.sub (fr' := [(3, _), (4, _)]) ?_ ⟨rfl, rfl, trivial⟩))
  refine WC.block ?_
  refine WC.loop (ι := Unit) (fun _ => [(3, .slice none 0 0), (4, .pointer none)]) (fun _ => [[], ([(sb, .cells #[(hdp ([])), (lastp ([]))] 203 (0, 0))] ++ ch 201 219 217 [] .nilIface)]) (fun _ => True) (fun _ => 0) (()) ?_ ⟨rfl, rfl, trivial⟩ (List.Perm.refl _) ?_
  · try dsimp only
    all_goals trivial
  · rintro _ hp
    try dsimp only at hp
    show WC _ _ _ _ _ _ ([(3, .slice none 0 0), (4, .pointer none)]) ([[], ([(sb, .cells #[(hdp ([])), (lastp ([]))] 203 (0, 0))] ++ ch 201 219 217 [] .nilIface)])
    refine WC.seq (WC.seq (WC.region ?_))
    refine WL.q (oq_move rfl) rfl rfl rfl ?_
    refine WL.q (oq_pneq Tryz.underlying201 rfl rfl) rfl rfl rfl ?_
    refine WL.nil (WE.then_normal (WC.sub (fr' := [(3, _), (4, _), (12, _)]) ?_ ⟨rfl, rfl, rfl, trivial⟩))
    refine WC.cond rfl (fun q3 => ?_) (fun q3 => ?_)
    ·
      try simp only [Z1, Z2, Z3, Z4, Z5, Z6, Z7, Z8, Z9, Z0] at q3
      simp at q3
    ·
      try simp only [Z1, Z2, Z3, Z4, Z5, Z6, Z7, Z8, Z9, Z0] at q3
      refine WC.exit (WE.then_exit (WE.then_exit (WE.block_same (WE.then_normal (WC.sub (fr' := [(3, _)]) ?_ ⟨rfl, trivial⟩)))))
      refine WC.seq (WC.region ?_)
      refine WL.q (oq_move rfl) rfl rfl rfl ?_
      refine WL.q (oq_assign rfl) rfl rfl rfl ?_
      refine WL.nil (WE.then_normal (WC.sub (fr' := [(2, _)]) ?_ ⟨rfl, trivial⟩))
      refine WC.ret ?_
      refine WE.endA (.inl rfl) (res1 Tryz.results50 rfl) ?_ fresh0
      -- end 0
      exact OwS.nil _ _ _

/-- (*given.example/pub-tinwright/pub/smithy/middleware.SerializeStep).List -/
theorem listC1 (sb : Nat) (nr : Value) (items : List Nd) (x0 : Nd) (r0 : List Nd) (h0 : items = x0 :: r0) (hl : items.length ≤ 100000) : FnA Tryz.prog 65 [Pt sb 0] ([(sb, .cells #[(hdp (items)), (lastp (items)), nr] 206 (0, 0))] ++ ch 204 227 225 items .nilIface) (fun v N => OwS 0 9 1 v N items.length (strsV (items.map Nd.id))) := by
  refine FnA.enter (n := 37) Tryz.func65 rfl rfl fun w0 => ?_
  refine WC.sub (fr' := [(0, _)]) ?_ ⟨rfl, trivial⟩
  refine WC.seq (WC.region ?_)
  refine WL.q (oq_assign rfl) rfl rfl rfl ?_
  refine WL.nil (WE.then_normal (WC.sub (fr' := [(0, _)]) ?_ ⟨rfl, trivial⟩))
  refine WC.seq ?_
  refine WC.add0 ?_
  refine WC.region ?_
  refine WL.q (oq_assign rfl) rfl rfl rfl ?_
  refine WL.nil (WE.then_normal (WC.sub (fr' := [(0, _), (3, _)]) ?_ ⟨rfl, rfl, trivial⟩))
  refine WC.seq (WC.seq ?_)
  have hd0 : hdp items = Pt x0.b 0 := by rw [h0]; rfl
  rw [hd0]
  refine WC.region ?_
  refine WL.q (oq_move rfl) rfl rfl rfl ?_
  refine WL.q (oq_nilCheck rfl) rfl rfl rfl ?_
  refine WL.q (oq_fieldAddr fld206_0 rfl) rfl rfl rfl ?_
  refine WL.q (oq_load flat204 rfl (.tail _ (.head _)) (List.mem_append_left _ (List.mem_singleton.2 rfl)) rfl) rfl rfl rfl ?_
  refine WL.q (oq_assign rfl) rfl rfl rfl ?_
  refine WL.nil (WE.then_normal (WC.sub (fr' := [(3, _), (4, _)]) ?_ ⟨rfl, rfl, trivial⟩))
  refine WC.block ?_
  refine WC.loop (ι := (List Nd) × Nd × (List Nd) × Value × Hp) (fun i_ => (fun (B1 : List Nd) (x : Nd) (B : List Nd) (v : Value) (V : Hp) => [(3, v), (4, Pt x.b 0)]) i_.1 i_.2.1 i_.2.2.1 i_.2.2.2.1 i_.2.2.2.2) (fun i_ => (fun (B1 : List Nd) (x : Nd) (B : List Nd) (v : Value) (V : Hp) => [V, ([(sb, .cells #[Pt x0.b 0, (lastp items), nr] 206 (0, 0))] ++ ch 204 227 225 items .nilIface)]) i_.1 i_.2.1 i_.2.2.1 i_.2.2.2.1 i_.2.2.2.2) (fun i_ => (fun (B1 : List Nd) (x : Nd) (B : List Nd) (v : Value) (V : Hp) => items = B1 ++ x :: B ∧ OwS w0.heap.size 9 1 v V B1.length (strsV (B1.map Nd.id))) i_.1 i_.2.1 i_.2.2.1 i_.2.2.2.1 i_.2.2.2.2) (fun i_ => (fun (B1 : List Nd) (x : Nd) (B : List Nd) (v : Value) (V : Hp) => B.length) i_.1 i_.2.1 i_.2.2.1 i_.2.2.2.1 i_.2.2.2.2) (([], x0, r0, _, _)) ?_ ⟨rfl, rfl, trivial⟩ (List.Perm.refl _) ?_
  · try dsimp only
    exact ⟨h0, OwS.nil _ _ _⟩
  · rintro ⟨B1, x, B, v, V⟩ hp
    try dsimp only at hp
    obtain ⟨hit, ho⟩ := hp
    show WC _ _ _ _ _ _ ([(3, v), (4, Pt x.b 0)]) ([V, ([(sb, .cells #[Pt x0.b 0, (lastp items), nr] 206 (0, 0))] ++ ch 204 227 225 items .nilIface)])
    have hBl : B1.length < items.length := by rw [hit]; simp
    refine WC.seq (WC.seq (WC.region ?_))
    refine WL.q (oq_move rfl) rfl rfl rfl ?_
    refine WL.q (oq_pneq Tryz.underlying204 rfl rfl) rfl rfl rfl ?_
    refine WL.nil (WE.then_normal (WC.sub (fr' := [(3, _), (4, _), (12, _)]) ?_ ⟨rfl, rfl, rfl, trivial⟩))
    refine WC.cond rfl (fun q3 => ?_) (fun q3 => ?_)
    ·
      try simp only [Z1, Z2, Z3, Z4, Z5, Z6, Z7, Z8, Z9, Z0] at q3
      refine WC.skip (WE.then_normal (WC.sub (fr' := [(3, _), (4, _)]) ?_ ⟨rfl, rfl, trivial⟩))
      refine WC.block (WC.seq (WC.region ?_))
      refine WL.q (oq_move rfl) rfl rfl rfl ?_
      refine WL.q (oq_move rfl) rfl rfl rfl ?_
      refine WL.q (oq_nilCheck rfl) rfl rfl rfl ?_
      refine WL.q (oq_fieldAddr fld227_1 rfl) rfl rfl rfl ?_
      refine WL.q (oq_load flat127 rfl (.tail _ (.head _)) (List.mem_append_right _ (mem_of hit)) rfl) rfl rfl rfl ?_
      refine WL.callWE (fun a w hf => ent_inv0 invID1 rfl hf w) (id1 _ x.id x.fv) rfl rfl rfl rfl fun v4_5 Hs4_5 hR4_5 => ?_
      obtain ⟨rfl, rfl⟩ := hR4_5
      refine WL.append1 ho Tryz.underlying23 ty9 rfl (by decide) (fun _ => rfl) rfl rfl (by unfold maxLen; omega) (by omega) rfl rfl (fun _ => rfl) rfl fun v4 A4 u4 ho4 hne4 => ?_
      refine WL.q (oq_assign rfl) rfl rfl rfl ?_
      refine WL.nil (WE.then_normal (WC.sub (fr' := [(3, _), (4, _)]) ?_ ⟨rfl, rfl, trivial⟩))
      refine WC.seq (WC.seq (WC.region ?_))
      refine WL.q (oq_move rfl) rfl rfl rfl ?_
      refine WL.q (oq_nilCheck rfl) rfl rfl rfl ?_
      refine WL.q (oq_fieldAddr fld227_0 rfl) rfl rfl rfl ?_
      refine WL.q (oq_load flat132 rfl (.tail _ (.head _)) (List.mem_append_right _ (mem_of hit)) rfl) rfl rfl rfl ?_
      refine WL.q (oq_ieql Tryz.underlying132 rfl (nextOf_or _ _)) rfl rfl rfl ?_
      refine WL.nil (WE.then_normal (WC.sub (fr' := [(3, _), (4, _), (25, _)]) ?_ ⟨rfl, rfl, rfl, trivial⟩))
      refine WC.cond rfl (fun q5 => ?_) (fun q5 => ?_)
      ·
        try simp only [Z1, Z2, Z3, Z4, Z5, Z6, Z7, Z8, Z9, Z0] at q5
        refine WC.exit (WE.then_exit ?_)
        refine WE.block_other rfl ?_
        refine WE.then_exit (WE.block_same (WE.then_normal (WC.sub (fr' := [(3, _)]) ?_ ⟨rfl, trivial⟩)))
        refine WC.seq (WC.region ?_)
        refine WL.q (oq_move rfl) rfl rfl rfl ?_
        refine WL.q (oq_assign rfl) rfl rfl rfl ?_
        refine WL.nil (WE.then_normal (WC.sub (fr' := [(2, _)]) ?_ ⟨rfl, trivial⟩))
        refine WC.ret ?_
        refine WE.endA (.inl rfl) (res1 Tryz.results65 rfl) ?_ (ho4.fresh)
        -- end 0
        have hB := nextOf_nil q5
        subst hB
        exact (strs_eq ho4 (by rw [hit]; simp) (by rw [hit]; simp [strsV])).mono (Nat.zero_le _)
      ·
        try simp only [Z1, Z2, Z3, Z4, Z5, Z6, Z7, Z8, Z9, Z0] at q5
        refine WC.skip (WE.then_normal (WC.sub (fr' := [(3, _), (4, _)]) ?_ ⟨rfl, rfl, trivial⟩))
        refine WC.seq ?_
        obtain ⟨y, B2, rfl⟩ := nextOf_cons q5
        refine WC.region ?_
        refine WL.q (oq_move rfl) rfl rfl rfl ?_
        refine WL.q (oq_nilCheck rfl) rfl rfl rfl ?_
        refine WL.q (oq_fieldAddr fld227_0 rfl) rfl rfl rfl ?_
        refine WL.q (oq_load flat132 rfl (.tail _ (.head _)) (List.mem_append_right _ (mem_of hit)) rfl) rfl rfl rfl ?_
        refine WL.q (oq_askC conc204 rfl) rfl rfl rfl ?_
        refine WL.q (oq_move rfl) rfl rfl rfl ?_
        refine WL.q (oq_extract rfl rfl) rfl rfl rfl ?_
        refine WL.q (oq_extract rfl rfl) rfl rfl rfl ?_
        refine WL.q (oq_assign rfl) rfl rfl rfl ?_
        refine WL.q (oq_assign rfl) rfl rfl rfl ?_
        refine WL.nil (WE.then_normal (WC.sub (fr' := [(3, _), (5, _), (6, _)]) ?_ ⟨rfl, rfl, rfl, trivial⟩))
        refine WC.seq (WC.region ?_)
        refine WL.q (oq_move rfl) rfl rfl rfl ?_
        refine WL.nil (WE.then_normal (WC.sub (fr' := [(3, _), (5, _), (34, _)]) ?_ ⟨rfl, rfl, rfl, trivial⟩))
        refine WC.cond rfl (fun q7 => ?_) (fun q7 => ?_)
        ·
          try simp only [Z1, Z2, Z3, Z4, Z5, Z6, Z7, Z8, Z9, Z0] at q7
          refine WC.region ?_
          refine WL.q (oq_move rfl) rfl rfl rfl ?_
          refine WL.q (oq_assign rfl) rfl rfl rfl ?_
          refine WL.nil (WE.block_normal ?_)
          refine WE.again (B1 ++ [x], y, B2, _, _) ?_ ?_ ⟨rfl, rfl, trivial⟩ (List.Perm.refl _)
          · try dsimp only   -- again 0
            exact ⟨by rw [hit]; simp, strs_eq ho4 (by simp) (by simp [strsV])⟩
          · (try dsimp only); simp
        ·
          try simp only [Z1, Z2, Z3, Z4, Z5, Z6, Z7, Z8, Z9, Z0] at q7
          first | (simp at q3; done) | (simp at q7; done)
    ·
      try simp only [Z1, Z2, Z3, Z4, Z5, Z6, Z7, Z8, Z9, Z0] at q3
      first | (simp at q3; done) | (simp at q7; done)

/-- (*given.example/pub-tinwright/pub/smithy/middleware.SerializeStep).List -/
theorem listN1 (sb : Nat) (nr : Value) : FnA Tryz.prog 65 [Pt sb 0] ([(sb, .cells #[(hdp ([])), (lastp ([])), nr] 206 (0, 0))] ++ ch 204 227 225 [] .nilIface) (fun v N => OwS 0 9 1 v N 0 (strsV [])) := by
  refine FnA.enter (n := 37) Tryz.func65 rfl rfl fun w0 => ?_
  refine WC.sub (fr' := [(0, _)]) ?_ ⟨rfl, trivial⟩
  refine WC.seq (WC.region ?_)
  refine WL.q (oq_assign rfl) rfl rfl rfl ?_
  refine WL.nil (WE.then_normal (WC.sub (fr' := [(0, _)]) ?_ ⟨rfl, trivial⟩))
  refine WC.seq ?_
  refine WC.add0 ?_
  refine WC.region ?_
  refine WL.q (oq_assign rfl) rfl rfl rfl ?_
  refine WL.nil (WE.then_normal (WC.sub (fr' := [(0, _), (3, _)]) ?_ ⟨rfl, rfl, trivial⟩))
  refine WC.seq (WC.seq (WC.region ?_))
  refine WL.q (oq_move rfl) rfl rfl rfl ?_
  refine WL.q (oq_nilCheck rfl) rfl rfl rfl ?_
  refine WL.q (oq_fieldAddr fld206_0 rfl) rfl rfl rfl ?_
  refine WL.q (oq_load flat204 rfl (.tail _ (.head _)) (List.mem_append_left _ (List.mem_singleton.2 rfl)) rfl) rfl rfl rfl ?_
  refine WL.q (oq_assign rfl) rfl rfl rfl ?_
  refine WL.nil (WE.then_normal (WC.sub (fr' := [(3, _), (4, _)]) ?_ ⟨rfl, rfl, trivial⟩))
  refine WC.block ?_
  refine WC.loop (ι := Unit) (fun _ => [(3, .slice none 0 0), (4, .pointer none)]) (fun _ => [[], ([(sb, .cells #[(hdp ([])), (lastp ([])), nr] 206 (0, 0))] ++ ch 204 227 225 [] .nilIface)]) (fun _ => True) (fun _ => 0) (()) ?_ ⟨rfl, rfl, trivial⟩ (List.Perm.refl _) ?_
  · try dsimp only
    all_goals trivial
  · rintro _ hp
    try dsimp only at hp
    show WC _ _ _ _ _ _ ([(3, .slice none 0 0), (4, .pointer none)]) ([[], ([(sb, .cells #[(hdp ([])), (lastp ([])), nr] 206 (0, 0))] ++ ch 204 227 225 [] .nilIface)])
    refine WC.seq (WC.seq (WC.region ?_))
    refine WL.q (oq_move rfl) rfl rfl rfl ?_
    refine WL.q (oq_pneq Tryz.underlying204 rfl rfl) rfl rfl rfl ?_
    refine WL.nil (WE.then_normal (WC.sub (fr' := [(3, _), (4, _), (12, _)]) ?_ ⟨rfl, rfl, rfl, trivial⟩))
    refine WC.cond rfl (fun q3 => ?_) (fun q3 => ?_)
    ·
      try simp only [Z1, Z2, Z3, Z4, Z5, Z6, Z7, Z8, Z9, Z0] at q3
      simp at q3
    ·
      try simp only [Z1, Z2, Z3, Z4, Z5, Z6, Z7, Z8, Z9, Z0] at q3
      refine WC.exit (WE.then_exit (WE.then_exit (WE.block_same (WE.then_normal (WC.sub (fr' := [(3, _)]) ?_ ⟨rfl, trivial⟩)))))
      refine WC.seq (WC.region ?_)
      refine WL.q (oq_move rfl) rfl rfl rfl ?_
      refine WL.q (oq_assign rfl) rfl rfl rfl ?_
      refine WL.nil (WE.then_normal (WC.sub (fr' := [(2, _)]) ?_ ⟨rfl, trivial⟩))
      refine WC.ret ?_
      refine WE.endA (.inl rfl) (res1 Tryz.results65 rfl) ?_ fresh0
      -- end 0
      exact OwS.nil _ _ _

/-- (*given.example/pub-tinwright/pub/smithy/middleware.BuildStep).List -/
theorem listC2 (sb : Nat) (items : List Nd) (x0 : Nd) (r0 : List Nd) (h0 : items = x0 :: r0) (hl : items.length ≤ 100000) : FnA Tryz.prog 80 [Pt sb 0] ([(sb, .cells #[(hdp (items)), (lastp (items))] 209 (0, 0))] ++ ch 207 234 232 items .nilIface) (fun v N => OwS 0 9 1 v N items.length (strsV (items.map Nd.id))) := by
  refine FnA.enter (n := 37) Tryz.func80 rfl rfl fun w0 => ?_
  refine WC.sub (fr' := [(0, _)]) ?_ ⟨rfl, trivial⟩
  refine WC.seq (WC.region ?_)
  refine WL.q (oq_assign rfl) rfl rfl rfl ?_
  refine WL.nil (WE.then_normal (WC.sub (fr' := [(0, _)]) ?_ ⟨rfl, trivial⟩))
  refine WC.seq ?_
  refine WC.add0 ?_
  refine WC.region ?_
  refine WL.q (oq_assign rfl) rfl rfl rfl ?_
  refine WL.nil (WE.then_normal (WC.sub (fr' := [(0, _), (3, _)]) ?_ ⟨rfl, rfl, trivial⟩))
  refine WC.seq (WC.seq ?_)
  have hd0 : hdp items = Pt x0.b 0 := by rw [h0]; rfl
  rw [hd0]
  refine WC.region ?_
  refine WL.q (oq_move rfl) rfl rfl rfl ?_
  refine WL.q (oq_nilCheck rfl) rfl rfl rfl ?_
  refine WL.q (oq_fieldAddr fld209_0 rfl) rfl rfl rfl ?_
  refine WL.q (oq_load flat207 rfl (.tail _ (.head _)) (List.mem_append_left _ (List.mem_singleton.2 rfl)) rfl) rfl rfl rfl ?_
  refine WL.q (oq_assign rfl) rfl rfl rfl ?_
  refine WL.nil (WE.then_normal (WC.sub (fr' := [(3, _), (4, _)]) ?_ ⟨rfl, rfl, trivial⟩))
  refine WC.block ?_
  refine WC.loop (ι := (List Nd) × Nd × (List Nd) × Value × Hp) (fun i_ => (fun (B1 : List Nd) (x : Nd) (B : List Nd) (v : Value) (V : Hp) => [(3, v), (4, Pt x.b 0)]) i_.1 i_.2.1 i_.2.2.1 i_.2.2.2.1 i_.2.2.2.2) (fun i_ => (fun (B1 : List Nd) (x : Nd) (B : List Nd) (v : Value) (V : Hp) => [V, ([(sb, .cells #[Pt x0.b 0, (lastp items)] 209 (0, 0))] ++ ch 207 234 232 items .nilIface)]) i_.1 i_.2.1 i_.2.2.1 i_.2.2.2.1 i_.2.2.2.2) (fun i_ => (fun (B1 : List Nd) (x : Nd) (B : List Nd) (v : Value) (V : Hp) => items = B1 ++ x :: B ∧ OwS w0.heap.size 9 1 v V B1.length (strsV (B1.map Nd.id))) i_.1 i_.2.1 i_.2.2.1 i_.2.2.2.1 i_.2.2.2.2) (fun i_ => (fun (B1 : List Nd) (x : Nd) (B : List Nd) (v : Value) (V : Hp) => B.length) i_.1 i_.2.1 i_.2.2.1 i_.2.2.2.1 i_.2.2.2.2) (([], x0, r0, _, _)) ?_ ⟨rfl, rfl, trivial⟩ (List.Perm.refl _) ?_
  · try dsimp only
    exact ⟨h0, OwS.nil _ _ _⟩
  · rintro ⟨B1, x, B, v, V⟩ hp
    try dsimp only at hp
    obtain ⟨hit, ho⟩ := hp
    show WC _ _ _ _ _ _ ([(3, v), (4, Pt x.b 0)]) ([V, ([(sb, .cells #[Pt x0.b 0, (lastp items)] 209 (0, 0))] ++ ch 207 234 232 items .nilIface)])
    have hBl : B1.length < items.length := by rw [hit]; simp
    refine WC.seq (WC.seq (WC.region ?_))
    refine WL.q (oq_move rfl) rfl rfl rfl ?_
    refine WL.q (oq_pneq Tryz.underlying207 rfl rfl) rfl rfl rfl ?_
    refine WL.nil (WE.then_normal (WC.sub (fr' := [(3, _), (4, _), (12, _)]) ?_ ⟨rfl, rfl, rfl, trivial⟩))
    refine WC.cond rfl (fun q3 => ?_) (fun q3 => ?_)
    ·
      try simp only [Z1, Z2, Z3, Z4, Z5, Z6, Z7, Z8, Z9, Z0] at q3
      refine WC.skip (WE.then_normal (WC.sub (fr' := [(3, _), (4, _)]) ?_ ⟨rfl, rfl, trivial⟩))
      refine WC.block (WC.seq (WC.region ?_))
      refine WL.q (oq_move rfl) rfl rfl rfl ?_
      refine WL.q (oq_move rfl) rfl rfl rfl ?_
      refine WL.q (oq_nilCheck rfl) rfl rfl rfl ?_
      refine WL.q (oq_fieldAddr fld234_1 rfl) rfl rfl rfl ?_
      refine WL.q (oq_load flat146 rfl (.tail _ (.head _)) (List.mem_append_right _ (mem_of hit)) rfl) rfl rfl rfl ?_
      refine WL.callWE (fun a w hf => ent_inv0 invID2 rfl hf w) (id2 _ x.id x.fv) rfl rfl rfl rfl fun v4_5 Hs4_5 hR4_5 => ?_
      obtain ⟨rfl, rfl⟩ := hR4_5
      refine WL.append1 ho Tryz.underlying23 ty9 rfl (by decide) (fun _ => rfl) rfl rfl (by unfold maxLen; omega) (by omega) rfl rfl (fun _ => rfl) rfl fun v4 A4 u4 ho4 hne4 => ?_
      refine WL.q (oq_assign rfl) rfl rfl rfl ?_
      refine WL.nil (WE.then_normal (WC.sub (fr' := [(3, _), (4, _)]) ?_ ⟨rfl, rfl, trivial⟩))
      refine WC.seq (WC.seq (WC.region ?_))
      refine WL.q (oq_move rfl) rfl rfl rfl ?_
      refine WL.q (oq_nilCheck rfl) rfl rfl rfl ?_
      refine WL.q (oq_fieldAddr fld234_0 rfl) rfl rfl rfl ?_
      refine WL.q (oq_load flat151 rfl (.tail _ (.head _)) (List.mem_append_right _ (mem_of hit)) rfl) rfl rfl rfl ?_
      refine WL.q (oq_ieql Tryz.underlying151 rfl (nextOf_or _ _)) rfl rfl rfl ?_
      refine WL.nil (WE.then_normal (WC.sub (fr' := [(3, _), (4, _), (25, _)]) ?_ ⟨rfl, rfl, rfl, trivial⟩))
      refine WC.cond rfl (fun q5 => ?_) (fun q5 => ?_)
      ·
        try simp only [Z1, Z2, Z3, Z4, Z5, Z6, Z7, Z8, Z9, Z0] at q5
        refine WC.exit (WE.then_exit ?_)
        refine WE.block_other rfl ?_
        refine WE.then_exit (WE.block_same (WE.then_normal (WC.sub (fr' := [(3, _)]) ?_ ⟨rfl, trivial⟩)))
        refine WC.seq (WC.region ?_)
        refine WL.q (oq_move rfl) rfl rfl rfl ?_
        refine WL.q (oq_assign rfl) rfl rfl rfl ?_
        refine WL.nil (WE.then_normal (WC.sub (fr' := [(2, _)]) ?_ ⟨rfl, trivial⟩))
        refine WC.ret ?_
        refine WE.endA (.inl rfl) (res1 Tryz.results80 rfl) ?_ (ho4.fresh)
        -- end 0
        have hB := nextOf_nil q5
        subst hB
        exact (strs_eq ho4 (by rw [hit]; simp) (by rw [hit]; simp [strsV])).mono (Nat.zero_le _)
      ·
        try simp only [Z1, Z2, Z3, Z4, Z5, Z6, Z7, Z8, Z9, Z0] at q5
        refine WC.skip (WE.then_normal (WC.sub (fr' := [(3, _), (4, _)]) ?_ ⟨rfl, rfl, trivial⟩))
        refine WC.seq ?_
        obtain ⟨y, B2, rfl⟩ := nextOf_cons q5
        refine WC.region ?_
        refine WL.q (oq_move rfl) rfl rfl rfl ?_
        refine WL.q (oq_nilCheck rfl) rfl rfl rfl ?_
        refine WL.q (oq_fieldAddr fld234_0 rfl) rfl rfl rfl ?_
        refine WL.q (oq_load flat151 rfl (.tail _ (.head _)) (List.mem_append_right _ (mem_of hit)) rfl) rfl rfl rfl ?_
        refine WL.q (oq_askC conc207 rfl) rfl rfl rfl ?_
        refine WL.q (oq_move rfl) rfl rfl rfl ?_
        refine WL.q (oq_extract rfl rfl) rfl rfl rfl ?_
        refine WL.q (oq_extract rfl rfl) rfl rfl rfl ?_
        refine WL.q (oq_assign rfl) rfl rfl rfl ?_
        refine WL.q (oq_assign rfl) rfl rfl rfl ?_
        refine WL.nil (WE.then_normal (WC.sub (fr' := [(3, _), (5, _), (6, _)]) ?_ ⟨rfl, rfl, rfl, trivial⟩))
        refine WC.seq (WC.region ?_)
        refine WL.q (oq_move rfl) rfl rfl rfl ?_
        refine WL.nil (WE.then_normal (WC.sub (fr' := [(3, _), (5, _), (34, _)]) ?_ ⟨rfl, rfl, rfl, trivial⟩))
        refine WC.cond rfl (fun q7 => ?_) (fun q7 => ?_)
        ·
          try simp only [Z1, Z2, Z3, Z4, Z5, Z6, Z7, Z8, Z9, Z0] at q7
          refine WC.region ?_
          refine WL.q (oq_move rfl) rfl rfl rfl ?_
          refine WL.q (oq_assign rfl) rfl rfl rfl ?_
          refine WL.nil (WE.block_normal ?_)
          refine WE.again (B1 ++ [x], y, B2, _, _) ?_ ?_ ⟨rfl, rfl, trivial⟩ (List.Perm.refl _)
          · try dsimp only   -- again 0
            exact ⟨by rw [hit]; simp, strs_eq ho4 (by simp) (by simp [strsV])⟩
          · (try dsimp only); simp
        ·
          try simp only [Z1, Z2, Z3, Z4, Z5, Z6, Z7, Z8, Z9, Z0] at q7
          first | (simp at q3; done) | (simp at q7; done)
    ·
      try simp only [Z1, Z2, Z3, Z4, Z5, Z6, Z7, Z8, Z9, Z0] at q3
      first | (simp at q3; done) | (simp at q7; done)

/-- (*given.example/pub-tinwright/pub/smithy/middleware.BuildStep).List -/
theorem listN2 (sb : Nat) : FnA Tryz.prog 80 [Pt sb 0] ([(sb, .cells #[(hdp ([])), (lastp ([]))] 209 (0, 0))] ++ ch 207 234 232 [] .nilIface) (fun v N => OwS 0 9 1 v N 0 (strsV [])) := by
  refine FnA.enter (n := 37) Tryz.func80 rfl rfl fun w0 => ?_
  refine WC.sub (fr' := [(0, _)]) ?_ ⟨rfl, trivial⟩
  refine WC.seq (WC.region ?_)
  refine WL.q (oq_assign rfl) rfl rfl rfl ?_
  refine WL.nil (WE.then_normal (WC.sub (fr' := [(0, _)]) ?_ ⟨rfl, trivial⟩))
  refine WC.seq ?_
  refine WC.add0 ?_
  refine WC.region ?_
  refine WL.q (oq_assign rfl) rfl rfl rfl ?_
  refine WL.nil (WE.then_normal (WC.sub (fr' := [(0, _), (3, _)]) ?_ ⟨rfl, rfl, trivial⟩))
  refine WC.seq (WC.seq (WC.region ?_))
  refine WL.q (oq_move rfl) rfl rfl rfl ?_
  refine WL.q (oq_nilCheck rfl) rfl rfl rfl ?_
  refine WL.q (oq_fieldAddr fld209_0 rfl) rfl rfl rfl ?_
  refine WL.q (oq_load flat207 rfl (.tail _ (.head _)) (List.mem_append_left _ (List.mem_singleton.2 rfl)) rfl) rfl rfl rfl ?_
  refine WL.q (oq_assign rfl) rfl rfl rfl ?_
  refine WL.nil (WE.then_normal (WC.sub (fr' := [(3, _), (4, _)]) ?_ ⟨rfl, rfl, trivial⟩))
  refine WC.block ?_
  refine WC.loop (ι := Unit) (fun _ => [(3, .slice none 0 0), (4, .pointer none)]) (fun _ => [[], ([(sb, .cells #[(hdp ([])), (lastp ([]))] 209 (0, 0))] ++ ch 207 234 232 [] .nilIface)]) (fun _ => True) (fun _ => 0) (()) ?_ ⟨rfl, rfl, trivial⟩ (List.Perm.refl _) ?_
  · try dsimp only
    all_goals trivial
  · rintro _ hp
    try dsimp only at hp
    show WC _ _ _ _ _ _ ([(3, .slice none 0 0), (4, .pointer none)]) ([[], ([(sb, .cells #[(hdp ([])), (lastp ([]))] 209 (0, 0))] ++ ch 207 234 232 [] .nilIface)])
    refine WC.seq (WC.seq (WC.region ?_))
    refine WL.q (oq_move rfl) rfl rfl rfl ?_
    refine WL.q (oq_pneq Tryz.underlying207 rfl rfl) rfl rfl rfl ?_
    refine WL.nil (WE.then_normal (WC.sub (fr' := [(3, _), (4, _), (12, _)]) ?_ ⟨rfl, rfl, rfl, trivial⟩))
    refine WC.cond rfl (fun q3 => ?_) (fun q3 => ?_)
    ·
      try simp only [Z1, Z2, Z3, Z4, Z5, Z6, Z7, Z8, Z9, Z0] at q3
      simp at q3
    ·
      try simp only [Z1, Z2, Z3, Z4, Z5, Z6, Z7, Z8, Z9, Z0] at q3
      refine WC.exit (WE.then_exit (WE.then_exit (WE.block_same (WE.then_normal (WC.sub (fr' := [(3, _)]) ?_ ⟨rfl, trivial⟩)))))
      refine WC.seq (WC.region ?_)
      refine WL.q (oq_move rfl) rfl rfl rfl ?_
      refine WL.q (oq_assign rfl) rfl rfl rfl ?_
      refine WL.nil (WE.then_normal (WC.sub (fr' := [(2, _)]) ?_ ⟨rfl, trivial⟩))
      refine WC.ret ?_
      refine WE.endA (.inl rfl) (res1 Tryz.results80 rfl) ?_ fresh0
      -- end 0
      exact OwS.nil _ _ _

/-- (*given.example/pub-tinwright/pub/smithy/middleware.FinalizeStep).List -/
theorem listC3 (sb : Nat) (items : List Nd) (x0 : Nd) (r0 : List Nd) (h0 : items = x0 :: r0) (hl : items.length ≤ 100000) : FnA Tryz.prog 95 [Pt sb 0] ([(sb, .cells #[(hdp (items)), (lastp (items))] 212 (0, 0))] ++ ch 210 241 239 items .nilIface) (fun v N => OwS 0 9 1 v N items.length (strsV (items.map Nd.id))) := by
  refine FnA.enter (n := 37) Tryz.func95 rfl rfl fun w0 => ?_
  refine WC.sub (fr' := [(0, _)]) ?_ ⟨rfl, trivial⟩
  refine WC.seq (WC.region ?_)
  refine WL.q (oq_assign rfl) rfl rfl rfl ?_
  refine WL.nil (WE.then_normal (WC.sub (fr' := [(0, _)]) ?_ ⟨rfl, trivial⟩))
  refine WC.seq ?_
  refine WC.add0 ?_
  refine WC.region ?_
  refine WL.q (oq_assign rfl) rfl rfl rfl ?_
  refine WL.nil (WE.then_normal (WC.sub (fr' := [(0, _), (3, _)]) ?_ ⟨rfl, rfl, trivial⟩))
  refine WC.seq (WC.seq ?_)
  have hd0 : hdp items = Pt x0.b 0 := by rw [h0]; rfl
  rw [hd0]
  refine WC.region ?_
  refine WL.q (oq_move rfl) rfl rfl rfl ?_
  refine WL.q (oq_nilCheck rfl) rfl rfl rfl ?_
  refine WL.q (oq_fieldAddr fld212_0 rfl) rfl rfl rfl ?_
  refine WL.q (oq_load flat210 rfl (.tail _ (.head _)) (List.mem_append_left _ (List.mem_singleton.2 rfl)) rfl) rfl rfl rfl ?_
  refine WL.q (oq_assign rfl) rfl rfl rfl ?_
  refine WL.nil (WE.then_normal (WC.sub (fr' := [(3, _), (4, _)]) ?_ ⟨rfl, rfl, trivial⟩))
  refine WC.block ?_
  refine WC.loop (ι := (List Nd) × Nd × (List Nd) × Value × Hp) (fun i_ => (fun (B1 : List Nd) (x : Nd) (B : List Nd) (v : Value) (V : Hp) => [(3, v), (4, Pt x.b 0)]) i_.1 i_.2.1 i_.2.2.1 i_.2.2.2.1 i_.2.2.2.2) (fun i_ => (fun (B1 : List Nd) (x : Nd) (B : List Nd) (v : Value) (V : Hp) => [V, ([(sb, .cells #[Pt x0.b 0, (lastp items)] 212 (0, 0))] ++ ch 210 241 239 items .nilIface)]) i_.1 i_.2.1 i_.2.2.1 i_.2.2.2.1 i_.2.2.2.2) (fun i_ => (fun (B1 : List Nd) (x : Nd) (B : List Nd) (v : Value) (V : Hp) => items = B1 ++ x :: B ∧ OwS w0.heap.size 9 1 v V B1.length (strsV (B1.map Nd.id))) i_.1 i_.2.1 i_.2.2.1 i_.2.2.2.1 i_.2.2.2.2) (fun i_ => (fun (B1 : List Nd) (x : Nd) (B : List Nd) (v : Value) (V : Hp) => B.length) i_.1 i_.2.1 i_.2.2.1 i_.2.2.2.1 i_.2.2.2.2) (([], x0, r0, _, _)) ?_ ⟨rfl, rfl, trivial⟩ (List.Perm.refl _) ?_
  · try dsimp only
    exact ⟨h0, OwS.nil _ _ _⟩
  · rintro ⟨B1, x, B, v, V⟩ hp
    try dsimp only at hp
    obtain ⟨hit, ho⟩ := hp
    show WC _ _ _ _ _ _ ([(3, v), (4, Pt x.b 0)]) ([V, ([(sb, .cells #[Pt x0.b 0, (lastp items)] 212 (0, 0))] ++ ch 210 241 239 items .nilIface)])
    have hBl : B1.length < items.length := by rw [hit]; simp
    refine WC.seq (WC.seq (WC.region ?_))
    refine WL.q (oq_move rfl) rfl rfl rfl ?_
    refine WL.q (oq_pneq Tryz.underlying210 rfl rfl) rfl rfl rfl ?_
    refine WL.nil (WE.then_normal (WC.sub (fr' := [(3, _), (4, _), (12, _)]) ?_ ⟨rfl, rfl, rfl, trivial⟩))
    refine WC.cond rfl (fun q3 => ?_) (fun q3 => ?_)
    ·
      try simp only [Z1, Z2, Z3, Z4, Z5, Z6, Z7, Z8, Z9, Z0] at q3
      refine WC.skip (WE.then_normal (WC.sub (fr' := [(3, _), (4, _)]) ?_ ⟨rfl, rfl, trivial⟩))
      refine WC.block (WC.seq (WC.region ?_))
      refine WL.q (oq_move rfl) rfl rfl rfl ?_
      refine WL.q (oq_move rfl) rfl rfl rfl ?_
      refine WL.q (oq_nilCheck rfl) rfl rfl rfl ?_
      refine WL.q (oq_fieldAddr fld241_1 rfl) rfl rfl rfl ?_
      refine WL.q (oq_load flat165 rfl (.tail _ (.head _)) (List.mem_append_right _ (mem_of hit)) rfl) rfl rfl rfl ?_
      refine WL.callWE (fun a w hf => ent_inv0 invID3 rfl hf w) (id3 _ x.id x.fv) rfl rfl rfl rfl fun v4_5 Hs4_5 hR4_5 => ?_
      obtain ⟨rfl, rfl⟩ := hR4_5
      refine WL.append1 ho Tryz.underlying23 ty9 rfl (by decide) (fun _ => rfl) rfl rfl (by unfold maxLen; omega) (by omega) rfl rfl (fun _ => rfl) rfl fun v4 A4 u4 ho4 hne4 => ?_
      refine WL.q (oq_assign rfl) rfl rfl rfl ?_
      refine WL.nil (WE.then_normal (WC.sub (fr' := [(3, _), (4, _)]) ?_ ⟨rfl, rfl, trivial⟩))
      refine WC.seq (WC.seq (WC.region ?_))
      refine WL.q (oq_move rfl) rfl rfl rfl ?_
      refine WL.q (oq_nilCheck rfl) rfl rfl rfl ?_
      refine WL.q (oq_fieldAddr fld241_0 rfl) rfl rfl rfl ?_
      refine WL.q (oq_load flat169 rfl (.tail _ (.head _)) (List.mem_append_right _ (mem_of hit)) rfl) rfl rfl rfl ?_
      refine WL.q (oq_ieql Tryz.underlying169 rfl (nextOf_or _ _)) rfl rfl rfl ?_
      refine WL.nil (WE.then_normal (WC.sub (fr' := [(3, _), (4, _), (25, _)]) ?_ ⟨rfl, rfl, rfl, trivial⟩))
      refine WC.cond rfl (fun q5 => ?_) (fun q5 => ?_)
      ·
        try simp only [Z1, Z2, Z3, Z4, Z5, Z6, Z7, Z8, Z9, Z0] at q5
        refine WC.exit (WE.then_exit ?_)
        refine WE.block_other rfl ?_
        refine WE.then_exit (WE.block_same (WE.then_normal (WC.sub (fr' := [(3, _)]) ?_ ⟨rfl, trivial⟩)))
        refine WC.seq (WC.region ?_)
        refine WL.q (oq_move rfl) rfl rfl rfl ?_
        refine WL.q (oq_assign rfl) rfl rfl rfl ?_
        refine WL.nil (WE.then_normal (WC.sub (fr' := [(2, _)]) ?_ ⟨rfl, trivial⟩))
        refine WC.ret ?_
        refine WE.endA (.inl rfl) (res1 Tryz.results95 rfl) ?_ (ho4.fresh)
        -- end 0
        have hB := nextOf_nil q5
        subst hB
        exact (strs_eq ho4 (by rw [hit]; simp) (by rw [hit]; simp [strsV])).mono (Nat.zero_le _)
      ·
        try simp only [Z1, Z2, Z3, Z4, Z5, Z6, Z7, Z8, Z9, Z0] at q5
        refine WC.skip (WE.then_normal (WC.sub (fr' := [(3, _), (4, _)]) ?_ ⟨rfl, rfl, trivial⟩))
        refine WC.seq ?_
        obtain ⟨y, B2, rfl⟩ := nextOf_cons q5
        refine WC.region ?_
        refine WL.q (oq_move rfl) rfl rfl rfl ?_
        refine WL.q (oq_nilCheck rfl) rfl rfl rfl ?_
        refine WL.q (oq_fieldAddr fld241_0 rfl) rfl rfl rfl ?_
        refine WL.q (oq_load flat169 rfl (.tail _ (.head _)) (List.mem_append_right _ (mem_of hit)) rfl) rfl rfl rfl ?_
        refine WL.q (oq_askC conc210 rfl) rfl rfl rfl ?_
        refine WL.q (oq_move rfl) rfl rfl rfl ?_
        refine WL.q (oq_extract rfl rfl) rfl rfl rfl ?_
        refine WL.q (oq_extract rfl rfl) rfl rfl rfl ?_
        refine WL.q (oq_assign rfl) rfl rfl rfl ?_
        refine WL.q (oq_assign rfl) rfl rfl rfl ?_
        refine WL.nil (WE.then_normal (WC.sub (fr' := [(3, _), (5, _), (6, _)]) ?_ ⟨rfl, rfl, rfl, trivial⟩))
        refine WC.seq (WC.region ?_)
        refine WL.q (oq_move rfl) rfl rfl rfl ?_
        refine WL.nil (WE.then_normal (WC.sub (fr' := [(3, _), (5, _), (34, _)]) ?_ ⟨rfl, rfl, rfl, trivial⟩))
        refine WC.cond rfl (fun q7 => ?_) (fun q7 => ?_)
        ·
          try simp only [Z1, Z2, Z3, Z4, Z5, Z6, Z7, Z8, Z9, Z0] at q7
          refine WC.region ?_
          refine WL.q (oq_move rfl) rfl rfl rfl ?_
          refine WL.q (oq_assign rfl) rfl rfl rfl ?_
          refine WL.nil (WE.block_normal ?_)
          refine WE.again (B1 ++ [x], y, B2, _, _) ?_ ?_ ⟨rfl, rfl, trivial⟩ (List.Perm.refl _)
          · try dsimp only   -- again 0
            exact ⟨by rw [hit]; simp, strs_eq ho4 (by simp) (by simp [strsV])⟩
          · (try dsimp only); simp
        ·
          try simp only [Z1, Z2, Z3, Z4, Z5, Z6, Z7, Z8, Z9, Z0] at q7
          first | (simp at q3; done) | (simp at q7; done)
    ·
      try simp only [Z1, Z2, Z3, Z4, Z5, Z6, Z7, Z8, Z9, Z0] at q3
      first | (simp at q3; done) | (simp at q7; done)

/-- (*given.example/pub-tinwright/pub/smithy/middleware.FinalizeStep).List -/
theorem listN3 (sb : Nat) : FnA Tryz.prog 95 [Pt sb 0] ([(sb, .cells #[(hdp ([])), (lastp ([]))] 212 (0, 0))] ++ ch 210 241 239 [] .nilIface) (fun v N => OwS 0 9 1 v N 0 (strsV [])) := by
  refine FnA.enter (n := 37) Tryz.func95 rfl rfl fun w0 => ?_
  refine WC.sub (fr' := [(0, _)]) ?_ ⟨rfl, trivial⟩
  refine WC.seq (WC.region ?_)
  refine WL.q (oq_assign rfl) rfl rfl rfl ?_
  refine WL.nil (WE.then_normal (WC.sub (fr' := [(0, _)]) ?_ ⟨rfl, trivial⟩))
  refine WC.seq ?_
  refine WC.add0 ?_
  refine WC.region ?_
  refine WL.q (oq_assign rfl) rfl rfl rfl ?_
  refine WL.nil (WE.then_normal (WC.sub (fr' := [(0, _), (3, _)]) ?_ ⟨rfl, rfl, trivial⟩))
  refine WC.seq (WC.seq (WC.region ?_))
  refine WL.q (oq_move rfl) rfl rfl rfl ?_
  refine WL.q (oq_nilCheck rfl) rfl rfl rfl ?_
  refine WL.q (oq_fieldAddr fld212_0 rfl) rfl rfl rfl ?_
  refine WL.q (oq_load flat210 rfl (.tail _ (.head _)) (List.mem_append_left _ (List.mem_singleton.2 rfl)) rfl) rfl rfl rfl ?_
  refine WL.q (oq_assign rfl) rfl rfl rfl ?_
  refine WL.nil (WE.then_normal (WC.sub (fr' := [(3, _), (4, _)]) ?_ ⟨rfl, rfl, trivial⟩))
  refine WC.block ?_
  refine WC.loop (ι := Unit) (fun _ => [(3, .slice none 0 0), (4, .pointer none)]) (fun _ => [[], ([(sb, .cells #[(hdp ([])), (lastp ([]))] 212 (0, 0))] ++ ch 210 241 239 [] .nilIface)]) (fun _ => True) (fun _ => 0) (()) ?_ ⟨rfl, rfl, trivial⟩ (List.Perm.refl _) ?_
  · try dsimp only
    all_goals trivial
  · rintro _ hp
    try dsimp only at hp
    show WC _ _ _ _ _ _ ([(3, .slice none 0 0), (4, .pointer none)]) ([[], ([(sb, .cells #[(hdp ([])), (lastp ([]))] 212 (0, 0))] ++ ch 210 241 239 [] .nilIface)])
    refine WC.seq (WC.seq (WC.region ?_))
    refine WL.q (oq_move rfl) rfl rfl rfl ?_
    refine WL.q (oq_pneq Tryz.underlying210 rfl rfl) rfl rfl rfl ?_
    refine WL.nil (WE.then_normal (WC.sub (fr' := [(3, _), (4, _), (12, _)]) ?_ ⟨rfl, rfl, rfl, trivial⟩))
    refine WC.cond rfl (fun q3 => ?_) (fun q3 => ?_)
    ·
      try simp only [Z1, Z2, Z3, Z4, Z5, Z6, Z7, Z8, Z9, Z0] at q3
      simp at q3
    ·
      try simp only [Z1, Z2, Z3, Z4, Z5, Z6, Z7, Z8, Z9, Z0] at q3
      refine WC.exit (WE.then_exit (WE.then_exit (WE.block_same (WE.then_normal (WC.sub (fr' := [(3, _)]) ?_ ⟨rfl, trivial⟩)))))
      refine WC.seq (WC.region ?_)
      refine WL.q (oq_move rfl) rfl rfl rfl ?_
      refine WL.q (oq_assign rfl) rfl rfl rfl ?_
      refine WL.nil (WE.then_normal (WC.sub (fr' := [(2, _)]) ?_ ⟨rfl, trivial⟩))
      refine WC.ret ?_
      refine WE.endA (.inl rfl) (res1 Tryz.results95 rfl) ?_ fresh0
      -- end 0
      exact OwS.nil _ _ _

/-- (*given.example/pub-tinwright/pub/smithy/middleware.DeserializeStep).List -/
theorem listC4 (sb : Nat) (items : List Nd) (x0 : Nd) (r0 : List Nd) (h0 : items = x0 :: r0) (hl : items.length ≤ 100000) : FnA Tryz.prog 110 [Pt sb 0] ([(sb, .cells #[(hdp (items)), (lastp (items))] 215 (0, 0))] ++ ch 213 248 246 items .nilIface) (fun v N => OwS 0 9 1 v N items.length (strsV (items.map Nd.id))) := by
  refine FnA.enter (n := 37) Tryz.func110 rfl rfl fun w0 => ?_
  refine WC.sub (fr' := [(0, _)]) ?_ ⟨rfl, trivial⟩
  refine WC.seq (WC.region ?_)
  refine WL.q (oq_assign rfl) rfl rfl rfl ?_
  refine WL.nil (WE.then_normal (WC.sub (fr' := [(0, _)]) ?_ ⟨rfl, trivial⟩))
  refine WC.seq ?_
  refine WC.add0 ?_
  refine WC.region ?_
  refine WL.q (oq_assign rfl) rfl rfl rfl ?_
  refine WL.nil (WE.then_normal (WC.sub (fr' := [(0, _), (3, _)]) ?_ ⟨rfl, rfl, trivial⟩))
  refine WC.seq (WC.seq ?_)
  have hd0 : hdp items = Pt x0.b 0 := by rw [h0]; rfl
  rw [hd0]
  refine WC.region ?_
  refine WL.q (oq_move rfl) rfl rfl rfl ?_
  refine WL.q (oq_nilCheck rfl) rfl rfl rfl ?_
  refine WL.q (oq_fieldAddr fld215_0 rfl) rfl rfl rfl ?_
  refine WL.q (oq_load flat213 rfl (.tail _ (.head _)) (List.mem_append_left _ (List.mem_singleton.2 rfl)) rfl) rfl rfl rfl ?_
  refine WL.q (oq_assign rfl) rfl rfl rfl ?_
  refine WL.nil (WE.then_normal (WC.sub (fr' := [(3, _), (4, _)]) ?_ ⟨rfl, rfl, trivial⟩))
  refine WC.block ?_
  refine WC.loop (ι := (List Nd) × Nd × (List Nd) × Value × Hp) (fun i_ => (fun (B1 : List Nd) (x : Nd) (B : List Nd) (v : Value) (V : Hp) => [(3, v), (4, Pt x.b 0)]) i_.1 i_.2.1 i_.2.2.1 i_.2.2.2.1 i_.2.2.2.2) (fun i_ => (fun (B1 : List Nd) (x : Nd) (B : List Nd) (v : Value) (V : Hp) => [V, ([(sb, .cells #[Pt x0.b 0, (lastp items)] 215 (0, 0))] ++ ch 213 248 246 items .nilIface)]) i_.1 i_.2.1 i_.2.2.1 i_.2.2.2.1 i_.2.2.2.2) (fun i_ => (fun (B1 : List Nd) (x : Nd) (B : List Nd) (v : Value) (V : Hp) => items = B1 ++ x :: B ∧ OwS w0.heap.size 9 1 v V B1.length (strsV (B1.map Nd.id))) i_.1 i_.2.1 i_.2.2.1 i_.2.2.2.1 i_.2.2.2.2) (fun i_ => (fun (B1 : List Nd) (x : Nd) (B : List Nd) (v : Value) (V : Hp) => B.length) i_.1 i_.2.1 i_.2.2.1 i_.2.2.2.1 i_.2.2.2.2) (([], x0, r0, _, _)) ?_ ⟨rfl, rfl, trivial⟩ (List.Perm.refl _) ?_
  · try dsimp only
    exact ⟨h0, OwS.nil _ _ _⟩
  · rintro ⟨B1, x, B, v, V⟩ hp
    try dsimp only at hp
    obtain ⟨hit, ho⟩ := hp
    show WC _ _ _ _ _ _ ([(3, v), (4, Pt x.b 0)]) ([V, ([(sb, .cells #[Pt x0.b 0, (lastp items)] 215 (0, 0))] ++ ch 213 248 246 items .nilIface)])
    have hBl : B1.length < items.length := by rw [hit]; simp
    refine WC.seq (WC.seq (WC.region ?_))
    refine WL.q (oq_move rfl) rfl rfl rfl ?_
    refine WL.q (oq_pneq Tryz.underlying213 rfl rfl) rfl rfl rfl ?_
    refine WL.nil (WE.then_normal (WC.sub (fr' := [(3, _), (4, _), (12, _)]) ?_ ⟨rfl, rfl, rfl, trivial⟩))
    refine WC.cond rfl (fun q3 => ?_) (fun q3 => ?_)
    ·
      try simp only [Z1, Z2, Z3, Z4, Z5, Z6, Z7, Z8, Z9, Z0] at q3
      refine WC.skip (WE.then_normal (WC.sub (fr' := [(3, _), (4, _)]) ?_ ⟨rfl, rfl, trivial⟩))
      refine WC.block (WC.seq (WC.region ?_))
      refine WL.q (oq_move rfl) rfl rfl rfl ?_
      refine WL.q (oq_move rfl) rfl rfl rfl ?_
      refine WL.q (oq_nilCheck rfl) rfl rfl rfl ?_
      refine WL.q (oq_fieldAddr fld248_1 rfl) rfl rfl rfl ?_
      refine WL.q (oq_load flat183 rfl (.tail _ (.head _)) (List.mem_append_right _ (mem_of hit)) rfl) rfl rfl rfl ?_
      refine WL.callWE (fun a w hf => ent_inv0 invID4 rfl hf w) (id4 _ x.id x.fv) rfl rfl rfl rfl fun v4_5 Hs4_5 hR4_5 => ?_
      obtain ⟨rfl, rfl⟩ := hR4_5
      refine WL.append1 ho Tryz.underlying23 ty9 rfl (by decide) (fun _ => rfl) rfl rfl (by unfold maxLen; omega) (by omega) rfl rfl (fun _ => rfl) rfl fun v4 A4 u4 ho4 hne4 => ?_
      refine WL.q (oq_assign rfl) rfl rfl rfl ?_
      refine WL.nil (WE.then_normal (WC.sub (fr' := [(3, _), (4, _)]) ?_ ⟨rfl, rfl, trivial⟩))
      refine WC.seq (WC.seq (WC.region ?_))
      refine WL.q (oq_move rfl) rfl rfl rfl ?_
      refine WL.q (oq_nilCheck rfl) rfl rfl rfl ?_
      refine WL.q (oq_fieldAddr fld248_0 rfl) rfl rfl rfl ?_
      refine WL.q (oq_load flat187 rfl (.tail _ (.head _)) (List.mem_append_right _ (mem_of hit)) rfl) rfl rfl rfl ?_
      refine WL.q (oq_ieql Tryz.underlying187 rfl (nextOf_or _ _)) rfl rfl rfl ?_
      refine WL.nil (WE.then_normal (WC.sub (fr' := [(3, _), (4, _), (25, _)]) ?_ ⟨rfl, rfl, rfl, trivial⟩))
      refine WC.cond rfl (fun q5 => ?_) (fun q5 => ?_)
      ·
        try simp only [Z1, Z2, Z3, Z4, Z5, Z6, Z7, Z8, Z9, Z0] at q5
        refine WC.exit (WE.then_exit ?_)
        refine WE.block_other rfl ?_
        refine WE.then_exit (WE.block_same (WE.then_normal (WC.sub (fr' := [(3, _)]) ?_ ⟨rfl, trivial⟩)))
        refine WC.seq (WC.region ?_)
        refine WL.q (oq_move rfl) rfl rfl rfl ?_
        refine WL.q (oq_assign rfl) rfl rfl rfl ?_
        refine WL.nil (WE.then_normal (WC.sub (fr' := [(2, _)]) ?_ ⟨rfl, trivial⟩))
        refine WC.ret ?_
        refine WE.endA (.inl rfl) (res1 Tryz.results110 rfl) ?_ (ho4.fresh)
        -- end 0
        have hB := nextOf_nil q5
        subst hB
        exact (strs_eq ho4 (by rw [hit]; simp) (by rw [hit]; simp [strsV])).mono (Nat.zero_le _)
      ·
        try simp only [Z1, Z2, Z3, Z4, Z5, Z6, Z7, Z8, Z9, Z0] at q5
        refine WC.skip (WE.then_normal (WC.sub (fr' := [(3, _), (4, _)]) ?_ ⟨rfl, rfl, trivial⟩))
        refine WC.seq ?_
        obtain ⟨y, B2, rfl⟩ := nextOf_cons q5
        refine WC.region ?_
        refine WL.q (oq_move rfl) rfl rfl rfl ?_
        refine WL.q (oq_nilCheck rfl) rfl rfl rfl ?_
        refine WL.q (oq_fieldAddr fld248_0 rfl) rfl rfl rfl ?_
        refine WL.q (oq_load flat187 rfl (.tail _ (.head _)) (List.mem_append_right _ (mem_of hit)) rfl) rfl rfl rfl ?_
        refine WL.q (oq_askC conc213 rfl) rfl rfl rfl ?_
        refine WL.q (oq_move rfl) rfl rfl rfl ?_
        refine WL.q (oq_extract rfl rfl) rfl rfl rfl ?_
        refine WL.q (oq_extract rfl rfl) rfl rfl rfl ?_
        refine WL.q (oq_assign rfl) rfl rfl rfl ?_
        refine WL.q (oq_assign rfl) rfl rfl rfl ?_
        refine WL.nil (WE.then_normal (WC.sub (fr' := [(3, _), (5, _), (6, _)]) ?_ ⟨rfl, rfl, rfl, trivial⟩))
        refine WC.seq (WC.region ?_)
        refine WL.q (oq_move rfl) rfl rfl rfl ?_
        refine WL.nil (WE.then_normal (WC.sub (fr' := [(3, _), (5, _), (34, _)]) ?_ ⟨rfl, rfl, rfl, trivial⟩))
        refine WC.cond rfl (fun q7 => ?_) (fun q7 => ?_)
        ·
          try simp only [Z1, Z2, Z3, Z4, Z5, Z6, Z7, Z8, Z9, Z0] at q7
          refine WC.region ?_
          refine WL.q (oq_move rfl) rfl rfl rfl ?_
          refine WL.q (oq_assign rfl) rfl rfl rfl ?_
          refine WL.nil (WE.block_normal ?_)
          refine WE.again (B1 ++ [x], y, B2, _, _) ?_ ?_ ⟨rfl, rfl, trivial⟩ (List.Perm.refl _)
          · try dsimp only   -- again 0
            exact ⟨by rw [hit]; simp, strs_eq ho4 (by simp) (by simp [strsV])⟩
          · (try dsimp only); simp
        ·
          try simp only [Z1, Z2, Z3, Z4, Z5, Z6, Z7, Z8, Z9, Z0] at q7
          first | (simp at q3; done) | (simp at q7; done)
    ·
      try simp only [Z1, Z2, Z3, Z4, Z5, Z6, Z7, Z8, Z9, Z0] at q3
      first | (simp at q3; done) | (simp at q7; done)

/-- (*given.example/pub-tinwright/pub/smithy/middleware.DeserializeStep).List -/
theorem listN4 (sb : Nat) : FnA Tryz.prog 110 [Pt sb 0] ([(sb, .cells #[(hdp ([])), (lastp ([]))] 215 (0, 0))] ++ ch 213 248 246 [] .nilIface) (fun v N => OwS 0 9 1 v N 0 (strsV [])) := by
  refine FnA.enter (n := 37) Tryz.func110 rfl rfl fun w0 => ?_
  refine WC.sub (fr' := [(0, _)]) ?_ ⟨rfl, trivial⟩
  refine WC.seq (WC.region ?_)
  refine WL.q (oq_assign rfl) rfl rfl rfl ?_
  refine WL.nil (WE.then_normal (WC.sub (fr' := [(0, _)]) ?_ ⟨rfl, trivial⟩))
  refine WC.seq ?_
  refine WC.add0 ?_
  refine WC.region ?_
  refine WL.q (oq_assign rfl) rfl rfl rfl ?_
  refine WL.nil (WE.then_normal (WC.sub (fr' := [(0, _), (3, _)]) ?_ ⟨rfl, rfl, trivial⟩))
  refine WC.seq (WC.seq (WC.region ?_))
  refine WL.q (oq_move rfl) rfl rfl rfl ?_
  refine WL.q (oq_nilCheck rfl) rfl rfl rfl ?_
  refine WL.q (oq_fieldAddr fld215_0 rfl) rfl rfl rfl ?_
  refine WL.q (oq_load flat213 rfl (.tail _ (.head _)) (List.mem_append_left _ (List.mem_singleton.2 rfl)) rfl) rfl rfl rfl ?_
  refine WL.q (oq_assign rfl) rfl rfl rfl ?_
  refine WL.nil (WE.then_normal (WC.sub (fr' := [(3, _), (4, _)]) ?_ ⟨rfl, rfl, trivial⟩))
  refine WC.block ?_
  refine WC.loop (ι := Unit) (fun _ => [(3, .slice none 0 0), (4, .pointer none)]) (fun _ => [[], ([(sb, .cells #[(hdp ([])), (lastp ([]))] 215 (0, 0))] ++ ch 213 248 246 [] .nilIface)]) (fun _ => True) (fun _ => 0) (()) ?_ ⟨rfl, rfl, trivial⟩ (List.Perm.refl _) ?_
  · try dsimp only
    all_goals trivial
  · rintro _ hp
    try dsimp only at hp
    show WC _ _ _ _ _ _ ([(3, .slice none 0 0), (4, .pointer none)]) ([[], ([(sb, .cells #[(hdp ([])), (lastp ([]))] 215 (0, 0))] ++ ch 213 248 246 [] .nilIface)])
    refine WC.seq (WC.seq (WC.region ?_))
    refine WL.q (oq_move rfl) rfl rfl rfl ?_
    refine WL.q (oq_pneq Tryz.underlying213 rfl rfl) rfl rfl rfl ?_
    refine WL.nil (WE.then_normal (WC.sub (fr' := [(3, _), (4, _), (12, _)]) ?_ ⟨rfl, rfl, rfl, trivial⟩))
    refine WC.cond rfl (fun q3 => ?_) (fun q3 => ?_)
    ·
      try simp only [Z1, Z2, Z3, Z4, Z5, Z6, Z7, Z8, Z9, Z0] at q3
      simp at q3
    ·
      try simp only [Z1, Z2, Z3, Z4, Z5, Z6, Z7, Z8, Z9, Z0] at q3
      refine WC.exit (WE.then_exit (WE.then_exit (WE.block_same (WE.then_normal (WC.sub (fr' := [(3, _)]) ?_ ⟨rfl, trivial⟩)))))
      refine WC.seq (WC.region ?_)
      refine WL.q (oq_move rfl) rfl rfl rfl ?_
      refine WL.q (oq_assign rfl) rfl rfl rfl ?_
      refine WL.nil (WE.then_normal (WC.sub (fr' := [(2, _)]) ?_ ⟨rfl, trivial⟩))
      refine WC.ret ?_
      refine WE.endA (.inl rfl) (res1 Tryz.results110 rfl) ?_ fresh0
      -- end 0
      exact OwS.nil _ _ _

end S4
end Go.Proofs.YtclafiglpcjhdaaGreat
