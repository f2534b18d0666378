/- Walks of a step: its names. -/
import Derived.Test.YtiegaefkahnfjaaGreatS2
import Derived.Test.YtiegaefkahnfjaaGreatL2
namespace Go.Proofs.YtiegaefkahnfjaaGreat
open Go Go.RowKit V S0 S1 S2 L2
set_option linter.unusedSimpArgs false
set_option linter.unusedVariables false
set_option maxRecDepth 10000
namespace S4
theorem flat98 : Flat Tryz.prog 98 := ⟨_, Tryz.underlying98, by simp⟩
theorem flat103 : Flat Tryz.prog 103 := ⟨_, Tryz.underlying103, by simp⟩
theorem flat121 : Flat Tryz.prog 121 := ⟨_, Tryz.underlying121, by simp⟩
theorem flat126 : Flat Tryz.prog 126 := ⟨_, Tryz.underlying126, by simp⟩
theorem flat140 : Flat Tryz.prog 140 := ⟨_, Tryz.underlying140, by simp⟩
theorem flat145 : Flat Tryz.prog 145 := ⟨_, Tryz.underlying145, by simp⟩
theorem flat159 : Flat Tryz.prog 159 := ⟨_, Tryz.underlying159, by simp⟩
theorem flat163 : Flat Tryz.prog 163 := ⟨_, Tryz.underlying163, by simp⟩
theorem flat177 : Flat Tryz.prog 177 := ⟨_, Tryz.underlying177, by simp⟩
theorem flat181 : Flat Tryz.prog 181 := ⟨_, Tryz.underlying181, by simp⟩
theorem flat200 : Flat Tryz.prog 200 := ⟨_, Tryz.underlying200, by simp⟩
theorem flat206 : Flat Tryz.prog 206 := ⟨_, Tryz.underlying206, by simp⟩
theorem flat212 : Flat Tryz.prog 212 := ⟨_, Tryz.underlying212, by simp⟩
theorem flat218 : Flat Tryz.prog 218 := ⟨_, Tryz.underlying218, by simp⟩
theorem flat224 : Flat Tryz.prog 224 := ⟨_, Tryz.underlying224, by simp⟩
theorem ty9 : Ty Tryz.prog 9 (S []) 1 16 := ty_of (by kernel_rfl)
theorem ty98 : Ty Tryz.prog 98 .nilIface 1 16 := ty_of (by kernel_rfl)
theorem ty103 : Ty Tryz.prog 103 .nilIface 1 16 := ty_of (by kernel_rfl)
theorem ty121 : Ty Tryz.prog 121 .nilIface 1 16 := ty_of (by kernel_rfl)
theorem ty126 : Ty Tryz.prog 126 .nilIface 1 16 := ty_of (by kernel_rfl)
theorem ty140 : Ty Tryz.prog 140 .nilIface 1 16 := ty_of (by kernel_rfl)
theorem ty145 : Ty Tryz.prog 145 .nilIface 1 16 := ty_of (by kernel_rfl)
theorem ty159 : Ty Tryz.prog 159 .nilIface 1 16 := ty_of (by kernel_rfl)
theorem ty163 : Ty Tryz.prog 163 .nilIface 1 16 := ty_of (by kernel_rfl)
theorem ty177 : Ty Tryz.prog 177 .nilIface 1 16 := ty_of (by kernel_rfl)
theorem ty181 : Ty Tryz.prog 181 .nilIface 1 16 := ty_of (by kernel_rfl)
theorem ty200 : Ty Tryz.prog 200 (.pointer none) 1 8 := ty_of (by kernel_rfl)
theorem ty206 : Ty Tryz.prog 206 (.pointer none) 1 8 := ty_of (by kernel_rfl)
theorem ty212 : Ty Tryz.prog 212 (.pointer none) 1 8 := ty_of (by kernel_rfl)
theorem ty218 : Ty Tryz.prog 218 (.pointer none) 1 8 := ty_of (by kernel_rfl)
theorem ty224 : Ty Tryz.prog 224 (.pointer none) 1 8 := ty_of (by kernel_rfl)
theorem conc200 : Conc Tryz.prog 200 := ⟨_, Tryz.underlying200, by simp⟩
theorem conc206 : Conc Tryz.prog 206 := ⟨_, Tryz.underlying206, by simp⟩
theorem conc212 : Conc Tryz.prog 212 := ⟨_, Tryz.underlying212, by simp⟩
theorem conc218 : Conc Tryz.prog 218 := ⟨_, Tryz.underlying218, by simp⟩
theorem conc224 : Conc Tryz.prog 224 := ⟨_, Tryz.underlying224, by simp⟩
theorem fld202_0 : Fld Tryz.prog 202 0 0 200 := fld_of Tryz.underlying202 rfl rfl rfl ty200 (by decide)
theorem fld204_0 : Fld Tryz.prog 204 0 0 103 := fld_of Tryz.underlying204 rfl rfl rfl ty103 (by decide)
theorem fld204_1 : Fld Tryz.prog 204 1 1 98 := fld_of Tryz.underlying204 rfl rfl rfl ty98 (by decide)
theorem fld208_0 : Fld Tryz.prog 208 0 0 206 := fld_of Tryz.underlying208 rfl rfl rfl ty206 (by decide)
theorem fld210_0 : Fld Tryz.prog 210 0 0 126 := fld_of Tryz.underlying210 rfl rfl rfl ty126 (by decide)
theorem fld210_1 : Fld Tryz.prog 210 1 1 121 := fld_of Tryz.underlying210 rfl rfl rfl ty121 (by decide)
theorem fld214_0 : Fld Tryz.prog 214 0 0 212 := fld_of Tryz.underlying214 rfl rfl rfl ty212 (by decide)
theorem fld216_0 : Fld Tryz.prog 216 0 0 145 := fld_of Tryz.underlying216 rfl rfl rfl ty145 (by decide)
theorem fld216_1 : Fld Tryz.prog 216 1 1 140 := fld_of Tryz.underlying216 rfl rfl rfl ty140 (by decide)
theorem fld220_0 : Fld Tryz.prog 220 0 0 218 := fld_of Tryz.underlying220 rfl rfl rfl ty218 (by decide)
theorem fld222_0 : Fld Tryz.prog 222 0 0 163 := fld_of Tryz.underlying222 rfl rfl rfl ty163 (by decide)
theorem fld222_1 : Fld Tryz.prog 222 1 1 159 := fld_of Tryz.underlying222 rfl rfl rfl ty159 (by decide)
theorem fld226_0 : Fld Tryz.prog 226 0 0 224 := fld_of Tryz.underlying226 rfl rfl rfl ty224 (by decide)
theorem fld228_0 : Fld Tryz.prog 228 0 0 181 := fld_of Tryz.underlying228 rfl rfl rfl ty181 (by decide)
theorem fld228_1 : Fld Tryz.prog 228 1 1 177 := fld_of Tryz.underlying228 rfl rfl rfl ty177 (by decide)
/-- (*given.example/pub-tinwright/pub/smithy/middleware.InitializeStep).List -/
theorem listC0 (sb : Nat) (items : List Nd) (x0 : Nd) (r0 : List Nd) (h0 : items = x0 :: r0) (hl : items.length ≤ 100000) : FnA Tryz.prog 36 [Pt sb 0] ([(sb, .cells #[(hdp (items)), (lastp (items))] 202 (0, 0))] ++ ch 200 204 231 items .nilIface) (fun v N => OwS 0 9 1 v N items.length (strsV (items.map Nd.id))) := by
  refine FnA.enter (n := 37) Tryz.func36 rfl rfl fun w0 => ?_
  refine WC.sub (fr' := [(0, _)]) ?_ ⟨rfl, trivial⟩
  refine WC.seq (WC.region ?_)
  refine WL.q (oq_assign rfl) rfl rfl rfl ?_
  refine WL.nil (WE.then_normal (WC.sub (fr' := [(0, _)]) ?_ ⟨rfl, trivial⟩))
  refine WC.seq ?_
  refine WC.add0 ?_
  refine WC.region ?_
  refine WL.q (oq_assign rfl) rfl rfl rfl ?_
  refine WL.nil (WE.then_normal (WC.sub (fr' := [(0, _), (3, _)]) ?_ ⟨rfl, rfl, trivial⟩))
  refine WC.seq (WC.seq ?_)
  have hd0 : hdp items = Pt x0.b 0 := by rw [h0]; rfl
  rw [hd0]
  refine WC.region ?_
  refine WL.q (oq_move rfl) rfl rfl rfl ?_
  refine WL.q (oq_nilCheck rfl) rfl rfl rfl ?_
  refine WL.q (oq_fieldAddr fld202_0 rfl) rfl rfl rfl ?_
  refine WL.q (oq_load flat200 rfl (.tail _ (.head _)) (List.mem_append_left _ (List.mem_singleton.2 rfl)) rfl) rfl rfl rfl ?_
  refine WL.q (oq_assign rfl) rfl rfl rfl ?_
  refine WL.nil (WE.then_normal (WC.sub (fr' := [(3, _), (4, _)]) ?_ ⟨rfl, rfl, trivial⟩))
  refine WC.block ?_
  refine WC.loop (ι := (List Nd) × Nd × (List Nd) × Value × Hp) (fun i_ => (fun (B1 : List Nd) (x : Nd) (B : List Nd) (v : Value) (V : Hp) => [(3, v), (4, Pt x.b 0)]) i_.1 i_.2.1 i_.2.2.1 i_.2.2.2.1 i_.2.2.2.2) (fun i_ => (fun (B1 : List Nd) (x : Nd) (B : List Nd) (v : Value) (V : Hp) => [V, ([(sb, .cells #[Pt x0.b 0, (lastp items)] 202 (0, 0))] ++ ch 200 204 231 items .nilIface)]) i_.1 i_.2.1 i_.2.2.1 i_.2.2.2.1 i_.2.2.2.2) (fun i_ => (fun (B1 : List Nd) (x : Nd) (B : List Nd) (v : Value) (V : Hp) => items = B1 ++ x :: B ∧ OwS w0.heap.size 9 1 v V B1.length (strsV (B1.map Nd.id))) i_.1 i_.2.1 i_.2.2.1 i_.2.2.2.1 i_.2.2.2.2) (fun i_ => (fun (B1 : List Nd) (x : Nd) (B : List Nd) (v : Value) (V : Hp) => B.length) i_.1 i_.2.1 i_.2.2.1 i_.2.2.2.1 i_.2.2.2.2) (([], x0, r0, _, _)) ?_ ⟨rfl, rfl, trivial⟩ (List.Perm.refl _) ?_
  · try dsimp only
    exact ⟨h0, OwS.nil _ _ _⟩
  · rintro ⟨B1, x, B, v, V⟩ hp
    try dsimp only at hp
    obtain ⟨hit, ho⟩ := hp
    show WC _ _ _ _ _ _ ([(3, v), (4, Pt x.b 0)]) ([V, ([(sb, .cells #[Pt x0.b 0, (lastp items)] 202 (0, 0))] ++ ch 200 204 231 items .nilIface)])
    have hBl : B1.length < items.length := by rw [hit]; simp
    refine WC.seq (WC.seq (WC.region ?_))
    refine WL.q (oq_move rfl) rfl rfl rfl ?_
    refine WL.q (oq_pneq Tryz.underlying200 rfl rfl) rfl rfl rfl ?_
    refine WL.nil (WE.then_normal (WC.sub (fr' := [(3, _), (4, _), (12, _)]) ?_ ⟨rfl, rfl, rfl, trivial⟩))
    refine WC.cond rfl (fun q3 => ?_) (fun q3 => ?_)
    ·
      try simp only [Z1, Z2, Z3, Z4, Z5, Z6, Z7, Z8, Z9, Z0] at q3
      refine WC.skip (WE.then_normal (WC.sub (fr' := [(3, _), (4, _)]) ?_ ⟨rfl, rfl, trivial⟩))
      refine WC.block (WC.seq (WC.region ?_))
      refine WL.q (oq_move rfl) rfl rfl rfl ?_
      refine WL.q (oq_move rfl) rfl rfl rfl ?_
      refine WL.q (oq_nilCheck rfl) rfl rfl rfl ?_
      refine WL.q (oq_fieldAddr fld204_1 rfl) rfl rfl rfl ?_
      refine WL.q (oq_load flat98 rfl (.tail _ (.head _)) (List.mem_append_right _ (mem_of hit)) rfl) rfl rfl rfl ?_
      refine WL.callWE (fun a w hf => ent_inv0 invID0 rfl hf w) (id0 _ x.id x.fv) rfl rfl rfl rfl fun v4_5 Hs4_5 hR4_5 => ?_
      obtain ⟨rfl, rfl⟩ := hR4_5
      refine WL.append1 ho Tryz.underlying26 ty9 rfl (by decide) (fun _ => rfl) rfl rfl (by unfold maxLen; omega) (by omega) rfl rfl (fun _ => rfl) rfl fun v4 A4 u4 ho4 hne4 => ?_
      refine WL.q (oq_assign rfl) rfl rfl rfl ?_
      refine WL.nil (WE.then_normal (WC.sub (fr' := [(3, _), (4, _)]) ?_ ⟨rfl, rfl, trivial⟩))
      refine WC.seq (WC.seq (WC.region ?_))
      refine WL.q (oq_move rfl) rfl rfl rfl ?_
      refine WL.q (oq_nilCheck rfl) rfl rfl rfl ?_
      refine WL.q (oq_fieldAddr fld204_0 rfl) rfl rfl rfl ?_
      refine WL.q (oq_load flat103 rfl (.tail _ (.head _)) (List.mem_append_right _ (mem_of hit)) rfl) rfl rfl rfl ?_
      refine WL.q (oq_ieql Tryz.underlying103 rfl (nextOf_or _ _)) rfl rfl rfl ?_
      refine WL.nil (WE.then_normal (WC.sub (fr' := [(3, _), (4, _), (25, _)]) ?_ ⟨rfl, rfl, rfl, trivial⟩))
      refine WC.cond rfl (fun q5 => ?_) (fun q5 => ?_)
      ·
        try simp only [Z1, Z2, Z3, Z4, Z5, Z6, Z7, Z8, Z9, Z0] at q5
        refine WC.exit (WE.then_exit ?_)
        refine WE.block_other rfl ?_
        refine WE.then_exit (WE.block_same (WE.then_normal (WC.sub (fr' := [(3, _)]) ?_ ⟨rfl, trivial⟩)))
        refine WC.seq (WC.region ?_)
        refine WL.q (oq_move rfl) rfl rfl rfl ?_
        refine WL.q (oq_assign rfl) rfl rfl rfl ?_
        refine WL.nil (WE.then_normal (WC.sub (fr' := [(2, _)]) ?_ ⟨rfl, trivial⟩))
        refine WC.ret ?_
        refine WE.endA (.inl rfl) (res1 Tryz.results36 rfl) ?_ (ho4.fresh)
        -- end 0
        have hB := nextOf_nil q5
        subst hB
        exact (strs_eq ho4 (by rw [hit]; simp) (by rw [hit]; simp [strsV])).mono (Nat.zero_le _)
      ·
        try simp only [Z1, Z2, Z3, Z4, Z5, Z6, Z7, Z8, Z9, Z0] at q5
        refine WC.skip (WE.then_normal (WC.sub (fr' := [(3, _), (4, _)]) ?_ ⟨rfl, rfl, trivial⟩))
        refine WC.seq ?_
        obtain ⟨y, B2, rfl⟩ := nextOf_cons q5
        refine WC.region ?_
        refine WL.q (oq_move rfl) rfl rfl rfl ?_
        refine WL.q (oq_nilCheck rfl) rfl rfl rfl ?_
        refine WL.q (oq_fieldAddr fld204_0 rfl) rfl rfl rfl ?_
        refine WL.q (oq_load flat103 rfl (.tail _ (.head _)) (List.mem_append_right _ (mem_of hit)) rfl) rfl rfl rfl ?_
        refine WL.q (oq_askC conc200 rfl) rfl rfl rfl ?_
        refine WL.q (oq_move rfl) rfl rfl rfl ?_
        refine WL.q (oq_extract rfl rfl) rfl rfl rfl ?_
        refine WL.q (oq_extract rfl rfl) rfl rfl rfl ?_
        refine WL.q (oq_assign rfl) rfl rfl rfl ?_
        refine WL.q (oq_assign rfl) rfl rfl rfl ?_
        refine WL.nil (WE.then_normal (WC.sub (fr' := [(3, _), (5, _), (6, _)]) ?_ ⟨rfl, rfl, rfl, trivial⟩))
        refine WC.seq (WC.region ?_)
        refine WL.q (oq_move rfl) rfl rfl rfl ?_
        refine WL.nil (WE.then_normal (WC.sub (fr' := [(3, _), (5, _), (34, _)]) ?_ ⟨rfl, rfl, rfl, trivial⟩))
        refine WC.cond rfl (fun q7 => ?_) (fun q7 => ?_)
        ·
          try simp only [Z1, Z2, Z3, Z4, Z5, Z6, Z7, Z8, Z9, Z0] at q7
          refine WC.region ?_
          refine WL.q (oq_move rfl) rfl rfl rfl ?_
          refine WL.q (oq_assign rfl) rfl rfl rfl ?_
          refine WL.nil (WE.block_normal ?_)
          refine WE.again (B1 ++ [x], y, B2, _, _) ?_ ?_ ⟨rfl, rfl, trivial⟩ (List.Perm.refl _)
          · try dsimp only   -- again 0
            exact ⟨by rw [hit]; simp, strs_eq ho4 (by simp) (by simp [strsV])⟩
          · (try dsimp only); simp
        ·
          try simp only [Z1, Z2, Z3, Z4, Z5, Z6, Z7, Z8, Z9, Z0] at q7
          first | (simp at q3; done) | (simp at q7; done)
    ·
      try simp only [Z1, Z2, Z3, Z4, Z5, Z6, Z7, Z8, Z9, Z0] at q3
      first | (simp at q3; done) | (simp at q7; done)

/-- (*given.example/pub-tinwright/pub/smithy/middleware.InitializeStep).List -/
theorem listN0 (sb : Nat) : FnA Tryz.prog 36 [Pt sb 0] ([(sb, .cells #[(hdp ([])), (lastp ([]))] 202 (0, 0))] ++ ch 200 204 231 [] .nilIface) (fun v N => OwS 0 9 1 v N 0 (strsV [])) := by
  refine FnA.enter (n := 37) Tryz.func36 rfl rfl fun w0 => ?_
  refine WC.sub (fr' := [(0, _)]) ?_ ⟨rfl, trivial⟩
  refine WC.seq (WC.region ?_)
  refine WL.q (oq_assign rfl) rfl rfl rfl ?_
  refine WL.nil (WE.then_normal (WC.sub (fr' := [(0, _)]) ?_ ⟨rfl, trivial⟩))
  refine WC.seq ?_
  refine WC.add0 ?_
  refine WC.region ?_
  refine WL.q (oq_assign rfl) rfl rfl rfl ?_
  refine WL.nil (WE.then_normal (WC.sub (fr' := [(0, _), (3, _)]) ?_ ⟨rfl, rfl, trivial⟩))
  refine WC.seq (WC.seq (WC.region ?_))
  refine WL.q (oq_move rfl) rfl rfl rfl ?_
  refine WL.q (oq_nilCheck rfl) rfl rfl rfl ?_
  refine WL.q (oq_fieldAddr fld202_0 rfl) rfl rfl rfl ?_
  refine WL.q (oq_load flat200 rfl (.tail _ (.head _)) (List.mem_append_left _ (List.mem_singleton.2 rfl)) rfl) rfl rfl rfl ?_
  refine WL.q (oq_assign rfl) rfl rfl rfl ?_
  refine WL.nil (WE.then_normal (WC.sub (fr' := [(3, _), (4, _)]) ?_ ⟨rfl, rfl, trivial⟩))
  refine WC.block ?_
  refine WC.loop (ι := Unit) (fun _ => [(3, .slice none 0 0), (4, .pointer none)]) (fun _ => [[], ([(sb, .cells #[(hdp ([])), (lastp ([]))] 202 (0, 0))] ++ ch 200 204 231 [] .nilIface)]) (fun _ => True) (fun _ => 0) (()) ?_ ⟨rfl, rfl, trivial⟩ (List.Perm.refl _) ?_
  · try dsimp only
    all_goals trivial
  · rintro _ hp
    try dsimp only at hp
    show WC _ _ _ _ _ _ ([(3, .slice none 0 0), (4, .pointer none)]) ([[], ([(sb, .cells #[(hdp ([])), (lastp ([]))] 202 (0, 0))] ++ ch 200 204 231 [] .nilIface)])
    refine WC.seq (WC.seq (WC.region ?_))
    refine WL.q (oq_move rfl) rfl rfl rfl ?_
    refine WL.q (oq_pneq Tryz.underlying200 rfl rfl) rfl rfl rfl ?_
    refine WL.nil (WE.then_normal (WC.sub (fr' := [(3, _), (4, _), (12, _)]) ?_ ⟨rfl, rfl, rfl, trivial⟩))
    refine WC.cond rfl (fun q3 => ?_) (fun q3 => ?_)
    ·
      try simp only [Z1, Z2, Z3, Z4, Z5, Z6, Z7, Z8, Z9, Z0] at q3
      simp at q3
    ·
      try simp only [Z1, Z2, Z3, Z4, Z5, Z6, Z7, Z8, Z9, Z0] at q3
      refine WC.exit (WE.then_exit (WE.then_exit (WE.block_same (WE.then_normal (WC.sub (fr' := [(3, _)]) ?_ ⟨rfl, trivial⟩)))))
      refine WC.seq (WC.region ?_)
      refine WL.q (oq_move rfl) rfl rfl rfl ?_
      refine WL.q (oq_assign rfl) rfl rfl rfl ?_
      refine WL.nil (WE.then_normal (WC.sub (fr' := [(2, _)]) ?_ ⟨rfl, trivial⟩))
      refine WC.ret ?_
      refine WE.endA (.inl rfl) (res1 Tryz.results36 rfl) ?_ fresh0
      -- end 0
      exact OwS.nil _ _ _

/-- (*given.example/pub-tinwright/pub/smithy/middleware.SerializeStep).List -/
theorem listC1 (sb : Nat) (nr : Value) (items : List Nd) (x0 : Nd) (r0 : List Nd) (h0 : items = x0 :: r0) (hl : items.length ≤ 100000) : FnA Tryz.prog 38 [Pt sb 0] ([(sb, .cells #[(hdp (items)), (lastp (items)), nr] 208 (0, 0))] ++ ch 206 210 235 items .nilIface) (fun v N => OwS 0 9 1 v N items.length (strsV (items.map Nd.id))) := by
  refine FnA.enter (n := 37) Tryz.func38 rfl rfl fun w0 => ?_
  refine WC.sub (fr' := [(0, _)]) ?_ ⟨rfl, trivial⟩
  refine WC.seq (WC.region ?_)
  refine WL.q (oq_assign rfl) rfl rfl rfl ?_
  refine WL.nil (WE.then_normal (WC.sub (fr' := [(0, _)]) ?_ ⟨rfl, trivial⟩))
  refine WC.seq ?_
  refine WC.add0 ?_
  refine WC.region ?_
  refine WL.q (oq_assign rfl) rfl rfl rfl ?_
  refine WL.nil (WE.then_normal (WC.sub (fr' := [(0, _), (3, _)]) ?_ ⟨rfl, rfl, trivial⟩))
  refine WC.seq (WC.seq ?_)
  have hd0 : hdp items = Pt x0.b 0 := by rw [h0]; rfl
  rw [hd0]
  refine WC.region ?_
  refine WL.q (oq_move rfl) rfl rfl rfl ?_
  refine WL.q (oq_nilCheck rfl) rfl rfl rfl ?_
  refine WL.q (oq_fieldAddr fld208_0 rfl) rfl rfl rfl ?_
  refine WL.q (oq_load flat206 rfl (.tail _ (.head _)) (List.mem_append_left _ (List.mem_singleton.2 rfl)) rfl) rfl rfl rfl ?_
  refine WL.q (oq_assign rfl) rfl rfl rfl ?_
  refine WL.nil (WE.then_normal (WC.sub (fr' := [(3, _), (4, _)]) ?_ ⟨rfl, rfl, trivial⟩))
  refine WC.block ?_
  refine WC.loop (ι := (List Nd) × Nd × (List Nd) × Value × Hp) (fun i_ => (fun (B1 : List Nd) (x : Nd) (B : List Nd) (v : Value) (V : Hp) => [(3, v), (4, Pt x.b 0)]) i_.1 i_.2.1 i_.2.2.1 i_.2.2.2.1 i_.2.2.2.2) (fun i_ => (fun (B1 : List Nd) (x : Nd) (B : List Nd) (v : Value) (V : Hp) => [V, ([(sb, .cells #[Pt x0.b 0, (lastp items), nr] 208 (0, 0))] ++ ch 206 210 235 items .nilIface)]) i_.1 i_.2.1 i_.2.2.1 i_.2.2.2.1 i_.2.2.2.2) (fun i_ => (fun (B1 : List Nd) (x : Nd) (B : List Nd) (v : Value) (V : Hp) => items = B1 ++ x :: B ∧ OwS w0.heap.size 9 1 v V B1.length (strsV (B1.map Nd.id))) i_.1 i_.2.1 i_.2.2.1 i_.2.2.2.1 i_.2.2.2.2) (fun i_ => (fun (B1 : List Nd) (x : Nd) (B : List Nd) (v : Value) (V : Hp) => B.length) i_.1 i_.2.1 i_.2.2.1 i_.2.2.2.1 i_.2.2.2.2) (([], x0, r0, _, _)) ?_ ⟨rfl, rfl, trivial⟩ (List.Perm.refl _) ?_
  · try dsimp only
    exact ⟨h0, OwS.nil _ _ _⟩
  · rintro ⟨B1, x, B, v, V⟩ hp
    try dsimp only at hp
    obtain ⟨hit, ho⟩ := hp
    show WC _ _ _ _ _ _ ([(3, v), (4, Pt x.b 0)]) ([V, ([(sb, .cells #[Pt x0.b 0, (lastp items), nr] 208 (0, 0))] ++ ch 206 210 235 items .nilIface)])
    have hBl : B1.length < items.length := by rw [hit]; simp
    refine WC.seq (WC.seq (WC.region ?_))
    refine WL.q (oq_move rfl) rfl rfl rfl ?_
    refine WL.q (oq_pneq Tryz.underlying206 rfl rfl) rfl rfl rfl ?_
    refine WL.nil (WE.then_normal (WC.sub (fr' := [(3, _), (4, _), (12, _)]) ?_ ⟨rfl, rfl, rfl, trivial⟩))
    refine WC.cond rfl (fun q3 => ?_) (fun q3 => ?_)
    ·
      try simp only [Z1, Z2, Z3, Z4, Z5, Z6, Z7, Z8, Z9, Z0] at q3
      refine WC.skip (WE.then_normal (WC.sub (fr' := [(3, _), (4, _)]) ?_ ⟨rfl, rfl, trivial⟩))
      refine WC.block (WC.seq (WC.region ?_))
      refine WL.q (oq_move rfl) rfl rfl rfl ?_
      refine WL.q (oq_move rfl) rfl rfl rfl ?_
      refine WL.q (oq_nilCheck rfl) rfl rfl rfl ?_
      refine WL.q (oq_fieldAddr fld210_1 rfl) rfl rfl rfl ?_
      refine WL.q (oq_load flat121 rfl (.tail _ (.head _)) (List.mem_append_right _ (mem_of hit)) rfl) rfl rfl rfl ?_
      refine WL.callWE (fun a w hf => ent_inv0 invID1 rfl hf w) (id1 _ x.id x.fv) rfl rfl rfl rfl fun v4_5 Hs4_5 hR4_5 => ?_
      obtain ⟨rfl, rfl⟩ := hR4_5
      refine WL.append1 ho Tryz.underlying26 ty9 rfl (by decide) (fun _ => rfl) rfl rfl (by unfold maxLen; omega) (by omega) rfl rfl (fun _ => rfl) rfl fun v4 A4 u4 ho4 hne4 => ?_
      refine WL.q (oq_assign rfl) rfl rfl rfl ?_
      refine WL.nil (WE.then_normal (WC.sub (fr' := [(3, _), (4, _)]) ?_ ⟨rfl, rfl, trivial⟩))
      refine WC.seq (WC.seq (WC.region ?_))
      refine WL.q (oq_move rfl) rfl rfl rfl ?_
      refine WL.q (oq_nilCheck rfl) rfl rfl rfl ?_
      refine WL.q (oq_fieldAddr fld210_0 rfl) rfl rfl rfl ?_
      refine WL.q (oq_load flat126 rfl (.tail _ (.head _)) (List.mem_append_right _ (mem_of hit)) rfl) rfl rfl rfl ?_
      refine WL.q (oq_ieql Tryz.underlying126 rfl (nextOf_or _ _)) rfl rfl rfl ?_
      refine WL.nil (WE.then_normal (WC.sub (fr' := [(3, _), (4, _), (25, _)]) ?_ ⟨rfl, rfl, rfl, trivial⟩))
      refine WC.cond rfl (fun q5 => ?_) (fun q5 => ?_)
      ·
        try simp only [Z1, Z2, Z3, Z4, Z5, Z6, Z7, Z8, Z9, Z0] at q5
        refine WC.exit (WE.then_exit ?_)
        refine WE.block_other rfl ?_
        refine WE.then_exit (WE.block_same (WE.then_normal (WC.sub (fr' := [(3, _)]) ?_ ⟨rfl, trivial⟩)))
        refine WC.seq (WC.region ?_)
        refine WL.q (oq_move rfl) rfl rfl rfl ?_
        refine WL.q (oq_assign rfl) rfl rfl rfl ?_
        refine WL.nil (WE.then_normal (WC.sub (fr' := [(2, _)]) ?_ ⟨rfl, trivial⟩))
        refine WC.ret ?_
        refine WE.endA (.inl rfl) (res1 Tryz.results38 rfl) ?_ (ho4.fresh)
        -- end 0
        have hB := nextOf_nil q5
        subst hB
        exact (strs_eq ho4 (by rw [hit]; simp) (by rw [hit]; simp [strsV])).mono (Nat.zero_le _)
      ·
        try simp only [Z1, Z2, Z3, Z4, Z5, Z6, Z7, Z8, Z9, Z0] at q5
        refine WC.skip (WE.then_normal (WC.sub (fr' := [(3, _), (4, _)]) ?_ ⟨rfl, rfl, trivial⟩))
        refine WC.seq ?_
        obtain ⟨y, B2, rfl⟩ := nextOf_cons q5
        refine WC.region ?_
        refine WL.q (oq_move rfl) rfl rfl rfl ?_
        refine WL.q (oq_nilCheck rfl) rfl rfl rfl ?_
        refine WL.q (oq_fieldAddr fld210_0 rfl) rfl rfl rfl ?_
        refine WL.q (oq_load flat126 rfl (.tail _ (.head _)) (List.mem_append_right _ (mem_of hit)) rfl) rfl rfl rfl ?_
        refine WL.q (oq_askC conc206 rfl) rfl rfl rfl ?_
        refine WL.q (oq_move rfl) rfl rfl rfl ?_
        refine WL.q (oq_extract rfl rfl) rfl rfl rfl ?_
        refine WL.q (oq_extract rfl rfl) rfl rfl rfl ?_
        refine WL.q (oq_assign rfl) rfl rfl rfl ?_
        refine WL.q (oq_assign rfl) rfl rfl rfl ?_
        refine WL.nil (WE.then_normal (WC.sub (fr' := [(3, _), (5, _), (6, _)]) ?_ ⟨rfl, rfl, rfl, trivial⟩))
        refine WC.seq (WC.region ?_)
        refine WL.q (oq_move rfl) rfl rfl rfl ?_
        refine WL.nil (WE.then_normal (WC.sub (fr' := [(3, _), (5, _), (34, _)]) ?_ ⟨rfl, rfl, rfl, trivial⟩))
        refine WC.cond rfl (fun q7 => ?_) (fun q7 => ?_)
        ·
          try simp only [Z1, Z2, Z3, Z4, Z5, Z6, Z7, Z8, Z9, Z0] at q7
          refine WC.region ?_
          refine WL.q (oq_move rfl) rfl rfl rfl ?_
          refine WL.q (oq_assign rfl) rfl rfl rfl ?_
          refine WL.nil (WE.block_normal ?_)
          refine WE.again (B1 ++ [x], y, B2, _, _) ?_ ?_ ⟨rfl, rfl, trivial⟩ (List.Perm.refl _)
          · try dsimp only   -- again 0
            exact ⟨by rw [hit]; simp, strs_eq ho4 (by simp) (by simp [strsV])⟩
          · (try dsimp only); simp
        ·
          try simp only [Z1, Z2, Z3, Z4, Z5, Z6, Z7, Z8, Z9, Z0] at q7
          first | (simp at q3; done) | (simp at q7; done)
    ·
      try simp only [Z1, Z2, Z3, Z4, Z5, Z6, Z7, Z8, Z9, Z0] at q3
      first | (simp at q3; done) | (simp at q7; done)

/-- (*given.example/pub-tinwright/pub/smithy/middleware.SerializeStep).List -/
theorem listN1 (sb : Nat) (nr : Value) : FnA Tryz.prog 38 [Pt sb 0] ([(sb, .cells #[(hdp ([])), (lastp ([])), nr] 208 (0, 0))] ++ ch 206 210 235 [] .nilIface) (fun v N => OwS 0 9 1 v N 0 (strsV [])) := by
  refine FnA.enter (n := 37) Tryz.func38 rfl rfl fun w0 => ?_
  refine WC.sub (fr' := [(0, _)]) ?_ ⟨rfl, trivial⟩
  refine WC.seq (WC.region ?_)
  refine WL.q (oq_assign rfl) rfl rfl rfl ?_
  refine WL.nil (WE.then_normal (WC.sub (fr' := [(0, _)]) ?_ ⟨rfl, trivial⟩))
  refine WC.seq ?_
  refine WC.add0 ?_
  refine WC.region ?_
  refine WL.q (oq_assign rfl) rfl rfl rfl ?_
  refine WL.nil (WE.then_normal (WC.sub (fr' := [(0, _), (3, _)]) ?_ ⟨rfl, rfl, trivial⟩))
  refine WC.seq (WC.seq (WC.region ?_))
  refine WL.q (oq_move rfl) rfl rfl rfl ?_
  refine WL.q (oq_nilCheck rfl) rfl rfl rfl ?_
  refine WL.q (oq_fieldAddr fld208_0 rfl) rfl rfl rfl ?_
  refine WL.q (oq_load flat206 rfl (.tail _ (.head _)) (List.mem_append_left _ (List.mem_singleton.2 rfl)) rfl) rfl rfl rfl ?_
  refine WL.q (oq_assign rfl) rfl rfl rfl ?_
  refine WL.nil (WE.then_normal (WC.sub (fr' := [(3, _), (4, _)]) ?_ ⟨rfl, rfl, trivial⟩))
  refine WC.block ?_
  refine WC.loop (ι := Unit) (fun _ => [(3, .slice none 0 0), (4, .pointer none)]) (fun _ => [[], ([(sb, .cells #[(hdp ([])), (lastp ([])), nr] 208 (0, 0))] ++ ch 206 210 235 [] .nilIface)]) (fun _ => True) (fun _ => 0) (()) ?_ ⟨rfl, rfl, trivial⟩ (List.Perm.refl _) ?_
  · try dsimp only
    all_goals trivial
  · rintro _ hp
    try dsimp only at hp
    show WC _ _ _ _ _ _ ([(3, .slice none 0 0), (4, .pointer none)]) ([[], ([(sb, .cells #[(hdp ([])), (lastp ([])), nr] 208 (0, 0))] ++ ch 206 210 235 [] .nilIface)])
    refine WC.seq (WC.seq (WC.region ?_))
    refine WL.q (oq_move rfl) rfl rfl rfl ?_
    refine WL.q (oq_pneq Tryz.underlying206 rfl rfl) rfl rfl rfl ?_
    refine WL.nil (WE.then_normal (WC.sub (fr' := [(3, _), (4, _), (12, _)]) ?_ ⟨rfl, rfl, rfl, trivial⟩))
    refine WC.cond rfl (fun q3 => ?_) (fun q3 => ?_)
    ·
      try simp only [Z1, Z2, Z3, Z4, Z5, Z6, Z7, Z8, Z9, Z0] at q3
      simp at q3
    ·
      try simp only [Z1, Z2, Z3, Z4, Z5, Z6, Z7, Z8, Z9, Z0] at q3
      refine WC.exit (WE.then_exit (WE.then_exit (WE.block_same (WE.then_normal (WC.sub (fr' := [(3, _)]) ?_ ⟨rfl, trivial⟩)))))
      refine WC.seq (WC.region ?_)
      refine WL.q (oq_move rfl) rfl rfl rfl ?_
      refine WL.q (oq_assign rfl) rfl rfl rfl ?_
      refine WL.nil (WE.then_normal (WC.sub (fr' := [(2, _)]) ?_ ⟨rfl, trivial⟩))
      refine WC.ret ?_
      refine WE.endA (.inl rfl) (res1 Tryz.results38 rfl) ?_ fresh0
      -- end 0
      exact OwS.nil _ _ _

/-- (*given.example/pub-tinwright/pub/smithy/middleware.BuildStep).List -/
theorem listC2 (sb : Nat) (items : List Nd) (x0 : Nd) (r0 : List Nd) (h0 : items = x0 :: r0) (hl : items.length ≤ 100000) : FnA Tryz.prog 40 [Pt sb 0] ([(sb, .cells #[(hdp (items)), (lastp (items))] 214 (0, 0))] ++ ch 212 216 239 items .nilIface) (fun v N => OwS 0 9 1 v N items.length (strsV (items.map Nd.id))) := by
  refine FnA.enter (n := 37) Tryz.func40 rfl rfl fun w0 => ?_
  refine WC.sub (fr' := [(0, _)]) ?_ ⟨rfl, trivial⟩
  refine WC.seq (WC.region ?_)
  refine WL.q (oq_assign rfl) rfl rfl rfl ?_
  refine WL.nil (WE.then_normal (WC.sub (fr' := [(0, _)]) ?_ ⟨rfl, trivial⟩))
  refine WC.seq ?_
  refine WC.add0 ?_
  refine WC.region ?_
  refine WL.q (oq_assign rfl) rfl rfl rfl ?_
  refine WL.nil (WE.then_normal (WC.sub (fr' := [(0, _), (3, _)]) ?_ ⟨rfl, rfl, trivial⟩))
  refine WC.seq (WC.seq ?_)
  have hd0 : hdp items = Pt x0.b 0 := by rw [h0]; rfl
  rw [hd0]
  refine WC.region ?_
  refine WL.q (oq_move rfl) rfl rfl rfl ?_
  refine WL.q (oq_nilCheck rfl) rfl rfl rfl ?_
  refine WL.q (oq_fieldAddr fld214_0 rfl) rfl rfl rfl ?_
  refine WL.q (oq_load flat212 rfl (.tail _ (.head _)) (List.mem_append_left _ (List.mem_singleton.2 rfl)) rfl) rfl rfl rfl ?_
  refine WL.q (oq_assign rfl) rfl rfl rfl ?_
  refine WL.nil (WE.then_normal (WC.sub (fr' := [(3, _), (4, _)]) ?_ ⟨rfl, rfl, trivial⟩))
  refine WC.block ?_
  refine WC.loop (ι := (List Nd) × Nd × (List Nd) × Value × Hp) (fun i_ => (fun (B1 : List Nd) (x : Nd) (B : List Nd) (v : Value) (V : Hp) => [(3, v), (4, Pt x.b 0)]) i_.1 i_.2.1 i_.2.2.1 i_.2.2.2.1 i_.2.2.2.2) (fun i_ => (fun (B1 : List Nd) (x : Nd) (B : List Nd) (v : Value) (V : Hp) => [V, ([(sb, .cells #[Pt x0.b 0, (lastp items)] 214 (0, 0))] ++ ch 212 216 239 items .nilIface)]) i_.1 i_.2.1 i_.2.2.1 i_.2.2.2.1 i_.2.2.2.2) (fun i_ => (fun (B1 : List Nd) (x : Nd) (B : List Nd) (v : Value) (V : Hp) => items = B1 ++ x :: B ∧ OwS w0.heap.size 9 1 v V B1.length (strsV (B1.map Nd.id))) i_.1 i_.2.1 i_.2.2.1 i_.2.2.2.1 i_.2.2.2.2) (fun i_ => (fun (B1 : List Nd) (x : Nd) (B : List Nd) (v : Value) (V : Hp) => B.length) i_.1 i_.2.1 i_.2.2.1 i_.2.2.2.1 i_.2.2.2.2) (([], x0, r0, _, _)) ?_ ⟨rfl, rfl, trivial⟩ (List.Perm.refl _) ?_
  · try dsimp only
    exact ⟨h0, OwS.nil _ _ _⟩
  · rintro ⟨B1, x, B, v, V⟩ hp
    try dsimp only at hp
    obtain ⟨hit, ho⟩ := hp
    show WC _ _ _ _ _ _ ([(3, v), (4, Pt x.b 0)]) ([V, ([(sb, .cells #[Pt x0.b 0, (lastp items)] 214 (0, 0))] ++ ch 212 216 239 items .nilIface)])
    have hBl : B1.length < items.length := by rw [hit]; simp
    refine WC.seq (WC.seq (WC.region ?_))
    refine WL.q (oq_move rfl) rfl rfl rfl ?_
    refine WL.q (oq_pneq Tryz.underlying212 rfl rfl) rfl rfl rfl ?_
    refine WL.nil (WE.then_normal (WC.sub (fr' := [(3, _), (4, _), (12, _)]) ?_ ⟨rfl, rfl, rfl, trivial⟩))
    refine WC.cond rfl (fun q3 => ?_) (fun q3 => ?_)
    ·
      try simp only [Z1, Z2, Z3, Z4, Z5, Z6, Z7, Z8, Z9, Z0] at q3
      refine WC.skip (WE.then_normal (WC.sub (fr' := [(3, _), (4, _)]) ?_ ⟨rfl, rfl, trivial⟩))
      refine WC.block (WC.seq (WC.region ?_))
      refine WL.q (oq_move rfl) rfl rfl rfl ?_
      refine WL.q (oq_move rfl) rfl rfl rfl ?_
      refine WL.q (oq_nilCheck rfl) rfl rfl rfl ?_
      refine WL.q (oq_fieldAddr fld216_1 rfl) rfl rfl rfl ?_
      refine WL.q (oq_load flat140 rfl (.tail _ (.head _)) (List.mem_append_right _ (mem_of hit)) rfl) rfl rfl rfl ?_
      refine WL.callWE (fun a w hf => ent_inv0 invID2 rfl hf w) (id2 _ x.id x.fv) rfl rfl rfl rfl fun v4_5 Hs4_5 hR4_5 => ?_
      obtain ⟨rfl, rfl⟩ := hR4_5
      refine WL.append1 ho Tryz.underlying26 ty9 rfl (by decide) (fun _ => rfl) rfl rfl (by unfold maxLen; omega) (by omega) rfl rfl (fun _ => rfl) rfl fun v4 A4 u4 ho4 hne4 => ?_
      refine WL.q (oq_assign rfl) rfl rfl rfl ?_
      refine WL.nil (WE.then_normal (WC.sub (fr' := [(3, _), (4, _)]) ?_ ⟨rfl, rfl, trivial⟩))
      refine WC.seq (WC.seq (WC.region ?_))
      refine WL.q (oq_move rfl) rfl rfl rfl ?_
      refine WL.q (oq_nilCheck rfl) rfl rfl rfl ?_
      refine WL.q (oq_fieldAddr fld216_0 rfl) rfl rfl rfl ?_
      refine WL.q (oq_load flat145 rfl (.tail _ (.head _)) (List.mem_append_right _ (mem_of hit)) rfl) rfl rfl rfl ?_
      refine WL.q (oq_ieql Tryz.underlying145 rfl (nextOf_or _ _)) rfl rfl rfl ?_
      refine WL.nil (WE.then_normal (WC.sub (fr' := [(3, _), (4, _), (25, _)]) ?_ ⟨rfl, rfl, rfl, trivial⟩))
      refine WC.cond rfl (fun q5 => ?_) (fun q5 => ?_)
      ·
        try simp only [Z1, Z2, Z3, Z4, Z5, Z6, Z7, Z8, Z9, Z0] at q5
        refine WC.exit (WE.then_exit ?_)
        refine WE.block_other rfl ?_
        refine WE.then_exit (WE.block_same (WE.then_normal (WC.sub (fr' := [(3, _)]) ?_ ⟨rfl, trivial⟩)))
        refine WC.seq (WC.region ?_)
        refine WL.q (oq_move rfl) rfl rfl rfl ?_
        refine WL.q (oq_assign rfl) rfl rfl rfl ?_
        refine WL.nil (WE.then_normal (WC.sub (fr' := [(2, _)]) ?_ ⟨rfl, trivial⟩))
        refine WC.ret ?_
        refine WE.endA (.inl rfl) (res1 Tryz.results40 rfl) ?_ (ho4.fresh)
        -- end 0
        have hB := nextOf_nil q5
        subst hB
        exact (strs_eq ho4 (by rw [hit]; simp) (by rw [hit]; simp [strsV])).mono (Nat.zero_le _)
      ·
        try simp only [Z1, Z2, Z3, Z4, Z5, Z6, Z7, Z8, Z9, Z0] at q5
        refine WC.skip (WE.then_normal (WC.sub (fr' := [(3, _), (4, _)]) ?_ ⟨rfl, rfl, trivial⟩))
        refine WC.seq ?_
        obtain ⟨y, B2, rfl⟩ := nextOf_cons q5
        refine WC.region ?_
        refine WL.q (oq_move rfl) rfl rfl rfl ?_
        refine WL.q (oq_nilCheck rfl) rfl rfl rfl ?_
        refine WL.q (oq_fieldAddr fld216_0 rfl) rfl rfl rfl ?_
        refine WL.q (oq_load flat145 rfl (.tail _ (.head _)) (List.mem_append_right _ (mem_of hit)) rfl) rfl rfl rfl ?_
        refine WL.q (oq_askC conc212 rfl) rfl rfl rfl ?_
        refine WL.q (oq_move rfl) rfl rfl rfl ?_
        refine WL.q (oq_extract rfl rfl) rfl rfl rfl ?_
        refine WL.q (oq_extract rfl rfl) rfl rfl rfl ?_
        refine WL.q (oq_assign rfl) rfl rfl rfl ?_
        refine WL.q (oq_assign rfl) rfl rfl rfl ?_
        refine WL.nil (WE.then_normal (WC.sub (fr' := [(3, _), (5, _), (6, _)]) ?_ ⟨rfl, rfl, rfl, trivial⟩))
        refine WC.seq (WC.region ?_)
        refine WL.q (oq_move rfl) rfl rfl rfl ?_
        refine WL.nil (WE.then_normal (WC.sub (fr' := [(3, _), (5, _), (34, _)]) ?_ ⟨rfl, rfl, rfl, trivial⟩))
        refine WC.cond rfl (fun q7 => ?_) (fun q7 => ?_)
        ·
          try simp only [Z1, Z2, Z3, Z4, Z5, Z6, Z7, Z8, Z9, Z0] at q7
          refine WC.region ?_
          refine WL.q (oq_move rfl) rfl rfl rfl ?_
          refine WL.q (oq_assign rfl) rfl rfl rfl ?_
          refine WL.nil (WE.block_normal ?_)
          refine WE.again (B1 ++ [x], y, B2, _, _) ?_ ?_ ⟨rfl, rfl, trivial⟩ (List.Perm.refl _)
          · try dsimp only   -- again 0
            exact ⟨by rw [hit]; simp, strs_eq ho4 (by simp) (by simp [strsV])⟩
          · (try dsimp only); simp
        ·
          try simp only [Z1, Z2, Z3, Z4, Z5, Z6, Z7, Z8, Z9, Z0] at q7
          first | (simp at q3; done) | (simp at q7; done)
    ·
      try simp only [Z1, Z2, Z3, Z4, Z5, Z6, Z7, Z8, Z9, Z0] at q3
      first | (simp at q3; done) | (simp at q7; done)

/-- (*given.example/pub-tinwright/pub/smithy/middleware.BuildStep).List -/
theorem listN2 (sb : Nat) : FnA Tryz.prog 40 [Pt sb 0] ([(sb, .cells #[(hdp ([])), (lastp ([]))] 214 (0, 0))] ++ ch 212 216 239 [] .nilIface) (fun v N => OwS 0 9 1 v N 0 (strsV [])) := by
  refine FnA.enter (n := 37) Tryz.func40 rfl rfl fun w0 => ?_
  refine WC.sub (fr' := [(0, _)]) ?_ ⟨rfl, trivial⟩
  refine WC.seq (WC.region ?_)
  refine WL.q (oq_assign rfl) rfl rfl rfl ?_
  refine WL.nil (WE.then_normal (WC.sub (fr' := [(0, _)]) ?_ ⟨rfl, trivial⟩))
  refine WC.seq ?_
  refine WC.add0 ?_
  refine WC.region ?_
  refine WL.q (oq_assign rfl) rfl rfl rfl ?_
  refine WL.nil (WE.then_normal (WC.sub (fr' := [(0, _), (3, _)]) ?_ ⟨rfl, rfl, trivial⟩))
  refine WC.seq (WC.seq (WC.region ?_))
  refine WL.q (oq_move rfl) rfl rfl rfl ?_
  refine WL.q (oq_nilCheck rfl) rfl rfl rfl ?_
  refine WL.q (oq_fieldAddr fld214_0 rfl) rfl rfl rfl ?_
  refine WL.q (oq_load flat212 rfl (.tail _ (.head _)) (List.mem_append_left _ (List.mem_singleton.2 rfl)) rfl) rfl rfl rfl ?_
  refine WL.q (oq_assign rfl) rfl rfl rfl ?_
  refine WL.nil (WE.then_normal (WC.sub (fr' := [(3, _), (4, _)]) ?_ ⟨rfl, rfl, trivial⟩))
  refine WC.block ?_
  refine WC.loop (ι := Unit) (fun _ => [(3, .slice none 0 0), (4, .pointer none)]) (fun _ => [[], ([(sb, .cells #[(hdp ([])), (lastp ([]))] 214 (0, 0))] ++ ch 212 216 239 [] .nilIface)]) (fun _ => True) (fun _ => 0) (()) ?_ ⟨rfl, rfl, trivial⟩ (List.Perm.refl _) ?_
  · try dsimp only
    all_goals trivial
  · rintro _ hp
    try dsimp only at hp
    show WC _ _ _ _ _ _ ([(3, .slice none 0 0), (4, .pointer none)]) ([[], ([(sb, .cells #[(hdp ([])), (lastp ([]))] 214 (0, 0))] ++ ch 212 216 239 [] .nilIface)])
    refine WC.seq (WC.seq (WC.region ?_))
    refine WL.q (oq_move rfl) rfl rfl rfl ?_
    refine WL.q (oq_pneq Tryz.underlying212 rfl rfl) rfl rfl rfl ?_
    refine WL.nil (WE.then_normal (WC.sub (fr' := [(3, _), (4, _), (12, _)]) ?_ ⟨rfl, rfl, rfl, trivial⟩))
    refine WC.cond rfl (fun q3 => ?_) (fun q3 => ?_)
    ·
      try simp only [Z1, Z2, Z3, Z4, Z5, Z6, Z7, Z8, Z9, Z0] at q3
      simp at q3
    ·
      try simp only [Z1, Z2, Z3, Z4, Z5, Z6, Z7, Z8, Z9, Z0] at q3
      refine WC.exit (WE.then_exit (WE.then_exit (WE.block_same (WE.then_normal (WC.sub (fr' := [(3, _)]) ?_ ⟨rfl, trivial⟩)))))
      refine WC.seq (WC.region ?_)
      refine WL.q (oq_move rfl) rfl rfl rfl ?_
      refine WL.q (oq_assign rfl) rfl rfl rfl ?_
      refine WL.nil (WE.then_normal (WC.sub (fr' := [(2, _)]) ?_ ⟨rfl, trivial⟩))
      refine WC.ret ?_
      refine WE.endA (.inl rfl) (res1 Tryz.results40 rfl) ?_ fresh0
      -- end 0
      exact OwS.nil _ _ _

/-- (*given.example/pub-tinwright/pub/smithy/middleware.FinalizeStep).List -/
theorem listC3 (sb : Nat) (items : List Nd) (x0 : Nd) (r0 : List Nd) (h0 : items = x0 :: r0) (hl : items.length ≤ 100000) : FnA Tryz.prog 42 [Pt sb 0] ([(sb, .cells #[(hdp (items)), (lastp (items))] 220 (0, 0))] ++ ch 218 222 243 items .nilIface) (fun v N => OwS 0 9 1 v N items.length (strsV (items.map Nd.id))) := by
  refine FnA.enter (n := 37) Tryz.func42 rfl rfl fun w0 => ?_
  refine WC.sub (fr' := [(0, _)]) ?_ ⟨rfl, trivial⟩
  refine WC.seq (WC.region ?_)
  refine WL.q (oq_assign rfl) rfl rfl rfl ?_
  refine WL.nil (WE.then_normal (WC.sub (fr' := [(0, _)]) ?_ ⟨rfl, trivial⟩))
  refine WC.seq ?_
  refine WC.add0 ?_
  refine WC.region ?_
  refine WL.q (oq_assign rfl) rfl rfl rfl ?_
  refine WL.nil (WE.then_normal (WC.sub (fr' := [(0, _), (3, _)]) ?_ ⟨rfl, rfl, trivial⟩))
  refine WC.seq (WC.seq ?_)
  have hd0 : hdp items = Pt x0.b 0 := by rw [h0]; rfl
  rw [hd0]
  refine WC.region ?_
  refine WL.q (oq_move rfl) rfl rfl rfl ?_
  refine WL.q (oq_nilCheck rfl) rfl rfl rfl ?_
  refine WL.q (oq_fieldAddr fld220_0 rfl) rfl rfl rfl ?_
  refine WL.q (oq_load flat218 rfl (.tail _ (.head _)) (List.mem_append_left _ (List.mem_singleton.2 rfl)) rfl) rfl rfl rfl ?_
  refine WL.q (oq_assign rfl) rfl rfl rfl ?_
  refine WL.nil (WE.then_normal (WC.sub (fr' := [(3, _), (4, _)]) ?_ ⟨rfl, rfl, trivial⟩))
  refine WC.block ?_
  refine WC.loop (ι := (List Nd) × Nd × (List Nd) × Value × Hp) (fun i_ => (fun (B1 : List Nd) (x : Nd) (B : List Nd) (v : Value) (V : Hp) => [(3, v), (4, Pt x.b 0)]) i_.1 i_.2.1 i_.2.2.1 i_.2.2.2.1 i_.2.2.2.2) (fun i_ => (fun (B1 : List Nd) (x : Nd) (B : List Nd) (v : Value) (V : Hp) => [V, ([(sb, .cells #[Pt x0.b 0, (lastp items)] 220 (0, 0))] ++ ch 218 222 243 items .nilIface)]) i_.1 i_.2.1 i_.2.2.1 i_.2.2.2.1 i_.2.2.2.2) (fun i_ => (fun (B1 : List Nd) (x : Nd) (B : List Nd) (v : Value) (V : Hp) => items = B1 ++ x :: B ∧ OwS w0.heap.size 9 1 v V B1.length (strsV (B1.map Nd.id))) i_.1 i_.2.1 i_.2.2.1 i_.2.2.2.1 i_.2.2.2.2) (fun i_ => (fun (B1 : List Nd) (x : Nd) (B : List Nd) (v : Value) (V : Hp) => B.length) i_.1 i_.2.1 i_.2.2.1 i_.2.2.2.1 i_.2.2.2.2) (([], x0, r0, _, _)) ?_ ⟨rfl, rfl, trivial⟩ (List.Perm.refl _) ?_
  · try dsimp only
    exact ⟨h0, OwS.nil _ _ _⟩
  · rintro ⟨B1, x, B, v, V⟩ hp
    try dsimp only at hp
    obtain ⟨hit, ho⟩ := hp
    show WC _ _ _ _ _ _ ([(3, v), (4, Pt x.b 0)]) ([V, ([(sb, .cells #[Pt x0.b 0, (lastp items)] 220 (0, 0))] ++ ch 218 222 243 items .nilIface)])
    have hBl : B1.length < items.length := by rw [hit]; simp
    refine WC.seq (WC.seq (WC.region ?_))
    refine WL.q (oq_move rfl) rfl rfl rfl ?_
    refine WL.q (oq_pneq Tryz.underlying218 rfl rfl) rfl rfl rfl ?_
    refine WL.nil (WE.then_normal (WC.sub (fr' := [(3, _), (4, _), (12, _)]) ?_ ⟨rfl, rfl, rfl, trivial⟩))
    refine WC.cond rfl (fun q3 => ?_) (fun q3 => ?_)
    ·
      try simp only [Z1, Z2, Z3, Z4, Z5, Z6, Z7, Z8, Z9, Z0] at q3
      refine WC.skip (WE.then_normal (WC.sub (fr' := [(3, _), (4, _)]) ?_ ⟨rfl, rfl, trivial⟩))
      refine WC.block (WC.seq (WC.region ?_))
      refine WL.q (oq_move rfl) rfl rfl rfl ?_
      refine WL.q (oq_move rfl) rfl rfl rfl ?_
      refine WL.q (oq_nilCheck rfl) rfl rfl rfl ?_
      refine WL.q (oq_fieldAddr fld222_1 rfl) rfl rfl rfl ?_
      refine WL.q (oq_load flat159 rfl (.tail _ (.head _)) (List.mem_append_right _ (mem_of hit)) rfl) rfl rfl rfl ?_
      refine WL.callWE (fun a w hf => ent_inv0 invID3 rfl hf w) (id3 _ x.id x.fv) rfl rfl rfl rfl fun v4_5 Hs4_5 hR4_5 => ?_
      obtain ⟨rfl, rfl⟩ := hR4_5
      refine WL.append1 ho Tryz.underlying26 ty9 rfl (by decide) (fun _ => rfl) rfl rfl (by unfold maxLen; omega) (by omega) rfl rfl (fun _ => rfl) rfl fun v4 A4 u4 ho4 hne4 => ?_
      refine WL.q (oq_assign rfl) rfl rfl rfl ?_
      refine WL.nil (WE.then_normal (WC.sub (fr' := [(3, _), (4, _)]) ?_ ⟨rfl, rfl, trivial⟩))
      refine WC.seq (WC.seq (WC.region ?_))
      refine WL.q (oq_move rfl) rfl rfl rfl ?_
      refine WL.q (oq_nilCheck rfl) rfl rfl rfl ?_
      refine WL.q (oq_fieldAddr fld222_0 rfl) rfl rfl rfl ?_
      refine WL.q (oq_load flat163 rfl (.tail _ (.head _)) (List.mem_append_right _ (mem_of hit)) rfl) rfl rfl rfl ?_
      refine WL.q (oq_ieql Tryz.underlying163 rfl (nextOf_or _ _)) rfl rfl rfl ?_
      refine WL.nil (WE.then_normal (WC.sub (fr' := [(3, _), (4, _), (25, _)]) ?_ ⟨rfl, rfl, rfl, trivial⟩))
      refine WC.cond rfl (fun q5 => ?_) (fun q5 => ?_)
      ·
        try simp only [Z1, Z2, Z3, Z4, Z5, Z6, Z7, Z8, Z9, Z0] at q5
        refine WC.exit (WE.then_exit ?_)
        refine WE.block_other rfl ?_
        refine WE.then_exit (WE.block_same (WE.then_normal (WC.sub (fr' := [(3, _)]) ?_ ⟨rfl, trivial⟩)))
        refine WC.seq (WC.region ?_)
        refine WL.q (oq_move rfl) rfl rfl rfl ?_
        refine WL.q (oq_assign rfl) rfl rfl rfl ?_
        refine WL.nil (WE.then_normal (WC.sub (fr' := [(2, _)]) ?_ ⟨rfl, trivial⟩))
        refine WC.ret ?_
        refine WE.endA (.inl rfl) (res1 Tryz.results42 rfl) ?_ (ho4.fresh)
        -- end 0
        have hB := nextOf_nil q5
        subst hB
        exact (strs_eq ho4 (by rw [hit]; simp) (by rw [hit]; simp [strsV])).mono (Nat.zero_le _)
      ·
        try simp only [Z1, Z2, Z3, Z4, Z5, Z6, Z7, Z8, Z9, Z0] at q5
        refine WC.skip (WE.then_normal (WC.sub (fr' := [(3, _), (4, _)]) ?_ ⟨rfl, rfl, trivial⟩))
        refine WC.seq ?_
        obtain ⟨y, B2, rfl⟩ := nextOf_cons q5
        refine WC.region ?_
        refine WL.q (oq_move rfl) rfl rfl rfl ?_
        refine WL.q (oq_nilCheck rfl) rfl rfl rfl ?_
        refine WL.q (oq_fieldAddr fld222_0 rfl) rfl rfl rfl ?_
        refine WL.q (oq_load flat163 rfl (.tail _ (.head _)) (List.mem_append_right _ (mem_of hit)) rfl) rfl rfl rfl ?_
        refine WL.q (oq_askC conc218 rfl) rfl rfl rfl ?_
        refine WL.q (oq_move rfl) rfl rfl rfl ?_
        refine WL.q (oq_extract rfl rfl) rfl rfl rfl ?_
        refine WL.q (oq_extract rfl rfl) rfl rfl rfl ?_
        refine WL.q (oq_assign rfl) rfl rfl rfl ?_
        refine WL.q (oq_assign rfl) rfl rfl rfl ?_
        refine WL.nil (WE.then_normal (WC.sub (fr' := [(3, _), (5, _), (6, _)]) ?_ ⟨rfl, rfl, rfl, trivial⟩))
        refine WC.seq (WC.region ?_)
        refine WL.q (oq_move rfl) rfl rfl rfl ?_
        refine WL.nil (WE.then_normal (WC.sub (fr' := [(3, _), (5, _), (34, _)]) ?_ ⟨rfl, rfl, rfl, trivial⟩))
        refine WC.cond rfl (fun q7 => ?_) (fun q7 => ?_)
        ·
          try simp only [Z1, Z2, Z3, Z4, Z5, Z6, Z7, Z8, Z9, Z0] at q7
          refine WC.region ?_
          refine WL.q (oq_move rfl) rfl rfl rfl ?_
          refine WL.q (oq_assign rfl) rfl rfl rfl ?_
          refine WL.nil (WE.block_normal ?_)
          refine WE.again (B1 ++ [x], y, B2, _, _) ?_ ?_ ⟨rfl, rfl, trivial⟩ (List.Perm.refl _)
          · try dsimp only   -- again 0
            exact ⟨by rw [hit]; simp, strs_eq ho4 (by simp) (by simp [strsV])⟩
          · (try dsimp only); simp
        ·
          try simp only [Z1, Z2, Z3, Z4, Z5, Z6, Z7, Z8, Z9, Z0] at q7
          first | (simp at q3; done) | (simp at q7; done)
    ·
      try simp only [Z1, Z2, Z3, Z4, Z5, Z6, Z7, Z8, Z9, Z0] at q3
      first | (simp at q3; done) | (simp at q7; done)

/-- (*given.example/pub-tinwright/pub/smithy/middleware.FinalizeStep).List -/
theorem listN3 (sb : Nat) : FnA Tryz.prog 42 [Pt sb 0] ([(sb, .cells #[(hdp ([])), (lastp ([]))] 220 (0, 0))] ++ ch 218 222 243 [] .nilIface) (fun v N => OwS 0 9 1 v N 0 (strsV [])) := by
  refine FnA.enter (n := 37) Tryz.func42 rfl rfl fun w0 => ?_
  refine WC.sub (fr' := [(0, _)]) ?_ ⟨rfl, trivial⟩
  refine WC.seq (WC.region ?_)
  refine WL.q (oq_assign rfl) rfl rfl rfl ?_
  refine WL.nil (WE.then_normal (WC.sub (fr' := [(0, _)]) ?_ ⟨rfl, trivial⟩))
  refine WC.seq ?_
  refine WC.add0 ?_
  refine WC.region ?_
  refine WL.q (oq_assign rfl) rfl rfl rfl ?_
  refine WL.nil (WE.then_normal (WC.sub (fr' := [(0, _), (3, _)]) ?_ ⟨rfl, rfl, trivial⟩))
  refine WC.seq (WC.seq (WC.region ?_))
  refine WL.q (oq_move rfl) rfl rfl rfl ?_
  refine WL.q (oq_nilCheck rfl) rfl rfl rfl ?_
  refine WL.q (oq_fieldAddr fld220_0 rfl) rfl rfl rfl ?_
  refine WL.q (oq_load flat218 rfl (.tail _ (.head _)) (List.mem_append_left _ (List.mem_singleton.2 rfl)) rfl) rfl rfl rfl ?_
  refine WL.q (oq_assign rfl) rfl rfl rfl ?_
  refine WL.nil (WE.then_normal (WC.sub (fr' := [(3, _), (4, _)]) ?_ ⟨rfl, rfl, trivial⟩))
  refine WC.block ?_
  refine WC.loop (ι := Unit) (fun _ => [(3, .slice none 0 0), (4, .pointer none)]) (fun _ => [[], ([(sb, .cells #[(hdp ([])), (lastp ([]))] 220 (0, 0))] ++ ch 218 222 243 [] .nilIface)]) (fun _ => True) (fun _ => 0) (()) ?_ ⟨rfl, rfl, trivial⟩ (List.Perm.refl _) ?_
  · try dsimp only
    all_goals trivial
  · rintro _ hp
    try dsimp only at hp
    show WC _ _ _ _ _ _ ([(3, .slice none 0 0), (4, .pointer none)]) ([[], ([(sb, .cells #[(hdp ([])), (lastp ([]))] 220 (0, 0))] ++ ch 218 222 243 [] .nilIface)])
    refine WC.seq (WC.seq (WC.region ?_))
    refine WL.q (oq_move rfl) rfl rfl rfl ?_
    refine WL.q (oq_pneq Tryz.underlying218 rfl rfl) rfl rfl rfl ?_
    refine WL.nil (WE.then_normal (WC.sub (fr' := [(3, _), (4, _), (12, _)]) ?_ ⟨rfl, rfl, rfl, trivial⟩))
    refine WC.cond rfl (fun q3 => ?_) (fun q3 => ?_)
    ·
      try simp only [Z1, Z2, Z3, Z4, Z5, Z6, Z7, Z8, Z9, Z0] at q3
      simp at q3
    ·
      try simp only [Z1, Z2, Z3, Z4, Z5, Z6, Z7, Z8, Z9, Z0] at q3
      refine WC.exit (WE.then_exit (WE.then_exit (WE.block_same (WE.then_normal (WC.sub (fr' := [(3, _)]) ?_ ⟨rfl, trivial⟩)))))
      refine WC.seq (WC.region ?_)
      refine WL.q (oq_move rfl) rfl rfl rfl ?_
      refine WL.q (oq_assign rfl) rfl rfl rfl ?_
      refine WL.nil (WE.then_normal (WC.sub (fr' := [(2, _)]) ?_ ⟨rfl, trivial⟩))
      refine WC.ret ?_
      refine WE.endA (.inl rfl) (res1 Tryz.results42 rfl) ?_ fresh0
      -- end 0
      exact OwS.nil _ _ _

/-- (*given.example/pub-tinwright/pub/smithy/middleware.DeserializeStep).List -/
theorem listC4 (sb : Nat) (items : List Nd) (x0 : Nd) (r0 : List Nd) (h0 : items = x0 :: r0) (hl : items.length ≤ 100000) : FnA Tryz.prog 44 [Pt sb 0] ([(sb, .cells #[(hdp (items)), (lastp (items))] 226 (0, 0))] ++ ch 224 228 247 items .nilIface) (fun v N => OwS 0 9 1 v N items.length (strsV (items.map Nd.id))) := by
  refine FnA.enter (n := 37) Tryz.func44 rfl rfl fun w0 => ?_
  refine WC.sub (fr' := [(0, _)]) ?_ ⟨rfl, trivial⟩
  refine WC.seq (WC.region ?_)
  refine WL.q (oq_assign rfl) rfl rfl rfl ?_
  refine WL.nil (WE.then_normal (WC.sub (fr' := [(0, _)]) ?_ ⟨rfl, trivial⟩))
  refine WC.seq ?_
  refine WC.add0 ?_
  refine WC.region ?_
  refine WL.q (oq_assign rfl) rfl rfl rfl ?_
  refine WL.nil (WE.then_normal (WC.sub (fr' := [(0, _), (3, _)]) ?_ ⟨rfl, rfl, trivial⟩))
  refine WC.seq (WC.seq ?_)
  have hd0 : hdp items = Pt x0.b 0 := by rw [h0]; rfl
  rw [hd0]
  refine WC.region ?_
  refine WL.q (oq_move rfl) rfl rfl rfl ?_
  refine WL.q (oq_nilCheck rfl) rfl rfl rfl ?_
  refine WL.q (oq_fieldAddr fld226_0 rfl) rfl rfl rfl ?_
  refine WL.q (oq_load flat224 rfl (.tail _ (.head _)) (List.mem_append_left _ (List.mem_singleton.2 rfl)) rfl) rfl rfl rfl ?_
  refine WL.q (oq_assign rfl) rfl rfl rfl ?_
  refine WL.nil (WE.then_normal (WC.sub (fr' := [(3, _), (4, _)]) ?_ ⟨rfl, rfl, trivial⟩))
  refine WC.block ?_
  refine WC.loop (ι := (List Nd) × Nd × (List Nd) × Value × Hp) (fun i_ => (fun (B1 : List Nd) (x : Nd) (B : List Nd) (v : Value) (V : Hp) => [(3, v), (4, Pt x.b 0)]) i_.1 i_.2.1 i_.2.2.1 i_.2.2.2.1 i_.2.2.2.2) (fun i_ => (fun (B1 : List Nd) (x : Nd) (B : List Nd) (v : Value) (V : Hp) => [V, ([(sb, .cells #[Pt x0.b 0, (lastp items)] 226 (0, 0))] ++ ch 224 228 247 items .nilIface)]) i_.1 i_.2.1 i_.2.2.1 i_.2.2.2.1 i_.2.2.2.2) (fun i_ => (fun (B1 : List Nd) (x : Nd) (B : List Nd) (v : Value) (V : Hp) => items = B1 ++ x :: B ∧ OwS w0.heap.size 9 1 v V B1.length (strsV (B1.map Nd.id))) i_.1 i_.2.1 i_.2.2.1 i_.2.2.2.1 i_.2.2.2.2) (fun i_ => (fun (B1 : List Nd) (x : Nd) (B : List Nd) (v : Value) (V : Hp) => B.length) i_.1 i_.2.1 i_.2.2.1 i_.2.2.2.1 i_.2.2.2.2) (([], x0, r0, _, _)) ?_ ⟨rfl, rfl, trivial⟩ (List.Perm.refl _) ?_
  · try dsimp only
    exact ⟨h0, OwS.nil _ _ _⟩
  · rintro ⟨B1, x, B, v, V⟩ hp
    try dsimp only at hp
    obtain ⟨hit, ho⟩ := hp
    show WC _ _ _ _ _ _ ([(3, v), (4, Pt x.b 0)]) ([V, ([(sb, .cells #[Pt x0.b 0, (lastp items)] 226 (0, 0))] ++ ch 224 228 247 items .nilIface)])
    have hBl : B1.length < items.length := by rw [hit]; simp
    refine WC.seq (WC.seq (WC.region ?_))
    refine WL.q (oq_move rfl) rfl rfl rfl ?_
    refine WL.q (oq_pneq Tryz.underlying224 rfl rfl) rfl rfl rfl ?_
    refine WL.nil (WE.then_normal (WC.sub (fr' := [(3, _), (4, _), (12, _)]) ?_ ⟨rfl, rfl, rfl, trivial⟩))
    refine WC.cond rfl (fun q3 => ?_) (fun q3 => ?_)
    ·
      try simp only [Z1, Z2, Z3, Z4, Z5, Z6, Z7, Z8, Z9, Z0] at q3
      refine WC.skip (WE.then_normal (WC.sub (fr' := [(3, _), (4, _)]) ?_ ⟨rfl, rfl, trivial⟩))
      refine WC.block (WC.seq (WC.region ?_))
      refine WL.q (oq_move rfl) rfl rfl rfl ?_
      refine WL.q (oq_move rfl) rfl rfl rfl ?_
      refine WL.q (oq_nilCheck rfl) rfl rfl rfl ?_
      refine WL.q (oq_fieldAddr fld228_1 rfl) rfl rfl rfl ?_
      refine WL.q (oq_load flat177 rfl (.tail _ (.head _)) (List.mem_append_right _ (mem_of hit)) rfl) rfl rfl rfl ?_
      refine WL.callWE (fun a w hf => ent_inv0 invID4 rfl hf w) (id4 _ x.id x.fv) rfl rfl rfl rfl fun v4_5 Hs4_5 hR4_5 => ?_
      obtain ⟨rfl, rfl⟩ := hR4_5
      refine WL.append1 ho Tryz.underlying26 ty9 rfl (by decide) (fun _ => rfl) rfl rfl (by unfold maxLen; omega) (by omega) rfl rfl (fun _ => rfl) rfl fun v4 A4 u4 ho4 hne4 => ?_
      refine WL.q (oq_assign rfl) rfl rfl rfl ?_
      refine WL.nil (WE.then_normal (WC.sub (fr' := [(3, _), (4, _)]) ?_ ⟨rfl, rfl, trivial⟩))
      refine WC.seq (WC.seq (WC.region ?_))
      refine WL.q (oq_move rfl) rfl rfl rfl ?_
      refine WL.q (oq_nilCheck rfl) rfl rfl rfl ?_
      refine WL.q (oq_fieldAddr fld228_0 rfl) rfl rfl rfl ?_
      refine WL.q (oq_load flat181 rfl (.tail _ (.head _)) (List.mem_append_right _ (mem_of hit)) rfl) rfl rfl rfl ?_
      refine WL.q (oq_ieql Tryz.underlying181 rfl (nextOf_or _ _)) rfl rfl rfl ?_
      refine WL.nil (WE.then_normal (WC.sub (fr' := [(3, _), (4, _), (25, _)]) ?_ ⟨rfl, rfl, rfl, trivial⟩))
      refine WC.cond rfl (fun q5 => ?_) (fun q5 => ?_)
      ·
        try simp only [Z1, Z2, Z3, Z4, Z5, Z6, Z7, Z8, Z9, Z0] at q5
        refine WC.exit (WE.then_exit ?_)
        refine WE.block_other rfl ?_
        refine WE.then_exit (WE.block_same (WE.then_normal (WC.sub (fr' := [(3, _)]) ?_ ⟨rfl, trivial⟩)))
        refine WC.seq (WC.region ?_)
        refine WL.q (oq_move rfl) rfl rfl rfl ?_
        refine WL.q (oq_assign rfl) rfl rfl rfl ?_
        refine WL.nil (WE.then_normal (WC.sub (fr' := [(2, _)]) ?_ ⟨rfl, trivial⟩))
        refine WC.ret ?_
        refine WE.endA (.inl rfl) (res1 Tryz.results44 rfl) ?_ (ho4.fresh)
        -- end 0
        have hB := nextOf_nil q5
        subst hB
        exact (strs_eq ho4 (by rw [hit]; simp) (by rw [hit]; simp [strsV])).mono (Nat.zero_le _)
      ·
        try simp only [Z1, Z2, Z3, Z4, Z5, Z6, Z7, Z8, Z9, Z0] at q5
        refine WC.skip (WE.then_normal (WC.sub (fr' := [(3, _), (4, _)]) ?_ ⟨rfl, rfl, trivial⟩))
        refine WC.seq ?_
        obtain ⟨y, B2, rfl⟩ := nextOf_cons q5
        refine WC.region ?_
        refine WL.q (oq_move rfl) rfl rfl rfl ?_
        refine WL.q (oq_nilCheck rfl) rfl rfl rfl ?_
        refine WL.q (oq_fieldAddr fld228_0 rfl) rfl rfl rfl ?_
        refine WL.q (oq_load flat181 rfl (.tail _ (.head _)) (List.mem_append_right _ (mem_of hit)) rfl) rfl rfl rfl ?_
        refine WL.q (oq_askC conc224 rfl) rfl rfl rfl ?_
        refine WL.q (oq_move rfl) rfl rfl rfl ?_
        refine WL.q (oq_extract rfl rfl) rfl rfl rfl ?_
        refine WL.q (oq_extract rfl rfl) rfl rfl rfl ?_
        refine WL.q (oq_assign rfl) rfl rfl rfl ?_
        refine WL.q (oq_assign rfl) rfl rfl rfl ?_
        refine WL.nil (WE.then_normal (WC.sub (fr' := [(3, _), (5, _), (6, _)]) ?_ ⟨rfl, rfl, rfl, trivial⟩))
        refine WC.seq (WC.region ?_)
        refine WL.q (oq_move rfl) rfl rfl rfl ?_
        refine WL.nil (WE.then_normal (WC.sub (fr' := [(3, _), (5, _), (34, _)]) ?_ ⟨rfl, rfl, rfl, trivial⟩))
        refine WC.cond rfl (fun q7 => ?_) (fun q7 => ?_)
        ·
          try simp only [Z1, Z2, Z3, Z4, Z5, Z6, Z7, Z8, Z9, Z0] at q7
          refine WC.region ?_
          refine WL.q (oq_move rfl) rfl rfl rfl ?_
          refine WL.q (oq_assign rfl) rfl rfl rfl ?_
          refine WL.nil (WE.block_normal ?_)
          refine WE.again (B1 ++ [x], y, B2, _, _) ?_ ?_ ⟨rfl, rfl, trivial⟩ (List.Perm.refl _)
          · try dsimp only   -- again 0
            exact ⟨by rw [hit]; simp, strs_eq ho4 (by simp) (by simp [strsV])⟩
          · (try dsimp only); simp
        ·
          try simp only [Z1, Z2, Z3, Z4, Z5, Z6, Z7, Z8, Z9, Z0] at q7
          first | (simp at q3; done) | (simp at q7; done)
    ·
      try simp only [Z1, Z2, Z3, Z4, Z5, Z6, Z7, Z8, Z9, Z0] at q3
      first | (simp at q3; done) | (simp at q7; done)

/-- (*given.example/pub-tinwright/pub/smithy/middleware.DeserializeStep).List -/
theorem listN4 (sb : Nat) : FnA Tryz.prog 44 [Pt sb 0] ([(sb, .cells #[(hdp ([])), (lastp ([]))] 226 (0, 0))] ++ ch 224 228 247 [] .nilIface) (fun v N => OwS 0 9 1 v N 0 (strsV [])) := by
  refine FnA.enter (n := 37) Tryz.func44 rfl rfl fun w0 => ?_
  refine WC.sub (fr' := [(0, _)]) ?_ ⟨rfl, trivial⟩
  refine WC.seq (WC.region ?_)
  refine WL.q (oq_assign rfl) rfl rfl rfl ?_
  refine WL.nil (WE.then_normal (WC.sub (fr' := [(0, _)]) ?_ ⟨rfl, trivial⟩))
  refine WC.seq ?_
  refine WC.add0 ?_
  refine WC.region ?_
  refine WL.q (oq_assign rfl) rfl rfl rfl ?_
  refine WL.nil (WE.then_normal (WC.sub (fr' := [(0, _), (3, _)]) ?_ ⟨rfl, rfl, trivial⟩))
  refine WC.seq (WC.seq (WC.region ?_))
  refine WL.q (oq_move rfl) rfl rfl rfl ?_
  refine WL.q (oq_nilCheck rfl) rfl rfl rfl ?_
  refine WL.q (oq_fieldAddr fld226_0 rfl) rfl rfl rfl ?_
  refine WL.q (oq_load flat224 rfl (.tail _ (.head _)) (List.mem_append_left _ (List.mem_singleton.2 rfl)) rfl) rfl rfl rfl ?_
  refine WL.q (oq_assign rfl) rfl rfl rfl ?_
  refine WL.nil (WE.then_normal (WC.sub (fr' := [(3, _), (4, _)]) ?_ ⟨rfl, rfl, trivial⟩))
  refine WC.block ?_
  refine WC.loop (ι := Unit) (fun _ => [(3, .slice none 0 0), (4, .pointer none)]) (fun _ => [[], ([(sb, .cells #[(hdp ([])), (lastp ([]))] 226 (0, 0))] ++ ch 224 228 247 [] .nilIface)]) (fun _ => True) (fun _ => 0) (()) ?_ ⟨rfl, rfl, trivial⟩ (List.Perm.refl _) ?_
  · try dsimp only
    all_goals trivial
  · rintro _ hp
    try dsimp only at hp
    show WC _ _ _ _ _ _ ([(3, .slice none 0 0), (4, .pointer none)]) ([[], ([(sb, .cells #[(hdp ([])), (lastp ([]))] 226 (0, 0))] ++ ch 224 228 247 [] .nilIface)])
    refine WC.seq (WC.seq (WC.region ?_))
    refine WL.q (oq_move rfl) rfl rfl rfl ?_
    refine WL.q (oq_pneq Tryz.underlying224 rfl rfl) rfl rfl rfl ?_
    refine WL.nil (WE.then_normal (WC.sub (fr' := [(3, _), (4, _), (12, _)]) ?_ ⟨rfl, rfl, rfl, trivial⟩))
    refine WC.cond rfl (fun q3 => ?_) (fun q3 => ?_)
    ·
      try simp only [Z1, Z2, Z3, Z4, Z5, Z6, Z7, Z8, Z9, Z0] at q3
      simp at q3
    ·
      try simp only [Z1, Z2, Z3, Z4, Z5, Z6, Z7, Z8, Z9, Z0] at q3
      refine WC.exit (WE.then_exit (WE.then_exit (WE.block_same (WE.then_normal (WC.sub (fr' := [(3, _)]) ?_ ⟨rfl, trivial⟩)))))
      refine WC.seq (WC.region ?_)
      refine WL.q (oq_move rfl) rfl rfl rfl ?_
      refine WL.q (oq_assign rfl) rfl rfl rfl ?_
      refine WL.nil (WE.then_normal (WC.sub (fr' := [(2, _)]) ?_ ⟨rfl, trivial⟩))
      refine WC.ret ?_
      refine WE.endA (.inl rfl) (res1 Tryz.results44 rfl) ?_ fresh0
      -- end 0
      exact OwS.nil _ _ _

end S4
end Go.Proofs.YtiegaefkahnfjaaGreat
