/- Walks of a step: what is taken out. -/
import Derived.Test.YtclafiglpcjhdaaGreatS2
namespace Go.Proofs.YtclafiglpcjhdaaGreat
open Go Go.RowKit V S0 S1 S2
set_option linter.unusedSimpArgs false
set_option linter.unusedVariables false
set_option maxRecDepth 10000
namespace S3
theorem call113 : Callable Tryz.prog 113 := ⟨_, Tryz.func113, rfl, by kernel_rfl⟩
theorem call114 : Callable Tryz.prog 114 := ⟨_, Tryz.func114, rfl, by kernel_rfl⟩
theorem call115 : Callable Tryz.prog 115 := ⟨_, Tryz.func115, rfl, by kernel_rfl⟩
theorem call116 : Callable Tryz.prog 116 := ⟨_, Tryz.func116, rfl, by kernel_rfl⟩
theorem call117 : Callable Tryz.prog 117 := ⟨_, Tryz.func117, rfl, by kernel_rfl⟩
theorem call118 : Callable Tryz.prog 118 := ⟨_, Tryz.func118, rfl, by kernel_rfl⟩
theorem flat104 : Flat Tryz.prog 104 := ⟨_, Tryz.underlying104, by simp⟩
theorem flat109 : Flat Tryz.prog 109 := ⟨_, Tryz.underlying109, by simp⟩
theorem flat127 : Flat Tryz.prog 127 := ⟨_, Tryz.underlying127, by simp⟩
theorem flat132 : Flat Tryz.prog 132 := ⟨_, Tryz.underlying132, by simp⟩
theorem flat146 : Flat Tryz.prog 146 := ⟨_, Tryz.underlying146, by simp⟩
theorem flat151 : Flat Tryz.prog 151 := ⟨_, Tryz.underlying151, by simp⟩
theorem flat165 : Flat Tryz.prog 165 := ⟨_, Tryz.underlying165, by simp⟩
theorem flat169 : Flat Tryz.prog 169 := ⟨_, Tryz.underlying169, by simp⟩
theorem flat183 : Flat Tryz.prog 183 := ⟨_, Tryz.underlying183, by simp⟩
theorem flat187 : Flat Tryz.prog 187 := ⟨_, Tryz.underlying187, by simp⟩
theorem flat201 : Flat Tryz.prog 201 := ⟨_, Tryz.underlying201, by simp⟩
theorem flat204 : Flat Tryz.prog 204 := ⟨_, Tryz.underlying204, by simp⟩
theorem flat207 : Flat Tryz.prog 207 := ⟨_, Tryz.underlying207, by simp⟩
theorem flat210 : Flat Tryz.prog 210 := ⟨_, Tryz.underlying210, by simp⟩
theorem flat213 : Flat Tryz.prog 213 := ⟨_, Tryz.underlying213, by simp⟩
theorem ty104 : Ty Tryz.prog 104 .nilIface 1 16 := ty_of (by kernel_rfl)
theorem ty109 : Ty Tryz.prog 109 .nilIface 1 16 := ty_of (by kernel_rfl)
theorem ty127 : Ty Tryz.prog 127 .nilIface 1 16 := ty_of (by kernel_rfl)
theorem ty132 : Ty Tryz.prog 132 .nilIface 1 16 := ty_of (by kernel_rfl)
theorem ty146 : Ty Tryz.prog 146 .nilIface 1 16 := ty_of (by kernel_rfl)
theorem ty151 : Ty Tryz.prog 151 .nilIface 1 16 := ty_of (by kernel_rfl)
theorem ty165 : Ty Tryz.prog 165 .nilIface 1 16 := ty_of (by kernel_rfl)
theorem ty169 : Ty Tryz.prog 169 .nilIface 1 16 := ty_of (by kernel_rfl)
theorem ty183 : Ty Tryz.prog 183 .nilIface 1 16 := ty_of (by kernel_rfl)
theorem ty187 : Ty Tryz.prog 187 .nilIface 1 16 := ty_of (by kernel_rfl)
theorem ty201 : Ty Tryz.prog 201 (.pointer none) 1 8 := ty_of (by kernel_rfl)
theorem ty204 : Ty Tryz.prog 204 (.pointer none) 1 8 := ty_of (by kernel_rfl)
theorem ty207 : Ty Tryz.prog 207 (.pointer none) 1 8 := ty_of (by kernel_rfl)
theorem ty210 : Ty Tryz.prog 210 (.pointer none) 1 8 := ty_of (by kernel_rfl)
theorem ty213 : Ty Tryz.prog 213 (.pointer none) 1 8 := ty_of (by kernel_rfl)
theorem ty219 : Ty Tryz.prog 219 (.agg #[.nilIface, .nilIface]) 2 32 := ty_of (by kernel_rfl)
theorem ty227 : Ty Tryz.prog 227 (.agg #[.nilIface, .nilIface]) 2 32 := ty_of (by kernel_rfl)
theorem ty234 : Ty Tryz.prog 234 (.agg #[.nilIface, .nilIface]) 2 32 := ty_of (by kernel_rfl)
theorem ty241 : Ty Tryz.prog 241 (.agg #[.nilIface, .nilIface]) 2 32 := ty_of (by kernel_rfl)
theorem ty248 : Ty Tryz.prog 248 (.agg #[.nilIface, .nilIface]) 2 32 := ty_of (by kernel_rfl)
theorem conc201 : Conc Tryz.prog 201 := ⟨_, Tryz.underlying201, by simp⟩
theorem conc204 : Conc Tryz.prog 204 := ⟨_, Tryz.underlying204, by simp⟩
theorem conc207 : Conc Tryz.prog 207 := ⟨_, Tryz.underlying207, by simp⟩
theorem conc210 : Conc Tryz.prog 210 := ⟨_, Tryz.underlying210, by simp⟩
theorem conc213 : Conc Tryz.prog 213 := ⟨_, Tryz.underlying213, by simp⟩
theorem fld203_0 : Fld Tryz.prog 203 0 0 201 := fld_of Tryz.underlying203 rfl rfl rfl ty201 (by decide)
theorem fld203_1 : Fld Tryz.prog 203 1 1 201 := fld_of Tryz.underlying203 rfl rfl rfl ty201 (by decide)
theorem fld206_0 : Fld Tryz.prog 206 0 0 204 := fld_of Tryz.underlying206 rfl rfl rfl ty204 (by decide)
theorem fld206_1 : Fld Tryz.prog 206 1 1 204 := fld_of Tryz.underlying206 rfl rfl rfl ty204 (by decide)
theorem fld209_0 : Fld Tryz.prog 209 0 0 207 := fld_of Tryz.underlying209 rfl rfl rfl ty207 (by decide)
theorem fld209_1 : Fld Tryz.prog 209 1 1 207 := fld_of Tryz.underlying209 rfl rfl rfl ty207 (by decide)
theorem fld212_0 : Fld Tryz.prog 212 0 0 210 := fld_of Tryz.underlying212 rfl rfl rfl ty210 (by decide)
theorem fld212_1 : Fld Tryz.prog 212 1 1 210 := fld_of Tryz.underlying212 rfl rfl rfl ty210 (by decide)
theorem fld215_0 : Fld Tryz.prog 215 0 0 213 := fld_of Tryz.underlying215 rfl rfl rfl ty213 (by decide)
theorem fld215_1 : Fld Tryz.prog 215 1 1 213 := fld_of Tryz.underlying215 rfl rfl rfl ty213 (by decide)
theorem fld219_0 : Fld Tryz.prog 219 0 0 109 := fld_of Tryz.underlying219 rfl rfl rfl ty109 (by decide)
theorem fld219_1 : Fld Tryz.prog 219 1 1 104 := fld_of Tryz.underlying219 rfl rfl rfl ty104 (by decide)
theorem fld227_0 : Fld Tryz.prog 227 0 0 132 := fld_of Tryz.underlying227 rfl rfl rfl ty132 (by decide)
theorem fld227_1 : Fld Tryz.prog 227 1 1 127 := fld_of Tryz.underlying227 rfl rfl rfl ty127 (by decide)
theorem fld234_0 : Fld Tryz.prog 234 0 0 151 := fld_of Tryz.underlying234 rfl rfl rfl ty151 (by decide)
theorem fld234_1 : Fld Tryz.prog 234 1 1 146 := fld_of Tryz.underlying234 rfl rfl rfl ty146 (by decide)
theorem fld241_0 : Fld Tryz.prog 241 0 0 169 := fld_of Tryz.underlying241 rfl rfl rfl ty169 (by decide)
theorem fld241_1 : Fld Tryz.prog 241 1 1 165 := fld_of Tryz.underlying241 rfl rfl rfl ty165 (by decide)
theorem fld248_0 : Fld Tryz.prog 248 0 0 187 := fld_of Tryz.underlying248 rfl rfl rfl ty187 (by decide)
theorem fld248_1 : Fld Tryz.prog 248 1 1 183 := fld_of Tryz.underlying248 rfl rfl rfl ty183 (by decide)

theorem last_of {B3 B : List Nd} {l : Nd} (h : B = B3 ++ [l]) : lastp B = Pt l.b 0 := by rw [h, lastp_snoc]
/-- (*given.example/pub-tinwright/pub/smithy/middleware.InitializeStep).Remove -/
theorem remO0 (base sb : Nat) (x : Nd) (items : List Nd) (hbx : base ≤ x.b) (hit : items = [] ++ x :: []) : FnW Tryz.prog 48 [Pt sb 0, S x.id] base [[(sb, .cells #[(hdp (items)), (lastp (items))] 203 (0, 0))], ch 201 219 217 items .nilIface] (fun v Hs => v = .tuple #[wv 217 x, .nilIface] ∧ Hs.flatten.Perm ([[(sb, .cells #[(hdp ([])), (lastp ([]))] 203 (0, 0))], ch 201 219 217 [] .nilIface] : List Hp).flatten) := by
  refine FnW.enter (n := 73) Tryz.func48 rfl rfl fun w0 R0 hbase => ?_
  subst hbase
  show WC _ _ _ _ _ _ _ ([[(sb, .cells #[(hdp (items)), (lastp (items))] 203 (0, 0))], ch 201 219 217 items .nilIface, R0])
  refine WC.sub (fr' := [(0, _), (1, _)]) ?_ ⟨rfl, rfl, trivial⟩
  refine WC.seq (WC.region ?_)
  refine WL.q (oq_assign rfl) rfl rfl rfl ?_
  refine WL.q (oq_assign rfl) rfl rfl rfl ?_
  refine WL.nil (WE.then_normal (WC.sub (fr' := [(0, _), (1, _)]) ?_ ⟨rfl, rfl, trivial⟩))
  refine WC.seq (WC.region ?_)
  refine WL.q (oq_move rfl) rfl rfl rfl ?_
  refine WL.q (oq_move rfl) rfl rfl rfl ?_
  refine WL.f1 ?_
  refine WL.f1 ?_
  refine WL.callW2 (gotH0 _ sb x.id [] [] x items hit rfl (by simp)) call114 rfl rfl rfl fun v1_2 Hs1_2 hR1_2 => ?_
  obtain ⟨rfl, rfl⟩ := hR1_2
  refine WL.to2 ?_
  refine WL.q (oq_move rfl) rfl rfl rfl ?_
  refine WL.q (oq_extract rfl rfl) rfl rfl rfl ?_
  refine WL.q (oq_extract rfl rfl) rfl rfl rfl ?_
  refine WL.q (oq_assign rfl) rfl rfl rfl ?_
  refine WL.q (oq_assign rfl) rfl rfl rfl ?_
  refine WL.nil (WE.then_normal (WC.sub (fr' := [(0, _), (6, _), (7, _)]) ?_ ⟨rfl, rfl, rfl, trivial⟩))
  refine WC.seq (WC.seq (WC.region ?_))
  refine WL.q (oq_move rfl) rfl rfl rfl ?_
  refine WL.q (oq_peql Tryz.underlying201 rfl rfl) rfl rfl rfl ?_
  refine WL.nil (WE.then_normal (WC.sub (fr' := [(0, _), (6, _), (7, _), (15, _)]) ?_ ⟨rfl, rfl, rfl, rfl, trivial⟩))
  refine WC.cond rfl (fun q2 => ?_) (fun q2 => ?_)
  ·
    try simp only [Z1, Z2, Z3, Z4, Z5, Z6, Z7, Z8, Z9, Z0] at q2
    first | (simp at q2; done) | exact absurd q4 hhl | exact absurd q4.symm hhl | exact absurd q7 hxh | exact absurd q7.symm hxh | exact absurd q9 hxl | exact absurd q9.symm hxl | (exfalso; omega)
  ·
    try simp only [Z1, Z2, Z3, Z4, Z5, Z6, Z7, Z8, Z9, Z0] at q2
    refine WC.skip (WE.then_normal (WC.sub (fr' := [(0, _), (6, _), (7, _)]) ?_ ⟨rfl, rfl, rfl, trivial⟩))
    refine WC.seq (WC.seq ?_)
    have hh : hdp items = Pt x.b 0 := by rw [hit]; rfl
    have ht : lastp items = Pt x.b 0 := by rw [hit]; rfl
    rw [hh, ht]
    refine WC.quiet (by kernel_rfl) (by kernel_rfl) ?_
    refine WQ.q (oq_move rfl) rfl rfl rfl ?_
    refine WQ.q (oq_nilCheck rfl) rfl rfl rfl ?_
    refine WQ.q (oq_fieldAddr fld203_0 rfl) rfl rfl rfl ?_
    refine WQ.q (oq_load flat201 rfl (.head _) (List.mem_singleton.2 rfl) rfl) rfl rfl rfl ?_
    refine WQ.q (oq_move rfl) rfl rfl rfl ?_
    refine WQ.q (oq_nilCheck rfl) rfl rfl rfl ?_
    refine WQ.q (oq_fieldAddr fld203_1 rfl) rfl rfl rfl ?_
    refine WQ.q (oq_load flat201 rfl (.head _) (List.mem_singleton.2 rfl) rfl) rfl rfl rfl ?_
    refine WQ.q (oq_pesame Tryz.underlying201 ty219 rfl rfl) rfl rfl rfl ?_
    refine WQ.nil (WE.then_normal (WC.sub (fr' := [(0, _), (6, _), (7, _), (25, _)]) ?_ ⟨rfl, rfl, rfl, rfl, trivial⟩))
    refine WC.cond_t rfl ?_
    refine WC.seq (WC.region ?_)
    refine WL.q (oq_move rfl) rfl rfl rfl ?_
    refine WL.q (oq_nilCheck rfl) rfl rfl rfl ?_
    refine WL.q (oq_fieldAddr fld203_0 rfl) rfl rfl rfl ?_
    refine WL.store1 #[_, _] ty201 rfl rfl (by first | rfl | exact OwS.one one_) (Nat.lt_of_lt_of_le (Nat.lt_succ_self _) (Nat.le_of_ble_eq_true rfl)) rfl rfl ?_
    refine WL.nil (WE.then_normal (WC.sub (fr' := [(0, _), (6, _)]) ?_ ⟨rfl, rfl, trivial⟩))
    refine WC.region ?_
    refine WL.q (oq_move rfl) rfl rfl rfl ?_
    refine WL.q (oq_nilCheck rfl) rfl rfl rfl ?_
    refine WL.q (oq_fieldAddr fld203_1 rfl) rfl rfl rfl ?_
    refine WL.store1 #[_, _] ty201 rfl rfl (by first | rfl | exact OwS.one one_) (Nat.lt_of_lt_of_le (Nat.lt_succ_self _) (Nat.le_of_ble_eq_true rfl)) rfl rfl ?_
    refine WL.nil (WE.then_normal (WC.sub (fr' := [(6, _)]) ?_ ⟨rfl, trivial⟩))
    refine WC.seq (WC.region ?_)
    refine WL.q (oq_move rfl) rfl rfl rfl ?_
    refine WL.q (oq_nilCheck rfl) rfl rfl rfl ?_
    refine WL.q (oq_fieldAddr fld219_1 rfl) rfl rfl rfl ?_
    refine WL.q (oq_load flat104 rfl (.tail _ (.head _)) (mem_of hit) rfl) rfl rfl rfl ?_
    refine WL.q (oq_assign rfl) rfl rfl rfl ?_
    refine WL.f1 ?_
    refine WL.reg (reg_out (show (ch 201 219 217 (items) .nilIface).Perm ([(x.b, .cells #[nextOf 201 ([]) .nilIface, wv 217 x] 219 (0, 0))] ++ (ch 201 219 217 ([]) (.iface 201 (Pt x.b 0)) ++ ch 201 219 217 ([]) .nilIface)) from by rw [hit]; exact ch_out _ _ _ _)) ?_
    refine WL.q (oq_assign rfl) rfl rfl rfl ?_
    refine WL.nil (WE.then_normal (WC.sub (fr' := [(4, _), (5, _)]) ?_ ⟨rfl, rfl, trivial⟩))
    refine WC.ret ?_
    refine WE.lose hbx ?_
    refine WE.f2 ?_
    refine WE.f1 ?_
    refine WE.f2 ?_
    refine WE.endW2 (.inl rfl) (res2 Tryz.results48 rfl rfl) ?_
    -- end 0
    exact ⟨rfl, perm2 rfl (by simp only [List.flatten_cons, List.flatten_nil, List.append_nil]; exact List.Perm.refl _)⟩

/-- (*given.example/pub-tinwright/pub/smithy/middleware.InitializeStep).Remove -/
theorem remF0 (base sb : Nat) (x : Nd) (items : List Nd) (hbx : base ≤ x.b) (y : Nd) (B2 B3 : List Nd) (l : Nd) (hit : items = [] ++ x :: (y :: B2)) (hB : y :: B2 = B3 ++ [l]) : FnW Tryz.prog 48 [Pt sb 0, S x.id] base [[(sb, .cells #[(hdp (items)), (lastp (items))] 203 (0, 0))], ch 201 219 217 items .nilIface] (fun v Hs => v = .tuple #[wv 217 x, .nilIface] ∧ Hs.flatten.Perm ([[(sb, .cells #[(hdp (y :: B2)), (lastp (y :: B2))] 203 (0, 0))], ch 201 219 217 (y :: B2) .nilIface] : List Hp).flatten) := by
  refine FnW.enter (n := 73) Tryz.func48 rfl rfl fun w0 R0 hbase => ?_
  subst hbase
  show WC _ _ _ _ _ _ _ ([[(sb, .cells #[(hdp (items)), (lastp (items))] 203 (0, 0))], ch 201 219 217 items .nilIface, R0])
  refine WC.sub (fr' := [(0, _), (1, _)]) ?_ ⟨rfl, rfl, trivial⟩
  refine WC.seq (WC.region ?_)
  refine WL.q (oq_assign rfl) rfl rfl rfl ?_
  refine WL.q (oq_assign rfl) rfl rfl rfl ?_
  refine WL.nil (WE.then_normal (WC.sub (fr' := [(0, _), (1, _)]) ?_ ⟨rfl, rfl, trivial⟩))
  refine WC.seq (WC.region ?_)
  refine WL.q (oq_move rfl) rfl rfl rfl ?_
  refine WL.q (oq_move rfl) rfl rfl rfl ?_
  refine WL.f1 ?_
  refine WL.f1 ?_
  refine WL.callW2 (gotH0 _ sb x.id [] (y :: B2) x items hit rfl (by simp)) call114 rfl rfl rfl fun v1_2 Hs1_2 hR1_2 => ?_
  obtain ⟨rfl, rfl⟩ := hR1_2
  refine WL.to2 ?_
  refine WL.q (oq_move rfl) rfl rfl rfl ?_
  refine WL.q (oq_extract rfl rfl) rfl rfl rfl ?_
  refine WL.q (oq_extract rfl rfl) rfl rfl rfl ?_
  refine WL.q (oq_assign rfl) rfl rfl rfl ?_
  refine WL.q (oq_assign rfl) rfl rfl rfl ?_
  refine WL.nil (WE.then_normal (WC.sub (fr' := [(0, _), (6, _), (7, _)]) ?_ ⟨rfl, rfl, rfl, trivial⟩))
  refine WC.seq (WC.seq (WC.region ?_))
  refine WL.q (oq_move rfl) rfl rfl rfl ?_
  refine WL.q (oq_peql Tryz.underlying201 rfl rfl) rfl rfl rfl ?_
  refine WL.nil (WE.then_normal (WC.sub (fr' := [(0, _), (6, _), (7, _), (15, _)]) ?_ ⟨rfl, rfl, rfl, rfl, trivial⟩))
  refine WC.cond rfl (fun q2 => ?_) (fun q2 => ?_)
  ·
    try simp only [Z1, Z2, Z3, Z4, Z5, Z6, Z7, Z8, Z9, Z0] at q2
    first | (simp at q2; done) | exact absurd q4 hhl | exact absurd q4.symm hhl | exact absurd q7 hxh | exact absurd q7.symm hxh | exact absurd q9 hxl | exact absurd q9.symm hxl | (exfalso; omega)
  ·
    try simp only [Z1, Z2, Z3, Z4, Z5, Z6, Z7, Z8, Z9, Z0] at q2
    refine WC.skip (WE.then_normal (WC.sub (fr' := [(0, _), (6, _), (7, _)]) ?_ ⟨rfl, rfl, rfl, trivial⟩))
    refine WC.seq (WC.seq ?_)
    refine WC.distinct fun hdd => ?_
    have hnn := nd_of hdd
    have hhl : l.b ≠ x.b := nd_ne hnn hit (.inr (by rw [hB]; simp))
    have hit3 : items = (x :: B3) ++ l :: [] := by rw [hit, hB]; rfl
    have hh : hdp items = Pt x.b 0 := by rw [hit]; rfl
    have ht : lastp items = Pt l.b 0 := by rw [hit3]; exact lastp_snoc _ _
    rw [hh, ht]
    refine WC.quiet (by kernel_rfl) (by kernel_rfl) ?_
    refine WQ.q (oq_move rfl) rfl rfl rfl ?_
    refine WQ.q (oq_nilCheck rfl) rfl rfl rfl ?_
    refine WQ.q (oq_fieldAddr fld203_0 rfl) rfl rfl rfl ?_
    refine WQ.q (oq_load flat201 rfl (.head _) (List.mem_singleton.2 rfl) rfl) rfl rfl rfl ?_
    refine WQ.q (oq_move rfl) rfl rfl rfl ?_
    refine WQ.q (oq_nilCheck rfl) rfl rfl rfl ?_
    refine WQ.q (oq_fieldAddr fld203_1 rfl) rfl rfl rfl ?_
    refine WQ.q (oq_load flat201 rfl (.head _) (List.mem_singleton.2 rfl) rfl) rfl rfl rfl ?_
    refine WQ.q (oq_peq Tryz.underlying201 ty219 (by decide) (.tail _ (.head _)) (mem_of hit) (.tail _ (.head _)) (mem_of hit3) rfl rfl) rfl rfl rfl ?_
    refine WQ.nil (WE.then_normal (WC.sub (fr' := [(0, _), (6, _), (7, _), (25, _)]) ?_ ⟨rfl, rfl, rfl, rfl, trivial⟩))
    refine WC.cond rfl (fun q4 => ?_) (fun q4 => ?_)
    ·
      try simp only [Z1, Z2, Z3, Z4, Z5, Z6, Z7, Z8, Z9, Z0] at q4
      first | (simp at q2; done) | exact absurd q4 hhl | exact absurd q4.symm hhl | exact absurd q7 hxh | exact absurd q7.symm hxh | exact absurd q9 hxl | exact absurd q9.symm hxl | (exfalso; omega)
    ·
      try simp only [Z1, Z2, Z3, Z4, Z5, Z6, Z7, Z8, Z9, Z0] at q4
      refine WC.seq (WC.region ?_)
      refine WL.q (oq_move rfl) rfl rfl rfl ?_
      refine WL.q (oq_move rfl) rfl rfl rfl ?_
      refine WL.q (oq_nilCheck rfl) rfl rfl rfl ?_
      refine WL.q (oq_fieldAddr fld203_0 rfl) rfl rfl rfl ?_
      refine WL.q (oq_load flat201 rfl (.head _) (List.mem_singleton.2 rfl) rfl) rfl rfl rfl ?_
      refine WL.q (oq_pesame Tryz.underlying201 ty219 rfl rfl) rfl rfl rfl ?_
      refine WL.nil (WE.then_normal (WC.sub (fr' := [(0, _), (6, _), (7, _), (37, _)]) ?_ ⟨rfl, rfl, rfl, rfl, trivial⟩))
      refine WC.cond_t rfl ?_
      refine WC.region ?_
      refine WL.q (oq_move rfl) rfl rfl rfl ?_
      refine WL.q (oq_move rfl) rfl rfl rfl ?_
      refine WL.q (oq_nilCheck rfl) rfl rfl rfl ?_
      refine WL.q (oq_fieldAddr fld203_0 rfl) rfl rfl rfl ?_
      refine WL.q (oq_load flat201 rfl (.head _) (List.mem_singleton.2 rfl) rfl) rfl rfl rfl ?_
      refine WL.q (oq_nilCheck rfl) rfl rfl rfl ?_
      refine WL.q (oq_fieldAddr fld219_0 rfl) rfl rfl rfl ?_
      refine WL.q (oq_load flat109 rfl (.tail _ (.head _)) (mem_of hit) rfl) rfl rfl rfl ?_
      refine WL.q (oq_askT conc201 rfl) rfl rfl rfl ?_
      refine WL.q (oq_nilCheck rfl) rfl rfl rfl ?_
      refine WL.q (oq_fieldAddr fld203_0 rfl) rfl rfl rfl ?_
      refine WL.store1 #[_, _] ty201 rfl rfl (by first | rfl | exact OwS.one one_) (Nat.lt_of_lt_of_le (Nat.lt_succ_self _) (Nat.le_of_ble_eq_true rfl)) rfl rfl ?_
      refine WL.nil (WE.then_normal (WC.sub (fr' := [(6, _)]) ?_ ⟨rfl, trivial⟩))
      refine WC.seq (WC.region ?_)
      refine WL.q (oq_move rfl) rfl rfl rfl ?_
      refine WL.q (oq_nilCheck rfl) rfl rfl rfl ?_
      refine WL.q (oq_fieldAddr fld219_1 rfl) rfl rfl rfl ?_
      refine WL.q (oq_load flat104 rfl (.tail _ (.head _)) (mem_of hit) rfl) rfl rfl rfl ?_
      refine WL.q (oq_assign rfl) rfl rfl rfl ?_
      refine WL.f1 ?_
      refine WL.reg (reg_out (show (ch 201 219 217 (items) .nilIface).Perm ([(x.b, .cells #[nextOf 201 (y :: B2) .nilIface, wv 217 x] 219 (0, 0))] ++ (ch 201 219 217 ([]) (.iface 201 (Pt x.b 0)) ++ ch 201 219 217 (y :: B2) .nilIface)) from by rw [hit]; exact ch_out _ _ _ _)) ?_
      refine WL.q (oq_assign rfl) rfl rfl rfl ?_
      refine WL.nil (WE.then_normal (WC.sub (fr' := [(4, _), (5, _)]) ?_ ⟨rfl, rfl, trivial⟩))
      refine WC.ret ?_
      refine WE.lose hbx ?_
      refine WE.f2 ?_
      refine WE.f1 ?_
      refine WE.f2 ?_
      refine WE.endW2 (.inl rfl) (res2 Tryz.results48 rfl rfl) ?_
      -- end 0
      exact ⟨rfl, perm2 (by rw [last_of hB]; rfl) (by simp only [List.flatten_cons, List.flatten_nil, List.append_nil]; exact List.Perm.refl _)⟩

/-- (*given.example/pub-tinwright/pub/smithy/middleware.InitializeStep).Remove -/
theorem remL0 (base sb : Nat) (x : Nd) (items : List Nd) (hbx : base ≤ x.b) (h : Nd) (rr A2 : List Nd) (p : Nd) (hA0 : A2 ++ [p] = h :: rr) (hit : items = (A2 ++ [p]) ++ x :: ([])) (hA : ∀ y ∈ A2 ++ [p], y.id ≠ x.id) : FnW Tryz.prog 48 [Pt sb 0, S x.id] base [[(sb, .cells #[(hdp (items)), (lastp (items))] 203 (0, 0))], ch 201 219 217 items .nilIface] (fun v Hs => v = .tuple #[wv 217 x, .nilIface] ∧ Hs.flatten.Perm ([[(sb, .cells #[(hdp (A2 ++ p :: [])), (lastp (A2 ++ p :: []))] 203 (0, 0))], ch 201 219 217 (A2 ++ p :: []) .nilIface] : List Hp).flatten) := by
  refine FnW.enter (n := 73) Tryz.func48 rfl rfl fun w0 R0 hbase => ?_
  subst hbase
  show WC _ _ _ _ _ _ _ ([[(sb, .cells #[(hdp (items)), (lastp (items))] 203 (0, 0))], ch 201 219 217 items .nilIface, R0])
  refine WC.sub (fr' := [(0, _), (1, _)]) ?_ ⟨rfl, rfl, trivial⟩
  refine WC.seq (WC.region ?_)
  refine WL.q (oq_assign rfl) rfl rfl rfl ?_
  refine WL.q (oq_assign rfl) rfl rfl rfl ?_
  refine WL.nil (WE.then_normal (WC.sub (fr' := [(0, _), (1, _)]) ?_ ⟨rfl, rfl, trivial⟩))
  refine WC.seq (WC.region ?_)
  refine WL.q (oq_move rfl) rfl rfl rfl ?_
  refine WL.q (oq_move rfl) rfl rfl rfl ?_
  refine WL.f1 ?_
  refine WL.f1 ?_
  refine WL.callW2 (gotH0 _ sb x.id (A2 ++ [p]) [] x items hit rfl hA) call114 rfl rfl rfl fun v1_2 Hs1_2 hR1_2 => ?_
  obtain ⟨rfl, rfl⟩ := hR1_2
  rw [lastp_snoc]
  refine WL.to2 ?_
  refine WL.q (oq_move rfl) rfl rfl rfl ?_
  refine WL.q (oq_extract rfl rfl) rfl rfl rfl ?_
  refine WL.q (oq_extract rfl rfl) rfl rfl rfl ?_
  refine WL.q (oq_assign rfl) rfl rfl rfl ?_
  refine WL.q (oq_assign rfl) rfl rfl rfl ?_
  refine WL.nil (WE.then_normal (WC.sub (fr' := [(0, _), (6, _), (7, _)]) ?_ ⟨rfl, rfl, rfl, trivial⟩))
  refine WC.seq (WC.seq (WC.region ?_))
  refine WL.q (oq_move rfl) rfl rfl rfl ?_
  refine WL.q (oq_peql Tryz.underlying201 rfl rfl) rfl rfl rfl ?_
  refine WL.nil (WE.then_normal (WC.sub (fr' := [(0, _), (6, _), (7, _), (15, _)]) ?_ ⟨rfl, rfl, rfl, rfl, trivial⟩))
  refine WC.cond rfl (fun q2 => ?_) (fun q2 => ?_)
  ·
    try simp only [Z1, Z2, Z3, Z4, Z5, Z6, Z7, Z8, Z9, Z0] at q2
    first | (simp at q2; done) | exact absurd q4 hhl | exact absurd q4.symm hhl | exact absurd q7 hxh | exact absurd q7.symm hxh | exact absurd q9 hxl | exact absurd q9.symm hxl | (exfalso; omega)
  ·
    try simp only [Z1, Z2, Z3, Z4, Z5, Z6, Z7, Z8, Z9, Z0] at q2
    refine WC.skip (WE.then_normal (WC.sub (fr' := [(0, _), (6, _), (7, _)]) ?_ ⟨rfl, rfl, rfl, trivial⟩))
    refine WC.seq (WC.seq ?_)
    refine WC.distinct fun hdd => ?_
    have hnn := nd_of hdd
    have hit2 : items = A2 ++ p :: x :: ([]) := by rw [hit]; simp
    have hith : items = [] ++ h :: (rr ++ x :: ([])) := by rw [hit, hA0]; rfl
    have hxh : h.b ≠ x.b := nd_ne hnn hit (.inl (by rw [hA0]; simp))
    have hh : hdp items = Pt h.b 0 := by rw [hith]; rfl
    have hhp : hdp (A2 ++ [p]) = Pt h.b 0 := by rw [hA0]; rfl
    have hhl := hxh
    have ht : lastp items = Pt x.b 0 := by rw [hit]; exact lastp_snoc _ _
    rw [hh, ht]
    refine WC.quiet (by kernel_rfl) (by kernel_rfl) ?_
    refine WQ.q (oq_move rfl) rfl rfl rfl ?_
    refine WQ.q (oq_nilCheck rfl) rfl rfl rfl ?_
    refine WQ.q (oq_fieldAddr fld203_0 rfl) rfl rfl rfl ?_
    refine WQ.q (oq_load flat201 rfl (.head _) (List.mem_singleton.2 rfl) rfl) rfl rfl rfl ?_
    refine WQ.q (oq_move rfl) rfl rfl rfl ?_
    refine WQ.q (oq_nilCheck rfl) rfl rfl rfl ?_
    refine WQ.q (oq_fieldAddr fld203_1 rfl) rfl rfl rfl ?_
    refine WQ.q (oq_load flat201 rfl (.head _) (List.mem_singleton.2 rfl) rfl) rfl rfl rfl ?_
    refine WQ.q (oq_peq Tryz.underlying201 ty219 (by decide) (.tail _ (.head _)) (mem_of hith) (.tail _ (.head _)) (mem_of hit) rfl rfl) rfl rfl rfl ?_
    refine WQ.nil (WE.then_normal (WC.sub (fr' := [(0, _), (6, _), (7, _), (25, _)]) ?_ ⟨rfl, rfl, rfl, rfl, trivial⟩))
    refine WC.cond rfl (fun q4 => ?_) (fun q4 => ?_)
    ·
      try simp only [Z1, Z2, Z3, Z4, Z5, Z6, Z7, Z8, Z9, Z0] at q4
      first | (simp at q2; done) | exact absurd q4 hhl | exact absurd q4.symm hhl | exact absurd q7 hxh | exact absurd q7.symm hxh | exact absurd q9 hxl | exact absurd q9.symm hxl | (exfalso; omega)
    ·
      try simp only [Z1, Z2, Z3, Z4, Z5, Z6, Z7, Z8, Z9, Z0] at q4
      refine WC.seq (WC.region ?_)
      refine WL.q (oq_move rfl) rfl rfl rfl ?_
      refine WL.q (oq_move rfl) rfl rfl rfl ?_
      refine WL.q (oq_nilCheck rfl) rfl rfl rfl ?_
      refine WL.q (oq_fieldAddr fld203_0 rfl) rfl rfl rfl ?_
      refine WL.q (oq_load flat201 rfl (.head _) (List.mem_singleton.2 rfl) rfl) rfl rfl rfl ?_
      refine WL.q (oq_peq Tryz.underlying201 ty219 (by decide) (.tail _ (.head _)) (mem_of hit) (.tail _ (.head _)) (mem_of hith) rfl rfl) rfl rfl rfl ?_
      refine WL.nil (WE.then_normal (WC.sub (fr' := [(0, _), (6, _), (7, _), (37, _)]) ?_ ⟨rfl, rfl, rfl, rfl, trivial⟩))
      refine WC.cond rfl (fun q7 => ?_) (fun q7 => ?_)
      ·
        try simp only [Z1, Z2, Z3, Z4, Z5, Z6, Z7, Z8, Z9, Z0] at q7
        first | (simp at q2; done) | exact absurd q4 hhl | exact absurd q4.symm hhl | exact absurd q7 hxh | exact absurd q7.symm hxh | exact absurd q9 hxl | exact absurd q9.symm hxl | (exfalso; omega)
      ·
        try simp only [Z1, Z2, Z3, Z4, Z5, Z6, Z7, Z8, Z9, Z0] at q7
        refine WC.seq (WC.region ?_)
        refine WL.q (oq_move rfl) rfl rfl rfl ?_
        refine WL.q (oq_move rfl) rfl rfl rfl ?_
        refine WL.q (oq_nilCheck rfl) rfl rfl rfl ?_
        refine WL.q (oq_fieldAddr fld203_1 rfl) rfl rfl rfl ?_
        refine WL.q (oq_load flat201 rfl (.head _) (List.mem_singleton.2 rfl) rfl) rfl rfl rfl ?_
        refine WL.q (oq_pesame Tryz.underlying201 ty219 rfl rfl) rfl rfl rfl ?_
        refine WL.nil (WE.then_normal (WC.sub (fr' := [(0, _), (6, _), (7, _), (54, _)]) ?_ ⟨rfl, rfl, rfl, rfl, trivial⟩))
        refine WC.cond_t rfl ?_
        refine WC.seq (WC.region ?_)
        refine WL.f1 ?_
        refine WL.reg (reg_out (show (ch 201 219 217 (items) .nilIface).Perm ([(p.b, .cells #[nextOf 201 (x :: []) .nilIface, wv 217 p] 219 (0, 0))] ++ (ch 201 219 217 (A2) (.iface 201 (Pt p.b 0)) ++ ch 201 219 217 (x :: []) .nilIface)) from by rw [hit2]; exact ch_out _ _ _ _)) ?_
        refine WL.q (oq_move rfl) rfl rfl rfl ?_
        refine WL.q (oq_nilCheck rfl) rfl rfl rfl ?_
        refine WL.q (oq_fieldAddr fld219_0 rfl) rfl rfl rfl ?_
        refine WL.store1 #[_, _] ty109 rfl rfl (by first | rfl | exact OwS.one one_) (Nat.lt_of_lt_of_le (Nat.lt_succ_self _) (Nat.le_of_ble_eq_true rfl)) rfl rfl ?_
        refine WL.nil (WE.then_normal (WC.sub (fr' := [(0, _), (6, _), (7, _)]) ?_ ⟨rfl, rfl, rfl, trivial⟩))
        refine WC.region ?_
        refine WL.q (oq_move rfl) rfl rfl rfl ?_
        refine WL.q (oq_move rfl) rfl rfl rfl ?_
        refine WL.q (oq_nilCheck rfl) rfl rfl rfl ?_
        refine WL.q (oq_fieldAddr fld203_1 rfl) rfl rfl rfl ?_
        refine WL.f2 ?_
        refine WL.store1 #[_, _] ty201 rfl rfl (by first | rfl | exact OwS.one one_) (Nat.lt_of_lt_of_le (Nat.lt_succ_self _) (Nat.le_of_ble_eq_true rfl)) rfl rfl ?_
        refine WL.nil (WE.then_normal (WC.sub (fr' := [(6, _)]) ?_ ⟨rfl, trivial⟩))
        refine WC.seq (WC.region ?_)
        refine WL.q (oq_move rfl) rfl rfl rfl ?_
        refine WL.q (oq_nilCheck rfl) rfl rfl rfl ?_
        refine WL.q (oq_fieldAddr fld219_1 rfl) rfl rfl rfl ?_
        refine WL.q (oq_load flat104 rfl (.tail _ (.tail _ (.head _))) (List.mem_append_right _ List.mem_cons_self) rfl) rfl rfl rfl ?_
        refine WL.q (oq_assign rfl) rfl rfl rfl ?_
        refine WL.f2 ?_
        refine WL.reg (reg_out (show (ch 201 219 217 (A2) (.iface 201 (Pt p.b 0)) ++ ch 201 219 217 (x :: []) .nilIface).Perm ([(x.b, .cells #[nextOf 201 ([]) .nilIface, wv 217 x] 219 (0, 0))] ++ (ch 201 219 217 (A2) (.iface 201 (Pt p.b 0)) ++ ch 201 219 217 ([]) .nilIface)) from List.perm_middle)) ?_
        refine WL.q (oq_assign rfl) rfl rfl rfl ?_
        refine WL.nil (WE.then_normal (WC.sub (fr' := [(4, _), (5, _)]) ?_ ⟨rfl, rfl, trivial⟩))
        refine WC.ret ?_
        refine WE.lose hbx ?_
        refine WE.f3 ?_
        refine WE.f1 ?_
        refine WE.f3 ?_
        refine WE.f3 ?_
        refine WE.endW3 (.inl rfl) (res2 Tryz.results48 rfl rfl) ?_
        -- end 0
        exact ⟨rfl, perm2 (by rw [hhp]) (by simp only [List.flatten_cons, List.flatten_nil, List.append_nil]; exact ch_del A2 p [] _)⟩

/-- (*given.example/pub-tinwright/pub/smithy/middleware.InitializeStep).Remove -/
theorem remM0 (base sb : Nat) (x : Nd) (items : List Nd) (hbx : base ≤ x.b) (y : Nd) (B2 B3 : List Nd) (l : Nd) (hB : y :: B2 = B3 ++ [l]) (h : Nd) (rr A2 : List Nd) (p : Nd) (hA0 : A2 ++ [p] = h :: rr) (hit : items = (A2 ++ [p]) ++ x :: (y :: B2)) (hA : ∀ y ∈ A2 ++ [p], y.id ≠ x.id) : FnW Tryz.prog 48 [Pt sb 0, S x.id] base [[(sb, .cells #[(hdp (items)), (lastp (items))] 203 (0, 0))], ch 201 219 217 items .nilIface] (fun v Hs => v = .tuple #[wv 217 x, .nilIface] ∧ Hs.flatten.Perm ([[(sb, .cells #[(hdp (A2 ++ p :: y :: B2)), (lastp (A2 ++ p :: y :: B2))] 203 (0, 0))], ch 201 219 217 (A2 ++ p :: y :: B2) .nilIface] : List Hp).flatten) := by
  refine FnW.enter (n := 73) Tryz.func48 rfl rfl fun w0 R0 hbase => ?_
  subst hbase
  show WC _ _ _ _ _ _ _ ([[(sb, .cells #[(hdp (items)), (lastp (items))] 203 (0, 0))], ch 201 219 217 items .nilIface, R0])
  refine WC.sub (fr' := [(0, _), (1, _)]) ?_ ⟨rfl, rfl, trivial⟩
  refine WC.seq (WC.region ?_)
  refine WL.q (oq_assign rfl) rfl rfl rfl ?_
  refine WL.q (oq_assign rfl) rfl rfl rfl ?_
  refine WL.nil (WE.then_normal (WC.sub (fr' := [(0, _), (1, _)]) ?_ ⟨rfl, rfl, trivial⟩))
  refine WC.seq (WC.region ?_)
  refine WL.q (oq_move rfl) rfl rfl rfl ?_
  refine WL.q (oq_move rfl) rfl rfl rfl ?_
  refine WL.f1 ?_
  refine WL.f1 ?_
  refine WL.callW2 (gotH0 _ sb x.id (A2 ++ [p]) (y :: B2) x items hit rfl hA) call114 rfl rfl rfl fun v1_2 Hs1_2 hR1_2 => ?_
  obtain ⟨rfl, rfl⟩ := hR1_2
  rw [lastp_snoc]
  refine WL.to2 ?_
  refine WL.q (oq_move rfl) rfl rfl rfl ?_
  refine WL.q (oq_extract rfl rfl) rfl rfl rfl ?_
  refine WL.q (oq_extract rfl rfl) rfl rfl rfl ?_
  refine WL.q (oq_assign rfl) rfl rfl rfl ?_
  refine WL.q (oq_assign rfl) rfl rfl rfl ?_
  refine WL.nil (WE.then_normal (WC.sub (fr' := [(0, _), (6, _), (7, _)]) ?_ ⟨rfl, rfl, rfl, trivial⟩))
  refine WC.seq (WC.seq (WC.region ?_))
  refine WL.q (oq_move rfl) rfl rfl rfl ?_
  refine WL.q (oq_peql Tryz.underlying201 rfl rfl) rfl rfl rfl ?_
  refine WL.nil (WE.then_normal (WC.sub (fr' := [(0, _), (6, _), (7, _), (15, _)]) ?_ ⟨rfl, rfl, rfl, rfl, trivial⟩))
  refine WC.cond rfl (fun q2 => ?_) (fun q2 => ?_)
  ·
    try simp only [Z1, Z2, Z3, Z4, Z5, Z6, Z7, Z8, Z9, Z0] at q2
    first | (simp at q2; done) | exact absurd q4 hhl | exact absurd q4.symm hhl | exact absurd q7 hxh | exact absurd q7.symm hxh | exact absurd q9 hxl | exact absurd q9.symm hxl | (exfalso; omega)
  ·
    try simp only [Z1, Z2, Z3, Z4, Z5, Z6, Z7, Z8, Z9, Z0] at q2
    refine WC.skip (WE.then_normal (WC.sub (fr' := [(0, _), (6, _), (7, _)]) ?_ ⟨rfl, rfl, rfl, trivial⟩))
    refine WC.seq (WC.seq ?_)
    refine WC.distinct fun hdd => ?_
    have hnn := nd_of hdd
    have hit2 : items = A2 ++ p :: x :: (y :: B2) := by rw [hit]; simp
    have hith : items = [] ++ h :: (rr ++ x :: (y :: B2)) := by rw [hit, hA0]; rfl
    have hxh : h.b ≠ x.b := nd_ne hnn hit (.inl (by rw [hA0]; simp))
    have hh : hdp items = Pt h.b 0 := by rw [hith]; rfl
    have hhp : hdp (A2 ++ [p]) = Pt h.b 0 := by rw [hA0]; rfl
    have hitl : items = ((A2 ++ [p]) ++ x :: B3) ++ l :: [] := by rw [hit, hB]; simp
    have hxl : l.b ≠ x.b := nd_ne hnn hit (.inr (by rw [hB]; simp))
    have hhl : h.b ≠ l.b := nd_ne hnn hitl (.inl (by rw [hA0]; simp))
    have ht : lastp items = Pt l.b 0 := by rw [hitl]; exact lastp_snoc _ _
    rw [hh, ht]
    refine WC.quiet (by kernel_rfl) (by kernel_rfl) ?_
    refine WQ.q (oq_move rfl) rfl rfl rfl ?_
    refine WQ.q (oq_nilCheck rfl) rfl rfl rfl ?_
    refine WQ.q (oq_fieldAddr fld203_0 rfl) rfl rfl rfl ?_
    refine WQ.q (oq_load flat201 rfl (.head _) (List.mem_singleton.2 rfl) rfl) rfl rfl rfl ?_
    refine WQ.q (oq_move rfl) rfl rfl rfl ?_
    refine WQ.q (oq_nilCheck rfl) rfl rfl rfl ?_
    refine WQ.q (oq_fieldAddr fld203_1 rfl) rfl rfl rfl ?_
    refine WQ.q (oq_load flat201 rfl (.head _) (List.mem_singleton.2 rfl) rfl) rfl rfl rfl ?_
    refine WQ.q (oq_peq Tryz.underlying201 ty219 (by decide) (.tail _ (.head _)) (mem_of hith) (.tail _ (.head _)) (mem_of hitl) rfl rfl) rfl rfl rfl ?_
    refine WQ.nil (WE.then_normal (WC.sub (fr' := [(0, _), (6, _), (7, _), (25, _)]) ?_ ⟨rfl, rfl, rfl, rfl, trivial⟩))
    refine WC.cond rfl (fun q4 => ?_) (fun q4 => ?_)
    ·
      try simp only [Z1, Z2, Z3, Z4, Z5, Z6, Z7, Z8, Z9, Z0] at q4
      first | (simp at q2; done) | exact absurd q4 hhl | exact absurd q4.symm hhl | exact absurd q7 hxh | exact absurd q7.symm hxh | exact absurd q9 hxl | exact absurd q9.symm hxl | (exfalso; omega)
    ·
      try simp only [Z1, Z2, Z3, Z4, Z5, Z6, Z7, Z8, Z9, Z0] at q4
      refine WC.seq (WC.region ?_)
      refine WL.q (oq_move rfl) rfl rfl rfl ?_
      refine WL.q (oq_move rfl) rfl rfl rfl ?_
      refine WL.q (oq_nilCheck rfl) rfl rfl rfl ?_
      refine WL.q (oq_fieldAddr fld203_0 rfl) rfl rfl rfl ?_
      refine WL.q (oq_load flat201 rfl (.head _) (List.mem_singleton.2 rfl) rfl) rfl rfl rfl ?_
      refine WL.q (oq_peq Tryz.underlying201 ty219 (by decide) (.tail _ (.head _)) (mem_of hit) (.tail _ (.head _)) (mem_of hith) rfl rfl) rfl rfl rfl ?_
      refine WL.nil (WE.then_normal (WC.sub (fr' := [(0, _), (6, _), (7, _), (37, _)]) ?_ ⟨rfl, rfl, rfl, rfl, trivial⟩))
      refine WC.cond rfl (fun q7 => ?_) (fun q7 => ?_)
      ·
        try simp only [Z1, Z2, Z3, Z4, Z5, Z6, Z7, Z8, Z9, Z0] at q7
        first | (simp at q2; done) | exact absurd q4 hhl | exact absurd q4.symm hhl | exact absurd q7 hxh | exact absurd q7.symm hxh | exact absurd q9 hxl | exact absurd q9.symm hxl | (exfalso; omega)
      ·
        try simp only [Z1, Z2, Z3, Z4, Z5, Z6, Z7, Z8, Z9, Z0] at q7
        refine WC.seq (WC.region ?_)
        refine WL.q (oq_move rfl) rfl rfl rfl ?_
        refine WL.q (oq_move rfl) rfl rfl rfl ?_
        refine WL.q (oq_nilCheck rfl) rfl rfl rfl ?_
        refine WL.q (oq_fieldAddr fld203_1 rfl) rfl rfl rfl ?_
        refine WL.q (oq_load flat201 rfl (.head _) (List.mem_singleton.2 rfl) rfl) rfl rfl rfl ?_
        refine WL.q (oq_peq Tryz.underlying201 ty219 (by decide) (.tail _ (.head _)) (mem_of hit) (.tail _ (.head _)) (mem_of hitl) rfl rfl) rfl rfl rfl ?_
        refine WL.nil (WE.then_normal (WC.sub (fr' := [(0, _), (6, _), (7, _), (54, _)]) ?_ ⟨rfl, rfl, rfl, rfl, trivial⟩))
        refine WC.cond rfl (fun q9 => ?_) (fun q9 => ?_)
        ·
          try simp only [Z1, Z2, Z3, Z4, Z5, Z6, Z7, Z8, Z9, Z0] at q9
          first | (simp at q2; done) | exact absurd q4 hhl | exact absurd q4.symm hhl | exact absurd q7 hxh | exact absurd q7.symm hxh | exact absurd q9 hxl | exact absurd q9.symm hxl | (exfalso; omega)
        ·
          try simp only [Z1, Z2, Z3, Z4, Z5, Z6, Z7, Z8, Z9, Z0] at q9
          refine WC.region ?_
          refine WL.f1 ?_
          refine WL.reg (reg_out (show (ch 201 219 217 (items) .nilIface).Perm ([(p.b, .cells #[nextOf 201 (x :: y :: B2) .nilIface, wv 217 p] 219 (0, 0))] ++ (ch 201 219 217 (A2) (.iface 201 (Pt p.b 0)) ++ ch 201 219 217 (x :: y :: B2) .nilIface)) from by rw [hit2]; exact ch_out _ _ _ _)) ?_
          refine WL.q (oq_move rfl) rfl rfl rfl ?_
          refine WL.q (oq_move rfl) rfl rfl rfl ?_
          refine WL.q (oq_nilCheck rfl) rfl rfl rfl ?_
          refine WL.q (oq_fieldAddr fld219_0 rfl) rfl rfl rfl ?_
          refine WL.q (oq_load flat109 rfl (.tail _ (.head _)) (List.mem_append_right _ List.mem_cons_self) rfl) rfl rfl rfl ?_
          refine WL.q (oq_nilCheck rfl) rfl rfl rfl ?_
          refine WL.q (oq_fieldAddr fld219_0 rfl) rfl rfl rfl ?_
          refine WL.store1 #[_, _] ty109 rfl rfl (by first | rfl | exact OwS.one one_) (Nat.lt_of_lt_of_le (Nat.lt_succ_self _) (Nat.le_of_ble_eq_true rfl)) rfl rfl ?_
          refine WL.nil (WE.then_normal (WC.sub (fr' := [(6, _)]) ?_ ⟨rfl, trivial⟩))
          refine WC.seq (WC.region ?_)
          refine WL.q (oq_move rfl) rfl rfl rfl ?_
          refine WL.q (oq_nilCheck rfl) rfl rfl rfl ?_
          refine WL.q (oq_fieldAddr fld219_1 rfl) rfl rfl rfl ?_
          refine WL.q (oq_load flat104 rfl (.tail _ (.head _)) (List.mem_append_right _ List.mem_cons_self) rfl) rfl rfl rfl ?_
          refine WL.q (oq_assign rfl) rfl rfl rfl ?_
          refine WL.f1 ?_
          refine WL.reg (reg_out (show (ch 201 219 217 (A2) (.iface 201 (Pt p.b 0)) ++ ch 201 219 217 (x :: y :: B2) .nilIface).Perm ([(x.b, .cells #[nextOf 201 (y :: B2) .nilIface, wv 217 x] 219 (0, 0))] ++ (ch 201 219 217 (A2) (.iface 201 (Pt p.b 0)) ++ ch 201 219 217 (y :: B2) .nilIface)) from List.perm_middle)) ?_
          refine WL.q (oq_assign rfl) rfl rfl rfl ?_
          refine WL.nil (WE.then_normal (WC.sub (fr' := [(4, _), (5, _)]) ?_ ⟨rfl, rfl, trivial⟩))
          refine WC.ret ?_
          refine WE.lose hbx ?_
          refine WE.f3 ?_
          refine WE.f1 ?_
          refine WE.f2 ?_
          refine WE.f3 ?_
          refine WE.endW3 (.inl rfl) (res2 Tryz.results48 rfl rfl) ?_
          -- end 0
          exact ⟨rfl, perm2 (by rw [lastp_cons, last_of hB, ← hhp, hdp_cons A2 p (y :: B2) []]) (by simp only [List.flatten_cons, List.flatten_nil, List.append_nil]; exact ch_del A2 p (y :: B2) _)⟩

/-- (*given.example/pub-tinwright/pub/smithy/middleware.InitializeStep).Remove -/
theorem remN0 (base sb : Nat) (by_ : List UInt8) (items : List Nd) (hn : ∀ y ∈ items, y.id ≠ by_) : FnW Tryz.prog 48 [Pt sb 0, S by_] base [[(sb, .cells #[(hdp (items)), (lastp (items))] 203 (0, 0))], ch 201 219 217 items .nilIface] (fun v Hs => (∃ k u, v = .tuple #[.nilIface, .iface k u]) ∧ Hs = [[(sb, .cells #[(hdp (items)), (lastp (items))] 203 (0, 0))], ch 201 219 217 items .nilIface]) := by
  refine FnW.enter (n := 73) Tryz.func48 rfl rfl fun w0 R0 hbase => ?_
  subst hbase
  show WC _ _ _ _ _ _ _ ([[(sb, .cells #[(hdp (items)), (lastp (items))] 203 (0, 0))], ch 201 219 217 items .nilIface, R0])
  refine WC.sub (fr' := [(0, _), (1, _)]) ?_ ⟨rfl, rfl, trivial⟩
  refine WC.seq (WC.region ?_)
  refine WL.q (oq_assign rfl) rfl rfl rfl ?_
  refine WL.q (oq_assign rfl) rfl rfl rfl ?_
  refine WL.nil (WE.then_normal (WC.sub (fr' := [(0, _), (1, _)]) ?_ ⟨rfl, rfl, trivial⟩))
  refine WC.seq (WC.region ?_)
  refine WL.q (oq_move rfl) rfl rfl rfl ?_
  refine WL.q (oq_move rfl) rfl rfl rfl ?_
  refine WL.f1 ?_
  refine WL.f1 ?_
  refine WL.callW2 (gotM0 _ sb by_ items hn) call114 rfl rfl rfl fun v1_2 Hs1_2 hR1_2 => ?_
  obtain ⟨rfl, rfl⟩ := hR1_2
  refine WL.to2 ?_
  refine WL.q (oq_move rfl) rfl rfl rfl ?_
  refine WL.q (oq_extract rfl rfl) rfl rfl rfl ?_
  refine WL.q (oq_extract rfl rfl) rfl rfl rfl ?_
  refine WL.q (oq_assign rfl) rfl rfl rfl ?_
  refine WL.q (oq_assign rfl) rfl rfl rfl ?_
  refine WL.nil (WE.then_normal (WC.sub (fr' := [(0, _), (6, _), (7, _)]) ?_ ⟨rfl, rfl, rfl, trivial⟩))
  refine WC.seq (WC.seq (WC.region ?_))
  refine WL.q (oq_move rfl) rfl rfl rfl ?_
  refine WL.q (oq_peql Tryz.underlying201 rfl rfl) rfl rfl rfl ?_
  refine WL.nil (WE.then_normal (WC.sub (fr' := [(0, _), (6, _), (7, _), (15, _)]) ?_ ⟨rfl, rfl, rfl, rfl, trivial⟩))
  refine WC.cond rfl (fun q2 => ?_) (fun q2 => ?_)
  ·
    try simp only [Z1, Z2, Z3, Z4, Z5, Z6, Z7, Z8, Z9, Z0] at q2
    refine WC.seq (WC.region ?_)
    refine WL.callA0 (errNew _) call113 rfl rfl rfl fun v3_0 N3_0 hR3_0 hN3_0 => ?_
    obtain ⟨ek, eu, rfl⟩ := hR3_0
    refine WL.q (oq_assign rfl) rfl rfl rfl ?_
    refine WL.q (oq_assign rfl) rfl rfl rfl ?_
    refine WL.nil (WE.then_normal (WC.sub (fr' := [(4, _), (5, _)]) ?_ ⟨rfl, rfl, trivial⟩))
    refine WC.ret (WE.then_ret ?_)
    refine WE.forget hN3_0 ?_
    refine WE.endW2 (.inl rfl) (res2 Tryz.results48 rfl rfl) ?_
    -- end 0
    exact ⟨⟨_, _, rfl⟩, rfl⟩
  ·
    try simp only [Z1, Z2, Z3, Z4, Z5, Z6, Z7, Z8, Z9, Z0] at q2
    simp at q2

/-- (*given.example/pub-tinwright/pub/smithy/middleware.SerializeStep).Remove -/
theorem remO1 (base sb : Nat) (nr : Value) (x : Nd) (items : List Nd) (hbx : base ≤ x.b) (hit : items = [] ++ x :: []) : FnW Tryz.prog 63 [Pt sb 0, S x.id] base [[(sb, .cells #[(hdp (items)), (lastp (items)), nr] 206 (0, 0))], ch 204 227 225 items .nilIface] (fun v Hs => v = .tuple #[wv 225 x, .nilIface] ∧ Hs.flatten.Perm ([[(sb, .cells #[(hdp ([])), (lastp ([])), nr] 206 (0, 0))], ch 204 227 225 [] .nilIface] : List Hp).flatten) := by
  refine FnW.enter (n := 73) Tryz.func63 rfl rfl fun w0 R0 hbase => ?_
  subst hbase
  show WC _ _ _ _ _ _ _ ([[(sb, .cells #[(hdp (items)), (lastp (items)), nr] 206 (0, 0))], ch 204 227 225 items .nilIface, R0])
  refine WC.sub (fr' := [(0, _), (1, _)]) ?_ ⟨rfl, rfl, trivial⟩
  refine WC.seq (WC.region ?_)
  refine WL.q (oq_assign rfl) rfl rfl rfl ?_
  refine WL.q (oq_assign rfl) rfl rfl rfl ?_
  refine WL.nil (WE.then_normal (WC.sub (fr' := [(0, _), (1, _)]) ?_ ⟨rfl, rfl, trivial⟩))
  refine WC.seq (WC.region ?_)
  refine WL.q (oq_move rfl) rfl rfl rfl ?_
  refine WL.q (oq_move rfl) rfl rfl rfl ?_
  refine WL.f1 ?_
  refine WL.f1 ?_
  refine WL.callW2 (gotH1 _ sb nr x.id [] [] x items hit rfl (by simp)) call115 rfl rfl rfl fun v1_2 Hs1_2 hR1_2 => ?_
  obtain ⟨rfl, rfl⟩ := hR1_2
  refine WL.to2 ?_
  refine WL.q (oq_move rfl) rfl rfl rfl ?_
  refine WL.q (oq_extract rfl rfl) rfl rfl rfl ?_
  refine WL.q (oq_extract rfl rfl) rfl rfl rfl ?_
  refine WL.q (oq_assign rfl) rfl rfl rfl ?_
  refine WL.q (oq_assign rfl) rfl rfl rfl ?_
  refine WL.nil (WE.then_normal (WC.sub (fr' := [(0, _), (6, _), (7, _)]) ?_ ⟨rfl, rfl, rfl, trivial⟩))
  refine WC.seq (WC.seq (WC.region ?_))
  refine WL.q (oq_move rfl) rfl rfl rfl ?_
  refine WL.q (oq_peql Tryz.underlying204 rfl rfl) rfl rfl rfl ?_
  refine WL.nil (WE.then_normal (WC.sub (fr' := [(0, _), (6, _), (7, _), (15, _)]) ?_ ⟨rfl, rfl, rfl, rfl, trivial⟩))
  refine WC.cond rfl (fun q2 => ?_) (fun q2 => ?_)
  ·
    try simp only [Z1, Z2, Z3, Z4, Z5, Z6, Z7, Z8, Z9, Z0] at q2
    first | (simp at q2; done) | exact absurd q4 hhl | exact absurd q4.symm hhl | exact absurd q7 hxh | exact absurd q7.symm hxh | exact absurd q9 hxl | exact absurd q9.symm hxl | (exfalso; omega)
  ·
    try simp only [Z1, Z2, Z3, Z4, Z5, Z6, Z7, Z8, Z9, Z0] at q2
    refine WC.skip (WE.then_normal (WC.sub (fr' := [(0, _), (6, _), (7, _)]) ?_ ⟨rfl, rfl, rfl, trivial⟩))
    refine WC.seq (WC.seq ?_)
    have hh : hdp items = Pt x.b 0 := by rw [hit]; rfl
    have ht : lastp items = Pt x.b 0 := by rw [hit]; rfl
    rw [hh, ht]
    refine WC.quiet (by kernel_rfl) (by kernel_rfl) ?_
    refine WQ.q (oq_move rfl) rfl rfl rfl ?_
    refine WQ.q (oq_nilCheck rfl) rfl rfl rfl ?_
    refine WQ.q (oq_fieldAddr fld206_0 rfl) rfl rfl rfl ?_
    refine WQ.q (oq_load flat204 rfl (.head _) (List.mem_singleton.2 rfl) rfl) rfl rfl rfl ?_
    refine WQ.q (oq_move rfl) rfl rfl rfl ?_
    refine WQ.q (oq_nilCheck rfl) rfl rfl rfl ?_
    refine WQ.q (oq_fieldAddr fld206_1 rfl) rfl rfl rfl ?_
    refine WQ.q (oq_load flat204 rfl (.head _) (List.mem_singleton.2 rfl) rfl) rfl rfl rfl ?_
    refine WQ.q (oq_pesame Tryz.underlying204 ty227 rfl rfl) rfl rfl rfl ?_
    refine WQ.nil (WE.then_normal (WC.sub (fr' := [(0, _), (6, _), (7, _), (25, _)]) ?_ ⟨rfl, rfl, rfl, rfl, trivial⟩))
    refine WC.cond_t rfl ?_
    refine WC.seq (WC.region ?_)
    refine WL.q (oq_move rfl) rfl rfl rfl ?_
    refine WL.q (oq_nilCheck rfl) rfl rfl rfl ?_
    refine WL.q (oq_fieldAddr fld206_0 rfl) rfl rfl rfl ?_
    refine WL.store1 #[_, _, _] ty204 rfl rfl (by first | rfl | exact OwS.one one_) (Nat.lt_of_lt_of_le (Nat.lt_succ_self _) (Nat.le_of_ble_eq_true rfl)) rfl rfl ?_
    refine WL.nil (WE.then_normal (WC.sub (fr' := [(0, _), (6, _)]) ?_ ⟨rfl, rfl, trivial⟩))
    refine WC.region ?_
    refine WL.q (oq_move rfl) rfl rfl rfl ?_
    refine WL.q (oq_nilCheck rfl) rfl rfl rfl ?_
    refine WL.q (oq_fieldAddr fld206_1 rfl) rfl rfl rfl ?_
    refine WL.store1 #[_, _, _] ty204 rfl rfl (by first | rfl | exact OwS.one one_) (Nat.lt_of_lt_of_le (Nat.lt_succ_self _) (Nat.le_of_ble_eq_true rfl)) rfl rfl ?_
    refine WL.nil (WE.then_normal (WC.sub (fr' := [(6, _)]) ?_ ⟨rfl, trivial⟩))
    refine WC.seq (WC.region ?_)
    refine WL.q (oq_move rfl) rfl rfl rfl ?_
    refine WL.q (oq_nilCheck rfl) rfl rfl rfl ?_
    refine WL.q (oq_fieldAddr fld227_1 rfl) rfl rfl rfl ?_
    refine WL.q (oq_load flat127 rfl (.tail _ (.head _)) (mem_of hit) rfl) rfl rfl rfl ?_
    refine WL.q (oq_assign rfl) rfl rfl rfl ?_
    refine WL.f1 ?_
    refine WL.reg (reg_out (show (ch 204 227 225 (items) .nilIface).Perm ([(x.b, .cells #[nextOf 204 ([]) .nilIface, wv 225 x] 227 (0, 0))] ++ (ch 204 227 225 ([]) (.iface 204 (Pt x.b 0)) ++ ch 204 227 225 ([]) .nilIface)) from by rw [hit]; exact ch_out _ _ _ _)) ?_
    refine WL.q (oq_assign rfl) rfl rfl rfl ?_
    refine WL.nil (WE.then_normal (WC.sub (fr' := [(4, _), (5, _)]) ?_ ⟨rfl, rfl, trivial⟩))
    refine WC.ret ?_
    refine WE.lose hbx ?_
    refine WE.f2 ?_
    refine WE.f1 ?_
    refine WE.f2 ?_
    refine WE.endW2 (.inl rfl) (res2 Tryz.results63 rfl rfl) ?_
    -- end 0
    exact ⟨rfl, perm2 rfl (by simp only [List.flatten_cons, List.flatten_nil, List.append_nil]; exact List.Perm.refl _)⟩

/-- (*given.example/pub-tinwright/pub/smithy/middleware.SerializeStep).Remove -/
theorem remF1 (base sb : Nat) (nr : Value) (x : Nd) (items : List Nd) (hbx : base ≤ x.b) (y : Nd) (B2 B3 : List Nd) (l : Nd) (hit : items = [] ++ x :: (y :: B2)) (hB : y :: B2 = B3 ++ [l]) : FnW Tryz.prog 63 [Pt sb 0, S x.id] base [[(sb, .cells #[(hdp (items)), (lastp (items)), nr] 206 (0, 0))], ch 204 227 225 items .nilIface] (fun v Hs => v = .tuple #[wv 225 x, .nilIface] ∧ Hs.flatten.Perm ([[(sb, .cells #[(hdp (y :: B2)), (lastp (y :: B2)), nr] 206 (0, 0))], ch 204 227 225 (y :: B2) .nilIface] : List Hp).flatten) := by
  refine FnW.enter (n := 73) Tryz.func63 rfl rfl fun w0 R0 hbase => ?_
  subst hbase
  show WC _ _ _ _ _ _ _ ([[(sb, .cells #[(hdp (items)), (lastp (items)), nr] 206 (0, 0))], ch 204 227 225 items .nilIface, R0])
  refine WC.sub (fr' := [(0, _), (1, _)]) ?_ ⟨rfl, rfl, trivial⟩
  refine WC.seq (WC.region ?_)
  refine WL.q (oq_assign rfl) rfl rfl rfl ?_
  refine WL.q (oq_assign rfl) rfl rfl rfl ?_
  refine WL.nil (WE.then_normal (WC.sub (fr' := [(0, _), (1, _)]) ?_ ⟨rfl, rfl, trivial⟩))
  refine WC.seq (WC.region ?_)
  refine WL.q (oq_move rfl) rfl rfl rfl ?_
  refine WL.q (oq_move rfl) rfl rfl rfl ?_
  refine WL.f1 ?_
  refine WL.f1 ?_
  refine WL.callW2 (gotH1 _ sb nr x.id [] (y :: B2) x items hit rfl (by simp)) call115 rfl rfl rfl fun v1_2 Hs1_2 hR1_2 => ?_
  obtain ⟨rfl, rfl⟩ := hR1_2
  refine WL.to2 ?_
  refine WL.q (oq_move rfl) rfl rfl rfl ?_
  refine WL.q (oq_extract rfl rfl) rfl rfl rfl ?_
  refine WL.q (oq_extract rfl rfl) rfl rfl rfl ?_
  refine WL.q (oq_assign rfl) rfl rfl rfl ?_
  refine WL.q (oq_assign rfl) rfl rfl rfl ?_
  refine WL.nil (WE.then_normal (WC.sub (fr' := [(0, _), (6, _), (7, _)]) ?_ ⟨rfl, rfl, rfl, trivial⟩))
  refine WC.seq (WC.seq (WC.region ?_))
  refine WL.q (oq_move rfl) rfl rfl rfl ?_
  refine WL.q (oq_peql Tryz.underlying204 rfl rfl) rfl rfl rfl ?_
  refine WL.nil (WE.then_normal (WC.sub (fr' := [(0, _), (6, _), (7, _), (15, _)]) ?_ ⟨rfl, rfl, rfl, rfl, trivial⟩))
  refine WC.cond rfl (fun q2 => ?_) (fun q2 => ?_)
  ·
    try simp only [Z1, Z2, Z3, Z4, Z5, Z6, Z7, Z8, Z9, Z0] at q2
    first | (simp at q2; done) | exact absurd q4 hhl | exact absurd q4.symm hhl | exact absurd q7 hxh | exact absurd q7.symm hxh | exact absurd q9 hxl | exact absurd q9.symm hxl | (exfalso; omega)
  ·
    try simp only [Z1, Z2, Z3, Z4, Z5, Z6, Z7, Z8, Z9, Z0] at q2
    refine WC.skip (WE.then_normal (WC.sub (fr' := [(0, _), (6, _), (7, _)]) ?_ ⟨rfl, rfl, rfl, trivial⟩))
    refine WC.seq (WC.seq ?_)
    refine WC.distinct fun hdd => ?_
    have hnn := nd_of hdd
    have hhl : l.b ≠ x.b := nd_ne hnn hit (.inr (by rw [hB]; simp))
    have hit3 : items = (x :: B3) ++ l :: [] := by rw [hit, hB]; rfl
    have hh : hdp items = Pt x.b 0 := by rw [hit]; rfl
    have ht : lastp items = Pt l.b 0 := by rw [hit3]; exact lastp_snoc _ _
    rw [hh, ht]
    refine WC.quiet (by kernel_rfl) (by kernel_rfl) ?_
    refine WQ.q (oq_move rfl) rfl rfl rfl ?_
    refine WQ.q (oq_nilCheck rfl) rfl rfl rfl ?_
    refine WQ.q (oq_fieldAddr fld206_0 rfl) rfl rfl rfl ?_
    refine WQ.q (oq_load flat204 rfl (.head _) (List.mem_singleton.2 rfl) rfl) rfl rfl rfl ?_
    refine WQ.q (oq_move rfl) rfl rfl rfl ?_
    refine WQ.q (oq_nilCheck rfl) rfl rfl rfl ?_
    refine WQ.q (oq_fieldAddr fld206_1 rfl) rfl rfl rfl ?_
    refine WQ.q (oq_load flat204 rfl (.head _) (List.mem_singleton.2 rfl) rfl) rfl rfl rfl ?_
    refine WQ.q (oq_peq Tryz.underlying204 ty227 (by decide) (.tail _ (.head _)) (mem_of hit) (.tail _ (.head _)) (mem_of hit3) rfl rfl) rfl rfl rfl ?_
    refine WQ.nil (WE.then_normal (WC.sub (fr' := [(0, _), (6, _), (7, _), (25, _)]) ?_ ⟨rfl, rfl, rfl, rfl, trivial⟩))
    refine WC.cond rfl (fun q4 => ?_) (fun q4 => ?_)
    ·
      try simp only [Z1, Z2, Z3, Z4, Z5, Z6, Z7, Z8, Z9, Z0] at q4
      first | (simp at q2; done) | exact absurd q4 hhl | exact absurd q4.symm hhl | exact absurd q7 hxh | exact absurd q7.symm hxh | exact absurd q9 hxl | exact absurd q9.symm hxl | (exfalso; omega)
    ·
      try simp only [Z1, Z2, Z3, Z4, Z5, Z6, Z7, Z8, Z9, Z0] at q4
      refine WC.seq (WC.region ?_)
      refine WL.q (oq_move rfl) rfl rfl rfl ?_
      refine WL.q (oq_move rfl) rfl rfl rfl ?_
      refine WL.q (oq_nilCheck rfl) rfl rfl rfl ?_
      refine WL.q (oq_fieldAddr fld206_0 rfl) rfl rfl rfl ?_
      refine WL.q (oq_load flat204 rfl (.head _) (List.mem_singleton.2 rfl) rfl) rfl rfl rfl ?_
      refine WL.q (oq_pesame Tryz.underlying204 ty227 rfl rfl) rfl rfl rfl ?_
      refine WL.nil (WE.then_normal (WC.sub (fr' := [(0, _), (6, _), (7, _), (37, _)]) ?_ ⟨rfl, rfl, rfl, rfl, trivial⟩))
      refine WC.cond_t rfl ?_
      refine WC.region ?_
      refine WL.q (oq_move rfl) rfl rfl rfl ?_
      refine WL.q (oq_move rfl) rfl rfl rfl ?_
      refine WL.q (oq_nilCheck rfl) rfl rfl rfl ?_
      refine WL.q (oq_fieldAddr fld206_0 rfl) rfl rfl rfl ?_
      refine WL.q (oq_load flat204 rfl (.head _) (List.mem_singleton.2 rfl) rfl) rfl rfl rfl ?_
      refine WL.q (oq_nilCheck rfl) rfl rfl rfl ?_
      refine WL.q (oq_fieldAddr fld227_0 rfl) rfl rfl rfl ?_
      refine WL.q (oq_load flat132 rfl (.tail _ (.head _)) (mem_of hit) rfl) rfl rfl rfl ?_
      refine WL.q (oq_askT conc204 rfl) rfl rfl rfl ?_
      refine WL.q (oq_nilCheck rfl) rfl rfl rfl ?_
      refine WL.q (oq_fieldAddr fld206_0 rfl) rfl rfl rfl ?_
      refine WL.store1 #[_, _, _] ty204 rfl rfl (by first | rfl | exact OwS.one one_) (Nat.lt_of_lt_of_le (Nat.lt_succ_self _) (Nat.le_of_ble_eq_true rfl)) rfl rfl ?_
      refine WL.nil (WE.then_normal (WC.sub (fr' := [(6, _)]) ?_ ⟨rfl, trivial⟩))
      refine WC.seq (WC.region ?_)
      refine WL.q (oq_move rfl) rfl rfl rfl ?_
      refine WL.q (oq_nilCheck rfl) rfl rfl rfl ?_
      refine WL.q (oq_fieldAddr fld227_1 rfl) rfl rfl rfl ?_
      refine WL.q (oq_load flat127 rfl (.tail _ (.head _)) (mem_of hit) rfl) rfl rfl rfl ?_
      refine WL.q (oq_assign rfl) rfl rfl rfl ?_
      refine WL.f1 ?_
      refine WL.reg (reg_out (show (ch 204 227 225 (items) .nilIface).Perm ([(x.b, .cells #[nextOf 204 (y :: B2) .nilIface, wv 225 x] 227 (0, 0))] ++ (ch 204 227 225 ([]) (.iface 204 (Pt x.b 0)) ++ ch 204 227 225 (y :: B2) .nilIface)) from by rw [hit]; exact ch_out _ _ _ _)) ?_
      refine WL.q (oq_assign rfl) rfl rfl rfl ?_
      refine WL.nil (WE.then_normal (WC.sub (fr' := [(4, _), (5, _)]) ?_ ⟨rfl, rfl, trivial⟩))
      refine WC.ret ?_
      refine WE.lose hbx ?_
      refine WE.f2 ?_
      refine WE.f1 ?_
      refine WE.f2 ?_
      refine WE.endW2 (.inl rfl) (res2 Tryz.results63 rfl rfl) ?_
      -- end 0
      exact ⟨rfl, perm2 (by rw [last_of hB]; rfl) (by simp only [List.flatten_cons, List.flatten_nil, List.append_nil]; exact List.Perm.refl _)⟩

/-- (*given.example/pub-tinwright/pub/smithy/middleware.SerializeStep).Remove -/
theorem remL1 (base sb : Nat) (nr : Value) (x : Nd) (items : List Nd) (hbx : base ≤ x.b) (h : Nd) (rr A2 : List Nd) (p : Nd) (hA0 : A2 ++ [p] = h :: rr) (hit : items = (A2 ++ [p]) ++ x :: ([])) (hA : ∀ y ∈ A2 ++ [p], y.id ≠ x.id) : FnW Tryz.prog 63 [Pt sb 0, S x.id] base [[(sb, .cells #[(hdp (items)), (lastp (items)), nr] 206 (0, 0))], ch 204 227 225 items .nilIface] (fun v Hs => v = .tuple #[wv 225 x, .nilIface] ∧ Hs.flatten.Perm ([[(sb, .cells #[(hdp (A2 ++ p :: [])), (lastp (A2 ++ p :: [])), nr] 206 (0, 0))], ch 204 227 225 (A2 ++ p :: []) .nilIface] : List Hp).flatten) := by
  refine FnW.enter (n := 73) Tryz.func63 rfl rfl fun w0 R0 hbase => ?_
  subst hbase
  show WC _ _ _ _ _ _ _ ([[(sb, .cells #[(hdp (items)), (lastp (items)), nr] 206 (0, 0))], ch 204 227 225 items .nilIface, R0])
  refine WC.sub (fr' := [(0, _), (1, _)]) ?_ ⟨rfl, rfl, trivial⟩
  refine WC.seq (WC.region ?_)
  refine WL.q (oq_assign rfl) rfl rfl rfl ?_
  refine WL.q (oq_assign rfl) rfl rfl rfl ?_
  refine WL.nil (WE.then_normal (WC.sub (fr' := [(0, _), (1, _)]) ?_ ⟨rfl, rfl, trivial⟩))
  refine WC.seq (WC.region ?_)
  refine WL.q (oq_move rfl) rfl rfl rfl ?_
  refine WL.q (oq_move rfl) rfl rfl rfl ?_
  refine WL.f1 ?_
  refine WL.f1 ?_
  refine WL.callW2 (gotH1 _ sb nr x.id (A2 ++ [p]) [] x items hit rfl hA) call115 rfl rfl rfl fun v1_2 Hs1_2 hR1_2 => ?_
  obtain ⟨rfl, rfl⟩ := hR1_2
  rw [lastp_snoc]
  refine WL.to2 ?_
  refine WL.q (oq_move rfl) rfl rfl rfl ?_
  refine WL.q (oq_extract rfl rfl) rfl rfl rfl ?_
  refine WL.q (oq_extract rfl rfl) rfl rfl rfl ?_
  refine WL.q (oq_assign rfl) rfl rfl rfl ?_
  refine WL.q (oq_assign rfl) rfl rfl rfl ?_
  refine WL.nil (WE.then_normal (WC.sub (fr' := [(0, _), (6, _), (7, _)]) ?_ ⟨rfl, rfl, rfl, trivial⟩))
  refine WC.seq (WC.seq (WC.region ?_))
  refine WL.q (oq_move rfl) rfl rfl rfl ?_
  refine WL.q (oq_peql Tryz.underlying204 rfl rfl) rfl rfl rfl ?_
  refine WL.nil (WE.then_normal (WC.sub (fr' := [(0, _), (6, _), (7, _), (15, _)]) ?_ ⟨rfl, rfl, rfl, rfl, trivial⟩))
  refine WC.cond rfl (fun q2 => ?_) (fun q2 => ?_)
  ·
    try simp only [Z1, Z2, Z3, Z4, Z5, Z6, Z7, Z8, Z9, Z0] at q2
    first | (simp at q2; done) | exact absurd q4 hhl | exact absurd q4.symm hhl | exact absurd q7 hxh | exact absurd q7.symm hxh | exact absurd q9 hxl | exact absurd q9.symm hxl | (exfalso; omega)
  ·
    try simp only [Z1, Z2, Z3, Z4, Z5, Z6, Z7, Z8, Z9, Z0] at q2
    refine WC.skip (WE.then_normal (WC.sub (fr' := [(0, _), (6, _), (7, _)]) ?_ ⟨rfl, rfl, rfl, trivial⟩))
    refine WC.seq (WC.seq ?_)
    refine WC.distinct fun hdd => ?_
    have hnn := nd_of hdd
    have hit2 : items = A2 ++ p :: x :: ([]) := by rw [hit]; simp
    have hith : items = [] ++ h :: (rr ++ x :: ([])) := by rw [hit, hA0]; rfl
    have hxh : h.b ≠ x.b := nd_ne hnn hit (.inl (by rw [hA0]; simp))
    have hh : hdp items = Pt h.b 0 := by rw [hith]; rfl
    have hhp : hdp (A2 ++ [p]) = Pt h.b 0 := by rw [hA0]; rfl
    have hhl := hxh
    have ht : lastp items = Pt x.b 0 := by rw [hit]; exact lastp_snoc _ _
    rw [hh, ht]
    refine WC.quiet (by kernel_rfl) (by kernel_rfl) ?_
    refine WQ.q (oq_move rfl) rfl rfl rfl ?_
    refine WQ.q (oq_nilCheck rfl) rfl rfl rfl ?_
    refine WQ.q (oq_fieldAddr fld206_0 rfl) rfl rfl rfl ?_
    refine WQ.q (oq_load flat204 rfl (.head _) (List.mem_singleton.2 rfl) rfl) rfl rfl rfl ?_
    refine WQ.q (oq_move rfl) rfl rfl rfl ?_
    refine WQ.q (oq_nilCheck rfl) rfl rfl rfl ?_
    refine WQ.q (oq_fieldAddr fld206_1 rfl) rfl rfl rfl ?_
    refine WQ.q (oq_load flat204 rfl (.head _) (List.mem_singleton.2 rfl) rfl) rfl rfl rfl ?_
    refine WQ.q (oq_peq Tryz.underlying204 ty227 (by decide) (.tail _ (.head _)) (mem_of hith) (.tail _ (.head _)) (mem_of hit) rfl rfl) rfl rfl rfl ?_
    refine WQ.nil (WE.then_normal (WC.sub (fr' := [(0, _), (6, _), (7, _), (25, _)]) ?_ ⟨rfl, rfl, rfl, rfl, trivial⟩))
    refine WC.cond rfl (fun q4 => ?_) (fun q4 => ?_)
    ·
      try simp only [Z1, Z2, Z3, Z4, Z5, Z6, Z7, Z8, Z9, Z0] at q4
      first | (simp at q2; done) | exact absurd q4 hhl | exact absurd q4.symm hhl | exact absurd q7 hxh | exact absurd q7.symm hxh | exact absurd q9 hxl | exact absurd q9.symm hxl | (exfalso; omega)
    ·
      try simp only [Z1, Z2, Z3, Z4, Z5, Z6, Z7, Z8, Z9, Z0] at q4
      refine WC.seq (WC.region ?_)
      refine WL.q (oq_move rfl) rfl rfl rfl ?_
      refine WL.q (oq_move rfl) rfl rfl rfl ?_
      refine WL.q (oq_nilCheck rfl) rfl rfl rfl ?_
      refine WL.q (oq_fieldAddr fld206_0 rfl) rfl rfl rfl ?_
      refine WL.q (oq_load flat204 rfl (.head _) (List.mem_singleton.2 rfl) rfl) rfl rfl rfl ?_
      refine WL.q (oq_peq Tryz.underlying204 ty227 (by decide) (.tail _ (.head _)) (mem_of hit) (.tail _ (.head _)) (mem_of hith) rfl rfl) rfl rfl rfl ?_
      refine WL.nil (WE.then_normal (WC.sub (fr' := [(0, _), (6, _), (7, _), (37, _)]) ?_ ⟨rfl, rfl, rfl, rfl, trivial⟩))
      refine WC.cond rfl (fun q7 => ?_) (fun q7 => ?_)
      ·
        try simp only [Z1, Z2, Z3, Z4, Z5, Z6, Z7, Z8, Z9, Z0] at q7
        first | (simp at q2; done) | exact absurd q4 hhl | exact absurd q4.symm hhl | exact absurd q7 hxh | exact absurd q7.symm hxh | exact absurd q9 hxl | exact absurd q9.symm hxl | (exfalso; omega)
      ·
        try simp only [Z1, Z2, Z3, Z4, Z5, Z6, Z7, Z8, Z9, Z0] at q7
        refine WC.seq (WC.region ?_)
        refine WL.q (oq_move rfl) rfl rfl rfl ?_
        refine WL.q (oq_move rfl) rfl rfl rfl ?_
        refine WL.q (oq_nilCheck rfl) rfl rfl rfl ?_
        refine WL.q (oq_fieldAddr fld206_1 rfl) rfl rfl rfl ?_
        refine WL.q (oq_load flat204 rfl (.head _) (List.mem_singleton.2 rfl) rfl) rfl rfl rfl ?_
        refine WL.q (oq_pesame Tryz.underlying204 ty227 rfl rfl) rfl rfl rfl ?_
        refine WL.nil (WE.then_normal (WC.sub (fr' := [(0, _), (6, _), (7, _), (54, _)]) ?_ ⟨rfl, rfl, rfl, rfl, trivial⟩))
        refine WC.cond_t rfl ?_
        refine WC.seq (WC.region ?_)
        refine WL.f1 ?_
        refine WL.reg (reg_out (show (ch 204 227 225 (items) .nilIface).Perm ([(p.b, .cells #[nextOf 204 (x :: []) .nilIface, wv 225 p] 227 (0, 0))] ++ (ch 204 227 225 (A2) (.iface 204 (Pt p.b 0)) ++ ch 204 227 225 (x :: []) .nilIface)) from by rw [hit2]; exact ch_out _ _ _ _)) ?_
        refine WL.q (oq_move rfl) rfl rfl rfl ?_
        refine WL.q (oq_nilCheck rfl) rfl rfl rfl ?_
        refine WL.q (oq_fieldAddr fld227_0 rfl) rfl rfl rfl ?_
        refine WL.store1 #[_, _] ty132 rfl rfl (by first | rfl | exact OwS.one one_) (Nat.lt_of_lt_of_le (Nat.lt_succ_self _) (Nat.le_of_ble_eq_true rfl)) rfl rfl ?_
        refine WL.nil (WE.then_normal (WC.sub (fr' := [(0, _), (6, _), (7, _)]) ?_ ⟨rfl, rfl, rfl, trivial⟩))
        refine WC.region ?_
        refine WL.q (oq_move rfl) rfl rfl rfl ?_
        refine WL.q (oq_move rfl) rfl rfl rfl ?_
        refine WL.q (oq_nilCheck rfl) rfl rfl rfl ?_
        refine WL.q (oq_fieldAddr fld206_1 rfl) rfl rfl rfl ?_
        refine WL.f2 ?_
        refine WL.store1 #[_, _, _] ty204 rfl rfl (by first | rfl | exact OwS.one one_) (Nat.lt_of_lt_of_le (Nat.lt_succ_self _) (Nat.le_of_ble_eq_true rfl)) rfl rfl ?_
        refine WL.nil (WE.then_normal (WC.sub (fr' := [(6, _)]) ?_ ⟨rfl, trivial⟩))
        refine WC.seq (WC.region ?_)
        refine WL.q (oq_move rfl) rfl rfl rfl ?_
        refine WL.q (oq_nilCheck rfl) rfl rfl rfl ?_
        refine WL.q (oq_fieldAddr fld227_1 rfl) rfl rfl rfl ?_
        refine WL.q (oq_load flat127 rfl (.tail _ (.tail _ (.head _))) (List.mem_append_right _ List.mem_cons_self) rfl) rfl rfl rfl ?_
        refine WL.q (oq_assign rfl) rfl rfl rfl ?_
        refine WL.f2 ?_
        refine WL.reg (reg_out (show (ch 204 227 225 (A2) (.iface 204 (Pt p.b 0)) ++ ch 204 227 225 (x :: []) .nilIface).Perm ([(x.b, .cells #[nextOf 204 ([]) .nilIface, wv 225 x] 227 (0, 0))] ++ (ch 204 227 225 (A2) (.iface 204 (Pt p.b 0)) ++ ch 204 227 225 ([]) .nilIface)) from List.perm_middle)) ?_
        refine WL.q (oq_assign rfl) rfl rfl rfl ?_
        refine WL.nil (WE.then_normal (WC.sub (fr' := [(4, _), (5, _)]) ?_ ⟨rfl, rfl, trivial⟩))
        refine WC.ret ?_
        refine WE.lose hbx ?_
        refine WE.f3 ?_
        refine WE.f1 ?_
        refine WE.f3 ?_
        refine WE.f3 ?_
        refine WE.endW3 (.inl rfl) (res2 Tryz.results63 rfl rfl) ?_
        -- end 0
        exact ⟨rfl, perm2 (by rw [hhp]) (by simp only [List.flatten_cons, List.flatten_nil, List.append_nil]; exact ch_del A2 p [] _)⟩

/-- (*given.example/pub-tinwright/pub/smithy/middleware.SerializeStep).Remove -/
theorem remM1 (base sb : Nat) (nr : Value) (x : Nd) (items : List Nd) (hbx : base ≤ x.b) (y : Nd) (B2 B3 : List Nd) (l : Nd) (hB : y :: B2 = B3 ++ [l]) (h : Nd) (rr A2 : List Nd) (p : Nd) (hA0 : A2 ++ [p] = h :: rr) (hit : items = (A2 ++ [p]) ++ x :: (y :: B2)) (hA : ∀ y ∈ A2 ++ [p], y.id ≠ x.id) : FnW Tryz.prog 63 [Pt sb 0, S x.id] base [[(sb, .cells #[(hdp (items)), (lastp (items)), nr] 206 (0, 0))], ch 204 227 225 items .nilIface] (fun v Hs => v = .tuple #[wv 225 x, .nilIface] ∧ Hs.flatten.Perm ([[(sb, .cells #[(hdp (A2 ++ p :: y :: B2)), (lastp (A2 ++ p :: y :: B2)), nr] 206 (0, 0))], ch 204 227 225 (A2 ++ p :: y :: B2) .nilIface] : List Hp).flatten) := by
  refine FnW.enter (n := 73) Tryz.func63 rfl rfl fun w0 R0 hbase => ?_
  subst hbase
  show WC _ _ _ _ _ _ _ ([[(sb, .cells #[(hdp (items)), (lastp (items)), nr] 206 (0, 0))], ch 204 227 225 items .nilIface, R0])
  refine WC.sub (fr' := [(0, _), (1, _)]) ?_ ⟨rfl, rfl, trivial⟩
  refine WC.seq (WC.region ?_)
  refine WL.q (oq_assign rfl) rfl rfl rfl ?_
  refine WL.q (oq_assign rfl) rfl rfl rfl ?_
  refine WL.nil (WE.then_normal (WC.sub (fr' := [(0, _), (1, _)]) ?_ ⟨rfl, rfl, trivial⟩))
  refine WC.seq (WC.region ?_)
  refine WL.q (oq_move rfl) rfl rfl rfl ?_
  refine WL.q (oq_move rfl) rfl rfl rfl ?_
  refine WL.f1 ?_
  refine WL.f1 ?_
  refine WL.callW2 (gotH1 _ sb nr x.id (A2 ++ [p]) (y :: B2) x items hit rfl hA) call115 rfl rfl rfl fun v1_2 Hs1_2 hR1_2 => ?_
  obtain ⟨rfl, rfl⟩ := hR1_2
  rw [lastp_snoc]
  refine WL.to2 ?_
  refine WL.q (oq_move rfl) rfl rfl rfl ?_
  refine WL.q (oq_extract rfl rfl) rfl rfl rfl ?_
  refine WL.q (oq_extract rfl rfl) rfl rfl rfl ?_
  refine WL.q (oq_assign rfl) rfl rfl rfl ?_
  refine WL.q (oq_assign rfl) rfl rfl rfl ?_
  refine WL.nil (WE.then_normal (WC.sub (fr' := [(0, _), (6, _), (7, _)]) ?_ ⟨rfl, rfl, rfl, trivial⟩))
  refine WC.seq (WC.seq (WC.region ?_))
  refine WL.q (oq_move rfl) rfl rfl rfl ?_
  refine WL.q (oq_peql Tryz.underlying204 rfl rfl) rfl rfl rfl ?_
  refine WL.nil (WE.then_normal (WC.sub (fr' := [(0, _), (6, _), (7, _), (15, _)]) ?_ ⟨rfl, rfl, rfl, rfl, trivial⟩))
  refine WC.cond rfl (fun q2 => ?_) (fun q2 => ?_)
  ·
    try simp only [Z1, Z2, Z3, Z4, Z5, Z6, Z7, Z8, Z9, Z0] at q2
    first | (simp at q2; done) | exact absurd q4 hhl | exact absurd q4.symm hhl | exact absurd q7 hxh | exact absurd q7.symm hxh | exact absurd q9 hxl | exact absurd q9.symm hxl | (exfalso; omega)
  ·
    try simp only [Z1, Z2, Z3, Z4, Z5, Z6, Z7, Z8, Z9, Z0] at q2
    refine WC.skip (WE.then_normal (WC.sub (fr' := [(0, _), (6, _), (7, _)]) ?_ ⟨rfl, rfl, rfl, trivial⟩))
    refine WC.seq (WC.seq ?_)
    refine WC.distinct fun hdd => ?_
    have hnn := nd_of hdd
    have hit2 : items = A2 ++ p :: x :: (y :: B2) := by rw [hit]; simp
    have hith : items = [] ++ h :: (rr ++ x :: (y :: B2)) := by rw [hit, hA0]; rfl
    have hxh : h.b ≠ x.b := nd_ne hnn hit (.inl (by rw [hA0]; simp))
    have hh : hdp items = Pt h.b 0 := by rw [hith]; rfl
    have hhp : hdp (A2 ++ [p]) = Pt h.b 0 := by rw [hA0]; rfl
    have hitl : items = ((A2 ++ [p]) ++ x :: B3) ++ l :: [] := by rw [hit, hB]; simp
    have hxl : l.b ≠ x.b := nd_ne hnn hit (.inr (by rw [hB]; simp))
    have hhl : h.b ≠ l.b := nd_ne hnn hitl (.inl (by rw [hA0]; simp))
    have ht : lastp items = Pt l.b 0 := by rw [hitl]; exact lastp_snoc _ _
    rw [hh, ht]
    refine WC.quiet (by kernel_rfl) (by kernel_rfl) ?_
    refine WQ.q (oq_move rfl) rfl rfl rfl ?_
    refine WQ.q (oq_nilCheck rfl) rfl rfl rfl ?_
    refine WQ.q (oq_fieldAddr fld206_0 rfl) rfl rfl rfl ?_
    refine WQ.q (oq_load flat204 rfl (.head _) (List.mem_singleton.2 rfl) rfl) rfl rfl rfl ?_
    refine WQ.q (oq_move rfl) rfl rfl rfl ?_
    refine WQ.q (oq_nilCheck rfl) rfl rfl rfl ?_
    refine WQ.q (oq_fieldAddr fld206_1 rfl) rfl rfl rfl ?_
    refine WQ.q (oq_load flat204 rfl (.head _) (List.mem_singleton.2 rfl) rfl) rfl rfl rfl ?_
    refine WQ.q (oq_peq Tryz.underlying204 ty227 (by decide) (.tail _ (.head _)) (mem_of hith) (.tail _ (.head _)) (mem_of hitl) rfl rfl) rfl rfl rfl ?_
    refine WQ.nil (WE.then_normal (WC.sub (fr' := [(0, _), (6, _), (7, _), (25, _)]) ?_ ⟨rfl, rfl, rfl, rfl, trivial⟩))
    refine WC.cond rfl (fun q4 => ?_) (fun q4 => ?_)
    ·
      try simp only [Z1, Z2, Z3, Z4, Z5, Z6, Z7, Z8, Z9, Z0] at q4
      first | (simp at q2; done) | exact absurd q4 hhl | exact absurd q4.symm hhl | exact absurd q7 hxh | exact absurd q7.symm hxh | exact absurd q9 hxl | exact absurd q9.symm hxl | (exfalso; omega)
    ·
      try simp only [Z1, Z2, Z3, Z4, Z5, Z6, Z7, Z8, Z9, Z0] at q4
      refine WC.seq (WC.region ?_)
      refine WL.q (oq_move rfl) rfl rfl rfl ?_
      refine WL.q (oq_move rfl) rfl rfl rfl ?_
      refine WL.q (oq_nilCheck rfl) rfl rfl rfl ?_
      refine WL.q (oq_fieldAddr fld206_0 rfl) rfl rfl rfl ?_
      refine WL.q (oq_load flat204 rfl (.head _) (List.mem_singleton.2 rfl) rfl) rfl rfl rfl ?_
      refine WL.q (oq_peq Tryz.underlying204 ty227 (by decide) (.tail _ (.head _)) (mem_of hit) (.tail _ (.head _)) (mem_of hith) rfl rfl) rfl rfl rfl ?_
      refine WL.nil (WE.then_normal (WC.sub (fr' := [(0, _), (6, _), (7, _), (37, _)]) ?_ ⟨rfl, rfl, rfl, rfl, trivial⟩))
      refine WC.cond rfl (fun q7 => ?_) (fun q7 => ?_)
      ·
        try simp only [Z1, Z2, Z3, Z4, Z5, Z6, Z7, Z8, Z9, Z0] at q7
        first | (simp at q2; done) | exact absurd q4 hhl | exact absurd q4.symm hhl | exact absurd q7 hxh | exact absurd q7.symm hxh | exact absurd q9 hxl | exact absurd q9.symm hxl | (exfalso; omega)
      ·
        try simp only [Z1, Z2, Z3, Z4, Z5, Z6, Z7, Z8, Z9, Z0] at q7
        refine WC.seq (WC.region ?_)
        refine WL.q (oq_move rfl) rfl rfl rfl ?_
        refine WL.q (oq_move rfl) rfl rfl rfl ?_
        refine WL.q (oq_nilCheck rfl) rfl rfl rfl ?_
        refine WL.q (oq_fieldAddr fld206_1 rfl) rfl rfl rfl ?_
        refine WL.q (oq_load flat204 rfl (.head _) (List.mem_singleton.2 rfl) rfl) rfl rfl rfl ?_
        refine WL.q (oq_peq Tryz.underlying204 ty227 (by decide) (.tail _ (.head _)) (mem_of hit) (.tail _ (.head _)) (mem_of hitl) rfl rfl) rfl rfl rfl ?_
        refine WL.nil (WE.then_normal (WC.sub (fr' := [(0, _), (6, _), (7, _), (54, _)]) ?_ ⟨rfl, rfl, rfl, rfl, trivial⟩))
        refine WC.cond rfl (fun q9 => ?_) (fun q9 => ?_)
        ·
          try simp only [Z1, Z2, Z3, Z4, Z5, Z6, Z7, Z8, Z9, Z0] at q9
          first | (simp at q2; done) | exact absurd q4 hhl | exact absurd q4.symm hhl | exact absurd q7 hxh | exact absurd q7.symm hxh | exact absurd q9 hxl | exact absurd q9.symm hxl | (exfalso; omega)
        ·
          try simp only [Z1, Z2, Z3, Z4, Z5, Z6, Z7, Z8, Z9, Z0] at q9
          refine WC.region ?_
          refine WL.f1 ?_
          refine WL.reg (reg_out (show (ch 204 227 225 (items) .nilIface).Perm ([(p.b, .cells #[nextOf 204 (x :: y :: B2) .nilIface, wv 225 p] 227 (0, 0))] ++ (ch 204 227 225 (A2) (.iface 204 (Pt p.b 0)) ++ ch 204 227 225 (x :: y :: B2) .nilIface)) from by rw [hit2]; exact ch_out _ _ _ _)) ?_
          refine WL.q (oq_move rfl) rfl rfl rfl ?_
          refine WL.q (oq_move rfl) rfl rfl rfl ?_
          refine WL.q (oq_nilCheck rfl) rfl rfl rfl ?_
          refine WL.q (oq_fieldAddr fld227_0 rfl) rfl rfl rfl ?_
          refine WL.q (oq_load flat132 rfl (.tail _ (.head _)) (List.mem_append_right _ List.mem_cons_self) rfl) rfl rfl rfl ?_
          refine WL.q (oq_nilCheck rfl) rfl rfl rfl ?_
          refine WL.q (oq_fieldAddr fld227_0 rfl) rfl rfl rfl ?_
          refine WL.store1 #[_, _] ty132 rfl rfl (by first | rfl | exact OwS.one one_) (Nat.lt_of_lt_of_le (Nat.lt_succ_self _) (Nat.le_of_ble_eq_true rfl)) rfl rfl ?_
          refine WL.nil (WE.then_normal (WC.sub (fr' := [(6, _)]) ?_ ⟨rfl, trivial⟩))
          refine WC.seq (WC.region ?_)
          refine WL.q (oq_move rfl) rfl rfl rfl ?_
          refine WL.q (oq_nilCheck rfl) rfl rfl rfl ?_
          refine WL.q (oq_fieldAddr fld227_1 rfl) rfl rfl rfl ?_
          refine WL.q (oq_load flat127 rfl (.tail _ (.head _)) (List.mem_append_right _ List.mem_cons_self) rfl) rfl rfl rfl ?_
          refine WL.q (oq_assign rfl) rfl rfl rfl ?_
          refine WL.f1 ?_
          refine WL.reg (reg_out (show (ch 204 227 225 (A2) (.iface 204 (Pt p.b 0)) ++ ch 204 227 225 (x :: y :: B2) .nilIface).Perm ([(x.b, .cells #[nextOf 204 (y :: B2) .nilIface, wv 225 x] 227 (0, 0))] ++ (ch 204 227 225 (A2) (.iface 204 (Pt p.b 0)) ++ ch 204 227 225 (y :: B2) .nilIface)) from List.perm_middle)) ?_
          refine WL.q (oq_assign rfl) rfl rfl rfl ?_
          refine WL.nil (WE.then_normal (WC.sub (fr' := [(4, _), (5, _)]) ?_ ⟨rfl, rfl, trivial⟩))
          refine WC.ret ?_
          refine WE.lose hbx ?_
          refine WE.f3 ?_
          refine WE.f1 ?_
          refine WE.f2 ?_
          refine WE.f3 ?_
          refine WE.endW3 (.inl rfl) (res2 Tryz.results63 rfl rfl) ?_
          -- end 0
          exact ⟨rfl, perm2 (by rw [lastp_cons, last_of hB, ← hhp, hdp_cons A2 p (y :: B2) []]) (by simp only [List.flatten_cons, List.flatten_nil, List.append_nil]; exact ch_del A2 p (y :: B2) _)⟩

/-- (*given.example/pub-tinwright/pub/smithy/middleware.SerializeStep).Remove -/
theorem remN1 (base sb : Nat) (nr : Value) (by_ : List UInt8) (items : List Nd) (hn : ∀ y ∈ items, y.id ≠ by_) : FnW Tryz.prog 63 [Pt sb 0, S by_] base [[(sb, .cells #[(hdp (items)), (lastp (items)), nr] 206 (0, 0))], ch 204 227 225 items .nilIface] (fun v Hs => (∃ k u, v = .tuple #[.nilIface, .iface k u]) ∧ Hs = [[(sb, .cells #[(hdp (items)), (lastp (items)), nr] 206 (0, 0))], ch 204 227 225 items .nilIface]) := by
  refine FnW.enter (n := 73) Tryz.func63 rfl rfl fun w0 R0 hbase => ?_
  subst hbase
  show WC _ _ _ _ _ _ _ ([[(sb, .cells #[(hdp (items)), (lastp (items)), nr] 206 (0, 0))], ch 204 227 225 items .nilIface, R0])
  refine WC.sub (fr' := [(0, _), (1, _)]) ?_ ⟨rfl, rfl, trivial⟩
  refine WC.seq (WC.region ?_)
  refine WL.q (oq_assign rfl) rfl rfl rfl ?_
  refine WL.q (oq_assign rfl) rfl rfl rfl ?_
  refine WL.nil (WE.then_normal (WC.sub (fr' := [(0, _), (1, _)]) ?_ ⟨rfl, rfl, trivial⟩))
  refine WC.seq (WC.region ?_)
  refine WL.q (oq_move rfl) rfl rfl rfl ?_
  refine WL.q (oq_move rfl) rfl rfl rfl ?_
  refine WL.f1 ?_
  refine WL.f1 ?_
  refine WL.callW2 (gotM1 _ sb nr by_ items hn) call115 rfl rfl rfl fun v1_2 Hs1_2 hR1_2 => ?_
  obtain ⟨rfl, rfl⟩ := hR1_2
  refine WL.to2 ?_
  refine WL.q (oq_move rfl) rfl rfl rfl ?_
  refine WL.q (oq_extract rfl rfl) rfl rfl rfl ?_
  refine WL.q (oq_extract rfl rfl) rfl rfl rfl ?_
  refine WL.q (oq_assign rfl) rfl rfl rfl ?_
  refine WL.q (oq_assign rfl) rfl rfl rfl ?_
  refine WL.nil (WE.then_normal (WC.sub (fr' := [(0, _), (6, _), (7, _)]) ?_ ⟨rfl, rfl, rfl, trivial⟩))
  refine WC.seq (WC.seq (WC.region ?_))
  refine WL.q (oq_move rfl) rfl rfl rfl ?_
  refine WL.q (oq_peql Tryz.underlying204 rfl rfl) rfl rfl rfl ?_
  refine WL.nil (WE.then_normal (WC.sub (fr' := [(0, _), (6, _), (7, _), (15, _)]) ?_ ⟨rfl, rfl, rfl, rfl, trivial⟩))
  refine WC.cond rfl (fun q2 => ?_) (fun q2 => ?_)
  ·
    try simp only [Z1, Z2, Z3, Z4, Z5, Z6, Z7, Z8, Z9, Z0] at q2
    refine WC.seq (WC.region ?_)
    refine WL.callA0 (errNew _) call113 rfl rfl rfl fun v3_0 N3_0 hR3_0 hN3_0 => ?_
    obtain ⟨ek, eu, rfl⟩ := hR3_0
    refine WL.q (oq_assign rfl) rfl rfl rfl ?_
    refine WL.q (oq_assign rfl) rfl rfl rfl ?_
    refine WL.nil (WE.then_normal (WC.sub (fr' := [(4, _), (5, _)]) ?_ ⟨rfl, rfl, trivial⟩))
    refine WC.ret (WE.then_ret ?_)
    refine WE.forget hN3_0 ?_
    refine WE.endW2 (.inl rfl) (res2 Tryz.results63 rfl rfl) ?_
    -- end 0
    exact ⟨⟨_, _, rfl⟩, rfl⟩
  ·
    try simp only [Z1, Z2, Z3, Z4, Z5, Z6, Z7, Z8, Z9, Z0] at q2
    simp at q2

/-- (*given.example/pub-tinwright/pub/smithy/middleware.BuildStep).Remove -/
theorem remO2 (base sb : Nat) (x : Nd) (items : List Nd) (hbx : base ≤ x.b) (hit : items = [] ++ x :: []) : FnW Tryz.prog 78 [Pt sb 0, S x.id] base [[(sb, .cells #[(hdp (items)), (lastp (items))] 209 (0, 0))], ch 207 234 232 items .nilIface] (fun v Hs => v = .tuple #[wv 232 x, .nilIface] ∧ Hs.flatten.Perm ([[(sb, .cells #[(hdp ([])), (lastp ([]))] 209 (0, 0))], ch 207 234 232 [] .nilIface] : List Hp).flatten) := by
  refine FnW.enter (n := 73) Tryz.func78 rfl rfl fun w0 R0 hbase => ?_
  subst hbase
  show WC _ _ _ _ _ _ _ ([[(sb, .cells #[(hdp (items)), (lastp (items))] 209 (0, 0))], ch 207 234 232 items .nilIface, R0])
  refine WC.sub (fr' := [(0, _), (1, _)]) ?_ ⟨rfl, rfl, trivial⟩
  refine WC.seq (WC.region ?_)
  refine WL.q (oq_assign rfl) rfl rfl rfl ?_
  refine WL.q (oq_assign rfl) rfl rfl rfl ?_
  refine WL.nil (WE.then_normal (WC.sub (fr' := [(0, _), (1, _)]) ?_ ⟨rfl, rfl, trivial⟩))
  refine WC.seq (WC.region ?_)
  refine WL.q (oq_move rfl) rfl rfl rfl ?_
  refine WL.q (oq_move rfl) rfl rfl rfl ?_
  refine WL.f1 ?_
  refine WL.f1 ?_
  refine WL.callW2 (gotH2 _ sb x.id [] [] x items hit rfl (by simp)) call116 rfl rfl rfl fun v1_2 Hs1_2 hR1_2 => ?_
  obtain ⟨rfl, rfl⟩ := hR1_2
  refine WL.to2 ?_
  refine WL.q (oq_move rfl) rfl rfl rfl ?_
  refine WL.q (oq_extract rfl rfl) rfl rfl rfl ?_
  refine WL.q (oq_extract rfl rfl) rfl rfl rfl ?_
  refine WL.q (oq_assign rfl) rfl rfl rfl ?_
  refine WL.q (oq_assign rfl) rfl rfl rfl ?_
  refine WL.nil (WE.then_normal (WC.sub (fr' := [(0, _), (6, _), (7, _)]) ?_ ⟨rfl, rfl, rfl, trivial⟩))
  refine WC.seq (WC.seq (WC.region ?_))
  refine WL.q (oq_move rfl) rfl rfl rfl ?_
  refine WL.q (oq_peql Tryz.underlying207 rfl rfl) rfl rfl rfl ?_
  refine WL.nil (WE.then_normal (WC.sub (fr' := [(0, _), (6, _), (7, _), (15, _)]) ?_ ⟨rfl, rfl, rfl, rfl, trivial⟩))
  refine WC.cond rfl (fun q2 => ?_) (fun q2 => ?_)
  ·
    try simp only [Z1, Z2, Z3, Z4, Z5, Z6, Z7, Z8, Z9, Z0] at q2
    first | (simp at q2; done) | exact absurd q4 hhl | exact absurd q4.symm hhl | exact absurd q7 hxh | exact absurd q7.symm hxh | exact absurd q9 hxl | exact absurd q9.symm hxl | (exfalso; omega)
  ·
    try simp only [Z1, Z2, Z3, Z4, Z5, Z6, Z7, Z8, Z9, Z0] at q2
    refine WC.skip (WE.then_normal (WC.sub (fr' := [(0, _), (6, _), (7, _)]) ?_ ⟨rfl, rfl, rfl, trivial⟩))
    refine WC.seq (WC.seq ?_)
    have hh : hdp items = Pt x.b 0 := by rw [hit]; rfl
    have ht : lastp items = Pt x.b 0 := by rw [hit]; rfl
    rw [hh, ht]
    refine WC.quiet (by kernel_rfl) (by kernel_rfl) ?_
    refine WQ.q (oq_move rfl) rfl rfl rfl ?_
    refine WQ.q (oq_nilCheck rfl) rfl rfl rfl ?_
    refine WQ.q (oq_fieldAddr fld209_0 rfl) rfl rfl rfl ?_
    refine WQ.q (oq_load flat207 rfl (.head _) (List.mem_singleton.2 rfl) rfl) rfl rfl rfl ?_
    refine WQ.q (oq_move rfl) rfl rfl rfl ?_
    refine WQ.q (oq_nilCheck rfl) rfl rfl rfl ?_
    refine WQ.q (oq_fieldAddr fld209_1 rfl) rfl rfl rfl ?_
    refine WQ.q (oq_load flat207 rfl (.head _) (List.mem_singleton.2 rfl) rfl) rfl rfl rfl ?_
    refine WQ.q (oq_pesame Tryz.underlying207 ty234 rfl rfl) rfl rfl rfl ?_
    refine WQ.nil (WE.then_normal (WC.sub (fr' := [(0, _), (6, _), (7, _), (25, _)]) ?_ ⟨rfl, rfl, rfl, rfl, trivial⟩))
    refine WC.cond_t rfl ?_
    refine WC.seq (WC.region ?_)
    refine WL.q (oq_move rfl) rfl rfl rfl ?_
    refine WL.q (oq_nilCheck rfl) rfl rfl rfl ?_
    refine WL.q (oq_fieldAddr fld209_0 rfl) rfl rfl rfl ?_
    refine WL.store1 #[_, _] ty207 rfl rfl (by first | rfl | exact OwS.one one_) (Nat.lt_of_lt_of_le (Nat.lt_succ_self _) (Nat.le_of_ble_eq_true rfl)) rfl rfl ?_
    refine WL.nil (WE.then_normal (WC.sub (fr' := [(0, _), (6, _)]) ?_ ⟨rfl, rfl, trivial⟩))
    refine WC.region ?_
    refine WL.q (oq_move rfl) rfl rfl rfl ?_
    refine WL.q (oq_nilCheck rfl) rfl rfl rfl ?_
    refine WL.q (oq_fieldAddr fld209_1 rfl) rfl rfl rfl ?_
    refine WL.store1 #[_, _] ty207 rfl rfl (by first | rfl | exact OwS.one one_) (Nat.lt_of_lt_of_le (Nat.lt_succ_self _) (Nat.le_of_ble_eq_true rfl)) rfl rfl ?_
    refine WL.nil (WE.then_normal (WC.sub (fr' := [(6, _)]) ?_ ⟨rfl, trivial⟩))
    refine WC.seq (WC.region ?_)
    refine WL.q (oq_move rfl) rfl rfl rfl ?_
    refine WL.q (oq_nilCheck rfl) rfl rfl rfl ?_
    refine WL.q (oq_fieldAddr fld234_1 rfl) rfl rfl rfl ?_
    refine WL.q (oq_load flat146 rfl (.tail _ (.head _)) (mem_of hit) rfl) rfl rfl rfl ?_
    refine WL.q (oq_assign rfl) rfl rfl rfl ?_
    refine WL.f1 ?_
    refine WL.reg (reg_out (show (ch 207 234 232 (items) .nilIface).Perm ([(x.b, .cells #[nextOf 207 ([]) .nilIface, wv 232 x] 234 (0, 0))] ++ (ch 207 234 232 ([]) (.iface 207 (Pt x.b 0)) ++ ch 207 234 232 ([]) .nilIface)) from by rw [hit]; exact ch_out _ _ _ _)) ?_
    refine WL.q (oq_assign rfl) rfl rfl rfl ?_
    refine WL.nil (WE.then_normal (WC.sub (fr' := [(4, _), (5, _)]) ?_ ⟨rfl, rfl, trivial⟩))
    refine WC.ret ?_
    refine WE.lose hbx ?_
    refine WE.f2 ?_
    refine WE.f1 ?_
    refine WE.f2 ?_
    refine WE.endW2 (.inl rfl) (res2 Tryz.results78 rfl rfl) ?_
    -- end 0
    exact ⟨rfl, perm2 rfl (by simp only [List.flatten_cons, List.flatten_nil, List.append_nil]; exact List.Perm.refl _)⟩

/-- (*given.example/pub-tinwright/pub/smithy/middleware.BuildStep).Remove -/
theorem remF2 (base sb : Nat) (x : Nd) (items : List Nd) (hbx : base ≤ x.b) (y : Nd) (B2 B3 : List Nd) (l : Nd) (hit : items = [] ++ x :: (y :: B2)) (hB : y :: B2 = B3 ++ [l]) : FnW Tryz.prog 78 [Pt sb 0, S x.id] base [[(sb, .cells #[(hdp (items)), (lastp (items))] 209 (0, 0))], ch 207 234 232 items .nilIface] (fun v Hs => v = .tuple #[wv 232 x, .nilIface] ∧ Hs.flatten.Perm ([[(sb, .cells #[(hdp (y :: B2)), (lastp (y :: B2))] 209 (0, 0))], ch 207 234 232 (y :: B2) .nilIface] : List Hp).flatten) := by
  refine FnW.enter (n := 73) Tryz.func78 rfl rfl fun w0 R0 hbase => ?_
  subst hbase
  show WC _ _ _ _ _ _ _ ([[(sb, .cells #[(hdp (items)), (lastp (items))] 209 (0, 0))], ch 207 234 232 items .nilIface, R0])
  refine WC.sub (fr' := [(0, _), (1, _)]) ?_ ⟨rfl, rfl, trivial⟩
  refine WC.seq (WC.region ?_)
  refine WL.q (oq_assign rfl) rfl rfl rfl ?_
  refine WL.q (oq_assign rfl) rfl rfl rfl ?_
  refine WL.nil (WE.then_normal (WC.sub (fr' := [(0, _), (1, _)]) ?_ ⟨rfl, rfl, trivial⟩))
  refine WC.seq (WC.region ?_)
  refine WL.q (oq_move rfl) rfl rfl rfl ?_
  refine WL.q (oq_move rfl) rfl rfl rfl ?_
  refine WL.f1 ?_
  refine WL.f1 ?_
  refine WL.callW2 (gotH2 _ sb x.id [] (y :: B2) x items hit rfl (by simp)) call116 rfl rfl rfl fun v1_2 Hs1_2 hR1_2 => ?_
  obtain ⟨rfl, rfl⟩ := hR1_2
  refine WL.to2 ?_
  refine WL.q (oq_move rfl) rfl rfl rfl ?_
  refine WL.q (oq_extract rfl rfl) rfl rfl rfl ?_
  refine WL.q (oq_extract rfl rfl) rfl rfl rfl ?_
  refine WL.q (oq_assign rfl) rfl rfl rfl ?_
  refine WL.q (oq_assign rfl) rfl rfl rfl ?_
  refine WL.nil (WE.then_normal (WC.sub (fr' := [(0, _), (6, _), (7, _)]) ?_ ⟨rfl, rfl, rfl, trivial⟩))
  refine WC.seq (WC.seq (WC.region ?_))
  refine WL.q (oq_move rfl) rfl rfl rfl ?_
  refine WL.q (oq_peql Tryz.underlying207 rfl rfl) rfl rfl rfl ?_
  refine WL.nil (WE.then_normal (WC.sub (fr' := [(0, _), (6, _), (7, _), (15, _)]) ?_ ⟨rfl, rfl, rfl, rfl, trivial⟩))
  refine WC.cond rfl (fun q2 => ?_) (fun q2 => ?_)
  ·
    try simp only [Z1, Z2, Z3, Z4, Z5, Z6, Z7, Z8, Z9, Z0] at q2
    first | (simp at q2; done) | exact absurd q4 hhl | exact absurd q4.symm hhl | exact absurd q7 hxh | exact absurd q7.symm hxh | exact absurd q9 hxl | exact absurd q9.symm hxl | (exfalso; omega)
  ·
    try simp only [Z1, Z2, Z3, Z4, Z5, Z6, Z7, Z8, Z9, Z0] at q2
    refine WC.skip (WE.then_normal (WC.sub (fr' := [(0, _), (6, _), (7, _)]) ?_ ⟨rfl, rfl, rfl, trivial⟩))
    refine WC.seq (WC.seq ?_)
    refine WC.distinct fun hdd => ?_
    have hnn := nd_of hdd
    have hhl : l.b ≠ x.b := nd_ne hnn hit (.inr (by rw [hB]; simp))
    have hit3 : items = (x :: B3) ++ l :: [] := by rw [hit, hB]; rfl
    have hh : hdp items = Pt x.b 0 := by rw [hit]; rfl
    have ht : lastp items = Pt l.b 0 := by rw [hit3]; exact lastp_snoc _ _
    rw [hh, ht]
    refine WC.quiet (by kernel_rfl) (by kernel_rfl) ?_
    refine WQ.q (oq_move rfl) rfl rfl rfl ?_
    refine WQ.q (oq_nilCheck rfl) rfl rfl rfl ?_
    refine WQ.q (oq_fieldAddr fld209_0 rfl) rfl rfl rfl ?_
    refine WQ.q (oq_load flat207 rfl (.head _) (List.mem_singleton.2 rfl) rfl) rfl rfl rfl ?_
    refine WQ.q (oq_move rfl) rfl rfl rfl ?_
    refine WQ.q (oq_nilCheck rfl) rfl rfl rfl ?_
    refine WQ.q (oq_fieldAddr fld209_1 rfl) rfl rfl rfl ?_
    refine WQ.q (oq_load flat207 rfl (.head _) (List.mem_singleton.2 rfl) rfl) rfl rfl rfl ?_
    refine WQ.q (oq_peq Tryz.underlying207 ty234 (by decide) (.tail _ (.head _)) (mem_of hit) (.tail _ (.head _)) (mem_of hit3) rfl rfl) rfl rfl rfl ?_
    refine WQ.nil (WE.then_normal (WC.sub (fr' := [(0, _), (6, _), (7, _), (25, _)]) ?_ ⟨rfl, rfl, rfl, rfl, trivial⟩))
    refine WC.cond rfl (fun q4 => ?_) (fun q4 => ?_)
    ·
      try simp only [Z1, Z2, Z3, Z4, Z5, Z6, Z7, Z8, Z9, Z0] at q4
      first | (simp at q2; done) | exact absurd q4 hhl | exact absurd q4.symm hhl | exact absurd q7 hxh | exact absurd q7.symm hxh | exact absurd q9 hxl | exact absurd q9.symm hxl | (exfalso; omega)
    ·
      try simp only [Z1, Z2, Z3, Z4, Z5, Z6, Z7, Z8, Z9, Z0] at q4
      refine WC.seq (WC.region ?_)
      refine WL.q (oq_move rfl) rfl rfl rfl ?_
      refine WL.q (oq_move rfl) rfl rfl rfl ?_
      refine WL.q (oq_nilCheck rfl) rfl rfl rfl ?_
      refine WL.q (oq_fieldAddr fld209_0 rfl) rfl rfl rfl ?_
      refine WL.q (oq_load flat207 rfl (.head _) (List.mem_singleton.2 rfl) rfl) rfl rfl rfl ?_
      refine WL.q (oq_pesame Tryz.underlying207 ty234 rfl rfl) rfl rfl rfl ?_
      refine WL.nil (WE.then_normal (WC.sub (fr' := [(0, _), (6, _), (7, _), (37, _)]) ?_ ⟨rfl, rfl, rfl, rfl, trivial⟩))
      refine WC.cond_t rfl ?_
      refine WC.region ?_
      refine WL.q (oq_move rfl) rfl rfl rfl ?_
      refine WL.q (oq_move rfl) rfl rfl rfl ?_
      refine WL.q (oq_nilCheck rfl) rfl rfl rfl ?_
      refine WL.q (oq_fieldAddr fld209_0 rfl) rfl rfl rfl ?_
      refine WL.q (oq_load flat207 rfl (.head _) (List.mem_singleton.2 rfl) rfl) rfl rfl rfl ?_
      refine WL.q (oq_nilCheck rfl) rfl rfl rfl ?_
      refine WL.q (oq_fieldAddr fld234_0 rfl) rfl rfl rfl ?_
      refine WL.q (oq_load flat151 rfl (.tail _ (.head _)) (mem_of hit) rfl) rfl rfl rfl ?_
      refine WL.q (oq_askT conc207 rfl) rfl rfl rfl ?_
      refine WL.q (oq_nilCheck rfl) rfl rfl rfl ?_
      refine WL.q (oq_fieldAddr fld209_0 rfl) rfl rfl rfl ?_
      refine WL.store1 #[_, _] ty207 rfl rfl (by first | rfl | exact OwS.one one_) (Nat.lt_of_lt_of_le (Nat.lt_succ_self _) (Nat.le_of_ble_eq_true rfl)) rfl rfl ?_
      refine WL.nil (WE.then_normal (WC.sub (fr' := [(6, _)]) ?_ ⟨rfl, trivial⟩))
      refine WC.seq (WC.region ?_)
      refine WL.q (oq_move rfl) rfl rfl rfl ?_
      refine WL.q (oq_nilCheck rfl) rfl rfl rfl ?_
      refine WL.q (oq_fieldAddr fld234_1 rfl) rfl rfl rfl ?_
      refine WL.q (oq_load flat146 rfl (.tail _ (.head _)) (mem_of hit) rfl) rfl rfl rfl ?_
      refine WL.q (oq_assign rfl) rfl rfl rfl ?_
      refine WL.f1 ?_
      refine WL.reg (reg_out (show (ch 207 234 232 (items) .nilIface).Perm ([(x.b, .cells #[nextOf 207 (y :: B2) .nilIface, wv 232 x] 234 (0, 0))] ++ (ch 207 234 232 ([]) (.iface 207 (Pt x.b 0)) ++ ch 207 234 232 (y :: B2) .nilIface)) from by rw [hit]; exact ch_out _ _ _ _)) ?_
      refine WL.q (oq_assign rfl) rfl rfl rfl ?_
      refine WL.nil (WE.then_normal (WC.sub (fr' := [(4, _), (5, _)]) ?_ ⟨rfl, rfl, trivial⟩))
      refine WC.ret ?_
      refine WE.lose hbx ?_
      refine WE.f2 ?_
      refine WE.f1 ?_
      refine WE.f2 ?_
      refine WE.endW2 (.inl rfl) (res2 Tryz.results78 rfl rfl) ?_
      -- end 0
      exact ⟨rfl, perm2 (by rw [last_of hB]; rfl) (by simp only [List.flatten_cons, List.flatten_nil, List.append_nil]; exact List.Perm.refl _)⟩

/-- (*given.example/pub-tinwright/pub/smithy/middleware.BuildStep).Remove -/
theorem remL2 (base sb : Nat) (x : Nd) (items : List Nd) (hbx : base ≤ x.b) (h : Nd) (rr A2 : List Nd) (p : Nd) (hA0 : A2 ++ [p] = h :: rr) (hit : items = (A2 ++ [p]) ++ x :: ([])) (hA : ∀ y ∈ A2 ++ [p], y.id ≠ x.id) : FnW Tryz.prog 78 [Pt sb 0, S x.id] base [[(sb, .cells #[(hdp (items)), (lastp (items))] 209 (0, 0))], ch 207 234 232 items .nilIface] (fun v Hs => v = .tuple #[wv 232 x, .nilIface] ∧ Hs.flatten.Perm ([[(sb, .cells #[(hdp (A2 ++ p :: [])), (lastp (A2 ++ p :: []))] 209 (0, 0))], ch 207 234 232 (A2 ++ p :: []) .nilIface] : List Hp).flatten) := by
  refine FnW.enter (n := 73) Tryz.func78 rfl rfl fun w0 R0 hbase => ?_
  subst hbase
  show WC _ _ _ _ _ _ _ ([[(sb, .cells #[(hdp (items)), (lastp (items))] 209 (0, 0))], ch 207 234 232 items .nilIface, R0])
  refine WC.sub (fr' := [(0, _), (1, _)]) ?_ ⟨rfl, rfl, trivial⟩
  refine WC.seq (WC.region ?_)
  refine WL.q (oq_assign rfl) rfl rfl rfl ?_
  refine WL.q (oq_assign rfl) rfl rfl rfl ?_
  refine WL.nil (WE.then_normal (WC.sub (fr' := [(0, _), (1, _)]) ?_ ⟨rfl, rfl, trivial⟩))
  refine WC.seq (WC.region ?_)
  refine WL.q (oq_move rfl) rfl rfl rfl ?_
  refine WL.q (oq_move rfl) rfl rfl rfl ?_
  refine WL.f1 ?_
  refine WL.f1 ?_
  refine WL.callW2 (gotH2 _ sb x.id (A2 ++ [p]) [] x items hit rfl hA) call116 rfl rfl rfl fun v1_2 Hs1_2 hR1_2 => ?_
  obtain ⟨rfl, rfl⟩ := hR1_2
  rw [lastp_snoc]
  refine WL.to2 ?_
  refine WL.q (oq_move rfl) rfl rfl rfl ?_
  refine WL.q (oq_extract rfl rfl) rfl rfl rfl ?_
  refine WL.q (oq_extract rfl rfl) rfl rfl rfl ?_
  refine WL.q (oq_assign rfl) rfl rfl rfl ?_
  refine WL.q (oq_assign rfl) rfl rfl rfl ?_
  refine WL.nil (WE.then_normal (WC.sub (fr' := [(0, _), (6, _), (7, _)]) ?_ ⟨rfl, rfl, rfl, trivial⟩))
  refine WC.seq (WC.seq (WC.region ?_))
  refine WL.q (oq_move rfl) rfl rfl rfl ?_
  refine WL.q (oq_peql Tryz.underlying207 rfl rfl) rfl rfl rfl ?_
  refine WL.nil (WE.then_normal (WC.sub (fr' := [(0, _), (6, _), (7, _), (15, _)]) ?_ ⟨rfl, rfl, rfl, rfl, trivial⟩))
  refine WC.cond rfl (fun q2 => ?_) (fun q2 => ?_)
  ·
    try simp only [Z1, Z2, Z3, Z4, Z5, Z6, Z7, Z8, Z9, Z0] at q2
    first | (simp at q2; done) | exact absurd q4 hhl | exact absurd q4.symm hhl | exact absurd q7 hxh | exact absurd q7.symm hxh | exact absurd q9 hxl | exact absurd q9.symm hxl | (exfalso; omega)
  ·
    try simp only [Z1, Z2, Z3, Z4, Z5, Z6, Z7, Z8, Z9, Z0] at q2
    refine WC.skip (WE.then_normal (WC.sub (fr' := [(0, _), (6, _), (7, _)]) ?_ ⟨rfl, rfl, rfl, trivial⟩))
    refine WC.seq (WC.seq ?_)
    refine WC.distinct fun hdd => ?_
    have hnn := nd_of hdd
    have hit2 : items = A2 ++ p :: x :: ([]) := by rw [hit]; simp
    have hith : items = [] ++ h :: (rr ++ x :: ([])) := by rw [hit, hA0]; rfl
    have hxh : h.b ≠ x.b := nd_ne hnn hit (.inl (by rw [hA0]; simp))
    have hh : hdp items = Pt h.b 0 := by rw [hith]; rfl
    have hhp : hdp (A2 ++ [p]) = Pt h.b 0 := by rw [hA0]; rfl
    have hhl := hxh
    have ht : lastp items = Pt x.b 0 := by rw [hit]; exact lastp_snoc _ _
    rw [hh, ht]
    refine WC.quiet (by kernel_rfl) (by kernel_rfl) ?_
    refine WQ.q (oq_move rfl) rfl rfl rfl ?_
    refine WQ.q (oq_nilCheck rfl) rfl rfl rfl ?_
    refine WQ.q (oq_fieldAddr fld209_0 rfl) rfl rfl rfl ?_
    refine WQ.q (oq_load flat207 rfl (.head _) (List.mem_singleton.2 rfl) rfl) rfl rfl rfl ?_
    refine WQ.q (oq_move rfl) rfl rfl rfl ?_
    refine WQ.q (oq_nilCheck rfl) rfl rfl rfl ?_
    refine WQ.q (oq_fieldAddr fld209_1 rfl) rfl rfl rfl ?_
    refine WQ.q (oq_load flat207 rfl (.head _) (List.mem_singleton.2 rfl) rfl) rfl rfl rfl ?_
    refine WQ.q (oq_peq Tryz.underlying207 ty234 (by decide) (.tail _ (.head _)) (mem_of hith) (.tail _ (.head _)) (mem_of hit) rfl rfl) rfl rfl rfl ?_
    refine WQ.nil (WE.then_normal (WC.sub (fr' := [(0, _), (6, _), (7, _), (25, _)]) ?_ ⟨rfl, rfl, rfl, rfl, trivial⟩))
    refine WC.cond rfl (fun q4 => ?_) (fun q4 => ?_)
    ·
      try simp only [Z1, Z2, Z3, Z4, Z5, Z6, Z7, Z8, Z9, Z0] at q4
      first | (simp at q2; done) | exact absurd q4 hhl | exact absurd q4.symm hhl | exact absurd q7 hxh | exact absurd q7.symm hxh | exact absurd q9 hxl | exact absurd q9.symm hxl | (exfalso; omega)
    ·
      try simp only [Z1, Z2, Z3, Z4, Z5, Z6, Z7, Z8, Z9, Z0] at q4
      refine WC.seq (WC.region ?_)
      refine WL.q (oq_move rfl) rfl rfl rfl ?_
      refine WL.q (oq_move rfl) rfl rfl rfl ?_
      refine WL.q (oq_nilCheck rfl) rfl rfl rfl ?_
      refine WL.q (oq_fieldAddr fld209_0 rfl) rfl rfl rfl ?_
      refine WL.q (oq_load flat207 rfl (.head _) (List.mem_singleton.2 rfl) rfl) rfl rfl rfl ?_
      refine WL.q (oq_peq Tryz.underlying207 ty234 (by decide) (.tail _ (.head _)) (mem_of hit) (.tail _ (.head _)) (mem_of hith) rfl rfl) rfl rfl rfl ?_
      refine WL.nil (WE.then_normal (WC.sub (fr' := [(0, _), (6, _), (7, _), (37, _)]) ?_ ⟨rfl, rfl, rfl, rfl, trivial⟩))
      refine WC.cond rfl (fun q7 => ?_) (fun q7 => ?_)
      ·
        try simp only [Z1, Z2, Z3, Z4, Z5, Z6, Z7, Z8, Z9, Z0] at q7
        first | (simp at q2; done) | exact absurd q4 hhl | exact absurd q4.symm hhl | exact absurd q7 hxh | exact absurd q7.symm hxh | exact absurd q9 hxl | exact absurd q9.symm hxl | (exfalso; omega)
      ·
        try simp only [Z1, Z2, Z3, Z4, Z5, Z6, Z7, Z8, Z9, Z0] at q7
        refine WC.seq (WC.region ?_)
        refine WL.q (oq_move rfl) rfl rfl rfl ?_
        refine WL.q (oq_move rfl) rfl rfl rfl ?_
        refine WL.q (oq_nilCheck rfl) rfl rfl rfl ?_
        refine WL.q (oq_fieldAddr fld209_1 rfl) rfl rfl rfl ?_
        refine WL.q (oq_load flat207 rfl (.head _) (List.mem_singleton.2 rfl) rfl) rfl rfl rfl ?_
        refine WL.q (oq_pesame Tryz.underlying207 ty234 rfl rfl) rfl rfl rfl ?_
        refine WL.nil (WE.then_normal (WC.sub (fr' := [(0, _), (6, _), (7, _), (54, _)]) ?_ ⟨rfl, rfl, rfl, rfl, trivial⟩))
        refine WC.cond_t rfl ?_
        refine WC.seq (WC.region ?_)
        refine WL.f1 ?_
        refine WL.reg (reg_out (show (ch 207 234 232 (items) .nilIface).Perm ([(p.b, .cells #[nextOf 207 (x :: []) .nilIface, wv 232 p] 234 (0, 0))] ++ (ch 207 234 232 (A2) (.iface 207 (Pt p.b 0)) ++ ch 207 234 232 (x :: []) .nilIface)) from by rw [hit2]; exact ch_out _ _ _ _)) ?_
        refine WL.q (oq_move rfl) rfl rfl rfl ?_
        refine WL.q (oq_nilCheck rfl) rfl rfl rfl ?_
        refine WL.q (oq_fieldAddr fld234_0 rfl) rfl rfl rfl ?_
        refine WL.store1 #[_, _] ty151 rfl rfl (by first | rfl | exact OwS.one one_) (Nat.lt_of_lt_of_le (Nat.lt_succ_self _) (Nat.le_of_ble_eq_true rfl)) rfl rfl ?_
        refine WL.nil (WE.then_normal (WC.sub (fr' := [(0, _), (6, _), (7, _)]) ?_ ⟨rfl, rfl, rfl, trivial⟩))
        refine WC.region ?_
        refine WL.q (oq_move rfl) rfl rfl rfl ?_
        refine WL.q (oq_move rfl) rfl rfl rfl ?_
        refine WL.q (oq_nilCheck rfl) rfl rfl rfl ?_
        refine WL.q (oq_fieldAddr fld209_1 rfl) rfl rfl rfl ?_
        refine WL.f2 ?_
        refine WL.store1 #[_, _] ty207 rfl rfl (by first | rfl | exact OwS.one one_) (Nat.lt_of_lt_of_le (Nat.lt_succ_self _) (Nat.le_of_ble_eq_true rfl)) rfl rfl ?_
        refine WL.nil (WE.then_normal (WC.sub (fr' := [(6, _)]) ?_ ⟨rfl, trivial⟩))
        refine WC.seq (WC.region ?_)
        refine WL.q (oq_move rfl) rfl rfl rfl ?_
        refine WL.q (oq_nilCheck rfl) rfl rfl rfl ?_
        refine WL.q (oq_fieldAddr fld234_1 rfl) rfl rfl rfl ?_
        refine WL.q (oq_load flat146 rfl (.tail _ (.tail _ (.head _))) (List.mem_append_right _ List.mem_cons_self) rfl) rfl rfl rfl ?_
        refine WL.q (oq_assign rfl) rfl rfl rfl ?_
        refine WL.f2 ?_
        refine WL.reg (reg_out (show (ch 207 234 232 (A2) (.iface 207 (Pt p.b 0)) ++ ch 207 234 232 (x :: []) .nilIface).Perm ([(x.b, .cells #[nextOf 207 ([]) .nilIface, wv 232 x] 234 (0, 0))] ++ (ch 207 234 232 (A2) (.iface 207 (Pt p.b 0)) ++ ch 207 234 232 ([]) .nilIface)) from List.perm_middle)) ?_
        refine WL.q (oq_assign rfl) rfl rfl rfl ?_
        refine WL.nil (WE.then_normal (WC.sub (fr' := [(4, _), (5, _)]) ?_ ⟨rfl, rfl, trivial⟩))
        refine WC.ret ?_
        refine WE.lose hbx ?_
        refine WE.f3 ?_
        refine WE.f1 ?_
        refine WE.f3 ?_
        refine WE.f3 ?_
        refine WE.endW3 (.inl rfl) (res2 Tryz.results78 rfl rfl) ?_
        -- end 0
        exact ⟨rfl, perm2 (by rw [hhp]) (by simp only [List.flatten_cons, List.flatten_nil, List.append_nil]; exact ch_del A2 p [] _)⟩

/-- (*given.example/pub-tinwright/pub/smithy/middleware.BuildStep).Remove -/
theorem remM2 (base sb : Nat) (x : Nd) (items : List Nd) (hbx : base ≤ x.b) (y : Nd) (B2 B3 : List Nd) (l : Nd) (hB : y :: B2 = B3 ++ [l]) (h : Nd) (rr A2 : List Nd) (p : Nd) (hA0 : A2 ++ [p] = h :: rr) (hit : items = (A2 ++ [p]) ++ x :: (y :: B2)) (hA : ∀ y ∈ A2 ++ [p], y.id ≠ x.id) : FnW Tryz.prog 78 [Pt sb 0, S x.id] base [[(sb, .cells #[(hdp (items)), (lastp (items))] 209 (0, 0))], ch 207 234 232 items .nilIface] (fun v Hs => v = .tuple #[wv 232 x, .nilIface] ∧ Hs.flatten.Perm ([[(sb, .cells #[(hdp (A2 ++ p :: y :: B2)), (lastp (A2 ++ p :: y :: B2))] 209 (0, 0))], ch 207 234 232 (A2 ++ p :: y :: B2) .nilIface] : List Hp).flatten) := by
  refine FnW.enter (n := 73) Tryz.func78 rfl rfl fun w0 R0 hbase => ?_
  subst hbase
  show WC _ _ _ _ _ _ _ ([[(sb, .cells #[(hdp (items)), (lastp (items))] 209 (0, 0))], ch 207 234 232 items .nilIface, R0])
  refine WC.sub (fr' := [(0, _), (1, _)]) ?_ ⟨rfl, rfl, trivial⟩
  refine WC.seq (WC.region ?_)
  refine WL.q (oq_assign rfl) rfl rfl rfl ?_
  refine WL.q (oq_assign rfl) rfl rfl rfl ?_
  refine WL.nil (WE.then_normal (WC.sub (fr' := [(0, _), (1, _)]) ?_ ⟨rfl, rfl, trivial⟩))
  refine WC.seq (WC.region ?_)
  refine WL.q (oq_move rfl) rfl rfl rfl ?_
  refine WL.q (oq_move rfl) rfl rfl rfl ?_
  refine WL.f1 ?_
  refine WL.f1 ?_
  refine WL.callW2 (gotH2 _ sb x.id (A2 ++ [p]) (y :: B2) x items hit rfl hA) call116 rfl rfl rfl fun v1_2 Hs1_2 hR1_2 => ?_
  obtain ⟨rfl, rfl⟩ := hR1_2
  rw [lastp_snoc]
  refine WL.to2 ?_
  refine WL.q (oq_move rfl) rfl rfl rfl ?_
  refine WL.q (oq_extract rfl rfl) rfl rfl rfl ?_
  refine WL.q (oq_extract rfl rfl) rfl rfl rfl ?_
  refine WL.q (oq_assign rfl) rfl rfl rfl ?_
  refine WL.q (oq_assign rfl) rfl rfl rfl ?_
  refine WL.nil (WE.then_normal (WC.sub (fr' := [(0, _), (6, _), (7, _)]) ?_ ⟨rfl, rfl, rfl, trivial⟩))
  refine WC.seq (WC.seq (WC.region ?_))
  refine WL.q (oq_move rfl) rfl rfl rfl ?_
  refine WL.q (oq_peql Tryz.underlying207 rfl rfl) rfl rfl rfl ?_
  refine WL.nil (WE.then_normal (WC.sub (fr' := [(0, _), (6, _), (7, _), (15, _)]) ?_ ⟨rfl, rfl, rfl, rfl, trivial⟩))
  refine WC.cond rfl (fun q2 => ?_) (fun q2 => ?_)
  ·
    try simp only [Z1, Z2, Z3, Z4, Z5, Z6, Z7, Z8, Z9, Z0] at q2
    first | (simp at q2; done) | exact absurd q4 hhl | exact absurd q4.symm hhl | exact absurd q7 hxh | exact absurd q7.symm hxh | exact absurd q9 hxl | exact absurd q9.symm hxl | (exfalso; omega)
  ·
    try simp only [Z1, Z2, Z3, Z4, Z5, Z6, Z7, Z8, Z9, Z0] at q2
    refine WC.skip (WE.then_normal (WC.sub (fr' := [(0, _), (6, _), (7, _)]) ?_ ⟨rfl, rfl, rfl, trivial⟩))
    refine WC.seq (WC.seq ?_)
    refine WC.distinct fun hdd => ?_
    have hnn := nd_of hdd
    have hit2 : items = A2 ++ p :: x :: (y :: B2) := by rw [hit]; simp
    have hith : items = [] ++ h :: (rr ++ x :: (y :: B2)) := by rw [hit, hA0]; rfl
    have hxh : h.b ≠ x.b := nd_ne hnn hit (.inl (by rw [hA0]; simp))
    have hh : hdp items = Pt h.b 0 := by rw [hith]; rfl
    have hhp : hdp (A2 ++ [p]) = Pt h.b 0 := by rw [hA0]; rfl
    have hitl : items = ((A2 ++ [p]) ++ x :: B3) ++ l :: [] := by rw [hit, hB]; simp
    have hxl : l.b ≠ x.b := nd_ne hnn hit (.inr (by rw [hB]; simp))
    have hhl : h.b ≠ l.b := nd_ne hnn hitl (.inl (by rw [hA0]; simp))
    have ht : lastp items = Pt l.b 0 := by rw [hitl]; exact lastp_snoc _ _
    rw [hh, ht]
    refine WC.quiet (by kernel_rfl) (by kernel_rfl) ?_
    refine WQ.q (oq_move rfl) rfl rfl rfl ?_
    refine WQ.q (oq_nilCheck rfl) rfl rfl rfl ?_
    refine WQ.q (oq_fieldAddr fld209_0 rfl) rfl rfl rfl ?_
    refine WQ.q (oq_load flat207 rfl (.head _) (List.mem_singleton.2 rfl) rfl) rfl rfl rfl ?_
    refine WQ.q (oq_move rfl) rfl rfl rfl ?_
    refine WQ.q (oq_nilCheck rfl) rfl rfl rfl ?_
    refine WQ.q (oq_fieldAddr fld209_1 rfl) rfl rfl rfl ?_
    refine WQ.q (oq_load flat207 rfl (.head _) (List.mem_singleton.2 rfl) rfl) rfl rfl rfl ?_
    refine WQ.q (oq_peq Tryz.underlying207 ty234 (by decide) (.tail _ (.head _)) (mem_of hith) (.tail _ (.head _)) (mem_of hitl) rfl rfl) rfl rfl rfl ?_
    refine WQ.nil (WE.then_normal (WC.sub (fr' := [(0, _), (6, _), (7, _), (25, _)]) ?_ ⟨rfl, rfl, rfl, rfl, trivial⟩))
    refine WC.cond rfl (fun q4 => ?_) (fun q4 => ?_)
    ·
      try simp only [Z1, Z2, Z3, Z4, Z5, Z6, Z7, Z8, Z9, Z0] at q4
      first | (simp at q2; done) | exact absurd q4 hhl | exact absurd q4.symm hhl | exact absurd q7 hxh | exact absurd q7.symm hxh | exact absurd q9 hxl | exact absurd q9.symm hxl | (exfalso; omega)
    ·
      try simp only [Z1, Z2, Z3, Z4, Z5, Z6, Z7, Z8, Z9, Z0] at q4
      refine WC.seq (WC.region ?_)
      refine WL.q (oq_move rfl) rfl rfl rfl ?_
      refine WL.q (oq_move rfl) rfl rfl rfl ?_
      refine WL.q (oq_nilCheck rfl) rfl rfl rfl ?_
      refine WL.q (oq_fieldAddr fld209_0 rfl) rfl rfl rfl ?_
      refine WL.q (oq_load flat207 rfl (.head _) (List.mem_singleton.2 rfl) rfl) rfl rfl rfl ?_
      refine WL.q (oq_peq Tryz.underlying207 ty234 (by decide) (.tail _ (.head _)) (mem_of hit) (.tail _ (.head _)) (mem_of hith) rfl rfl) rfl rfl rfl ?_
      refine WL.nil (WE.then_normal (WC.sub (fr' := [(0, _), (6, _), (7, _), (37, _)]) ?_ ⟨rfl, rfl, rfl, rfl, trivial⟩))
      refine WC.cond rfl (fun q7 => ?_) (fun q7 => ?_)
      ·
        try simp only [Z1, Z2, Z3, Z4, Z5, Z6, Z7, Z8, Z9, Z0] at q7
        first | (simp at q2; done) | exact absurd q4 hhl | exact absurd q4.symm hhl | exact absurd q7 hxh | exact absurd q7.symm hxh | exact absurd q9 hxl | exact absurd q9.symm hxl | (exfalso; omega)
      ·
        try simp only [Z1, Z2, Z3, Z4, Z5, Z6, Z7, Z8, Z9, Z0] at q7
        refine WC.seq (WC.region ?_)
        refine WL.q (oq_move rfl) rfl rfl rfl ?_
        refine WL.q (oq_move rfl) rfl rfl rfl ?_
        refine WL.q (oq_nilCheck rfl) rfl rfl rfl ?_
        refine WL.q (oq_fieldAddr fld209_1 rfl) rfl rfl rfl ?_
        refine WL.q (oq_load flat207 rfl (.head _) (List.mem_singleton.2 rfl) rfl) rfl rfl rfl ?_
        refine WL.q (oq_peq Tryz.underlying207 ty234 (by decide) (.tail _ (.head _)) (mem_of hit) (.tail _ (.head _)) (mem_of hitl) rfl rfl) rfl rfl rfl ?_
        refine WL.nil (WE.then_normal (WC.sub (fr' := [(0, _), (6, _), (7, _), (54, _)]) ?_ ⟨rfl, rfl, rfl, rfl, trivial⟩))
        refine WC.cond rfl (fun q9 => ?_) (fun q9 => ?_)
        ·
          try simp only [Z1, Z2, Z3, Z4, Z5, Z6, Z7, Z8, Z9, Z0] at q9
          first | (simp at q2; done) | exact absurd q4 hhl | exact absurd q4.symm hhl | exact absurd q7 hxh | exact absurd q7.symm hxh | exact absurd q9 hxl | exact absurd q9.symm hxl | (exfalso; omega)
        ·
          try simp only [Z1, Z2, Z3, Z4, Z5, Z6, Z7, Z8, Z9, Z0] at q9
          refine WC.region ?_
          refine WL.f1 ?_
          refine WL.reg (reg_out (show (ch 207 234 232 (items) .nilIface).Perm ([(p.b, .cells #[nextOf 207 (x :: y :: B2) .nilIface, wv 232 p] 234 (0, 0))] ++ (ch 207 234 232 (A2) (.iface 207 (Pt p.b 0)) ++ ch 207 234 232 (x :: y :: B2) .nilIface)) from by rw [hit2]; exact ch_out _ _ _ _)) ?_
          refine WL.q (oq_move rfl) rfl rfl rfl ?_
          refine WL.q (oq_move rfl) rfl rfl rfl ?_
          refine WL.q (oq_nilCheck rfl) rfl rfl rfl ?_
          refine WL.q (oq_fieldAddr fld234_0 rfl) rfl rfl rfl ?_
          refine WL.q (oq_load flat151 rfl (.tail _ (.head _)) (List.mem_append_right _ List.mem_cons_self) rfl) rfl rfl rfl ?_
          refine WL.q (oq_nilCheck rfl) rfl rfl rfl ?_
          refine WL.q (oq_fieldAddr fld234_0 rfl) rfl rfl rfl ?_
          refine WL.store1 #[_, _] ty151 rfl rfl (by first | rfl | exact OwS.one one_) (Nat.lt_of_lt_of_le (Nat.lt_succ_self _) (Nat.le_of_ble_eq_true rfl)) rfl rfl ?_
          refine WL.nil (WE.then_normal (WC.sub (fr' := [(6, _)]) ?_ ⟨rfl, trivial⟩))
          refine WC.seq (WC.region ?_)
          refine WL.q (oq_move rfl) rfl rfl rfl ?_
          refine WL.q (oq_nilCheck rfl) rfl rfl rfl ?_
          refine WL.q (oq_fieldAddr fld234_1 rfl) rfl rfl rfl ?_
          refine WL.q (oq_load flat146 rfl (.tail _ (.head _)) (List.mem_append_right _ List.mem_cons_self) rfl) rfl rfl rfl ?_
          refine WL.q (oq_assign rfl) rfl rfl rfl ?_
          refine WL.f1 ?_
          refine WL.reg (reg_out (show (ch 207 234 232 (A2) (.iface 207 (Pt p.b 0)) ++ ch 207 234 232 (x :: y :: B2) .nilIface).Perm ([(x.b, .cells #[nextOf 207 (y :: B2) .nilIface, wv 232 x] 234 (0, 0))] ++ (ch 207 234 232 (A2) (.iface 207 (Pt p.b 0)) ++ ch 207 234 232 (y :: B2) .nilIface)) from List.perm_middle)) ?_
          refine WL.q (oq_assign rfl) rfl rfl rfl ?_
          refine WL.nil (WE.then_normal (WC.sub (fr' := [(4, _), (5, _)]) ?_ ⟨rfl, rfl, trivial⟩))
          refine WC.ret ?_
          refine WE.lose hbx ?_
          refine WE.f3 ?_
          refine WE.f1 ?_
          refine WE.f2 ?_
          refine WE.f3 ?_
          refine WE.endW3 (.inl rfl) (res2 Tryz.results78 rfl rfl) ?_
          -- end 0
          exact ⟨rfl, perm2 (by rw [lastp_cons, last_of hB, ← hhp, hdp_cons A2 p (y :: B2) []]) (by simp only [List.flatten_cons, List.flatten_nil, List.append_nil]; exact ch_del A2 p (y :: B2) _)⟩

/-- (*given.example/pub-tinwright/pub/smithy/middleware.BuildStep).Remove -/
theorem remN2 (base sb : Nat) (by_ : List UInt8) (items : List Nd) (hn : ∀ y ∈ items, y.id ≠ by_) : FnW Tryz.prog 78 [Pt sb 0, S by_] base [[(sb, .cells #[(hdp (items)), (lastp (items))] 209 (0, 0))], ch 207 234 232 items .nilIface] (fun v Hs => (∃ k u, v = .tuple #[.nilIface, .iface k u]) ∧ Hs = [[(sb, .cells #[(hdp (items)), (lastp (items))] 209 (0, 0))], ch 207 234 232 items .nilIface]) := by
  refine FnW.enter (n := 73) Tryz.func78 rfl rfl fun w0 R0 hbase => ?_
  subst hbase
  show WC _ _ _ _ _ _ _ ([[(sb, .cells #[(hdp (items)), (lastp (items))] 209 (0, 0))], ch 207 234 232 items .nilIface, R0])
  refine WC.sub (fr' := [(0, _), (1, _)]) ?_ ⟨rfl, rfl, trivial⟩
  refine WC.seq (WC.region ?_)
  refine WL.q (oq_assign rfl) rfl rfl rfl ?_
  refine WL.q (oq_assign rfl) rfl rfl rfl ?_
  refine WL.nil (WE.then_normal (WC.sub (fr' := [(0, _), (1, _)]) ?_ ⟨rfl, rfl, trivial⟩))
  refine WC.seq (WC.region ?_)
  refine WL.q (oq_move rfl) rfl rfl rfl ?_
  refine WL.q (oq_move rfl) rfl rfl rfl ?_
  refine WL.f1 ?_
  refine WL.f1 ?_
  refine WL.callW2 (gotM2 _ sb by_ items hn) call116 rfl rfl rfl fun v1_2 Hs1_2 hR1_2 => ?_
  obtain ⟨rfl, rfl⟩ := hR1_2
  refine WL.to2 ?_
  refine WL.q (oq_move rfl) rfl rfl rfl ?_
  refine WL.q (oq_extract rfl rfl) rfl rfl rfl ?_
  refine WL.q (oq_extract rfl rfl) rfl rfl rfl ?_
  refine WL.q (oq_assign rfl) rfl rfl rfl ?_
  refine WL.q (oq_assign rfl) rfl rfl rfl ?_
  refine WL.nil (WE.then_normal (WC.sub (fr' := [(0, _), (6, _), (7, _)]) ?_ ⟨rfl, rfl, rfl, trivial⟩))
  refine WC.seq (WC.seq (WC.region ?_))
  refine WL.q (oq_move rfl) rfl rfl rfl ?_
  refine WL.q (oq_peql Tryz.underlying207 rfl rfl) rfl rfl rfl ?_
  refine WL.nil (WE.then_normal (WC.sub (fr' := [(0, _), (6, _), (7, _), (15, _)]) ?_ ⟨rfl, rfl, rfl, rfl, trivial⟩))
  refine WC.cond rfl (fun q2 => ?_) (fun q2 => ?_)
  ·
    try simp only [Z1, Z2, Z3, Z4, Z5, Z6, Z7, Z8, Z9, Z0] at q2
    refine WC.seq (WC.region ?_)
    refine WL.callA0 (errNew _) call113 rfl rfl rfl fun v3_0 N3_0 hR3_0 hN3_0 => ?_
    obtain ⟨ek, eu, rfl⟩ := hR3_0
    refine WL.q (oq_assign rfl) rfl rfl rfl ?_
    refine WL.q (oq_assign rfl) rfl rfl rfl ?_
    refine WL.nil (WE.then_normal (WC.sub (fr' := [(4, _), (5, _)]) ?_ ⟨rfl, rfl, trivial⟩))
    refine WC.ret (WE.then_ret ?_)
    refine WE.forget hN3_0 ?_
    refine WE.endW2 (.inl rfl) (res2 Tryz.results78 rfl rfl) ?_
    -- end 0
    exact ⟨⟨_, _, rfl⟩, rfl⟩
  ·
    try simp only [Z1, Z2, Z3, Z4, Z5, Z6, Z7, Z8, Z9, Z0] at q2
    simp at q2

/-- (*given.example/pub-tinwright/pub/smithy/middleware.FinalizeStep).Remove -/
theorem remO3 (base sb : Nat) (x : Nd) (items : List Nd) (hbx : base ≤ x.b) (hit : items = [] ++ x :: []) : FnW Tryz.prog 93 [Pt sb 0, S x.id] base [[(sb, .cells #[(hdp (items)), (lastp (items))] 212 (0, 0))], ch 210 241 239 items .nilIface] (fun v Hs => v = .tuple #[wv 239 x, .nilIface] ∧ Hs.flatten.Perm ([[(sb, .cells #[(hdp ([])), (lastp ([]))] 212 (0, 0))], ch 210 241 239 [] .nilIface] : List Hp).flatten) := by
  refine FnW.enter (n := 73) Tryz.func93 rfl rfl fun w0 R0 hbase => ?_
  subst hbase
  show WC _ _ _ _ _ _ _ ([[(sb, .cells #[(hdp (items)), (lastp (items))] 212 (0, 0))], ch 210 241 239 items .nilIface, R0])
  refine WC.sub (fr' := [(0, _), (1, _)]) ?_ ⟨rfl, rfl, trivial⟩
  refine WC.seq (WC.region ?_)
  refine WL.q (oq_assign rfl) rfl rfl rfl ?_
  refine WL.q (oq_assign rfl) rfl rfl rfl ?_
  refine WL.nil (WE.then_normal (WC.sub (fr' := [(0, _), (1, _)]) ?_ ⟨rfl, rfl, trivial⟩))
  refine WC.seq (WC.region ?_)
  refine WL.q (oq_move rfl) rfl rfl rfl ?_
  refine WL.q (oq_move rfl) rfl rfl rfl ?_
  refine WL.f1 ?_
  refine WL.f1 ?_
  refine WL.callW2 (gotH3 _ sb x.id [] [] x items hit rfl (by simp)) call117 rfl rfl rfl fun v1_2 Hs1_2 hR1_2 => ?_
  obtain ⟨rfl, rfl⟩ := hR1_2
  refine WL.to2 ?_
  refine WL.q (oq_move rfl) rfl rfl rfl ?_
  refine WL.q (oq_extract rfl rfl) rfl rfl rfl ?_
  refine WL.q (oq_extract rfl rfl) rfl rfl rfl ?_
  refine WL.q (oq_assign rfl) rfl rfl rfl ?_
  refine WL.q (oq_assign rfl) rfl rfl rfl ?_
  refine WL.nil (WE.then_normal (WC.sub (fr' := [(0, _), (6, _), (7, _)]) ?_ ⟨rfl, rfl, rfl, trivial⟩))
  refine WC.seq (WC.seq (WC.region ?_))
  refine WL.q (oq_move rfl) rfl rfl rfl ?_
  refine WL.q (oq_peql Tryz.underlying210 rfl rfl) rfl rfl rfl ?_
  refine WL.nil (WE.then_normal (WC.sub (fr' := [(0, _), (6, _), (7, _), (15, _)]) ?_ ⟨rfl, rfl, rfl, rfl, trivial⟩))
  refine WC.cond rfl (fun q2 => ?_) (fun q2 => ?_)
  ·
    try simp only [Z1, Z2, Z3, Z4, Z5, Z6, Z7, Z8, Z9, Z0] at q2
    first | (simp at q2; done) | exact absurd q4 hhl | exact absurd q4.symm hhl | exact absurd q7 hxh | exact absurd q7.symm hxh | exact absurd q9 hxl | exact absurd q9.symm hxl | (exfalso; omega)
  ·
    try simp only [Z1, Z2, Z3, Z4, Z5, Z6, Z7, Z8, Z9, Z0] at q2
    refine WC.skip (WE.then_normal (WC.sub (fr' := [(0, _), (6, _), (7, _)]) ?_ ⟨rfl, rfl, rfl, trivial⟩))
    refine WC.seq (WC.seq ?_)
    have hh : hdp items = Pt x.b 0 := by rw [hit]; rfl
    have ht : lastp items = Pt x.b 0 := by rw [hit]; rfl
    rw [hh, ht]
    refine WC.quiet (by kernel_rfl) (by kernel_rfl) ?_
    refine WQ.q (oq_move rfl) rfl rfl rfl ?_
    refine WQ.q (oq_nilCheck rfl) rfl rfl rfl ?_
    refine WQ.q (oq_fieldAddr fld212_0 rfl) rfl rfl rfl ?_
    refine WQ.q (oq_load flat210 rfl (.head _) (List.mem_singleton.2 rfl) rfl) rfl rfl rfl ?_
    refine WQ.q (oq_move rfl) rfl rfl rfl ?_
    refine WQ.q (oq_nilCheck rfl) rfl rfl rfl ?_
    refine WQ.q (oq_fieldAddr fld212_1 rfl) rfl rfl rfl ?_
    refine WQ.q (oq_load flat210 rfl (.head _) (List.mem_singleton.2 rfl) rfl) rfl rfl rfl ?_
    refine WQ.q (oq_pesame Tryz.underlying210 ty241 rfl rfl) rfl rfl rfl ?_
    refine WQ.nil (WE.then_normal (WC.sub (fr' := [(0, _), (6, _), (7, _), (25, _)]) ?_ ⟨rfl, rfl, rfl, rfl, trivial⟩))
    refine WC.cond_t rfl ?_
    refine WC.seq (WC.region ?_)
    refine WL.q (oq_move rfl) rfl rfl rfl ?_
    refine WL.q (oq_nilCheck rfl) rfl rfl rfl ?_
    refine WL.q (oq_fieldAddr fld212_0 rfl) rfl rfl rfl ?_
    refine WL.store1 #[_, _] ty210 rfl rfl (by first | rfl | exact OwS.one one_) (Nat.lt_of_lt_of_le (Nat.lt_succ_self _) (Nat.le_of_ble_eq_true rfl)) rfl rfl ?_
    refine WL.nil (WE.then_normal (WC.sub (fr' := [(0, _), (6, _)]) ?_ ⟨rfl, rfl, trivial⟩))
    refine WC.region ?_
    refine WL.q (oq_move rfl) rfl rfl rfl ?_
    refine WL.q (oq_nilCheck rfl) rfl rfl rfl ?_
    refine WL.q (oq_fieldAddr fld212_1 rfl) rfl rfl rfl ?_
    refine WL.store1 #[_, _] ty210 rfl rfl (by first | rfl | exact OwS.one one_) (Nat.lt_of_lt_of_le (Nat.lt_succ_self _) (Nat.le_of_ble_eq_true rfl)) rfl rfl ?_
    refine WL.nil (WE.then_normal (WC.sub (fr' := [(6, _)]) ?_ ⟨rfl, trivial⟩))
    refine WC.seq (WC.region ?_)
    refine WL.q (oq_move rfl) rfl rfl rfl ?_
    refine WL.q (oq_nilCheck rfl) rfl rfl rfl ?_
    refine WL.q (oq_fieldAddr fld241_1 rfl) rfl rfl rfl ?_
    refine WL.q (oq_load flat165 rfl (.tail _ (.head _)) (mem_of hit) rfl) rfl rfl rfl ?_
    refine WL.q (oq_assign rfl) rfl rfl rfl ?_
    refine WL.f1 ?_
    refine WL.reg (reg_out (show (ch 210 241 239 (items) .nilIface).Perm ([(x.b, .cells #[nextOf 210 ([]) .nilIface, wv 239 x] 241 (0, 0))] ++ (ch 210 241 239 ([]) (.iface 210 (Pt x.b 0)) ++ ch 210 241 239 ([]) .nilIface)) from by rw [hit]; exact ch_out _ _ _ _)) ?_
    refine WL.q (oq_assign rfl) rfl rfl rfl ?_
    refine WL.nil (WE.then_normal (WC.sub (fr' := [(4, _), (5, _)]) ?_ ⟨rfl, rfl, trivial⟩))
    refine WC.ret ?_
    refine WE.lose hbx ?_
    refine WE.f2 ?_
    refine WE.f1 ?_
    refine WE.f2 ?_
    refine WE.endW2 (.inl rfl) (res2 Tryz.results93 rfl rfl) ?_
    -- end 0
    exact ⟨rfl, perm2 rfl (by simp only [List.flatten_cons, List.flatten_nil, List.append_nil]; exact List.Perm.refl _)⟩

/-- (*given.example/pub-tinwright/pub/smithy/middleware.FinalizeStep).Remove -/
theorem remF3 (base sb : Nat) (x : Nd) (items : List Nd) (hbx : base ≤ x.b) (y : Nd) (B2 B3 : List Nd) (l : Nd) (hit : items = [] ++ x :: (y :: B2)) (hB : y :: B2 = B3 ++ [l]) : FnW Tryz.prog 93 [Pt sb 0, S x.id] base [[(sb, .cells #[(hdp (items)), (lastp (items))] 212 (0, 0))], ch 210 241 239 items .nilIface] (fun v Hs => v = .tuple #[wv 239 x, .nilIface] ∧ Hs.flatten.Perm ([[(sb, .cells #[(hdp (y :: B2)), (lastp (y :: B2))] 212 (0, 0))], ch 210 241 239 (y :: B2) .nilIface] : List Hp).flatten) := by
  refine FnW.enter (n := 73) Tryz.func93 rfl rfl fun w0 R0 hbase => ?_
  subst hbase
  show WC _ _ _ _ _ _ _ ([[(sb, .cells #[(hdp (items)), (lastp (items))] 212 (0, 0))], ch 210 241 239 items .nilIface, R0])
  refine WC.sub (fr' := [(0, _), (1, _)]) ?_ ⟨rfl, rfl, trivial⟩
  refine WC.seq (WC.region ?_)
  refine WL.q (oq_assign rfl) rfl rfl rfl ?_
  refine WL.q (oq_assign rfl) rfl rfl rfl ?_
  refine WL.nil (WE.then_normal (WC.sub (fr' := [(0, _), (1, _)]) ?_ ⟨rfl, rfl, trivial⟩))
  refine WC.seq (WC.region ?_)
  refine WL.q (oq_move rfl) rfl rfl rfl ?_
  refine WL.q (oq_move rfl) rfl rfl rfl ?_
  refine WL.f1 ?_
  refine WL.f1 ?_
  refine WL.callW2 (gotH3 _ sb x.id [] (y :: B2) x items hit rfl (by simp)) call117 rfl rfl rfl fun v1_2 Hs1_2 hR1_2 => ?_
  obtain ⟨rfl, rfl⟩ := hR1_2
  refine WL.to2 ?_
  refine WL.q (oq_move rfl) rfl rfl rfl ?_
  refine WL.q (oq_extract rfl rfl) rfl rfl rfl ?_
  refine WL.q (oq_extract rfl rfl) rfl rfl rfl ?_
  refine WL.q (oq_assign rfl) rfl rfl rfl ?_
  refine WL.q (oq_assign rfl) rfl rfl rfl ?_
  refine WL.nil (WE.then_normal (WC.sub (fr' := [(0, _), (6, _), (7, _)]) ?_ ⟨rfl, rfl, rfl, trivial⟩))
  refine WC.seq (WC.seq (WC.region ?_))
  refine WL.q (oq_move rfl) rfl rfl rfl ?_
  refine WL.q (oq_peql Tryz.underlying210 rfl rfl) rfl rfl rfl ?_
  refine WL.nil (WE.then_normal (WC.sub (fr' := [(0, _), (6, _), (7, _), (15, _)]) ?_ ⟨rfl, rfl, rfl, rfl, trivial⟩))
  refine WC.cond rfl (fun q2 => ?_) (fun q2 => ?_)
  ·
    try simp only [Z1, Z2, Z3, Z4, Z5, Z6, Z7, Z8, Z9, Z0] at q2
    first | (simp at q2; done) | exact absurd q4 hhl | exact absurd q4.symm hhl | exact absurd q7 hxh | exact absurd q7.symm hxh | exact absurd q9 hxl | exact absurd q9.symm hxl | (exfalso; omega)
  ·
    try simp only [Z1, Z2, Z3, Z4, Z5, Z6, Z7, Z8, Z9, Z0] at q2
    refine WC.skip (WE.then_normal (WC.sub (fr' := [(0, _), (6, _), (7, _)]) ?_ ⟨rfl, rfl, rfl, trivial⟩))
    refine WC.seq (WC.seq ?_)
    refine WC.distinct fun hdd => ?_
    have hnn := nd_of hdd
    have hhl : l.b ≠ x.b := nd_ne hnn hit (.inr (by rw [hB]; simp))
    have hit3 : items = (x :: B3) ++ l :: [] := by rw [hit, hB]; rfl
    have hh : hdp items = Pt x.b 0 := by rw [hit]; rfl
    have ht : lastp items = Pt l.b 0 := by rw [hit3]; exact lastp_snoc _ _
    rw [hh, ht]
    refine WC.quiet (by kernel_rfl) (by kernel_rfl) ?_
    refine WQ.q (oq_move rfl) rfl rfl rfl ?_
    refine WQ.q (oq_nilCheck rfl) rfl rfl rfl ?_
    refine WQ.q (oq_fieldAddr fld212_0 rfl) rfl rfl rfl ?_
    refine WQ.q (oq_load flat210 rfl (.head _) (List.mem_singleton.2 rfl) rfl) rfl rfl rfl ?_
    refine WQ.q (oq_move rfl) rfl rfl rfl ?_
    refine WQ.q (oq_nilCheck rfl) rfl rfl rfl ?_
    refine WQ.q (oq_fieldAddr fld212_1 rfl) rfl rfl rfl ?_
    refine WQ.q (oq_load flat210 rfl (.head _) (List.mem_singleton.2 rfl) rfl) rfl rfl rfl ?_
    refine WQ.q (oq_peq Tryz.underlying210 ty241 (by decide) (.tail _ (.head _)) (mem_of hit) (.tail _ (.head _)) (mem_of hit3) rfl rfl) rfl rfl rfl ?_
    refine WQ.nil (WE.then_normal (WC.sub (fr' := [(0, _), (6, _), (7, _), (25, _)]) ?_ ⟨rfl, rfl, rfl, rfl, trivial⟩))
    refine WC.cond rfl (fun q4 => ?_) (fun q4 => ?_)
    ·
      try simp only [Z1, Z2, Z3, Z4, Z5, Z6, Z7, Z8, Z9, Z0] at q4
      first | (simp at q2; done) | exact absurd q4 hhl | exact absurd q4.symm hhl | exact absurd q7 hxh | exact absurd q7.symm hxh | exact absurd q9 hxl | exact absurd q9.symm hxl | (exfalso; omega)
    ·
      try simp only [Z1, Z2, Z3, Z4, Z5, Z6, Z7, Z8, Z9, Z0] at q4
      refine WC.seq (WC.region ?_)
      refine WL.q (oq_move rfl) rfl rfl rfl ?_
      refine WL.q (oq_move rfl) rfl rfl rfl ?_
      refine WL.q (oq_nilCheck rfl) rfl rfl rfl ?_
      refine WL.q (oq_fieldAddr fld212_0 rfl) rfl rfl rfl ?_
      refine WL.q (oq_load flat210 rfl (.head _) (List.mem_singleton.2 rfl) rfl) rfl rfl rfl ?_
      refine WL.q (oq_pesame Tryz.underlying210 ty241 rfl rfl) rfl rfl rfl ?_
      refine WL.nil (WE.then_normal (WC.sub (fr' := [(0, _), (6, _), (7, _), (37, _)]) ?_ ⟨rfl, rfl, rfl, rfl, trivial⟩))
      refine WC.cond_t rfl ?_
      refine WC.region ?_
      refine WL.q (oq_move rfl) rfl rfl rfl ?_
      refine WL.q (oq_move rfl) rfl rfl rfl ?_
      refine WL.q (oq_nilCheck rfl) rfl rfl rfl ?_
      refine WL.q (oq_fieldAddr fld212_0 rfl) rfl rfl rfl ?_
      refine WL.q (oq_load flat210 rfl (.head _) (List.mem_singleton.2 rfl) rfl) rfl rfl rfl ?_
      refine WL.q (oq_nilCheck rfl) rfl rfl rfl ?_
      refine WL.q (oq_fieldAddr fld241_0 rfl) rfl rfl rfl ?_
      refine WL.q (oq_load flat169 rfl (.tail _ (.head _)) (mem_of hit) rfl) rfl rfl rfl ?_
      refine WL.q (oq_askT conc210 rfl) rfl rfl rfl ?_
      refine WL.q (oq_nilCheck rfl) rfl rfl rfl ?_
      refine WL.q (oq_fieldAddr fld212_0 rfl) rfl rfl rfl ?_
      refine WL.store1 #[_, _] ty210 rfl rfl (by first | rfl | exact OwS.one one_) (Nat.lt_of_lt_of_le (Nat.lt_succ_self _) (Nat.le_of_ble_eq_true rfl)) rfl rfl ?_
      refine WL.nil (WE.then_normal (WC.sub (fr' := [(6, _)]) ?_ ⟨rfl, trivial⟩))
      refine WC.seq (WC.region ?_)
      refine WL.q (oq_move rfl) rfl rfl rfl ?_
      refine WL.q (oq_nilCheck rfl) rfl rfl rfl ?_
      refine WL.q (oq_fieldAddr fld241_1 rfl) rfl rfl rfl ?_
      refine WL.q (oq_load flat165 rfl (.tail _ (.head _)) (mem_of hit) rfl) rfl rfl rfl ?_
      refine WL.q (oq_assign rfl) rfl rfl rfl ?_
      refine WL.f1 ?_
      refine WL.reg (reg_out (show (ch 210 241 239 (items) .nilIface).Perm ([(x.b, .cells #[nextOf 210 (y :: B2) .nilIface, wv 239 x] 241 (0, 0))] ++ (ch 210 241 239 ([]) (.iface 210 (Pt x.b 0)) ++ ch 210 241 239 (y :: B2) .nilIface)) from by rw [hit]; exact ch_out _ _ _ _)) ?_
      refine WL.q (oq_assign rfl) rfl rfl rfl ?_
      refine WL.nil (WE.then_normal (WC.sub (fr' := [(4, _), (5, _)]) ?_ ⟨rfl, rfl, trivial⟩))
      refine WC.ret ?_
      refine WE.lose hbx ?_
      refine WE.f2 ?_
      refine WE.f1 ?_
      refine WE.f2 ?_
      refine WE.endW2 (.inl rfl) (res2 Tryz.results93 rfl rfl) ?_
      -- end 0
      exact ⟨rfl, perm2 (by rw [last_of hB]; rfl) (by simp only [List.flatten_cons, List.flatten_nil, List.append_nil]; exact List.Perm.refl _)⟩

/-- (*given.example/pub-tinwright/pub/smithy/middleware.FinalizeStep).Remove -/
theorem remL3 (base sb : Nat) (x : Nd) (items : List Nd) (hbx : base ≤ x.b) (h : Nd) (rr A2 : List Nd) (p : Nd) (hA0 : A2 ++ [p] = h :: rr) (hit : items = (A2 ++ [p]) ++ x :: ([])) (hA : ∀ y ∈ A2 ++ [p], y.id ≠ x.id) : FnW Tryz.prog 93 [Pt sb 0, S x.id] base [[(sb, .cells #[(hdp (items)), (lastp (items))] 212 (0, 0))], ch 210 241 239 items .nilIface] (fun v Hs => v = .tuple #[wv 239 x, .nilIface] ∧ Hs.flatten.Perm ([[(sb, .cells #[(hdp (A2 ++ p :: [])), (lastp (A2 ++ p :: []))] 212 (0, 0))], ch 210 241 239 (A2 ++ p :: []) .nilIface] : List Hp).flatten) := by
  refine FnW.enter (n := 73) Tryz.func93 rfl rfl fun w0 R0 hbase => ?_
  subst hbase
  show WC _ _ _ _ _ _ _ ([[(sb, .cells #[(hdp (items)), (lastp (items))] 212 (0, 0))], ch 210 241 239 items .nilIface, R0])
  refine WC.sub (fr' := [(0, _), (1, _)]) ?_ ⟨rfl, rfl, trivial⟩
  refine WC.seq (WC.region ?_)
  refine WL.q (oq_assign rfl) rfl rfl rfl ?_
  refine WL.q (oq_assign rfl) rfl rfl rfl ?_
  refine WL.nil (WE.then_normal (WC.sub (fr' := [(0, _), (1, _)]) ?_ ⟨rfl, rfl, trivial⟩))
  refine WC.seq (WC.region ?_)
  refine WL.q (oq_move rfl) rfl rfl rfl ?_
  refine WL.q (oq_move rfl) rfl rfl rfl ?_
  refine WL.f1 ?_
  refine WL.f1 ?_
  refine WL.callW2 (gotH3 _ sb x.id (A2 ++ [p]) [] x items hit rfl hA) call117 rfl rfl rfl fun v1_2 Hs1_2 hR1_2 => ?_
  obtain ⟨rfl, rfl⟩ := hR1_2
  rw [lastp_snoc]
  refine WL.to2 ?_
  refine WL.q (oq_move rfl) rfl rfl rfl ?_
  refine WL.q (oq_extract rfl rfl) rfl rfl rfl ?_
  refine WL.q (oq_extract rfl rfl) rfl rfl rfl ?_
  refine WL.q (oq_assign rfl) rfl rfl rfl ?_
  refine WL.q (oq_assign rfl) rfl rfl rfl ?_
  refine WL.nil (WE.then_normal (WC.sub (fr' := [(0, _), (6, _), (7, _)]) ?_ ⟨rfl, rfl, rfl, trivial⟩))
  refine WC.seq (WC.seq (WC.region ?_))
  refine WL.q (oq_move rfl) rfl rfl rfl ?_
  refine WL.q (oq_peql Tryz.underlying210 rfl rfl) rfl rfl rfl ?_
  refine WL.nil (WE.then_normal (WC.sub (fr' := [(0, _), (6, _), (7, _), (15, _)]) ?_ ⟨rfl, rfl, rfl, rfl, trivial⟩))
  refine WC.cond rfl (fun q2 => ?_) (fun q2 => ?_)
  ·
    try simp only [Z1, Z2, Z3, Z4, Z5, Z6, Z7, Z8, Z9, Z0] at q2
    first | (simp at q2; done) | exact absurd q4 hhl | exact absurd q4.symm hhl | exact absurd q7 hxh | exact absurd q7.symm hxh | exact absurd q9 hxl | exact absurd q9.symm hxl | (exfalso; omega)
  ·
    try simp only [Z1, Z2, Z3, Z4, Z5, Z6, Z7, Z8, Z9, Z0] at q2
    refine WC.skip (WE.then_normal (WC.sub (fr' := [(0, _), (6, _), (7, _)]) ?_ ⟨rfl, rfl, rfl, trivial⟩))
    refine WC.seq (WC.seq ?_)
    refine WC.distinct fun hdd => ?_
    have hnn := nd_of hdd
    have hit2 : items = A2 ++ p :: x :: ([]) := by rw [hit]; simp
    have hith : items = [] ++ h :: (rr ++ x :: ([])) := by rw [hit, hA0]; rfl
    have hxh : h.b ≠ x.b := nd_ne hnn hit (.inl (by rw [hA0]; simp))
    have hh : hdp items = Pt h.b 0 := by rw [hith]; rfl
    have hhp : hdp (A2 ++ [p]) = Pt h.b 0 := by rw [hA0]; rfl
    have hhl := hxh
    have ht : lastp items = Pt x.b 0 := by rw [hit]; exact lastp_snoc _ _
    rw [hh, ht]
    refine WC.quiet (by kernel_rfl) (by kernel_rfl) ?_
    refine WQ.q (oq_move rfl) rfl rfl rfl ?_
    refine WQ.q (oq_nilCheck rfl) rfl rfl rfl ?_
    refine WQ.q (oq_fieldAddr fld212_0 rfl) rfl rfl rfl ?_
    refine WQ.q (oq_load flat210 rfl (.head _) (List.mem_singleton.2 rfl) rfl) rfl rfl rfl ?_
    refine WQ.q (oq_move rfl) rfl rfl rfl ?_
    refine WQ.q (oq_nilCheck rfl) rfl rfl rfl ?_
    refine WQ.q (oq_fieldAddr fld212_1 rfl) rfl rfl rfl ?_
    refine WQ.q (oq_load flat210 rfl (.head _) (List.mem_singleton.2 rfl) rfl) rfl rfl rfl ?_
    refine WQ.q (oq_peq Tryz.underlying210 ty241 (by decide) (.tail _ (.head _)) (mem_of hith) (.tail _ (.head _)) (mem_of hit) rfl rfl) rfl rfl rfl ?_
    refine WQ.nil (WE.then_normal (WC.sub (fr' := [(0, _), (6, _), (7, _), (25, _)]) ?_ ⟨rfl, rfl, rfl, rfl, trivial⟩))
    refine WC.cond rfl (fun q4 => ?_) (fun q4 => ?_)
    ·
      try simp only [Z1, Z2, Z3, Z4, Z5, Z6, Z7, Z8, Z9, Z0] at q4
      first | (simp at q2; done) | exact absurd q4 hhl | exact absurd q4.symm hhl | exact absurd q7 hxh | exact absurd q7.symm hxh | exact absurd q9 hxl | exact absurd q9.symm hxl | (exfalso; omega)
    ·
      try simp only [Z1, Z2, Z3, Z4, Z5, Z6, Z7, Z8, Z9, Z0] at q4
      refine WC.seq (WC.region ?_)
      refine WL.q (oq_move rfl) rfl rfl rfl ?_
      refine WL.q (oq_move rfl) rfl rfl rfl ?_
      refine WL.q (oq_nilCheck rfl) rfl rfl rfl ?_
      refine WL.q (oq_fieldAddr fld212_0 rfl) rfl rfl rfl ?_
      refine WL.q (oq_load flat210 rfl (.head _) (List.mem_singleton.2 rfl) rfl) rfl rfl rfl ?_
      refine WL.q (oq_peq Tryz.underlying210 ty241 (by decide) (.tail _ (.head _)) (mem_of hit) (.tail _ (.head _)) (mem_of hith) rfl rfl) rfl rfl rfl ?_
      refine WL.nil (WE.then_normal (WC.sub (fr' := [(0, _), (6, _), (7, _), (37, _)]) ?_ ⟨rfl, rfl, rfl, rfl, trivial⟩))
      refine WC.cond rfl (fun q7 => ?_) (fun q7 => ?_)
      ·
        try simp only [Z1, Z2, Z3, Z4, Z5, Z6, Z7, Z8, Z9, Z0] at q7
        first | (simp at q2; done) | exact absurd q4 hhl | exact absurd q4.symm hhl | exact absurd q7 hxh | exact absurd q7.symm hxh | exact absurd q9 hxl | exact absurd q9.symm hxl | (exfalso; omega)
      ·
        try simp only [Z1, Z2, Z3, Z4, Z5, Z6, Z7, Z8, Z9, Z0] at q7
        refine WC.seq (WC.region ?_)
        refine WL.q (oq_move rfl) rfl rfl rfl ?_
        refine WL.q (oq_move rfl) rfl rfl rfl ?_
        refine WL.q (oq_nilCheck rfl) rfl rfl rfl ?_
        refine WL.q (oq_fieldAddr fld212_1 rfl) rfl rfl rfl ?_
        refine WL.q (oq_load flat210 rfl (.head _) (List.mem_singleton.2 rfl) rfl) rfl rfl rfl ?_
        refine WL.q (oq_pesame Tryz.underlying210 ty241 rfl rfl) rfl rfl rfl ?_
        refine WL.nil (WE.then_normal (WC.sub (fr' := [(0, _), (6, _), (7, _), (54, _)]) ?_ ⟨rfl, rfl, rfl, rfl, trivial⟩))
        refine WC.cond_t rfl ?_
        refine WC.seq (WC.region ?_)
        refine WL.f1 ?_
        refine WL.reg (reg_out (show (ch 210 241 239 (items) .nilIface).Perm ([(p.b, .cells #[nextOf 210 (x :: []) .nilIface, wv 239 p] 241 (0, 0))] ++ (ch 210 241 239 (A2) (.iface 210 (Pt p.b 0)) ++ ch 210 241 239 (x :: []) .nilIface)) from by rw [hit2]; exact ch_out _ _ _ _)) ?_
        refine WL.q (oq_move rfl) rfl rfl rfl ?_
        refine WL.q (oq_nilCheck rfl) rfl rfl rfl ?_
        refine WL.q (oq_fieldAddr fld241_0 rfl) rfl rfl rfl ?_
        refine WL.store1 #[_, _] ty169 rfl rfl (by first | rfl | exact OwS.one one_) (Nat.lt_of_lt_of_le (Nat.lt_succ_self _) (Nat.le_of_ble_eq_true rfl)) rfl rfl ?_
        refine WL.nil (WE.then_normal (WC.sub (fr' := [(0, _), (6, _), (7, _)]) ?_ ⟨rfl, rfl, rfl, trivial⟩))
        refine WC.region ?_
        refine WL.q (oq_move rfl) rfl rfl rfl ?_
        refine WL.q (oq_move rfl) rfl rfl rfl ?_
        refine WL.q (oq_nilCheck rfl) rfl rfl rfl ?_
        refine WL.q (oq_fieldAddr fld212_1 rfl) rfl rfl rfl ?_
        refine WL.f2 ?_
        refine WL.store1 #[_, _] ty210 rfl rfl (by first | rfl | exact OwS.one one_) (Nat.lt_of_lt_of_le (Nat.lt_succ_self _) (Nat.le_of_ble_eq_true rfl)) rfl rfl ?_
        refine WL.nil (WE.then_normal (WC.sub (fr' := [(6, _)]) ?_ ⟨rfl, trivial⟩))
        refine WC.seq (WC.region ?_)
        refine WL.q (oq_move rfl) rfl rfl rfl ?_
        refine WL.q (oq_nilCheck rfl) rfl rfl rfl ?_
        refine WL.q (oq_fieldAddr fld241_1 rfl) rfl rfl rfl ?_
        refine WL.q (oq_load flat165 rfl (.tail _ (.tail _ (.head _))) (List.mem_append_right _ List.mem_cons_self) rfl) rfl rfl rfl ?_
        refine WL.q (oq_assign rfl) rfl rfl rfl ?_
        refine WL.f2 ?_
        refine WL.reg (reg_out (show (ch 210 241 239 (A2) (.iface 210 (Pt p.b 0)) ++ ch 210 241 239 (x :: []) .nilIface).Perm ([(x.b, .cells #[nextOf 210 ([]) .nilIface, wv 239 x] 241 (0, 0))] ++ (ch 210 241 239 (A2) (.iface 210 (Pt p.b 0)) ++ ch 210 241 239 ([]) .nilIface)) from List.perm_middle)) ?_
        refine WL.q (oq_assign rfl) rfl rfl rfl ?_
        refine WL.nil (WE.then_normal (WC.sub (fr' := [(4, _), (5, _)]) ?_ ⟨rfl, rfl, trivial⟩))
        refine WC.ret ?_
        refine WE.lose hbx ?_
        refine WE.f3 ?_
        refine WE.f1 ?_
        refine WE.f3 ?_
        refine WE.f3 ?_
        refine WE.endW3 (.inl rfl) (res2 Tryz.results93 rfl rfl) ?_
        -- end 0
        exact ⟨rfl, perm2 (by rw [hhp]) (by simp only [List.flatten_cons, List.flatten_nil, List.append_nil]; exact ch_del A2 p [] _)⟩

/-- (*given.example/pub-tinwright/pub/smithy/middleware.FinalizeStep).Remove -/
theorem remM3 (base sb : Nat) (x : Nd) (items : List Nd) (hbx : base ≤ x.b) (y : Nd) (B2 B3 : List Nd) (l : Nd) (hB : y :: B2 = B3 ++ [l]) (h : Nd) (rr A2 : List Nd) (p : Nd) (hA0 : A2 ++ [p] = h :: rr) (hit : items = (A2 ++ [p]) ++ x :: (y :: B2)) (hA : ∀ y ∈ A2 ++ [p], y.id ≠ x.id) : FnW Tryz.prog 93 [Pt sb 0, S x.id] base [[(sb, .cells #[(hdp (items)), (lastp (items))] 212 (0, 0))], ch 210 241 239 items .nilIface] (fun v Hs => v = .tuple #[wv 239 x, .nilIface] ∧ Hs.flatten.Perm ([[(sb, .cells #[(hdp (A2 ++ p :: y :: B2)), (lastp (A2 ++ p :: y :: B2))] 212 (0, 0))], ch 210 241 239 (A2 ++ p :: y :: B2) .nilIface] : List Hp).flatten) := by
  refine FnW.enter (n := 73) Tryz.func93 rfl rfl fun w0 R0 hbase => ?_
  subst hbase
  show WC _ _ _ _ _ _ _ ([[(sb, .cells #[(hdp (items)), (lastp (items))] 212 (0, 0))], ch 210 241 239 items .nilIface, R0])
  refine WC.sub (fr' := [(0, _), (1, _)]) ?_ ⟨rfl, rfl, trivial⟩
  refine WC.seq (WC.region ?_)
  refine WL.q (oq_assign rfl) rfl rfl rfl ?_
  refine WL.q (oq_assign rfl) rfl rfl rfl ?_
  refine WL.nil (WE.then_normal (WC.sub (fr' := [(0, _), (1, _)]) ?_ ⟨rfl, rfl, trivial⟩))
  refine WC.seq (WC.region ?_)
  refine WL.q (oq_move rfl) rfl rfl rfl ?_
  refine WL.q (oq_move rfl) rfl rfl rfl ?_
  refine WL.f1 ?_
  refine WL.f1 ?_
  refine WL.callW2 (gotH3 _ sb x.id (A2 ++ [p]) (y :: B2) x items hit rfl hA) call117 rfl rfl rfl fun v1_2 Hs1_2 hR1_2 => ?_
  obtain ⟨rfl, rfl⟩ := hR1_2
  rw [lastp_snoc]
  refine WL.to2 ?_
  refine WL.q (oq_move rfl) rfl rfl rfl ?_
  refine WL.q (oq_extract rfl rfl) rfl rfl rfl ?_
  refine WL.q (oq_extract rfl rfl) rfl rfl rfl ?_
  refine WL.q (oq_assign rfl) rfl rfl rfl ?_
  refine WL.q (oq_assign rfl) rfl rfl rfl ?_
  refine WL.nil (WE.then_normal (WC.sub (fr' := [(0, _), (6, _), (7, _)]) ?_ ⟨rfl, rfl, rfl, trivial⟩))
  refine WC.seq (WC.seq (WC.region ?_))
  refine WL.q (oq_move rfl) rfl rfl rfl ?_
  refine WL.q (oq_peql Tryz.underlying210 rfl rfl) rfl rfl rfl ?_
  refine WL.nil (WE.then_normal (WC.sub (fr' := [(0, _), (6, _), (7, _), (15, _)]) ?_ ⟨rfl, rfl, rfl, rfl, trivial⟩))
  refine WC.cond rfl (fun q2 => ?_) (fun q2 => ?_)
  ·
    try simp only [Z1, Z2, Z3, Z4, Z5, Z6, Z7, Z8, Z9, Z0] at q2
    first | (simp at q2; done) | exact absurd q4 hhl | exact absurd q4.symm hhl | exact absurd q7 hxh | exact absurd q7.symm hxh | exact absurd q9 hxl | exact absurd q9.symm hxl | (exfalso; omega)
  ·
    try simp only [Z1, Z2, Z3, Z4, Z5, Z6, Z7, Z8, Z9, Z0] at q2
    refine WC.skip (WE.then_normal (WC.sub (fr' := [(0, _), (6, _), (7, _)]) ?_ ⟨rfl, rfl, rfl, trivial⟩))
    refine WC.seq (WC.seq ?_)
    refine WC.distinct fun hdd => ?_
    have hnn := nd_of hdd
    have hit2 : items = A2 ++ p :: x :: (y :: B2) := by rw [hit]; simp
    have hith : items = [] ++ h :: (rr ++ x :: (y :: B2)) := by rw [hit, hA0]; rfl
    have hxh : h.b ≠ x.b := nd_ne hnn hit (.inl (by rw [hA0]; simp))
    have hh : hdp items = Pt h.b 0 := by rw [hith]; rfl
    have hhp : hdp (A2 ++ [p]) = Pt h.b 0 := by rw [hA0]; rfl
    have hitl : items = ((A2 ++ [p]) ++ x :: B3) ++ l :: [] := by rw [hit, hB]; simp
    have hxl : l.b ≠ x.b := nd_ne hnn hit (.inr (by rw [hB]; simp))
    have hhl : h.b ≠ l.b := nd_ne hnn hitl (.inl (by rw [hA0]; simp))
    have ht : lastp items = Pt l.b 0 := by rw [hitl]; exact lastp_snoc _ _
    rw [hh, ht]
    refine WC.quiet (by kernel_rfl) (by kernel_rfl) ?_
    refine WQ.q (oq_move rfl) rfl rfl rfl ?_
    refine WQ.q (oq_nilCheck rfl) rfl rfl rfl ?_
    refine WQ.q (oq_fieldAddr fld212_0 rfl) rfl rfl rfl ?_
    refine WQ.q (oq_load flat210 rfl (.head _) (List.mem_singleton.2 rfl) rfl) rfl rfl rfl ?_
    refine WQ.q (oq_move rfl) rfl rfl rfl ?_
    refine WQ.q (oq_nilCheck rfl) rfl rfl rfl ?_
    refine WQ.q (oq_fieldAddr fld212_1 rfl) rfl rfl rfl ?_
    refine WQ.q (oq_load flat210 rfl (.head _) (List.mem_singleton.2 rfl) rfl) rfl rfl rfl ?_
    refine WQ.q (oq_peq Tryz.underlying210 ty241 (by decide) (.tail _ (.head _)) (mem_of hith) (.tail _ (.head _)) (mem_of hitl) rfl rfl) rfl rfl rfl ?_
    refine WQ.nil (WE.then_normal (WC.sub (fr' := [(0, _), (6, _), (7, _), (25, _)]) ?_ ⟨rfl, rfl, rfl, rfl, trivial⟩))
    refine WC.cond rfl (fun q4 => ?_) (fun q4 => ?_)
    ·
      try simp only [Z1, Z2, Z3, Z4, Z5, Z6, Z7, Z8, Z9, Z0] at q4
      first | (simp at q2; done) | exact absurd q4 hhl | exact absurd q4.symm hhl | exact absurd q7 hxh | exact absurd q7.symm hxh | exact absurd q9 hxl | exact absurd q9.symm hxl | (exfalso; omega)
    ·
      try simp only [Z1, Z2, Z3, Z4, Z5, Z6, Z7, Z8, Z9, Z0] at q4
      refine WC.seq (WC.region ?_)
      refine WL.q (oq_move rfl) rfl rfl rfl ?_
      refine WL.q (oq_move rfl) rfl rfl rfl ?_
      refine WL.q (oq_nilCheck rfl) rfl rfl rfl ?_
      refine WL.q (oq_fieldAddr fld212_0 rfl) rfl rfl rfl ?_
      refine WL.q (oq_load flat210 rfl (.head _) (List.mem_singleton.2 rfl) rfl) rfl rfl rfl ?_
      refine WL.q (oq_peq Tryz.underlying210 ty241 (by decide) (.tail _ (.head _)) (mem_of hit) (.tail _ (.head _)) (mem_of hith) rfl rfl) rfl rfl rfl ?_
      refine WL.nil (WE.then_normal (WC.sub (fr' := [(0, _), (6, _), (7, _), (37, _)]) ?_ ⟨rfl, rfl, rfl, rfl, trivial⟩))
      refine WC.cond rfl (fun q7 => ?_) (fun q7 => ?_)
      ·
        try simp only [Z1, Z2, Z3, Z4, Z5, Z6, Z7, Z8, Z9, Z0] at q7
        first | (simp at q2; done) | exact absurd q4 hhl | exact absurd q4.symm hhl | exact absurd q7 hxh | exact absurd q7.symm hxh | exact absurd q9 hxl | exact absurd q9.symm hxl | (exfalso; omega)
      ·
        try simp only [Z1, Z2, Z3, Z4, Z5, Z6, Z7, Z8, Z9, Z0] at q7
        refine WC.seq (WC.region ?_)
        refine WL.q (oq_move rfl) rfl rfl rfl ?_
        refine WL.q (oq_move rfl) rfl rfl rfl ?_
        refine WL.q (oq_nilCheck rfl) rfl rfl rfl ?_
        refine WL.q (oq_fieldAddr fld212_1 rfl) rfl rfl rfl ?_
        refine WL.q (oq_load flat210 rfl (.head _) (List.mem_singleton.2 rfl) rfl) rfl rfl rfl ?_
        refine WL.q (oq_peq Tryz.underlying210 ty241 (by decide) (.tail _ (.head _)) (mem_of hit) (.tail _ (.head _)) (mem_of hitl) rfl rfl) rfl rfl rfl ?_
        refine WL.nil (WE.then_normal (WC.sub (fr' := [(0, _), (6, _), (7, _), (54, _)]) ?_ ⟨rfl, rfl, rfl, rfl, trivial⟩))
        refine WC.cond rfl (fun q9 => ?_) (fun q9 => ?_)
        ·
          try simp only [Z1, Z2, Z3, Z4, Z5, Z6, Z7, Z8, Z9, Z0] at q9
          first | (simp at q2; done) | exact absurd q4 hhl | exact absurd q4.symm hhl | exact absurd q7 hxh | exact absurd q7.symm hxh | exact absurd q9 hxl | exact absurd q9.symm hxl | (exfalso; omega)
        ·
          try simp only [Z1, Z2, Z3, Z4, Z5, Z6, Z7, Z8, Z9, Z0] at q9
          refine WC.region ?_
          refine WL.f1 ?_
          refine WL.reg (reg_out (show (ch 210 241 239 (items) .nilIface).Perm ([(p.b, .cells #[nextOf 210 (x :: y :: B2) .nilIface, wv 239 p] 241 (0, 0))] ++ (ch 210 241 239 (A2) (.iface 210 (Pt p.b 0)) ++ ch 210 241 239 (x :: y :: B2) .nilIface)) from by rw [hit2]; exact ch_out _ _ _ _)) ?_
          refine WL.q (oq_move rfl) rfl rfl rfl ?_
          refine WL.q (oq_move rfl) rfl rfl rfl ?_
          refine WL.q (oq_nilCheck rfl) rfl rfl rfl ?_
          refine WL.q (oq_fieldAddr fld241_0 rfl) rfl rfl rfl ?_
          refine WL.q (oq_load flat169 rfl (.tail _ (.head _)) (List.mem_append_right _ List.mem_cons_self) rfl) rfl rfl rfl ?_
          refine WL.q (oq_nilCheck rfl) rfl rfl rfl ?_
          refine WL.q (oq_fieldAddr fld241_0 rfl) rfl rfl rfl ?_
          refine WL.store1 #[_, _] ty169 rfl rfl (by first | rfl | exact OwS.one one_) (Nat.lt_of_lt_of_le (Nat.lt_succ_self _) (Nat.le_of_ble_eq_true rfl)) rfl rfl ?_
          refine WL.nil (WE.then_normal (WC.sub (fr' := [(6, _)]) ?_ ⟨rfl, trivial⟩))
          refine WC.seq (WC.region ?_)
          refine WL.q (oq_move rfl) rfl rfl rfl ?_
          refine WL.q (oq_nilCheck rfl) rfl rfl rfl ?_
          refine WL.q (oq_fieldAddr fld241_1 rfl) rfl rfl rfl ?_
          refine WL.q (oq_load flat165 rfl (.tail _ (.head _)) (List.mem_append_right _ List.mem_cons_self) rfl) rfl rfl rfl ?_
          refine WL.q (oq_assign rfl) rfl rfl rfl ?_
          refine WL.f1 ?_
          refine WL.reg (reg_out (show (ch 210 241 239 (A2) (.iface 210 (Pt p.b 0)) ++ ch 210 241 239 (x :: y :: B2) .nilIface).Perm ([(x.b, .cells #[nextOf 210 (y :: B2) .nilIface, wv 239 x] 241 (0, 0))] ++ (ch 210 241 239 (A2) (.iface 210 (Pt p.b 0)) ++ ch 210 241 239 (y :: B2) .nilIface)) from List.perm_middle)) ?_
          refine WL.q (oq_assign rfl) rfl rfl rfl ?_
          refine WL.nil (WE.then_normal (WC.sub (fr' := [(4, _), (5, _)]) ?_ ⟨rfl, rfl, trivial⟩))
          refine WC.ret ?_
          refine WE.lose hbx ?_
          refine WE.f3 ?_
          refine WE.f1 ?_
          refine WE.f2 ?_
          refine WE.f3 ?_
          refine WE.endW3 (.inl rfl) (res2 Tryz.results93 rfl rfl) ?_
          -- end 0
          exact ⟨rfl, perm2 (by rw [lastp_cons, last_of hB, ← hhp, hdp_cons A2 p (y :: B2) []]) (by simp only [List.flatten_cons, List.flatten_nil, List.append_nil]; exact ch_del A2 p (y :: B2) _)⟩

/-- (*given.example/pub-tinwright/pub/smithy/middleware.FinalizeStep).Remove -/
theorem remN3 (base sb : Nat) (by_ : List UInt8) (items : List Nd) (hn : ∀ y ∈ items, y.id ≠ by_) : FnW Tryz.prog 93 [Pt sb 0, S by_] base [[(sb, .cells #[(hdp (items)), (lastp (items))] 212 (0, 0))], ch 210 241 239 items .nilIface] (fun v Hs => (∃ k u, v = .tuple #[.nilIface, .iface k u]) ∧ Hs = [[(sb, .cells #[(hdp (items)), (lastp (items))] 212 (0, 0))], ch 210 241 239 items .nilIface]) := by
  refine FnW.enter (n := 73) Tryz.func93 rfl rfl fun w0 R0 hbase => ?_
  subst hbase
  show WC _ _ _ _ _ _ _ ([[(sb, .cells #[(hdp (items)), (lastp (items))] 212 (0, 0))], ch 210 241 239 items .nilIface, R0])
  refine WC.sub (fr' := [(0, _), (1, _)]) ?_ ⟨rfl, rfl, trivial⟩
  refine WC.seq (WC.region ?_)
  refine WL.q (oq_assign rfl) rfl rfl rfl ?_
  refine WL.q (oq_assign rfl) rfl rfl rfl ?_
  refine WL.nil (WE.then_normal (WC.sub (fr' := [(0, _), (1, _)]) ?_ ⟨rfl, rfl, trivial⟩))
  refine WC.seq (WC.region ?_)
  refine WL.q (oq_move rfl) rfl rfl rfl ?_
  refine WL.q (oq_move rfl) rfl rfl rfl ?_
  refine WL.f1 ?_
  refine WL.f1 ?_
  refine WL.callW2 (gotM3 _ sb by_ items hn) call117 rfl rfl rfl fun v1_2 Hs1_2 hR1_2 => ?_
  obtain ⟨rfl, rfl⟩ := hR1_2
  refine WL.to2 ?_
  refine WL.q (oq_move rfl) rfl rfl rfl ?_
  refine WL.q (oq_extract rfl rfl) rfl rfl rfl ?_
  refine WL.q (oq_extract rfl rfl) rfl rfl rfl ?_
  refine WL.q (oq_assign rfl) rfl rfl rfl ?_
  refine WL.q (oq_assign rfl) rfl rfl rfl ?_
  refine WL.nil (WE.then_normal (WC.sub (fr' := [(0, _), (6, _), (7, _)]) ?_ ⟨rfl, rfl, rfl, trivial⟩))
  refine WC.seq (WC.seq (WC.region ?_))
  refine WL.q (oq_move rfl) rfl rfl rfl ?_
  refine WL.q (oq_peql Tryz.underlying210 rfl rfl) rfl rfl rfl ?_
  refine WL.nil (WE.then_normal (WC.sub (fr' := [(0, _), (6, _), (7, _), (15, _)]) ?_ ⟨rfl, rfl, rfl, rfl, trivial⟩))
  refine WC.cond rfl (fun q2 => ?_) (fun q2 => ?_)
  ·
    try simp only [Z1, Z2, Z3, Z4, Z5, Z6, Z7, Z8, Z9, Z0] at q2
    refine WC.seq (WC.region ?_)
    refine WL.callA0 (errNew _) call113 rfl rfl rfl fun v3_0 N3_0 hR3_0 hN3_0 => ?_
    obtain ⟨ek, eu, rfl⟩ := hR3_0
    refine WL.q (oq_assign rfl) rfl rfl rfl ?_
    refine WL.q (oq_assign rfl) rfl rfl rfl ?_
    refine WL.nil (WE.then_normal (WC.sub (fr' := [(4, _), (5, _)]) ?_ ⟨rfl, rfl, trivial⟩))
    refine WC.ret (WE.then_ret ?_)
    refine WE.forget hN3_0 ?_
    refine WE.endW2 (.inl rfl) (res2 Tryz.results93 rfl rfl) ?_
    -- end 0
    exact ⟨⟨_, _, rfl⟩, rfl⟩
  ·
    try simp only [Z1, Z2, Z3, Z4, Z5, Z6, Z7, Z8, Z9, Z0] at q2
    simp at q2

/-- (*given.example/pub-tinwright/pub/smithy/middleware.DeserializeStep).Remove -/
theorem remO4 (base sb : Nat) (x : Nd) (items : List Nd) (hbx : base ≤ x.b) (hit : items = [] ++ x :: []) : FnW Tryz.prog 108 [Pt sb 0, S x.id] base [[(sb, .cells #[(hdp (items)), (lastp (items))] 215 (0, 0))], ch 213 248 246 items .nilIface] (fun v Hs => v = .tuple #[wv 246 x, .nilIface] ∧ Hs.flatten.Perm ([[(sb, .cells #[(hdp ([])), (lastp ([]))] 215 (0, 0))], ch 213 248 246 [] .nilIface] : List Hp).flatten) := by
  refine FnW.enter (n := 73) Tryz.func108 rfl rfl fun w0 R0 hbase => ?_
  subst hbase
  show WC _ _ _ _ _ _ _ ([[(sb, .cells #[(hdp (items)), (lastp (items))] 215 (0, 0))], ch 213 248 246 items .nilIface, R0])
  refine WC.sub (fr' := [(0, _), (1, _)]) ?_ ⟨rfl, rfl, trivial⟩
  refine WC.seq (WC.region ?_)
  refine WL.q (oq_assign rfl) rfl rfl rfl ?_
  refine WL.q (oq_assign rfl) rfl rfl rfl ?_
  refine WL.nil (WE.then_normal (WC.sub (fr' := [(0, _), (1, _)]) ?_ ⟨rfl, rfl, trivial⟩))
  refine WC.seq (WC.region ?_)
  refine WL.q (oq_move rfl) rfl rfl rfl ?_
  refine WL.q (oq_move rfl) rfl rfl rfl ?_
  refine WL.f1 ?_
  refine WL.f1 ?_
  refine WL.callW2 (gotH4 _ sb x.id [] [] x items hit rfl (by simp)) call118 rfl rfl rfl fun v1_2 Hs1_2 hR1_2 => ?_
  obtain ⟨rfl, rfl⟩ := hR1_2
  refine WL.to2 ?_
  refine WL.q (oq_move rfl) rfl rfl rfl ?_
  refine WL.q (oq_extract rfl rfl) rfl rfl rfl ?_
  refine WL.q (oq_extract rfl rfl) rfl rfl rfl ?_
  refine WL.q (oq_assign rfl) rfl rfl rfl ?_
  refine WL.q (oq_assign rfl) rfl rfl rfl ?_
  refine WL.nil (WE.then_normal (WC.sub (fr' := [(0, _), (6, _), (7, _)]) ?_ ⟨rfl, rfl, rfl, trivial⟩))
  refine WC.seq (WC.seq (WC.region ?_))
  refine WL.q (oq_move rfl) rfl rfl rfl ?_
  refine WL.q (oq_peql Tryz.underlying213 rfl rfl) rfl rfl rfl ?_
  refine WL.nil (WE.then_normal (WC.sub (fr' := [(0, _), (6, _), (7, _), (15, _)]) ?_ ⟨rfl, rfl, rfl, rfl, trivial⟩))
  refine WC.cond rfl (fun q2 => ?_) (fun q2 => ?_)
  ·
    try simp only [Z1, Z2, Z3, Z4, Z5, Z6, Z7, Z8, Z9, Z0] at q2
    first | (simp at q2; done) | exact absurd q4 hhl | exact absurd q4.symm hhl | exact absurd q7 hxh | exact absurd q7.symm hxh | exact absurd q9 hxl | exact absurd q9.symm hxl | (exfalso; omega)
  ·
    try simp only [Z1, Z2, Z3, Z4, Z5, Z6, Z7, Z8, Z9, Z0] at q2
    refine WC.skip (WE.then_normal (WC.sub (fr' := [(0, _), (6, _), (7, _)]) ?_ ⟨rfl, rfl, rfl, trivial⟩))
    refine WC.seq (WC.seq ?_)
    have hh : hdp items = Pt x.b 0 := by rw [hit]; rfl
    have ht : lastp items = Pt x.b 0 := by rw [hit]; rfl
    rw [hh, ht]
    refine WC.quiet (by kernel_rfl) (by kernel_rfl) ?_
    refine WQ.q (oq_move rfl) rfl rfl rfl ?_
    refine WQ.q (oq_nilCheck rfl) rfl rfl rfl ?_
    refine WQ.q (oq_fieldAddr fld215_0 rfl) rfl rfl rfl ?_
    refine WQ.q (oq_load flat213 rfl (.head _) (List.mem_singleton.2 rfl) rfl) rfl rfl rfl ?_
    refine WQ.q (oq_move rfl) rfl rfl rfl ?_
    refine WQ.q (oq_nilCheck rfl) rfl rfl rfl ?_
    refine WQ.q (oq_fieldAddr fld215_1 rfl) rfl rfl rfl ?_
    refine WQ.q (oq_load flat213 rfl (.head _) (List.mem_singleton.2 rfl) rfl) rfl rfl rfl ?_
    refine WQ.q (oq_pesame Tryz.underlying213 ty248 rfl rfl) rfl rfl rfl ?_
    refine WQ.nil (WE.then_normal (WC.sub (fr' := [(0, _), (6, _), (7, _), (25, _)]) ?_ ⟨rfl, rfl, rfl, rfl, trivial⟩))
    refine WC.cond_t rfl ?_
    refine WC.seq (WC.region ?_)
    refine WL.q (oq_move rfl) rfl rfl rfl ?_
    refine WL.q (oq_nilCheck rfl) rfl rfl rfl ?_
    refine WL.q (oq_fieldAddr fld215_0 rfl) rfl rfl rfl ?_
    refine WL.store1 #[_, _] ty213 rfl rfl (by first | rfl | exact OwS.one one_) (Nat.lt_of_lt_of_le (Nat.lt_succ_self _) (Nat.le_of_ble_eq_true rfl)) rfl rfl ?_
    refine WL.nil (WE.then_normal (WC.sub (fr' := [(0, _), (6, _)]) ?_ ⟨rfl, rfl, trivial⟩))
    refine WC.region ?_
    refine WL.q (oq_move rfl) rfl rfl rfl ?_
    refine WL.q (oq_nilCheck rfl) rfl rfl rfl ?_
    refine WL.q (oq_fieldAddr fld215_1 rfl) rfl rfl rfl ?_
    refine WL.store1 #[_, _] ty213 rfl rfl (by first | rfl | exact OwS.one one_) (Nat.lt_of_lt_of_le (Nat.lt_succ_self _) (Nat.le_of_ble_eq_true rfl)) rfl rfl ?_
    refine WL.nil (WE.then_normal (WC.sub (fr' := [(6, _)]) ?_ ⟨rfl, trivial⟩))
    refine WC.seq (WC.region ?_)
    refine WL.q (oq_move rfl) rfl rfl rfl ?_
    refine WL.q (oq_nilCheck rfl) rfl rfl rfl ?_
    refine WL.q (oq_fieldAddr fld248_1 rfl) rfl rfl rfl ?_
    refine WL.q (oq_load flat183 rfl (.tail _ (.head _)) (mem_of hit) rfl) rfl rfl rfl ?_
    refine WL.q (oq_assign rfl) rfl rfl rfl ?_
    refine WL.f1 ?_
    refine WL.reg (reg_out (show (ch 213 248 246 (items) .nilIface).Perm ([(x.b, .cells #[nextOf 213 ([]) .nilIface, wv 246 x] 248 (0, 0))] ++ (ch 213 248 246 ([]) (.iface 213 (Pt x.b 0)) ++ ch 213 248 246 ([]) .nilIface)) from by rw [hit]; exact ch_out _ _ _ _)) ?_
    refine WL.q (oq_assign rfl) rfl rfl rfl ?_
    refine WL.nil (WE.then_normal (WC.sub (fr' := [(4, _), (5, _)]) ?_ ⟨rfl, rfl, trivial⟩))
    refine WC.ret ?_
    refine WE.lose hbx ?_
    refine WE.f2 ?_
    refine WE.f1 ?_
    refine WE.f2 ?_
    refine WE.endW2 (.inl rfl) (res2 Tryz.results108 rfl rfl) ?_
    -- end 0
    exact ⟨rfl, perm2 rfl (by simp only [List.flatten_cons, List.flatten_nil, List.append_nil]; exact List.Perm.refl _)⟩

/-- (*given.example/pub-tinwright/pub/smithy/middleware.DeserializeStep).Remove -/
theorem remF4 (base sb : Nat) (x : Nd) (items : List Nd) (hbx : base ≤ x.b) (y : Nd) (B2 B3 : List Nd) (l : Nd) (hit : items = [] ++ x :: (y :: B2)) (hB : y :: B2 = B3 ++ [l]) : FnW Tryz.prog 108 [Pt sb 0, S x.id] base [[(sb, .cells #[(hdp (items)), (lastp (items))] 215 (0, 0))], ch 213 248 246 items .nilIface] (fun v Hs => v = .tuple #[wv 246 x, .nilIface] ∧ Hs.flatten.Perm ([[(sb, .cells #[(hdp (y :: B2)), (lastp (y :: B2))] 215 (0, 0))], ch 213 248 246 (y :: B2) .nilIface] : List Hp).flatten) := by
  refine FnW.enter (n := 73) Tryz.func108 rfl rfl fun w0 R0 hbase => ?_
  subst hbase
  show WC _ _ _ _ _ _ _ ([[(sb, .cells #[(hdp (items)), (lastp (items))] 215 (0, 0))], ch 213 248 246 items .nilIface, R0])
  refine WC.sub (fr' := [(0, _), (1, _)]) ?_ ⟨rfl, rfl, trivial⟩
  refine WC.seq (WC.region ?_)
  refine WL.q (oq_assign rfl) rfl rfl rfl ?_
  refine WL.q (oq_assign rfl) rfl rfl rfl ?_
  refine WL.nil (WE.then_normal (WC.sub (fr' := [(0, _), (1, _)]) ?_ ⟨rfl, rfl, trivial⟩))
  refine WC.seq (WC.region ?_)
  refine WL.q (oq_move rfl) rfl rfl rfl ?_
  refine WL.q (oq_move rfl) rfl rfl rfl ?_
  refine WL.f1 ?_
  refine WL.f1 ?_
  refine WL.callW2 (gotH4 _ sb x.id [] (y :: B2) x items hit rfl (by simp)) call118 rfl rfl rfl fun v1_2 Hs1_2 hR1_2 => ?_
  obtain ⟨rfl, rfl⟩ := hR1_2
  refine WL.to2 ?_
  refine WL.q (oq_move rfl) rfl rfl rfl ?_
  refine WL.q (oq_extract rfl rfl) rfl rfl rfl ?_
  refine WL.q (oq_extract rfl rfl) rfl rfl rfl ?_
  refine WL.q (oq_assign rfl) rfl rfl rfl ?_
  refine WL.q (oq_assign rfl) rfl rfl rfl ?_
  refine WL.nil (WE.then_normal (WC.sub (fr' := [(0, _), (6, _), (7, _)]) ?_ ⟨rfl, rfl, rfl, trivial⟩))
  refine WC.seq (WC.seq (WC.region ?_))
  refine WL.q (oq_move rfl) rfl rfl rfl ?_
  refine WL.q (oq_peql Tryz.underlying213 rfl rfl) rfl rfl rfl ?_
  refine WL.nil (WE.then_normal (WC.sub (fr' := [(0, _), (6, _), (7, _), (15, _)]) ?_ ⟨rfl, rfl, rfl, rfl, trivial⟩))
  refine WC.cond rfl (fun q2 => ?_) (fun q2 => ?_)
  ·
    try simp only [Z1, Z2, Z3, Z4, Z5, Z6, Z7, Z8, Z9, Z0] at q2
    first | (simp at q2; done) | exact absurd q4 hhl | exact absurd q4.symm hhl | exact absurd q7 hxh | exact absurd q7.symm hxh | exact absurd q9 hxl | exact absurd q9.symm hxl | (exfalso; omega)
  ·
    try simp only [Z1, Z2, Z3, Z4, Z5, Z6, Z7, Z8, Z9, Z0] at q2
    refine WC.skip (WE.then_normal (WC.sub (fr' := [(0, _), (6, _), (7, _)]) ?_ ⟨rfl, rfl, rfl, trivial⟩))
    refine WC.seq (WC.seq ?_)
    refine WC.distinct fun hdd => ?_
    have hnn := nd_of hdd
    have hhl : l.b ≠ x.b := nd_ne hnn hit (.inr (by rw [hB]; simp))
    have hit3 : items = (x :: B3) ++ l :: [] := by rw [hit, hB]; rfl
    have hh : hdp items = Pt x.b 0 := by rw [hit]; rfl
    have ht : lastp items = Pt l.b 0 := by rw [hit3]; exact lastp_snoc _ _
    rw [hh, ht]
    refine WC.quiet (by kernel_rfl) (by kernel_rfl) ?_
    refine WQ.q (oq_move rfl) rfl rfl rfl ?_
    refine WQ.q (oq_nilCheck rfl) rfl rfl rfl ?_
    refine WQ.q (oq_fieldAddr fld215_0 rfl) rfl rfl rfl ?_
    refine WQ.q (oq_load flat213 rfl (.head _) (List.mem_singleton.2 rfl) rfl) rfl rfl rfl ?_
    refine WQ.q (oq_move rfl) rfl rfl rfl ?_
    refine WQ.q (oq_nilCheck rfl) rfl rfl rfl ?_
    refine WQ.q (oq_fieldAddr fld215_1 rfl) rfl rfl rfl ?_
    refine WQ.q (oq_load flat213 rfl (.head _) (List.mem_singleton.2 rfl) rfl) rfl rfl rfl ?_
    refine WQ.q (oq_peq Tryz.underlying213 ty248 (by decide) (.tail _ (.head _)) (mem_of hit) (.tail _ (.head _)) (mem_of hit3) rfl rfl) rfl rfl rfl ?_
    refine WQ.nil (WE.then_normal (WC.sub (fr' := [(0, _), (6, _), (7, _), (25, _)]) ?_ ⟨rfl, rfl, rfl, rfl, trivial⟩))
    refine WC.cond rfl (fun q4 => ?_) (fun q4 => ?_)
    ·
      try simp only [Z1, Z2, Z3, Z4, Z5, Z6, Z7, Z8, Z9, Z0] at q4
      first | (simp at q2; done) | exact absurd q4 hhl | exact absurd q4.symm hhl | exact absurd q7 hxh | exact absurd q7.symm hxh | exact absurd q9 hxl | exact absurd q9.symm hxl | (exfalso; omega)
    ·
      try simp only [Z1, Z2, Z3, Z4, Z5, Z6, Z7, Z8, Z9, Z0] at q4
      refine WC.seq (WC.region ?_)
      refine WL.q (oq_move rfl) rfl rfl rfl ?_
      refine WL.q (oq_move rfl) rfl rfl rfl ?_
      refine WL.q (oq_nilCheck rfl) rfl rfl rfl ?_
      refine WL.q (oq_fieldAddr fld215_0 rfl) rfl rfl rfl ?_
      refine WL.q (oq_load flat213 rfl (.head _) (List.mem_singleton.2 rfl) rfl) rfl rfl rfl ?_
      refine WL.q (oq_pesame Tryz.underlying213 ty248 rfl rfl) rfl rfl rfl ?_
      refine WL.nil (WE.then_normal (WC.sub (fr' := [(0, _), (6, _), (7, _), (37, _)]) ?_ ⟨rfl, rfl, rfl, rfl, trivial⟩))
      refine WC.cond_t rfl ?_
      refine WC.region ?_
      refine WL.q (oq_move rfl) rfl rfl rfl ?_
      refine WL.q (oq_move rfl) rfl rfl rfl ?_
      refine WL.q (oq_nilCheck rfl) rfl rfl rfl ?_
      refine WL.q (oq_fieldAddr fld215_0 rfl) rfl rfl rfl ?_
      refine WL.q (oq_load flat213 rfl (.head _) (List.mem_singleton.2 rfl) rfl) rfl rfl rfl ?_
      refine WL.q (oq_nilCheck rfl) rfl rfl rfl ?_
      refine WL.q (oq_fieldAddr fld248_0 rfl) rfl rfl rfl ?_
      refine WL.q (oq_load flat187 rfl (.tail _ (.head _)) (mem_of hit) rfl) rfl rfl rfl ?_
      refine WL.q (oq_askT conc213 rfl) rfl rfl rfl ?_
      refine WL.q (oq_nilCheck rfl) rfl rfl rfl ?_
      refine WL.q (oq_fieldAddr fld215_0 rfl) rfl rfl rfl ?_
      refine WL.store1 #[_, _] ty213 rfl rfl (by first | rfl | exact OwS.one one_) (Nat.lt_of_lt_of_le (Nat.lt_succ_self _) (Nat.le_of_ble_eq_true rfl)) rfl rfl ?_
      refine WL.nil (WE.then_normal (WC.sub (fr' := [(6, _)]) ?_ ⟨rfl, trivial⟩))
      refine WC.seq (WC.region ?_)
      refine WL.q (oq_move rfl) rfl rfl rfl ?_
      refine WL.q (oq_nilCheck rfl) rfl rfl rfl ?_
      refine WL.q (oq_fieldAddr fld248_1 rfl) rfl rfl rfl ?_
      refine WL.q (oq_load flat183 rfl (.tail _ (.head _)) (mem_of hit) rfl) rfl rfl rfl ?_
      refine WL.q (oq_assign rfl) rfl rfl rfl ?_
      refine WL.f1 ?_
      refine WL.reg (reg_out (show (ch 213 248 246 (items) .nilIface).Perm ([(x.b, .cells #[nextOf 213 (y :: B2) .nilIface, wv 246 x] 248 (0, 0))] ++ (ch 213 248 246 ([]) (.iface 213 (Pt x.b 0)) ++ ch 213 248 246 (y :: B2) .nilIface)) from by rw [hit]; exact ch_out _ _ _ _)) ?_
      refine WL.q (oq_assign rfl) rfl rfl rfl ?_
      refine WL.nil (WE.then_normal (WC.sub (fr' := [(4, _), (5, _)]) ?_ ⟨rfl, rfl, trivial⟩))
      refine WC.ret ?_
      refine WE.lose hbx ?_
      refine WE.f2 ?_
      refine WE.f1 ?_
      refine WE.f2 ?_
      refine WE.endW2 (.inl rfl) (res2 Tryz.results108 rfl rfl) ?_
      -- end 0
      exact ⟨rfl, perm2 (by rw [last_of hB]; rfl) (by simp only [List.flatten_cons, List.flatten_nil, List.append_nil]; exact List.Perm.refl _)⟩

/-- (*given.example/pub-tinwright/pub/smithy/middleware.DeserializeStep).Remove -/
theorem remL4 (base sb : Nat) (x : Nd) (items : List Nd) (hbx : base ≤ x.b) (h : Nd) (rr A2 : List Nd) (p : Nd) (hA0 : A2 ++ [p] = h :: rr) (hit : items = (A2 ++ [p]) ++ x :: ([])) (hA : ∀ y ∈ A2 ++ [p], y.id ≠ x.id) : FnW Tryz.prog 108 [Pt sb 0, S x.id] base [[(sb, .cells #[(hdp (items)), (lastp (items))] 215 (0, 0))], ch 213 248 246 items .nilIface] (fun v Hs => v = .tuple #[wv 246 x, .nilIface] ∧ Hs.flatten.Perm ([[(sb, .cells #[(hdp (A2 ++ p :: [])), (lastp (A2 ++ p :: []))] 215 (0, 0))], ch 213 248 246 (A2 ++ p :: []) .nilIface] : List Hp).flatten) := by
  refine FnW.enter (n := 73) Tryz.func108 rfl rfl fun w0 R0 hbase => ?_
  subst hbase
  show WC _ _ _ _ _ _ _ ([[(sb, .cells #[(hdp (items)), (lastp (items))] 215 (0, 0))], ch 213 248 246 items .nilIface, R0])
  refine WC.sub (fr' := [(0, _), (1, _)]) ?_ ⟨rfl, rfl, trivial⟩
  refine WC.seq (WC.region ?_)
  refine WL.q (oq_assign rfl) rfl rfl rfl ?_
  refine WL.q (oq_assign rfl) rfl rfl rfl ?_
  refine WL.nil (WE.then_normal (WC.sub (fr' := [(0, _), (1, _)]) ?_ ⟨rfl, rfl, trivial⟩))
  refine WC.seq (WC.region ?_)
  refine WL.q (oq_move rfl) rfl rfl rfl ?_
  refine WL.q (oq_move rfl) rfl rfl rfl ?_
  refine WL.f1 ?_
  refine WL.f1 ?_
  refine WL.callW2 (gotH4 _ sb x.id (A2 ++ [p]) [] x items hit rfl hA) call118 rfl rfl rfl fun v1_2 Hs1_2 hR1_2 => ?_
  obtain ⟨rfl, rfl⟩ := hR1_2
  rw [lastp_snoc]
  refine WL.to2 ?_
  refine WL.q (oq_move rfl) rfl rfl rfl ?_
  refine WL.q (oq_extract rfl rfl) rfl rfl rfl ?_
  refine WL.q (oq_extract rfl rfl) rfl rfl rfl ?_
  refine WL.q (oq_assign rfl) rfl rfl rfl ?_
  refine WL.q (oq_assign rfl) rfl rfl rfl ?_
  refine WL.nil (WE.then_normal (WC.sub (fr' := [(0, _), (6, _), (7, _)]) ?_ ⟨rfl, rfl, rfl, trivial⟩))
  refine WC.seq (WC.seq (WC.region ?_))
  refine WL.q (oq_move rfl) rfl rfl rfl ?_
  refine WL.q (oq_peql Tryz.underlying213 rfl rfl) rfl rfl rfl ?_
  refine WL.nil (WE.then_normal (WC.sub (fr' := [(0, _), (6, _), (7, _), (15, _)]) ?_ ⟨rfl, rfl, rfl, rfl, trivial⟩))
  refine WC.cond rfl (fun q2 => ?_) (fun q2 => ?_)
  ·
    try simp only [Z1, Z2, Z3, Z4, Z5, Z6, Z7, Z8, Z9, Z0] at q2
    first | (simp at q2; done) | exact absurd q4 hhl | exact absurd q4.symm hhl | exact absurd q7 hxh | exact absurd q7.symm hxh | exact absurd q9 hxl | exact absurd q9.symm hxl | (exfalso; omega)
  ·
    try simp only [Z1, Z2, Z3, Z4, Z5, Z6, Z7, Z8, Z9, Z0] at q2
    refine WC.skip (WE.then_normal (WC.sub (fr' := [(0, _), (6, _), (7, _)]) ?_ ⟨rfl, rfl, rfl, trivial⟩))
    refine WC.seq (WC.seq ?_)
    refine WC.distinct fun hdd => ?_
    have hnn := nd_of hdd
    have hit2 : items = A2 ++ p :: x :: ([]) := by rw [hit]; simp
    have hith : items = [] ++ h :: (rr ++ x :: ([])) := by rw [hit, hA0]; rfl
    have hxh : h.b ≠ x.b := nd_ne hnn hit (.inl (by rw [hA0]; simp))
    have hh : hdp items = Pt h.b 0 := by rw [hith]; rfl
    have hhp : hdp (A2 ++ [p]) = Pt h.b 0 := by rw [hA0]; rfl
    have hhl := hxh
    have ht : lastp items = Pt x.b 0 := by rw [hit]; exact lastp_snoc _ _
    rw [hh, ht]
    refine WC.quiet (by kernel_rfl) (by kernel_rfl) ?_
    refine WQ.q (oq_move rfl) rfl rfl rfl ?_
    refine WQ.q (oq_nilCheck rfl) rfl rfl rfl ?_
    refine WQ.q (oq_fieldAddr fld215_0 rfl) rfl rfl rfl ?_
    refine WQ.q (oq_load flat213 rfl (.head _) (List.mem_singleton.2 rfl) rfl) rfl rfl rfl ?_
    refine WQ.q (oq_move rfl) rfl rfl rfl ?_
    refine WQ.q (oq_nilCheck rfl) rfl rfl rfl ?_
    refine WQ.q (oq_fieldAddr fld215_1 rfl) rfl rfl rfl ?_
    refine WQ.q (oq_load flat213 rfl (.head _) (List.mem_singleton.2 rfl) rfl) rfl rfl rfl ?_
    refine WQ.q (oq_peq Tryz.underlying213 ty248 (by decide) (.tail _ (.head _)) (mem_of hith) (.tail _ (.head _)) (mem_of hit) rfl rfl) rfl rfl rfl ?_
    refine WQ.nil (WE.then_normal (WC.sub (fr' := [(0, _), (6, _), (7, _), (25, _)]) ?_ ⟨rfl, rfl, rfl, rfl, trivial⟩))
    refine WC.cond rfl (fun q4 => ?_) (fun q4 => ?_)
    ·
      try simp only [Z1, Z2, Z3, Z4, Z5, Z6, Z7, Z8, Z9, Z0] at q4
      first | (simp at q2; done) | exact absurd q4 hhl | exact absurd q4.symm hhl | exact absurd q7 hxh | exact absurd q7.symm hxh | exact absurd q9 hxl | exact absurd q9.symm hxl | (exfalso; omega)
    ·
      try simp only [Z1, Z2, Z3, Z4, Z5, Z6, Z7, Z8, Z9, Z0] at q4
      refine WC.seq (WC.region ?_)
      refine WL.q (oq_move rfl) rfl rfl rfl ?_
      refine WL.q (oq_move rfl) rfl rfl rfl ?_
      refine WL.q (oq_nilCheck rfl) rfl rfl rfl ?_
      refine WL.q (oq_fieldAddr fld215_0 rfl) rfl rfl rfl ?_
      refine WL.q (oq_load flat213 rfl (.head _) (List.mem_singleton.2 rfl) rfl) rfl rfl rfl ?_
      refine WL.q (oq_peq Tryz.underlying213 ty248 (by decide) (.tail _ (.head _)) (mem_of hit) (.tail _ (.head _)) (mem_of hith) rfl rfl) rfl rfl rfl ?_
      refine WL.nil (WE.then_normal (WC.sub (fr' := [(0, _), (6, _), (7, _), (37, _)]) ?_ ⟨rfl, rfl, rfl, rfl, trivial⟩))
      refine WC.cond rfl (fun q7 => ?_) (fun q7 => ?_)
      ·
        try simp only [Z1, Z2, Z3, Z4, Z5, Z6, Z7, Z8, Z9, Z0] at q7
        first | (simp at q2; done) | exact absurd q4 hhl | exact absurd q4.symm hhl | exact absurd q7 hxh | exact absurd q7.symm hxh | exact absurd q9 hxl | exact absurd q9.symm hxl | (exfalso; omega)
      ·
        try simp only [Z1, Z2, Z3, Z4, Z5, Z6, Z7, Z8, Z9, Z0] at q7
        refine WC.seq (WC.region ?_)
        refine WL.q (oq_move rfl) rfl rfl rfl ?_
        refine WL.q (oq_move rfl) rfl rfl rfl ?_
        refine WL.q (oq_nilCheck rfl) rfl rfl rfl ?_
        refine WL.q (oq_fieldAddr fld215_1 rfl) rfl rfl rfl ?_
        refine WL.q (oq_load flat213 rfl (.head _) (List.mem_singleton.2 rfl) rfl) rfl rfl rfl ?_
        refine WL.q (oq_pesame Tryz.underlying213 ty248 rfl rfl) rfl rfl rfl ?_
        refine WL.nil (WE.then_normal (WC.sub (fr' := [(0, _), (6, _), (7, _), (54, _)]) ?_ ⟨rfl, rfl, rfl, rfl, trivial⟩))
        refine WC.cond_t rfl ?_
        refine WC.seq (WC.region ?_)
        refine WL.f1 ?_
        refine WL.reg (reg_out (show (ch 213 248 246 (items) .nilIface).Perm ([(p.b, .cells #[nextOf 213 (x :: []) .nilIface, wv 246 p] 248 (0, 0))] ++ (ch 213 248 246 (A2) (.iface 213 (Pt p.b 0)) ++ ch 213 248 246 (x :: []) .nilIface)) from by rw [hit2]; exact ch_out _ _ _ _)) ?_
        refine WL.q (oq_move rfl) rfl rfl rfl ?_
        refine WL.q (oq_nilCheck rfl) rfl rfl rfl ?_
        refine WL.q (oq_fieldAddr fld248_0 rfl) rfl rfl rfl ?_
        refine WL.store1 #[_, _] ty187 rfl rfl (by first | rfl | exact OwS.one one_) (Nat.lt_of_lt_of_le (Nat.lt_succ_self _) (Nat.le_of_ble_eq_true rfl)) rfl rfl ?_
        refine WL.nil (WE.then_normal (WC.sub (fr' := [(0, _), (6, _), (7, _)]) ?_ ⟨rfl, rfl, rfl, trivial⟩))
        refine WC.region ?_
        refine WL.q (oq_move rfl) rfl rfl rfl ?_
        refine WL.q (oq_move rfl) rfl rfl rfl ?_
        refine WL.q (oq_nilCheck rfl) rfl rfl rfl ?_
        refine WL.q (oq_fieldAddr fld215_1 rfl) rfl rfl rfl ?_
        refine WL.f2 ?_
        refine WL.store1 #[_, _] ty213 rfl rfl (by first | rfl | exact OwS.one one_) (Nat.lt_of_lt_of_le (Nat.lt_succ_self _) (Nat.le_of_ble_eq_true rfl)) rfl rfl ?_
        refine WL.nil (WE.then_normal (WC.sub (fr' := [(6, _)]) ?_ ⟨rfl, trivial⟩))
        refine WC.seq (WC.region ?_)
        refine WL.q (oq_move rfl) rfl rfl rfl ?_
        refine WL.q (oq_nilCheck rfl) rfl rfl rfl ?_
        refine WL.q (oq_fieldAddr fld248_1 rfl) rfl rfl rfl ?_
        refine WL.q (oq_load flat183 rfl (.tail _ (.tail _ (.head _))) (List.mem_append_right _ List.mem_cons_self) rfl) rfl rfl rfl ?_
        refine WL.q (oq_assign rfl) rfl rfl rfl ?_
        refine WL.f2 ?_
        refine WL.reg (reg_out (show (ch 213 248 246 (A2) (.iface 213 (Pt p.b 0)) ++ ch 213 248 246 (x :: []) .nilIface).Perm ([(x.b, .cells #[nextOf 213 ([]) .nilIface, wv 246 x] 248 (0, 0))] ++ (ch 213 248 246 (A2) (.iface 213 (Pt p.b 0)) ++ ch 213 248 246 ([]) .nilIface)) from List.perm_middle)) ?_
        refine WL.q (oq_assign rfl) rfl rfl rfl ?_
        refine WL.nil (WE.then_normal (WC.sub (fr' := [(4, _), (5, _)]) ?_ ⟨rfl, rfl, trivial⟩))
        refine WC.ret ?_
        refine WE.lose hbx ?_
        refine WE.f3 ?_
        refine WE.f1 ?_
        refine WE.f3 ?_
        refine WE.f3 ?_
        refine WE.endW3 (.inl rfl) (res2 Tryz.results108 rfl rfl) ?_
        -- end 0
        exact ⟨rfl, perm2 (by rw [hhp]) (by simp only [List.flatten_cons, List.flatten_nil, List.append_nil]; exact ch_del A2 p [] _)⟩

/-- (*given.example/pub-tinwright/pub/smithy/middleware.DeserializeStep).Remove -/
theorem remM4 (base sb : Nat) (x : Nd) (items : List Nd) (hbx : base ≤ x.b) (y : Nd) (B2 B3 : List Nd) (l : Nd) (hB : y :: B2 = B3 ++ [l]) (h : Nd) (rr A2 : List Nd) (p : Nd) (hA0 : A2 ++ [p] = h :: rr) (hit : items = (A2 ++ [p]) ++ x :: (y :: B2)) (hA : ∀ y ∈ A2 ++ [p], y.id ≠ x.id) : FnW Tryz.prog 108 [Pt sb 0, S x.id] base [[(sb, .cells #[(hdp (items)), (lastp (items))] 215 (0, 0))], ch 213 248 246 items .nilIface] (fun v Hs => v = .tuple #[wv 246 x, .nilIface] ∧ Hs.flatten.Perm ([[(sb, .cells #[(hdp (A2 ++ p :: y :: B2)), (lastp (A2 ++ p :: y :: B2))] 215 (0, 0))], ch 213 248 246 (A2 ++ p :: y :: B2) .nilIface] : List Hp).flatten) := by
  refine FnW.enter (n := 73) Tryz.func108 rfl rfl fun w0 R0 hbase => ?_
  subst hbase
  show WC _ _ _ _ _ _ _ ([[(sb, .cells #[(hdp (items)), (lastp (items))] 215 (0, 0))], ch 213 248 246 items .nilIface, R0])
  refine WC.sub (fr' := [(0, _), (1, _)]) ?_ ⟨rfl, rfl, trivial⟩
  refine WC.seq (WC.region ?_)
  refine WL.q (oq_assign rfl) rfl rfl rfl ?_
  refine WL.q (oq_assign rfl) rfl rfl rfl ?_
  refine WL.nil (WE.then_normal (WC.sub (fr' := [(0, _), (1, _)]) ?_ ⟨rfl, rfl, trivial⟩))
  refine WC.seq (WC.region ?_)
  refine WL.q (oq_move rfl) rfl rfl rfl ?_
  refine WL.q (oq_move rfl) rfl rfl rfl ?_
  refine WL.f1 ?_
  refine WL.f1 ?_
  refine WL.callW2 (gotH4 _ sb x.id (A2 ++ [p]) (y :: B2) x items hit rfl hA) call118 rfl rfl rfl fun v1_2 Hs1_2 hR1_2 => ?_
  obtain ⟨rfl, rfl⟩ := hR1_2
  rw [lastp_snoc]
  refine WL.to2 ?_
  refine WL.q (oq_move rfl) rfl rfl rfl ?_
  refine WL.q (oq_extract rfl rfl) rfl rfl rfl ?_
  refine WL.q (oq_extract rfl rfl) rfl rfl rfl ?_
  refine WL.q (oq_assign rfl) rfl rfl rfl ?_
  refine WL.q (oq_assign rfl) rfl rfl rfl ?_
  refine WL.nil (WE.then_normal (WC.sub (fr' := [(0, _), (6, _), (7, _)]) ?_ ⟨rfl, rfl, rfl, trivial⟩))
  refine WC.seq (WC.seq (WC.region ?_))
  refine WL.q (oq_move rfl) rfl rfl rfl ?_
  refine WL.q (oq_peql Tryz.underlying213 rfl rfl) rfl rfl rfl ?_
  refine WL.nil (WE.then_normal (WC.sub (fr' := [(0, _), (6, _), (7, _), (15, _)]) ?_ ⟨rfl, rfl, rfl, rfl, trivial⟩))
  refine WC.cond rfl (fun q2 => ?_) (fun q2 => ?_)
  ·
    try simp only [Z1, Z2, Z3, Z4, Z5, Z6, Z7, Z8, Z9, Z0] at q2
    first | (simp at q2; done) | exact absurd q4 hhl | exact absurd q4.symm hhl | exact absurd q7 hxh | exact absurd q7.symm hxh | exact absurd q9 hxl | exact absurd q9.symm hxl | (exfalso; omega)
  ·
    try simp only [Z1, Z2, Z3, Z4, Z5, Z6, Z7, Z8, Z9, Z0] at q2
    refine WC.skip (WE.then_normal (WC.sub (fr' := [(0, _), (6, _), (7, _)]) ?_ ⟨rfl, rfl, rfl, trivial⟩))
    refine WC.seq (WC.seq ?_)
    refine WC.distinct fun hdd => ?_
    have hnn := nd_of hdd
    have hit2 : items = A2 ++ p :: x :: (y :: B2) := by rw [hit]; simp
    have hith : items = [] ++ h :: (rr ++ x :: (y :: B2)) := by rw [hit, hA0]; rfl
    have hxh : h.b ≠ x.b := nd_ne hnn hit (.inl (by rw [hA0]; simp))
    have hh : hdp items = Pt h.b 0 := by rw [hith]; rfl
    have hhp : hdp (A2 ++ [p]) = Pt h.b 0 := by rw [hA0]; rfl
    have hitl : items = ((A2 ++ [p]) ++ x :: B3) ++ l :: [] := by rw [hit, hB]; simp
    have hxl : l.b ≠ x.b := nd_ne hnn hit (.inr (by rw [hB]; simp))
    have hhl : h.b ≠ l.b := nd_ne hnn hitl (.inl (by rw [hA0]; simp))
    have ht : lastp items = Pt l.b 0 := by rw [hitl]; exact lastp_snoc _ _
    rw [hh, ht]
    refine WC.quiet (by kernel_rfl) (by kernel_rfl) ?_
    refine WQ.q (oq_move rfl) rfl rfl rfl ?_
    refine WQ.q (oq_nilCheck rfl) rfl rfl rfl ?_
    refine WQ.q (oq_fieldAddr fld215_0 rfl) rfl rfl rfl ?_
    refine WQ.q (oq_load flat213 rfl (.head _) (List.mem_singleton.2 rfl) rfl) rfl rfl rfl ?_
    refine WQ.q (oq_move rfl) rfl rfl rfl ?_
    refine WQ.q (oq_nilCheck rfl) rfl rfl rfl ?_
    refine WQ.q (oq_fieldAddr fld215_1 rfl) rfl rfl rfl ?_
    refine WQ.q (oq_load flat213 rfl (.head _) (List.mem_singleton.2 rfl) rfl) rfl rfl rfl ?_
    refine WQ.q (oq_peq Tryz.underlying213 ty248 (by decide) (.tail _ (.head _)) (mem_of hith) (.tail _ (.head _)) (mem_of hitl) rfl rfl) rfl rfl rfl ?_
    refine WQ.nil (WE.then_normal (WC.sub (fr' := [(0, _), (6, _), (7, _), (25, _)]) ?_ ⟨rfl, rfl, rfl, rfl, trivial⟩))
    refine WC.cond rfl (fun q4 => ?_) (fun q4 => ?_)
    ·
      try simp only [Z1, Z2, Z3, Z4, Z5, Z6, Z7, Z8, Z9, Z0] at q4
      first | (simp at q2; done) | exact absurd q4 hhl | exact absurd q4.symm hhl | exact absurd q7 hxh | exact absurd q7.symm hxh | exact absurd q9 hxl | exact absurd q9.symm hxl | (exfalso; omega)
    ·
      try simp only [Z1, Z2, Z3, Z4, Z5, Z6, Z7, Z8, Z9, Z0] at q4
      refine WC.seq (WC.region ?_)
      refine WL.q (oq_move rfl) rfl rfl rfl ?_
      refine WL.q (oq_move rfl) rfl rfl rfl ?_
      refine WL.q (oq_nilCheck rfl) rfl rfl rfl ?_
      refine WL.q (oq_fieldAddr fld215_0 rfl) rfl rfl rfl ?_
      refine WL.q (oq_load flat213 rfl (.head _) (List.mem_singleton.2 rfl) rfl) rfl rfl rfl ?_
      refine WL.q (oq_peq Tryz.underlying213 ty248 (by decide) (.tail _ (.head _)) (mem_of hit) (.tail _ (.head _)) (mem_of hith) rfl rfl) rfl rfl rfl ?_
      refine WL.nil (WE.then_normal (WC.sub (fr' := [(0, _), (6, _), (7, _), (37, _)]) ?_ ⟨rfl, rfl, rfl, rfl, trivial⟩))
      refine WC.cond rfl (fun q7 => ?_) (fun q7 => ?_)
      ·
        try simp only [Z1, Z2, Z3, Z4, Z5, Z6, Z7, Z8, Z9, Z0] at q7
        first | (simp at q2; done) | exact absurd q4 hhl | exact absurd q4.symm hhl | exact absurd q7 hxh | exact absurd q7.symm hxh | exact absurd q9 hxl | exact absurd q9.symm hxl | (exfalso; omega)
      ·
        try simp only [Z1, Z2, Z3, Z4, Z5, Z6, Z7, Z8, Z9, Z0] at q7
        refine WC.seq (WC.region ?_)
        refine WL.q (oq_move rfl) rfl rfl rfl ?_
        refine WL.q (oq_move rfl) rfl rfl rfl ?_
        refine WL.q (oq_nilCheck rfl) rfl rfl rfl ?_
        refine WL.q (oq_fieldAddr fld215_1 rfl) rfl rfl rfl ?_
        refine WL.q (oq_load flat213 rfl (.head _) (List.mem_singleton.2 rfl) rfl) rfl rfl rfl ?_
        refine WL.q (oq_peq Tryz.underlying213 ty248 (by decide) (.tail _ (.head _)) (mem_of hit) (.tail _ (.head _)) (mem_of hitl) rfl rfl) rfl rfl rfl ?_
        refine WL.nil (WE.then_normal (WC.sub (fr' := [(0, _), (6, _), (7, _), (54, _)]) ?_ ⟨rfl, rfl, rfl, rfl, trivial⟩))
        refine WC.cond rfl (fun q9 => ?_) (fun q9 => ?_)
        ·
          try simp only [Z1, Z2, Z3, Z4, Z5, Z6, Z7, Z8, Z9, Z0] at q9
          first | (simp at q2; done) | exact absurd q4 hhl | exact absurd q4.symm hhl | exact absurd q7 hxh | exact absurd q7.symm hxh | exact absurd q9 hxl | exact absurd q9.symm hxl | (exfalso; omega)
        ·
          try simp only [Z1, Z2, Z3, Z4, Z5, Z6, Z7, Z8, Z9, Z0] at q9
          refine WC.region ?_
          refine WL.f1 ?_
          refine WL.reg (reg_out (show (ch 213 248 246 (items) .nilIface).Perm ([(p.b, .cells #[nextOf 213 (x :: y :: B2) .nilIface, wv 246 p] 248 (0, 0))] ++ (ch 213 248 246 (A2) (.iface 213 (Pt p.b 0)) ++ ch 213 248 246 (x :: y :: B2) .nilIface)) from by rw [hit2]; exact ch_out _ _ _ _)) ?_
          refine WL.q (oq_move rfl) rfl rfl rfl ?_
          refine WL.q (oq_move rfl) rfl rfl rfl ?_
          refine WL.q (oq_nilCheck rfl) rfl rfl rfl ?_
          refine WL.q (oq_fieldAddr fld248_0 rfl) rfl rfl rfl ?_
          refine WL.q (oq_load flat187 rfl (.tail _ (.head _)) (List.mem_append_right _ List.mem_cons_self) rfl) rfl rfl rfl ?_
          refine WL.q (oq_nilCheck rfl) rfl rfl rfl ?_
          refine WL.q (oq_fieldAddr fld248_0 rfl) rfl rfl rfl ?_
          refine WL.store1 #[_, _] ty187 rfl rfl (by first | rfl | exact OwS.one one_) (Nat.lt_of_lt_of_le (Nat.lt_succ_self _) (Nat.le_of_ble_eq_true rfl)) rfl rfl ?_
          refine WL.nil (WE.then_normal (WC.sub (fr' := [(6, _)]) ?_ ⟨rfl, trivial⟩))
          refine WC.seq (WC.region ?_)
          refine WL.q (oq_move rfl) rfl rfl rfl ?_
          refine WL.q (oq_nilCheck rfl) rfl rfl rfl ?_
          refine WL.q (oq_fieldAddr fld248_1 rfl) rfl rfl rfl ?_
          refine WL.q (oq_load flat183 rfl (.tail _ (.head _)) (List.mem_append_right _ List.mem_cons_self) rfl) rfl rfl rfl ?_
          refine WL.q (oq_assign rfl) rfl rfl rfl ?_
          refine WL.f1 ?_
          refine WL.reg (reg_out (show (ch 213 248 246 (A2) (.iface 213 (Pt p.b 0)) ++ ch 213 248 246 (x :: y :: B2) .nilIface).Perm ([(x.b, .cells #[nextOf 213 (y :: B2) .nilIface, wv 246 x] 248 (0, 0))] ++ (ch 213 248 246 (A2) (.iface 213 (Pt p.b 0)) ++ ch 213 248 246 (y :: B2) .nilIface)) from List.perm_middle)) ?_
          refine WL.q (oq_assign rfl) rfl rfl rfl ?_
          refine WL.nil (WE.then_normal (WC.sub (fr' := [(4, _), (5, _)]) ?_ ⟨rfl, rfl, trivial⟩))
          refine WC.ret ?_
          refine WE.lose hbx ?_
          refine WE.f3 ?_
          refine WE.f1 ?_
          refine WE.f2 ?_
          refine WE.f3 ?_
          refine WE.endW3 (.inl rfl) (res2 Tryz.results108 rfl rfl) ?_
          -- end 0
          exact ⟨rfl, perm2 (by rw [lastp_cons, last_of hB, ← hhp, hdp_cons A2 p (y :: B2) []]) (by simp only [List.flatten_cons, List.flatten_nil, List.append_nil]; exact ch_del A2 p (y :: B2) _)⟩

/-- (*given.example/pub-tinwright/pub/smithy/middleware.DeserializeStep).Remove -/
theorem remN4 (base sb : Nat) (by_ : List UInt8) (items : List Nd) (hn : ∀ y ∈ items, y.id ≠ by_) : FnW Tryz.prog 108 [Pt sb 0, S by_] base [[(sb, .cells #[(hdp (items)), (lastp (items))] 215 (0, 0))], ch 213 248 246 items .nilIface] (fun v Hs => (∃ k u, v = .tuple #[.nilIface, .iface k u]) ∧ Hs = [[(sb, .cells #[(hdp (items)), (lastp (items))] 215 (0, 0))], ch 213 248 246 items .nilIface]) := by
  refine FnW.enter (n := 73) Tryz.func108 rfl rfl fun w0 R0 hbase => ?_
  subst hbase
  show WC _ _ _ _ _ _ _ ([[(sb, .cells #[(hdp (items)), (lastp (items))] 215 (0, 0))], ch 213 248 246 items .nilIface, R0])
  refine WC.sub (fr' := [(0, _), (1, _)]) ?_ ⟨rfl, rfl, trivial⟩
  refine WC.seq (WC.region ?_)
  refine WL.q (oq_assign rfl) rfl rfl rfl ?_
  refine WL.q (oq_assign rfl) rfl rfl rfl ?_
  refine WL.nil (WE.then_normal (WC.sub (fr' := [(0, _), (1, _)]) ?_ ⟨rfl, rfl, trivial⟩))
  refine WC.seq (WC.region ?_)
  refine WL.q (oq_move rfl) rfl rfl rfl ?_
  refine WL.q (oq_move rfl) rfl rfl rfl ?_
  refine WL.f1 ?_
  refine WL.f1 ?_
  refine WL.callW2 (gotM4 _ sb by_ items hn) call118 rfl rfl rfl fun v1_2 Hs1_2 hR1_2 => ?_
  obtain ⟨rfl, rfl⟩ := hR1_2
  refine WL.to2 ?_
  refine WL.q (oq_move rfl) rfl rfl rfl ?_
  refine WL.q (oq_extract rfl rfl) rfl rfl rfl ?_
  refine WL.q (oq_extract rfl rfl) rfl rfl rfl ?_
  refine WL.q (oq_assign rfl) rfl rfl rfl ?_
  refine WL.q (oq_assign rfl) rfl rfl rfl ?_
  refine WL.nil (WE.then_normal (WC.sub (fr' := [(0, _), (6, _), (7, _)]) ?_ ⟨rfl, rfl, rfl, trivial⟩))
  refine WC.seq (WC.seq (WC.region ?_))
  refine WL.q (oq_move rfl) rfl rfl rfl ?_
  refine WL.q (oq_peql Tryz.underlying213 rfl rfl) rfl rfl rfl ?_
  refine WL.nil (WE.then_normal (WC.sub (fr' := [(0, _), (6, _), (7, _), (15, _)]) ?_ ⟨rfl, rfl, rfl, rfl, trivial⟩))
  refine WC.cond rfl (fun q2 => ?_) (fun q2 => ?_)
  ·
    try simp only [Z1, Z2, Z3, Z4, Z5, Z6, Z7, Z8, Z9, Z0] at q2
    refine WC.seq (WC.region ?_)
    refine WL.callA0 (errNew _) call113 rfl rfl rfl fun v3_0 N3_0 hR3_0 hN3_0 => ?_
    obtain ⟨ek, eu, rfl⟩ := hR3_0
    refine WL.q (oq_assign rfl) rfl rfl rfl ?_
    refine WL.q (oq_assign rfl) rfl rfl rfl ?_
    refine WL.nil (WE.then_normal (WC.sub (fr' := [(4, _), (5, _)]) ?_ ⟨rfl, rfl, trivial⟩))
    refine WC.ret (WE.then_ret ?_)
    refine WE.forget hN3_0 ?_
    refine WE.endW2 (.inl rfl) (res2 Tryz.results108 rfl rfl) ?_
    -- end 0
    exact ⟨⟨_, _, rfl⟩, rfl⟩
  ·
    try simp only [Z1, Z2, Z3, Z4, Z5, Z6, Z7, Z8, Z9, Z0] at q2
    simp at q2

end S3
end Go.Proofs.YtclafiglpcjhdaaGreat
