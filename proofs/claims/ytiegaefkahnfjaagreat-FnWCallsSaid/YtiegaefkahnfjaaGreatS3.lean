/- Walks of a step: what is taken out. -/
import Derived.Test.YtiegaefkahnfjaaGreatS2
namespace Go.Proofs.YtiegaefkahnfjaaGreat
open Go Go.RowKit V S0 S1 S2
set_option linter.unusedSimpArgs false
set_option linter.unusedVariables false
set_option maxRecDepth 10000
namespace S3
theorem call122 : Callable Tryz.prog 122 := ⟨_, Tryz.func122, rfl, by kernel_rfl⟩
theorem call123 : Callable Tryz.prog 123 := ⟨_, Tryz.func123, rfl, by kernel_rfl⟩
theorem call124 : Callable Tryz.prog 124 := ⟨_, Tryz.func124, rfl, by kernel_rfl⟩
theorem call125 : Callable Tryz.prog 125 := ⟨_, Tryz.func125, rfl, by kernel_rfl⟩
theorem call126 : Callable Tryz.prog 126 := ⟨_, Tryz.func126, rfl, by kernel_rfl⟩
theorem call127 : Callable Tryz.prog 127 := ⟨_, Tryz.func127, rfl, by kernel_rfl⟩
theorem flat98 : Flat Tryz.prog 98 := ⟨_, Tryz.underlying98, by simp⟩
theorem flat103 : Flat Tryz.prog 103 := ⟨_, Tryz.underlying103, by simp⟩
theorem flat121 : Flat Tryz.prog 121 := ⟨_, Tryz.underlying121, by simp⟩
theorem flat126 : Flat Tryz.prog 126 := ⟨_, Tryz.underlying126, by simp⟩
theorem flat140 : Flat Tryz.prog 140 := ⟨_, Tryz.underlying140, by simp⟩
theorem flat145 : Flat Tryz.prog 145 := ⟨_, Tryz.underlying145, by simp⟩
theorem flat159 : Flat Tryz.prog 159 := ⟨_, Tryz.underlying159, by simp⟩
theorem flat163 : Flat Tryz.prog 163 := ⟨_, Tryz.underlying163, by simp⟩
theorem flat177 : Flat Tryz.prog 177 := ⟨_, Tryz.underlying177, by simp⟩
theorem flat181 : Flat Tryz.prog 181 := ⟨_, Tryz.underlying181, by simp⟩
theorem flat200 : Flat Tryz.prog 200 := ⟨_, Tryz.underlying200, by simp⟩
theorem flat206 : Flat Tryz.prog 206 := ⟨_, Tryz.underlying206, by simp⟩
theorem flat212 : Flat Tryz.prog 212 := ⟨_, Tryz.underlying212, by simp⟩
theorem flat218 : Flat Tryz.prog 218 := ⟨_, Tryz.underlying218, by simp⟩
theorem flat224 : Flat Tryz.prog 224 := ⟨_, Tryz.underlying224, by simp⟩
theorem ty98 : Ty Tryz.prog 98 .nilIface 1 16 := ty_of (by kernel_rfl)
theorem ty103 : Ty Tryz.prog 103 .nilIface 1 16 := ty_of (by kernel_rfl)
theorem ty121 : Ty Tryz.prog 121 .nilIface 1 16 := ty_of (by kernel_rfl)
theorem ty126 : Ty Tryz.prog 126 .nilIface 1 16 := ty_of (by kernel_rfl)
theorem ty140 : Ty Tryz.prog 140 .nilIface 1 16 := ty_of (by kernel_rfl)
theorem ty145 : Ty Tryz.prog 145 .nilIface 1 16 := ty_of (by kernel_rfl)
theorem ty159 : Ty Tryz.prog 159 .nilIface 1 16 := ty_of (by kernel_rfl)
theorem ty163 : Ty Tryz.prog 163 .nilIface 1 16 := ty_of (by kernel_rfl)
theorem ty177 : Ty Tryz.prog 177 .nilIface 1 16 := ty_of (by kernel_rfl)
theorem ty181 : Ty Tryz.prog 181 .nilIface 1 16 := ty_of (by kernel_rfl)
theorem ty200 : Ty Tryz.prog 200 (.pointer none) 1 8 := ty_of (by kernel_rfl)
theorem ty204 : Ty Tryz.prog 204 (.agg #[.nilIface, .nilIface]) 2 32 := ty_of (by kernel_rfl)
theorem ty206 : Ty Tryz.prog 206 (.pointer none) 1 8 := ty_of (by kernel_rfl)
theorem ty210 : Ty Tryz.prog 210 (.agg #[.nilIface, .nilIface]) 2 32 := ty_of (by kernel_rfl)
theorem ty212 : Ty Tryz.prog 212 (.pointer none) 1 8 := ty_of (by kernel_rfl)
theorem ty216 : Ty Tryz.prog 216 (.agg #[.nilIface, .nilIface]) 2 32 := ty_of (by kernel_rfl)
theorem ty218 : Ty Tryz.prog 218 (.pointer none) 1 8 := ty_of (by kernel_rfl)
theorem ty222 : Ty Tryz.prog 222 (.agg #[.nilIface, .nilIface]) 2 32 := ty_of (by kernel_rfl)
theorem ty224 : Ty Tryz.prog 224 (.pointer none) 1 8 := ty_of (by kernel_rfl)
theorem ty228 : Ty Tryz.prog 228 (.agg #[.nilIface, .nilIface]) 2 32 := ty_of (by kernel_rfl)
theorem conc200 : Conc Tryz.prog 200 := ⟨_, Tryz.underlying200, by simp⟩
theorem conc206 : Conc Tryz.prog 206 := ⟨_, Tryz.underlying206, by simp⟩
theorem conc212 : Conc Tryz.prog 212 := ⟨_, Tryz.underlying212, by simp⟩
theorem conc218 : Conc Tryz.prog 218 := ⟨_, Tryz.underlying218, by simp⟩
theorem conc224 : Conc Tryz.prog 224 := ⟨_, Tryz.underlying224, by simp⟩
theorem fld202_0 : Fld Tryz.prog 202 0 0 200 := fld_of Tryz.underlying202 rfl rfl rfl ty200 (by decide)
theorem fld202_1 : Fld Tryz.prog 202 1 1 200 := fld_of Tryz.underlying202 rfl rfl rfl ty200 (by decide)
theorem fld204_0 : Fld Tryz.prog 204 0 0 103 := fld_of Tryz.underlying204 rfl rfl rfl ty103 (by decide)
theorem fld204_1 : Fld Tryz.prog 204 1 1 98 := fld_of Tryz.underlying204 rfl rfl rfl ty98 (by decide)
theorem fld208_0 : Fld Tryz.prog 208 0 0 206 := fld_of Tryz.underlying208 rfl rfl rfl ty206 (by decide)
theorem fld208_1 : Fld Tryz.prog 208 1 1 206 := fld_of Tryz.underlying208 rfl rfl rfl ty206 (by decide)
theorem fld210_0 : Fld Tryz.prog 210 0 0 126 := fld_of Tryz.underlying210 rfl rfl rfl ty126 (by decide)
theorem fld210_1 : Fld Tryz.prog 210 1 1 121 := fld_of Tryz.underlying210 rfl rfl rfl ty121 (by decide)
theorem fld214_0 : Fld Tryz.prog 214 0 0 212 := fld_of Tryz.underlying214 rfl rfl rfl ty212 (by decide)
theorem fld214_1 : Fld Tryz.prog 214 1 1 212 := fld_of Tryz.underlying214 rfl rfl rfl ty212 (by decide)
theorem fld216_0 : Fld Tryz.prog 216 0 0 145 := fld_of Tryz.underlying216 rfl rfl rfl ty145 (by decide)
theorem fld216_1 : Fld Tryz.prog 216 1 1 140 := fld_of Tryz.underlying216 rfl rfl rfl ty140 (by decide)
theorem fld220_0 : Fld Tryz.prog 220 0 0 218 := fld_of Tryz.underlying220 rfl rfl rfl ty218 (by decide)
theorem fld220_1 : Fld Tryz.prog 220 1 1 218 := fld_of Tryz.underlying220 rfl rfl rfl ty218 (by decide)
theorem fld222_0 : Fld Tryz.prog 222 0 0 163 := fld_of Tryz.underlying222 rfl rfl rfl ty163 (by decide)
theorem fld222_1 : Fld Tryz.prog 222 1 1 159 := fld_of Tryz.underlying222 rfl rfl rfl ty159 (by decide)
theorem fld226_0 : Fld Tryz.prog 226 0 0 224 := fld_of Tryz.underlying226 rfl rfl rfl ty224 (by decide)
theorem fld226_1 : Fld Tryz.prog 226 1 1 224 := fld_of Tryz.underlying226 rfl rfl rfl ty224 (by decide)
theorem fld228_0 : Fld Tryz.prog 228 0 0 181 := fld_of Tryz.underlying228 rfl rfl rfl ty181 (by decide)
theorem fld228_1 : Fld Tryz.prog 228 1 1 177 := fld_of Tryz.underlying228 rfl rfl rfl ty177 (by decide)
theorem last_of {B3 B : List Nd} {l : Nd} (h : B = B3 ++ [l]) : lastp B = Pt l.b 0 := by rw [h, lastp_snoc]
theorem remO0 (base sb : Nat) (x : Nd) (items : List Nd) (hbx : base ≤ x.b) (hit : items = [] ++ x :: []) : FnW Tryz.prog 62 [Pt sb 0, S x.id] base [[(sb, .cells #[(hdp (items)), (lastp (items))] 202 (0, 0))], ch 200 204 231 items .nilIface] (fun v Hs => v = .tuple #[wv 231 x, .nilIface] ∧ Hs.flatten.Perm ([[(sb, .cells #[(hdp ([])), (lastp ([]))] 202 (0, 0))], ch 200 204 231 [] .nilIface] : List Hp).flatten) := by
 refine FnW.enter (n := 73) Tryz.func62 rfl rfl fun w0 R0 hbase => ?_
 subst hbase
 show WC _ _ _ _ _ _ _ ([[(sb, .cells #[(hdp (items)), (lastp (items))] 202 (0, 0))], ch 200 204 231 items .nilIface, R0])
 refine WC.sub (fr' := [(0, _), (1, _)]) ?_ ⟨rfl, rfl, trivial⟩
 refine WC.seq (WC.region ?_)
 refine WL.q (oq_assign rfl) rfl rfl rfl ?_
 refine WL.q (oq_assign rfl) rfl rfl rfl ?_
 refine WL.nil (WE.then_normal (WC.sub (fr' := [(0, _), (1, _)]) ?_ ⟨rfl, rfl, trivial⟩))
 refine WC.seq (WC.region ?_)
 refine WL.q (oq_move rfl) rfl rfl rfl ?_
 refine WL.q (oq_move rfl) rfl rfl rfl ?_
 refine WL.f1 ?_
 refine WL.f1 ?_
 refine WL.callW2 (gotH0 _ sb x.id [] [] x items hit rfl (by simp)) call123 rfl rfl rfl fun v1_2 Hs1_2 hR1_2 => ?_
 obtain ⟨rfl, rfl⟩ := hR1_2
 refine WL.to2 ?_
 refine WL.q (oq_move rfl) rfl rfl rfl ?_
 refine WL.q (oq_extract rfl rfl) rfl rfl rfl ?_
 refine WL.q (oq_extract rfl rfl) rfl rfl rfl ?_
 refine WL.q (oq_assign rfl) rfl rfl rfl ?_
 refine WL.q (oq_assign rfl) rfl rfl rfl ?_
 refine WL.nil (WE.then_normal (WC.sub (fr' := [(0, _), (6, _), (7, _)]) ?_ ⟨rfl, rfl, rfl, trivial⟩))
 refine WC.seq (WC.seq (WC.region ?_))
 refine WL.q (oq_move rfl) rfl rfl rfl ?_
 refine WL.q (oq_peql Tryz.underlying200 rfl rfl) rfl rfl rfl ?_
 refine WL.nil (WE.then_normal (WC.sub (fr' := [(0, _), (6, _), (7, _), (15, _)]) ?_ ⟨rfl, rfl, rfl, rfl, trivial⟩))
 refine WC.cond rfl (fun q2 => ?_) (fun q2 => ?_)
 ·
  try simp only [Z1, Z2, Z3, Z4, Z5, Z6, Z7, Z8, Z9, Z0] at q2
  first | (simp at q2; done) | exact absurd q4 hhl | exact absurd q4.symm hhl | exact absurd q7 hxh | exact absurd q7.symm hxh | exact absurd q9 hxl | exact absurd q9.symm hxl | (exfalso; omega)
 ·
  try simp only [Z1, Z2, Z3, Z4, Z5, Z6, Z7, Z8, Z9, Z0] at q2
  refine WC.skip (WE.then_normal (WC.sub (fr' := [(0, _), (6, _), (7, _)]) ?_ ⟨rfl, rfl, rfl, trivial⟩))
  refine WC.seq (WC.seq ?_)
  have hh : hdp items = Pt x.b 0 := by rw [hit]; rfl
  have ht : lastp items = Pt x.b 0 := by rw [hit]; rfl
  rw [hh, ht]
  refine WC.quiet (by kernel_rfl) (by kernel_rfl) ?_
  refine WQ.q (oq_move rfl) rfl rfl rfl ?_
  refine WQ.q (oq_nilCheck rfl) rfl rfl rfl ?_
  refine WQ.q (oq_fieldAddr fld202_0 rfl) rfl rfl rfl ?_
  refine WQ.q (oq_load flat200 rfl (.head _) (List.mem_singleton.2 rfl) rfl) rfl rfl rfl ?_
  refine WQ.q (oq_move rfl) rfl rfl rfl ?_
  refine WQ.q (oq_nilCheck rfl) rfl rfl rfl ?_
  refine WQ.q (oq_fieldAddr fld202_1 rfl) rfl rfl rfl ?_
  refine WQ.q (oq_load flat200 rfl (.head _) (List.mem_singleton.2 rfl) rfl) rfl rfl rfl ?_
  refine WQ.q (oq_pesame Tryz.underlying200 ty204 rfl rfl) rfl rfl rfl ?_
  refine WQ.nil (WE.then_normal (WC.sub (fr' := [(0, _), (6, _), (7, _), (25, _)]) ?_ ⟨rfl, rfl, rfl, rfl, trivial⟩))
  refine WC.cond_t rfl ?_
  refine WC.seq (WC.region ?_)
  refine WL.q (oq_move rfl) rfl rfl rfl ?_
  refine WL.q (oq_nilCheck rfl) rfl rfl rfl ?_
  refine WL.q (oq_fieldAddr fld202_0 rfl) rfl rfl rfl ?_
  refine WL.store1 #[_, _] ty200 rfl rfl (by first | rfl | exact OwS.one one_) (Nat.lt_of_lt_of_le (Nat.lt_succ_self _) (Nat.le_of_ble_eq_true rfl)) rfl rfl ?_
  refine WL.nil (WE.then_normal (WC.sub (fr' := [(0, _), (6, _)]) ?_ ⟨rfl, rfl, trivial⟩))
  refine WC.region ?_
  refine WL.q (oq_move rfl) rfl rfl rfl ?_
  refine WL.q (oq_nilCheck rfl) rfl rfl rfl ?_
  refine WL.q (oq_fieldAddr fld202_1 rfl) rfl rfl rfl ?_
  refine WL.store1 #[_, _] ty200 rfl rfl (by first | rfl | exact OwS.one one_) (Nat.lt_of_lt_of_le (Nat.lt_succ_self _) (Nat.le_of_ble_eq_true rfl)) rfl rfl ?_
  refine WL.nil (WE.then_normal (WC.sub (fr' := [(6, _)]) ?_ ⟨rfl, trivial⟩))
  refine WC.seq (WC.region ?_)
  refine WL.q (oq_move rfl) rfl rfl rfl ?_
  refine WL.q (oq_nilCheck rfl) rfl rfl rfl ?_
  refine WL.q (oq_fieldAddr fld204_1 rfl) rfl rfl rfl ?_
  refine WL.q (oq_load flat98 rfl (.tail _ (.head _)) (mem_of hit) rfl) rfl rfl rfl ?_
  refine WL.q (oq_assign rfl) rfl rfl rfl ?_
  refine WL.f1 ?_
  refine WL.reg (reg_out (show (ch 200 204 231 (items) .nilIface).Perm ([(x.b, .cells #[nextOf 200 ([]) .nilIface, wv 231 x] 204 (0, 0))] ++ (ch 200 204 231 ([]) (.iface 200 (Pt x.b 0)) ++ ch 200 204 231 ([]) .nilIface)) from by rw [hit]; exact ch_out _ _ _ _)) ?_
  refine WL.q (oq_assign rfl) rfl rfl rfl ?_
  refine WL.nil (WE.then_normal (WC.sub (fr' := [(4, _), (5, _)]) ?_ ⟨rfl, rfl, trivial⟩))
  refine WC.ret ?_
  refine WE.lose hbx ?_
  refine WE.f2 ?_
  refine WE.f1 ?_
  refine WE.f2 ?_
  refine WE.endW2 (.inl rfl) (res2 Tryz.results62 rfl rfl) ?_
  exact ⟨rfl, perm2 rfl (by simp only [List.flatten_cons, List.flatten_nil, List.append_nil]; exact List.Perm.refl _)⟩
theorem remF0 (base sb : Nat) (x : Nd) (items : List Nd) (hbx : base ≤ x.b) (y : Nd) (B2 B3 : List Nd) (l : Nd) (hit : items = [] ++ x :: (y :: B2)) (hB : y :: B2 = B3 ++ [l]) : FnW Tryz.prog 62 [Pt sb 0, S x.id] base [[(sb, .cells #[(hdp (items)), (lastp (items))] 202 (0, 0))], ch 200 204 231 items .nilIface] (fun v Hs => v = .tuple #[wv 231 x, .nilIface] ∧ Hs.flatten.Perm ([[(sb, .cells #[(hdp (y :: B2)), (lastp (y :: B2))] 202 (0, 0))], ch 200 204 231 (y :: B2) .nilIface] : List Hp).flatten) := by
 refine FnW.enter (n := 73) Tryz.func62 rfl rfl fun w0 R0 hbase => ?_
 subst hbase
 show WC _ _ _ _ _ _ _ ([[(sb, .cells #[(hdp (items)), (lastp (items))] 202 (0, 0))], ch 200 204 231 items .nilIface, R0])
 refine WC.sub (fr' := [(0, _), (1, _)]) ?_ ⟨rfl, rfl, trivial⟩
 refine WC.seq (WC.region ?_)
 refine WL.q (oq_assign rfl) rfl rfl rfl ?_
 refine WL.q (oq_assign rfl) rfl rfl rfl ?_
 refine WL.nil (WE.then_normal (WC.sub (fr' := [(0, _), (1, _)]) ?_ ⟨rfl, rfl, trivial⟩))
 refine WC.seq (WC.region ?_)
 refine WL.q (oq_move rfl) rfl rfl rfl ?_
 refine WL.q (oq_move rfl) rfl rfl rfl ?_
 refine WL.f1 ?_
 refine WL.f1 ?_
 refine WL.callW2 (gotH0 _ sb x.id [] (y :: B2) x items hit rfl (by simp)) call123 rfl rfl rfl fun v1_2 Hs1_2 hR1_2 => ?_
 obtain ⟨rfl, rfl⟩ := hR1_2
 refine WL.to2 ?_
 refine WL.q (oq_move rfl) rfl rfl rfl ?_
 refine WL.q (oq_extract rfl rfl) rfl rfl rfl ?_
 refine WL.q (oq_extract rfl rfl) rfl rfl rfl ?_
 refine WL.q (oq_assign rfl) rfl rfl rfl ?_
 refine WL.q (oq_assign rfl) rfl rfl rfl ?_
 refine WL.nil (WE.then_normal (WC.sub (fr' := [(0, _), (6, _), (7, _)]) ?_ ⟨rfl, rfl, rfl, trivial⟩))
 refine WC.seq (WC.seq (WC.region ?_))
 refine WL.q (oq_move rfl) rfl rfl rfl ?_
 refine WL.q (oq_peql Tryz.underlying200 rfl rfl) rfl rfl rfl ?_
 refine WL.nil (WE.then_normal (WC.sub (fr' := [(0, _), (6, _), (7, _), (15, _)]) ?_ ⟨rfl, rfl, rfl, rfl, trivial⟩))
 refine WC.cond rfl (fun q2 => ?_) (fun q2 => ?_)
 ·
  try simp only [Z1, Z2, Z3, Z4, Z5, Z6, Z7, Z8, Z9, Z0] at q2
  first | (simp at q2; done) | exact absurd q4 hhl | exact absurd q4.symm hhl | exact absurd q7 hxh | exact absurd q7.symm hxh | exact absurd q9 hxl | exact absurd q9.symm hxl | (exfalso; omega)
 ·
  try simp only [Z1, Z2, Z3, Z4, Z5, Z6, Z7, Z8, Z9, Z0] at q2
  refine WC.skip (WE.then_normal (WC.sub (fr' := [(0, _), (6, _), (7, _)]) ?_ ⟨rfl, rfl, rfl, trivial⟩))
  refine WC.seq (WC.seq ?_)
  refine WC.distinct fun hdd => ?_
  have hnn := nd_of hdd
  have hhl : l.b ≠ x.b := nd_ne hnn hit (.inr (by rw [hB]; simp))
  have hit3 : items = (x :: B3) ++ l :: [] := by rw [hit, hB]; rfl
  have hh : hdp items = Pt x.b 0 := by rw [hit]; rfl
  have ht : lastp items = Pt l.b 0 := by rw [hit3]; exact lastp_snoc _ _
  rw [hh, ht]
  refine WC.quiet (by kernel_rfl) (by kernel_rfl) ?_
  refine WQ.q (oq_move rfl) rfl rfl rfl ?_
  refine WQ.q (oq_nilCheck rfl) rfl rfl rfl ?_
  refine WQ.q (oq_fieldAddr fld202_0 rfl) rfl rfl rfl ?_
  refine WQ.q (oq_load flat200 rfl (.head _) (List.mem_singleton.2 rfl) rfl) rfl rfl rfl ?_
  refine WQ.q (oq_move rfl) rfl rfl rfl ?_
  refine WQ.q (oq_nilCheck rfl) rfl rfl rfl ?_
  refine WQ.q (oq_fieldAddr fld202_1 rfl) rfl rfl rfl ?_
  refine WQ.q (oq_load flat200 rfl (.head _) (List.mem_singleton.2 rfl) rfl) rfl rfl rfl ?_
  refine WQ.q (oq_peq Tryz.underlying200 ty204 (by decide) (.tail _ (.head _)) (mem_of hit) (.tail _ (.head _)) (mem_of hit3) rfl rfl) rfl rfl rfl ?_
  refine WQ.nil (WE.then_normal (WC.sub (fr' := [(0, _), (6, _), (7, _), (25, _)]) ?_ ⟨rfl, rfl, rfl, rfl, trivial⟩))
  refine WC.cond rfl (fun q4 => ?_) (fun q4 => ?_)
  ·
   try simp only [Z1, Z2, Z3, Z4, Z5, Z6, Z7, Z8, Z9, Z0] at q4
   first | (simp at q2; done) | exact absurd q4 hhl | exact absurd q4.symm hhl | exact absurd q7 hxh | exact absurd q7.symm hxh | exact absurd q9 hxl | exact absurd q9.symm hxl | (exfalso; omega)
  ·
   try simp only [Z1, Z2, Z3, Z4, Z5, Z6, Z7, Z8, Z9, Z0] at q4
   refine WC.seq (WC.region ?_)
   refine WL.q (oq_move rfl) rfl rfl rfl ?_
   refine WL.q (oq_move rfl) rfl rfl rfl ?_
   refine WL.q (oq_nilCheck rfl) rfl rfl rfl ?_
   refine WL.q (oq_fieldAddr fld202_0 rfl) rfl rfl rfl ?_
   refine WL.q (oq_load flat200 rfl (.head _) (List.mem_singleton.2 rfl) rfl) rfl rfl rfl ?_
   refine WL.q (oq_pesame Tryz.underlying200 ty204 rfl rfl) rfl rfl rfl ?_
   refine WL.nil (WE.then_normal (WC.sub (fr' := [(0, _), (6, _), (7, _), (37, _)]) ?_ ⟨rfl, rfl, rfl, rfl, trivial⟩))
   refine WC.cond_t rfl ?_
   refine WC.region ?_
   refine WL.q (oq_move rfl) rfl rfl rfl ?_
   refine WL.q (oq_move rfl) rfl rfl rfl ?_
   refine WL.q (oq_nilCheck rfl) rfl rfl rfl ?_
   refine WL.q (oq_fieldAddr fld202_0 rfl) rfl rfl rfl ?_
   refine WL.q (oq_load flat200 rfl (.head _) (List.mem_singleton.2 rfl) rfl) rfl rfl rfl ?_
   refine WL.q (oq_nilCheck rfl) rfl rfl rfl ?_
   refine WL.q (oq_fieldAddr fld204_0 rfl) rfl rfl rfl ?_
   refine WL.q (oq_load flat103 rfl (.tail _ (.head _)) (mem_of hit) rfl) rfl rfl rfl ?_
   refine WL.q (oq_askT conc200 rfl) rfl rfl rfl ?_
   refine WL.q (oq_nilCheck rfl) rfl rfl rfl ?_
   refine WL.q (oq_fieldAddr fld202_0 rfl) rfl rfl rfl ?_
   refine WL.store1 #[_, _] ty200 rfl rfl (by first | rfl | exact OwS.one one_) (Nat.lt_of_lt_of_le (Nat.lt_succ_self _) (Nat.le_of_ble_eq_true rfl)) rfl rfl ?_
   refine WL.nil (WE.then_normal (WC.sub (fr' := [(6, _)]) ?_ ⟨rfl, trivial⟩))
   refine WC.seq (WC.region ?_)
   refine WL.q (oq_move rfl) rfl rfl rfl ?_
   refine WL.q (oq_nilCheck rfl) rfl rfl rfl ?_
   refine WL.q (oq_fieldAddr fld204_1 rfl) rfl rfl rfl ?_
   refine WL.q (oq_load flat98 rfl (.tail _ (.head _)) (mem_of hit) rfl) rfl rfl rfl ?_
   refine WL.q (oq_assign rfl) rfl rfl rfl ?_
   refine WL.f1 ?_
   refine WL.reg (reg_out (show (ch 200 204 231 (items) .nilIface).Perm ([(x.b, .cells #[nextOf 200 (y :: B2) .nilIface, wv 231 x] 204 (0, 0))] ++ (ch 200 204 231 ([]) (.iface 200 (Pt x.b 0)) ++ ch 200 204 231 (y :: B2) .nilIface)) from by rw [hit]; exact ch_out _ _ _ _)) ?_
   refine WL.q (oq_assign rfl) rfl rfl rfl ?_
   refine WL.nil (WE.then_normal (WC.sub (fr' := [(4, _), (5, _)]) ?_ ⟨rfl, rfl, trivial⟩))
   refine WC.ret ?_
   refine WE.lose hbx ?_
   refine WE.f2 ?_
   refine WE.f1 ?_
   refine WE.f2 ?_
   refine WE.endW2 (.inl rfl) (res2 Tryz.results62 rfl rfl) ?_
   exact ⟨rfl, perm2 (by rw [last_of hB]; rfl) (by simp only [List.flatten_cons, List.flatten_nil, List.append_nil]; exact List.Perm.refl _)⟩
theorem remL0 (base sb : Nat) (x : Nd) (items : List Nd) (hbx : base ≤ x.b) (h : Nd) (rr A2 : List Nd) (p : Nd) (hA0 : A2 ++ [p] = h :: rr) (hit : items = (A2 ++ [p]) ++ x :: ([])) (hA : ∀ y ∈ A2 ++ [p], y.id ≠ x.id) : FnW Tryz.prog 62 [Pt sb 0, S x.id] base [[(sb, .cells #[(hdp (items)), (lastp (items))] 202 (0, 0))], ch 200 204 231 items .nilIface] (fun v Hs => v = .tuple #[wv 231 x, .nilIface] ∧ Hs.flatten.Perm ([[(sb, .cells #[(hdp (A2 ++ p :: [])), (lastp (A2 ++ p :: []))] 202 (0, 0))], ch 200 204 231 (A2 ++ p :: []) .nilIface] : List Hp).flatten) := by
 refine FnW.enter (n := 73) Tryz.func62 rfl rfl fun w0 R0 hbase => ?_
 subst hbase
 show WC _ _ _ _ _ _ _ ([[(sb, .cells #[(hdp (items)), (lastp (items))] 202 (0, 0))], ch 200 204 231 items .nilIface, R0])
 refine WC.sub (fr' := [(0, _), (1, _)]) ?_ ⟨rfl, rfl, trivial⟩
 refine WC.seq (WC.region ?_)
 refine WL.q (oq_assign rfl) rfl rfl rfl ?_
 refine WL.q (oq_assign rfl) rfl rfl rfl ?_
 refine WL.nil (WE.then_normal (WC.sub (fr' := [(0, _), (1, _)]) ?_ ⟨rfl, rfl, trivial⟩))
 refine WC.seq (WC.region ?_)
 refine WL.q (oq_move rfl) rfl rfl rfl ?_
 refine WL.q (oq_move rfl) rfl rfl rfl ?_
 refine WL.f1 ?_
 refine WL.f1 ?_
 refine WL.callW2 (gotH0 _ sb x.id (A2 ++ [p]) [] x items hit rfl hA) call123 rfl rfl rfl fun v1_2 Hs1_2 hR1_2 => ?_
 obtain ⟨rfl, rfl⟩ := hR1_2
 rw [lastp_snoc]
 refine WL.to2 ?_
 refine WL.q (oq_move rfl) rfl rfl rfl ?_
 refine WL.q (oq_extract rfl rfl) rfl rfl rfl ?_
 refine WL.q (oq_extract rfl rfl) rfl rfl rfl ?_
 refine WL.q (oq_assign rfl) rfl rfl rfl ?_
 refine WL.q (oq_assign rfl) rfl rfl rfl ?_
 refine WL.nil (WE.then_normal (WC.sub (fr' := [(0, _), (6, _), (7, _)]) ?_ ⟨rfl, rfl, rfl, trivial⟩))
 refine WC.seq (WC.seq (WC.region ?_))
 refine WL.q (oq_move rfl) rfl rfl rfl ?_
 refine WL.q (oq_peql Tryz.underlying200 rfl rfl) rfl rfl rfl ?_
 refine WL.nil (WE.then_normal (WC.sub (fr' := [(0, _), (6, _), (7, _), (15, _)]) ?_ ⟨rfl, rfl, rfl, rfl, trivial⟩))
 refine WC.cond rfl (fun q2 => ?_) (fun q2 => ?_)
 ·
  try simp only [Z1, Z2, Z3, Z4, Z5, Z6, Z7, Z8, Z9, Z0] at q2
  first | (simp at q2; done) | exact absurd q4 hhl | exact absurd q4.symm hhl | exact absurd q7 hxh | exact absurd q7.symm hxh | exact absurd q9 hxl | exact absurd q9.symm hxl | (exfalso; omega)
 ·
  try simp only [Z1, Z2, Z3, Z4, Z5, Z6, Z7, Z8, Z9, Z0] at q2
  refine WC.skip (WE.then_normal (WC.sub (fr' := [(0, _), (6, _), (7, _)]) ?_ ⟨rfl, rfl, rfl, trivial⟩))
  refine WC.seq (WC.seq ?_)
  refine WC.distinct fun hdd => ?_
  have hnn := nd_of hdd
  have hit2 : items = A2 ++ p :: x :: ([]) := by rw [hit]; simp
  have hith : items = [] ++ h :: (rr ++ x :: ([])) := by rw [hit, hA0]; rfl
  have hxh : h.b ≠ x.b := nd_ne hnn hit (.inl (by rw [hA0]; simp))
  have hh : hdp items = Pt h.b 0 := by rw [hith]; rfl
  have hhp : hdp (A2 ++ [p]) = Pt h.b 0 := by rw [hA0]; rfl
  have hhl := hxh
  have ht : lastp items = Pt x.b 0 := by rw [hit]; exact lastp_snoc _ _
  rw [hh, ht]
  refine WC.quiet (by kernel_rfl) (by kernel_rfl) ?_
  refine WQ.q (oq_move rfl) rfl rfl rfl ?_
  refine WQ.q (oq_nilCheck rfl) rfl rfl rfl ?_
  refine WQ.q (oq_fieldAddr fld202_0 rfl) rfl rfl rfl ?_
  refine WQ.q (oq_load flat200 rfl (.head _) (List.mem_singleton.2 rfl) rfl) rfl rfl rfl ?_
  refine WQ.q (oq_move rfl) rfl rfl rfl ?_
  refine WQ.q (oq_nilCheck rfl) rfl rfl rfl ?_
  refine WQ.q (oq_fieldAddr fld202_1 rfl) rfl rfl rfl ?_
  refine WQ.q (oq_load flat200 rfl (.head _) (List.mem_singleton.2 rfl) rfl) rfl rfl rfl ?_
  refine WQ.q (oq_peq Tryz.underlying200 ty204 (by decide) (.tail _ (.head _)) (mem_of hith) (.tail _ (.head _)) (mem_of hit) rfl rfl) rfl rfl rfl ?_
  refine WQ.nil (WE.then_normal (WC.sub (fr' := [(0, _), (6, _), (7, _), (25, _)]) ?_ ⟨rfl, rfl, rfl, rfl, trivial⟩))
  refine WC.cond rfl (fun q4 => ?_) (fun q4 => ?_)
  ·
   try simp only [Z1, Z2, Z3, Z4, Z5, Z6, Z7, Z8, Z9, Z0] at q4
   first | (simp at q2; done) | exact absurd q4 hhl | exact absurd q4.symm hhl | exact absurd q7 hxh | exact absurd q7.symm hxh | exact absurd q9 hxl | exact absurd q9.symm hxl | (exfalso; omega)
  ·
   try simp only [Z1, Z2, Z3, Z4, Z5, Z6, Z7, Z8, Z9, Z0] at q4
   refine WC.seq (WC.region ?_)
   refine WL.q (oq_move rfl) rfl rfl rfl ?_
   refine WL.q (oq_move rfl) rfl rfl rfl ?_
   refine WL.q (oq_nilCheck rfl) rfl rfl rfl ?_
   refine WL.q (oq_fieldAddr fld202_0 rfl) rfl rfl rfl ?_
   refine WL.q (oq_load flat200 rfl (.head _) (List.mem_singleton.2 rfl) rfl) rfl rfl rfl ?_
   refine WL.q (oq_peq Tryz.underlying200 ty204 (by decide) (.tail _ (.head _)) (mem_of hit) (.tail _ (.head _)) (mem_of hith) rfl rfl) rfl rfl rfl ?_
   refine WL.nil (WE.then_normal (WC.sub (fr' := [(0, _), (6, _), (7, _), (37, _)]) ?_ ⟨rfl, rfl, rfl, rfl, trivial⟩))
   refine WC.cond rfl (fun q7 => ?_) (fun q7 => ?_)
   ·
    try simp only [Z1, Z2, Z3, Z4, Z5, Z6, Z7, Z8, Z9, Z0] at q7
    first | (simp at q2; done) | exact absurd q4 hhl | exact absurd q4.symm hhl | exact absurd q7 hxh | exact absurd q7.symm hxh | exact absurd q9 hxl | exact absurd q9.symm hxl | (exfalso; omega)
   ·
    try simp only [Z1, Z2, Z3, Z4, Z5, Z6, Z7, Z8, Z9, Z0] at q7
    refine WC.seq (WC.region ?_)
    refine WL.q (oq_move rfl) rfl rfl rfl ?_
    refine WL.q (oq_move rfl) rfl rfl rfl ?_
    refine WL.q (oq_nilCheck rfl) rfl rfl rfl ?_
    refine WL.q (oq_fieldAddr fld202_1 rfl) rfl rfl rfl ?_
    refine WL.q (oq_load flat200 rfl (.head _) (List.mem_singleton.2 rfl) rfl) rfl rfl rfl ?_
    refine WL.q (oq_pesame Tryz.underlying200 ty204 rfl rfl) rfl rfl rfl ?_
    refine WL.nil (WE.then_normal (WC.sub (fr' := [(0, _), (6, _), (7, _), (54, _)]) ?_ ⟨rfl, rfl, rfl, rfl, trivial⟩))
    refine WC.cond_t rfl ?_
    refine WC.seq (WC.region ?_)
    refine WL.f1 ?_
    refine WL.reg (reg_out (show (ch 200 204 231 (items) .nilIface).Perm ([(p.b, .cells #[nextOf 200 (x :: []) .nilIface, wv 231 p] 204 (0, 0))] ++ (ch 200 204 231 (A2) (.iface 200 (Pt p.b 0)) ++ ch 200 204 231 (x :: []) .nilIface)) from by rw [hit2]; exact ch_out _ _ _ _)) ?_
    refine WL.q (oq_move rfl) rfl rfl rfl ?_
    refine WL.q (oq_nilCheck rfl) rfl rfl rfl ?_
    refine WL.q (oq_fieldAddr fld204_0 rfl) rfl rfl rfl ?_
    refine WL.store1 #[_, _] ty103 rfl rfl (by first | rfl | exact OwS.one one_) (Nat.lt_of_lt_of_le (Nat.lt_succ_self _) (Nat.le_of_ble_eq_true rfl)) rfl rfl ?_
    refine WL.nil (WE.then_normal (WC.sub (fr' := [(0, _), (6, _), (7, _)]) ?_ ⟨rfl, rfl, rfl, trivial⟩))
    refine WC.region ?_
    refine WL.q (oq_move rfl) rfl rfl rfl ?_
    refine WL.q (oq_move rfl) rfl rfl rfl ?_
    refine WL.q (oq_nilCheck rfl) rfl rfl rfl ?_
    refine WL.q (oq_fieldAddr fld202_1 rfl) rfl rfl rfl ?_
    refine WL.f2 ?_
    refine WL.store1 #[_, _] ty200 rfl rfl (by first | rfl | exact OwS.one one_) (Nat.lt_of_lt_of_le (Nat.lt_succ_self _) (Nat.le_of_ble_eq_true rfl)) rfl rfl ?_
    refine WL.nil (WE.then_normal (WC.sub (fr' := [(6, _)]) ?_ ⟨rfl, trivial⟩))
    refine WC.seq (WC.region ?_)
    refine WL.q (oq_move rfl) rfl rfl rfl ?_
    refine WL.q (oq_nilCheck rfl) rfl rfl rfl ?_
    refine WL.q (oq_fieldAddr fld204_1 rfl) rfl rfl rfl ?_
    refine WL.q (oq_load flat98 rfl (.tail _ (.tail _ (.head _))) (List.mem_append_right _ List.mem_cons_self) rfl) rfl rfl rfl ?_
    refine WL.q (oq_assign rfl) rfl rfl rfl ?_
    refine WL.f2 ?_
    refine WL.reg (reg_out (show (ch 200 204 231 (A2) (.iface 200 (Pt p.b 0)) ++ ch 200 204 231 (x :: []) .nilIface).Perm ([(x.b, .cells #[nextOf 200 ([]) .nilIface, wv 231 x] 204 (0, 0))] ++ (ch 200 204 231 (A2) (.iface 200 (Pt p.b 0)) ++ ch 200 204 231 ([]) .nilIface)) from List.perm_middle)) ?_
    refine WL.q (oq_assign rfl) rfl rfl rfl ?_
    refine WL.nil (WE.then_normal (WC.sub (fr' := [(4, _), (5, _)]) ?_ ⟨rfl, rfl, trivial⟩))
    refine WC.ret ?_
    refine WE.lose hbx ?_
    refine WE.f3 ?_
    refine WE.f1 ?_
    refine WE.f3 ?_
    refine WE.f3 ?_
    refine WE.endW3 (.inl rfl) (res2 Tryz.results62 rfl rfl) ?_
    exact ⟨rfl, perm2 (by rw [hhp]) (by simp only [List.flatten_cons, List.flatten_nil, List.append_nil]; exact ch_del A2 p [] _)⟩
theorem remM0 (base sb : Nat) (x : Nd) (items : List Nd) (hbx : base ≤ x.b) (y : Nd) (B2 B3 : List Nd) (l : Nd) (hB : y :: B2 = B3 ++ [l]) (h : Nd) (rr A2 : List Nd) (p : Nd) (hA0 : A2 ++ [p] = h :: rr) (hit : items = (A2 ++ [p]) ++ x :: (y :: B2)) (hA : ∀ y ∈ A2 ++ [p], y.id ≠ x.id) : FnW Tryz.prog 62 [Pt sb 0, S x.id] base [[(sb, .cells #[(hdp (items)), (lastp (items))] 202 (0, 0))], ch 200 204 231 items .nilIface] (fun v Hs => v = .tuple #[wv 231 x, .nilIface] ∧ Hs.flatten.Perm ([[(sb, .cells #[(hdp (A2 ++ p :: y :: B2)), (lastp (A2 ++ p :: y :: B2))] 202 (0, 0))], ch 200 204 231 (A2 ++ p :: y :: B2) .nilIface] : List Hp).flatten) := by
 refine FnW.enter (n := 73) Tryz.func62 rfl rfl fun w0 R0 hbase => ?_
 subst hbase
 show WC _ _ _ _ _ _ _ ([[(sb, .cells #[(hdp (items)), (lastp (items))] 202 (0, 0))], ch 200 204 231 items .nilIface, R0])
 refine WC.sub (fr' := [(0, _), (1, _)]) ?_ ⟨rfl, rfl, trivial⟩
 refine WC.seq (WC.region ?_)
 refine WL.q (oq_assign rfl) rfl rfl rfl ?_
 refine WL.q (oq_assign rfl) rfl rfl rfl ?_
 refine WL.nil (WE.then_normal (WC.sub (fr' := [(0, _), (1, _)]) ?_ ⟨rfl, rfl, trivial⟩))
 refine WC.seq (WC.region ?_)
 refine WL.q (oq_move rfl) rfl rfl rfl ?_
 refine WL.q (oq_move rfl) rfl rfl rfl ?_
 refine WL.f1 ?_
 refine WL.f1 ?_
 refine WL.callW2 (gotH0 _ sb x.id (A2 ++ [p]) (y :: B2) x items hit rfl hA) call123 rfl rfl rfl fun v1_2 Hs1_2 hR1_2 => ?_
 obtain ⟨rfl, rfl⟩ := hR1_2
 rw [lastp_snoc]
 refine WL.to2 ?_
 refine WL.q (oq_move rfl) rfl rfl rfl ?_
 refine WL.q (oq_extract rfl rfl) rfl rfl rfl ?_
 refine WL.q (oq_extract rfl rfl) rfl rfl rfl ?_
 refine WL.q (oq_assign rfl) rfl rfl rfl ?_
 refine WL.q (oq_assign rfl) rfl rfl rfl ?_
 refine WL.nil (WE.then_normal (WC.sub (fr' := [(0, _), (6, _), (7, _)]) ?_ ⟨rfl, rfl, rfl, trivial⟩))
 refine WC.seq (WC.seq (WC.region ?_))
 refine WL.q (oq_move rfl) rfl rfl rfl ?_
 refine WL.q (oq_peql Tryz.underlying200 rfl rfl) rfl rfl rfl ?_
 refine WL.nil (WE.then_normal (WC.sub (fr' := [(0, _), (6, _), (7, _), (15, _)]) ?_ ⟨rfl, rfl, rfl, rfl, trivial⟩))
 refine WC.cond rfl (fun q2 => ?_) (fun q2 => ?_)
 ·
  try simp only [Z1, Z2, Z3, Z4, Z5, Z6, Z7, Z8, Z9, Z0] at q2
  first | (simp at q2; done) | exact absurd q4 hhl | exact absurd q4.symm hhl | exact absurd q7 hxh | exact absurd q7.symm hxh | exact absurd q9 hxl | exact absurd q9.symm hxl | (exfalso; omega)
 ·
  try simp only [Z1, Z2, Z3, Z4, Z5, Z6, Z7, Z8, Z9, Z0] at q2
  refine WC.skip (WE.then_normal (WC.sub (fr' := [(0, _), (6, _), (7, _)]) ?_ ⟨rfl, rfl, rfl, trivial⟩))
  refine WC.seq (WC.seq ?_)
  refine WC.distinct fun hdd => ?_
  have hnn := nd_of hdd
  have hit2 : items = A2 ++ p :: x :: (y :: B2) := by rw [hit]; simp
  have hith : items = [] ++ h :: (rr ++ x :: (y :: B2)) := by rw [hit, hA0]; rfl
  have hxh : h.b ≠ x.b := nd_ne hnn hit (.inl (by rw [hA0]; simp))
  have hh : hdp items = Pt h.b 0 := by rw [hith]; rfl
  have hhp : hdp (A2 ++ [p]) = Pt h.b 0 := by rw [hA0]; rfl
  have hitl : items = ((A2 ++ [p]) ++ x :: B3) ++ l :: [] := by rw [hit, hB]; simp
  have hxl : l.b ≠ x.b := nd_ne hnn hit (.inr (by rw [hB]; simp))
  have hhl : h.b ≠ l.b := nd_ne hnn hitl (.inl (by rw [hA0]; simp))
  have ht : lastp items = Pt l.b 0 := by rw [hitl]; exact lastp_snoc _ _
  rw [hh, ht]
  refine WC.quiet (by kernel_rfl) (by kernel_rfl) ?_
  refine WQ.q (oq_move rfl) rfl rfl rfl ?_
  refine WQ.q (oq_nilCheck rfl) rfl rfl rfl ?_
  refine WQ.q (oq_fieldAddr fld202_0 rfl) rfl rfl rfl ?_
  refine WQ.q (oq_load flat200 rfl (.head _) (List.mem_singleton.2 rfl) rfl) rfl rfl rfl ?_
  refine WQ.q (oq_move rfl) rfl rfl rfl ?_
  refine WQ.q (oq_nilCheck rfl) rfl rfl rfl ?_
  refine WQ.q (oq_fieldAddr fld202_1 rfl) rfl rfl rfl ?_
  refine WQ.q (oq_load flat200 rfl (.head _) (List.mem_singleton.2 rfl) rfl) rfl rfl rfl ?_
  refine WQ.q (oq_peq Tryz.underlying200 ty204 (by decide) (.tail _ (.head _)) (mem_of hith) (.tail _ (.head _)) (mem_of hitl) rfl rfl) rfl rfl rfl ?_
  refine WQ.nil (WE.then_normal (WC.sub (fr' := [(0, _), (6, _), (7, _), (25, _)]) ?_ ⟨rfl, rfl, rfl, rfl, trivial⟩))
  refine WC.cond rfl (fun q4 => ?_) (fun q4 => ?_)
  ·
   try simp only [Z1, Z2, Z3, Z4, Z5, Z6, Z7, Z8, Z9, Z0] at q4
   first | (simp at q2; done) | exact absurd q4 hhl | exact absurd q4.symm hhl | exact absurd q7 hxh | exact absurd q7.symm hxh | exact absurd q9 hxl | exact absurd q9.symm hxl | (exfalso; omega)
  ·
   try simp only [Z1, Z2, Z3, Z4, Z5, Z6, Z7, Z8, Z9, Z0] at q4
   refine WC.seq (WC.region ?_)
   refine WL.q (oq_move rfl) rfl rfl rfl ?_
   refine WL.q (oq_move rfl) rfl rfl rfl ?_
   refine WL.q (oq_nilCheck rfl) rfl rfl rfl ?_
   refine WL.q (oq_fieldAddr fld202_0 rfl) rfl rfl rfl ?_
   refine WL.q (oq_load flat200 rfl (.head _) (List.mem_singleton.2 rfl) rfl) rfl rfl rfl ?_
   refine WL.q (oq_peq Tryz.underlying200 ty204 (by decide) (.tail _ (.head _)) (mem_of hit) (.tail _ (.head _)) (mem_of hith) rfl rfl) rfl rfl rfl ?_
   refine WL.nil (WE.then_normal (WC.sub (fr' := [(0, _), (6, _), (7, _), (37, _)]) ?_ ⟨rfl, rfl, rfl, rfl, trivial⟩))
   refine WC.cond rfl (fun q7 => ?_) (fun q7 => ?_)
   ·
    try simp only [Z1, Z2, Z3, Z4, Z5, Z6, Z7, Z8, Z9, Z0] at q7
    first | (simp at q2; done) | exact absurd q4 hhl | exact absurd q4.symm hhl | exact absurd q7 hxh | exact absurd q7.symm hxh | exact absurd q9 hxl | exact absurd q9.symm hxl | (exfalso; omega)
   ·
    try simp only [Z1, Z2, Z3, Z4, Z5, Z6, Z7, Z8, Z9, Z0] at q7
    refine WC.seq (WC.region ?_)
    refine WL.q (oq_move rfl) rfl rfl rfl ?_
    refine WL.q (oq_move rfl) rfl rfl rfl ?_
    refine WL.q (oq_nilCheck rfl) rfl rfl rfl ?_
    refine WL.q (oq_fieldAddr fld202_1 rfl) rfl rfl rfl ?_
    refine WL.q (oq_load flat200 rfl (.head _) (List.mem_singleton.2 rfl) rfl) rfl rfl rfl ?_
    refine WL.q (oq_peq Tryz.underlying200 ty204 (by decide) (.tail _ (.head _)) (mem_of hit) (.tail _ (.head _)) (mem_of hitl) rfl rfl) rfl rfl rfl ?_
    refine WL.nil (WE.then_normal (WC.sub (fr' := [(0, _), (6, _), (7, _), (54, _)]) ?_ ⟨rfl, rfl, rfl, rfl, trivial⟩))
    refine WC.cond rfl (fun q9 => ?_) (fun q9 => ?_)
    ·
     try simp only [Z1, Z2, Z3, Z4, Z5, Z6, Z7, Z8, Z9, Z0] at q9
     first | (simp at q2; done) | exact absurd q4 hhl | exact absurd q4.symm hhl | exact absurd q7 hxh | exact absurd q7.symm hxh | exact absurd q9 hxl | exact absurd q9.symm hxl | (exfalso; omega)
    ·
     try simp only [Z1, Z2, Z3, Z4, Z5, Z6, Z7, Z8, Z9, Z0] at q9
     refine WC.region ?_
     refine WL.f1 ?_
     refine WL.reg (reg_out (show (ch 200 204 231 (items) .nilIface).Perm ([(p.b, .cells #[nextOf 200 (x :: y :: B2) .nilIface, wv 231 p] 204 (0, 0))] ++ (ch 200 204 231 (A2) (.iface 200 (Pt p.b 0)) ++ ch 200 204 231 (x :: y :: B2) .nilIface)) from by rw [hit2]; exact ch_out _ _ _ _)) ?_
     refine WL.q (oq_move rfl) rfl rfl rfl ?_
     refine WL.q (oq_move rfl) rfl rfl rfl ?_
     refine WL.q (oq_nilCheck rfl) rfl rfl rfl ?_
     refine WL.q (oq_fieldAddr fld204_0 rfl) rfl rfl rfl ?_
     refine WL.q (oq_load flat103 rfl (.tail _ (.head _)) (List.mem_append_right _ List.mem_cons_self) rfl) rfl rfl rfl ?_
     refine WL.q (oq_nilCheck rfl) rfl rfl rfl ?_
     refine WL.q (oq_fieldAddr fld204_0 rfl) rfl rfl rfl ?_
     refine WL.store1 #[_, _] ty103 rfl rfl (by first | rfl | exact OwS.one one_) (Nat.lt_of_lt_of_le (Nat.lt_succ_self _) (Nat.le_of_ble_eq_true rfl)) rfl rfl ?_
     refine WL.nil (WE.then_normal (WC.sub (fr' := [(6, _)]) ?_ ⟨rfl, trivial⟩))
     refine WC.seq (WC.region ?_)
     refine WL.q (oq_move rfl) rfl rfl rfl ?_
     refine WL.q (oq_nilCheck rfl) rfl rfl rfl ?_
     refine WL.q (oq_fieldAddr fld204_1 rfl) rfl rfl rfl ?_
     refine WL.q (oq_load flat98 rfl (.tail _ (.head _)) (List.mem_append_right _ List.mem_cons_self) rfl) rfl rfl rfl ?_
     refine WL.q (oq_assign rfl) rfl rfl rfl ?_
     refine WL.f1 ?_
     refine WL.reg (reg_out (show (ch 200 204 231 (A2) (.iface 200 (Pt p.b 0)) ++ ch 200 204 231 (x :: y :: B2) .nilIface).Perm ([(x.b, .cells #[nextOf 200 (y :: B2) .nilIface, wv 231 x] 204 (0, 0))] ++ (ch 200 204 231 (A2) (.iface 200 (Pt p.b 0)) ++ ch 200 204 231 (y :: B2) .nilIface)) from List.perm_middle)) ?_
     refine WL.q (oq_assign rfl) rfl rfl rfl ?_
     refine WL.nil (WE.then_normal (WC.sub (fr' := [(4, _), (5, _)]) ?_ ⟨rfl, rfl, trivial⟩))
     refine WC.ret ?_
     refine WE.lose hbx ?_
     refine WE.f3 ?_
     refine WE.f1 ?_
     refine WE.f2 ?_
     refine WE.f3 ?_
     refine WE.endW3 (.inl rfl) (res2 Tryz.results62 rfl rfl) ?_
     exact ⟨rfl, perm2 (by rw [lastp_cons, last_of hB, ← hhp, hdp_cons A2 p (y :: B2) []]) (by simp only [List.flatten_cons, List.flatten_nil, List.append_nil]; exact ch_del A2 p (y :: B2) _)⟩
theorem remN0 (base sb : Nat) (by_ : List UInt8) (items : List Nd) (hn : ∀ y ∈ items, y.id ≠ by_) : FnW Tryz.prog 62 [Pt sb 0, S by_] base [[(sb, .cells #[(hdp (items)), (lastp (items))] 202 (0, 0))], ch 200 204 231 items .nilIface] (fun v Hs => (∃ k u, v = .tuple #[.nilIface, .iface k u]) ∧ Hs = [[(sb, .cells #[(hdp (items)), (lastp (items))] 202 (0, 0))], ch 200 204 231 items .nilIface]) := by
 refine FnW.enter (n := 73) Tryz.func62 rfl rfl fun w0 R0 hbase => ?_
 subst hbase
 show WC _ _ _ _ _ _ _ ([[(sb, .cells #[(hdp (items)), (lastp (items))] 202 (0, 0))], ch 200 204 231 items .nilIface, R0])
 refine WC.sub (fr' := [(0, _), (1, _)]) ?_ ⟨rfl, rfl, trivial⟩
 refine WC.seq (WC.region ?_)
 refine WL.q (oq_assign rfl) rfl rfl rfl ?_
 refine WL.q (oq_assign rfl) rfl rfl rfl ?_
 refine WL.nil (WE.then_normal (WC.sub (fr' := [(0, _), (1, _)]) ?_ ⟨rfl, rfl, trivial⟩))
 refine WC.seq (WC.region ?_)
 refine WL.q (oq_move rfl) rfl rfl rfl ?_
 refine WL.q (oq_move rfl) rfl rfl rfl ?_
 refine WL.f1 ?_
 refine WL.f1 ?_
 refine WL.callW2 (gotM0 _ sb by_ items hn) call123 rfl rfl rfl fun v1_2 Hs1_2 hR1_2 => ?_
 obtain ⟨rfl, rfl⟩ := hR1_2
 refine WL.to2 ?_
 refine WL.q (oq_move rfl) rfl rfl rfl ?_
 refine WL.q (oq_extract rfl rfl) rfl rfl rfl ?_
 refine WL.q (oq_extract rfl rfl) rfl rfl rfl ?_
 refine WL.q (oq_assign rfl) rfl rfl rfl ?_
 refine WL.q (oq_assign rfl) rfl rfl rfl ?_
 refine WL.nil (WE.then_normal (WC.sub (fr' := [(0, _), (6, _), (7, _)]) ?_ ⟨rfl, rfl, rfl, trivial⟩))
 refine WC.seq (WC.seq (WC.region ?_))
 refine WL.q (oq_move rfl) rfl rfl rfl ?_
 refine WL.q (oq_peql Tryz.underlying200 rfl rfl) rfl rfl rfl ?_
 refine WL.nil (WE.then_normal (WC.sub (fr' := [(0, _), (6, _), (7, _), (15, _)]) ?_ ⟨rfl, rfl, rfl, rfl, trivial⟩))
 refine WC.cond rfl (fun q2 => ?_) (fun q2 => ?_)
 ·
  try simp only [Z1, Z2, Z3, Z4, Z5, Z6, Z7, Z8, Z9, Z0] at q2
  refine WC.seq (WC.region ?_)
  refine WL.callA0 (errNew _) call122 rfl rfl rfl fun v3_0 N3_0 hR3_0 hN3_0 => ?_
  obtain ⟨ek, eu, rfl⟩ := hR3_0
  refine WL.q (oq_assign rfl) rfl rfl rfl ?_
  refine WL.q (oq_assign rfl) rfl rfl rfl ?_
  refine WL.nil (WE.then_normal (WC.sub (fr' := [(4, _), (5, _)]) ?_ ⟨rfl, rfl, trivial⟩))
  refine WC.ret (WE.then_ret ?_)
  refine WE.forget hN3_0 ?_
  refine WE.endW2 (.inl rfl) (res2 Tryz.results62 rfl rfl) ?_
  exact ⟨⟨_, _, rfl⟩, rfl⟩
 ·
  try simp only [Z1, Z2, Z3, Z4, Z5, Z6, Z7, Z8, Z9, Z0] at q2
  simp at q2
theorem remO1 (base sb : Nat) (nr : Value) (x : Nd) (items : List Nd) (hbx : base ≤ x.b) (hit : items = [] ++ x :: []) : FnW Tryz.prog 76 [Pt sb 0, S x.id] base [[(sb, .cells #[(hdp (items)), (lastp (items)), nr] 208 (0, 0))], ch 206 210 235 items .nilIface] (fun v Hs => v = .tuple #[wv 235 x, .nilIface] ∧ Hs.flatten.Perm ([[(sb, .cells #[(hdp ([])), (lastp ([])), nr] 208 (0, 0))], ch 206 210 235 [] .nilIface] : List Hp).flatten) := by
 refine FnW.enter (n := 73) Tryz.func76 rfl rfl fun w0 R0 hbase => ?_
 subst hbase
 show WC _ _ _ _ _ _ _ ([[(sb, .cells #[(hdp (items)), (lastp (items)), nr] 208 (0, 0))], ch 206 210 235 items .nilIface, R0])
 refine WC.sub (fr' := [(0, _), (1, _)]) ?_ ⟨rfl, rfl, trivial⟩
 refine WC.seq (WC.region ?_)
 refine WL.q (oq_assign rfl) rfl rfl rfl ?_
 refine WL.q (oq_assign rfl) rfl rfl rfl ?_
 refine WL.nil (WE.then_normal (WC.sub (fr' := [(0, _), (1, _)]) ?_ ⟨rfl, rfl, trivial⟩))
 refine WC.seq (WC.region ?_)
 refine WL.q (oq_move rfl) rfl rfl rfl ?_
 refine WL.q (oq_move rfl) rfl rfl rfl ?_
 refine WL.f1 ?_
 refine WL.f1 ?_
 refine WL.callW2 (gotH1 _ sb nr x.id [] [] x items hit rfl (by simp)) call124 rfl rfl rfl fun v1_2 Hs1_2 hR1_2 => ?_
 obtain ⟨rfl, rfl⟩ := hR1_2
 refine WL.to2 ?_
 refine WL.q (oq_move rfl) rfl rfl rfl ?_
 refine WL.q (oq_extract rfl rfl) rfl rfl rfl ?_
 refine WL.q (oq_extract rfl rfl) rfl rfl rfl ?_
 refine WL.q (oq_assign rfl) rfl rfl rfl ?_
 refine WL.q (oq_assign rfl) rfl rfl rfl ?_
 refine WL.nil (WE.then_normal (WC.sub (fr' := [(0, _), (6, _), (7, _)]) ?_ ⟨rfl, rfl, rfl, trivial⟩))
 refine WC.seq (WC.seq (WC.region ?_))
 refine WL.q (oq_move rfl) rfl rfl rfl ?_
 refine WL.q (oq_peql Tryz.underlying206 rfl rfl) rfl rfl rfl ?_
 refine WL.nil (WE.then_normal (WC.sub (fr' := [(0, _), (6, _), (7, _), (15, _)]) ?_ ⟨rfl, rfl, rfl, rfl, trivial⟩))
 refine WC.cond rfl (fun q2 => ?_) (fun q2 => ?_)
 ·
  try simp only [Z1, Z2, Z3, Z4, Z5, Z6, Z7, Z8, Z9, Z0] at q2
  first | (simp at q2; done) | exact absurd q4 hhl | exact absurd q4.symm hhl | exact absurd q7 hxh | exact absurd q7.symm hxh | exact absurd q9 hxl | exact absurd q9.symm hxl | (exfalso; omega)
 ·
  try simp only [Z1, Z2, Z3, Z4, Z5, Z6, Z7, Z8, Z9, Z0] at q2
  refine WC.skip (WE.then_normal (WC.sub (fr' := [(0, _), (6, _), (7, _)]) ?_ ⟨rfl, rfl, rfl, trivial⟩))
  refine WC.seq (WC.seq ?_)
  have hh : hdp items = Pt x.b 0 := by rw [hit]; rfl
  have ht : lastp items = Pt x.b 0 := by rw [hit]; rfl
  rw [hh, ht]
  refine WC.quiet (by kernel_rfl) (by kernel_rfl) ?_
  refine WQ.q (oq_move rfl) rfl rfl rfl ?_
  refine WQ.q (oq_nilCheck rfl) rfl rfl rfl ?_
  refine WQ.q (oq_fieldAddr fld208_0 rfl) rfl rfl rfl ?_
  refine WQ.q (oq_load flat206 rfl (.head _) (List.mem_singleton.2 rfl) rfl) rfl rfl rfl ?_
  refine WQ.q (oq_move rfl) rfl rfl rfl ?_
  refine WQ.q (oq_nilCheck rfl) rfl rfl rfl ?_
  refine WQ.q (oq_fieldAddr fld208_1 rfl) rfl rfl rfl ?_
  refine WQ.q (oq_load flat206 rfl (.head _) (List.mem_singleton.2 rfl) rfl) rfl rfl rfl ?_
  refine WQ.q (oq_pesame Tryz.underlying206 ty210 rfl rfl) rfl rfl rfl ?_
  refine WQ.nil (WE.then_normal (WC.sub (fr' := [(0, _), (6, _), (7, _), (25, _)]) ?_ ⟨rfl, rfl, rfl, rfl, trivial⟩))
  refine WC.cond_t rfl ?_
  refine WC.seq (WC.region ?_)
  refine WL.q (oq_move rfl) rfl rfl rfl ?_
  refine WL.q (oq_nilCheck rfl) rfl rfl rfl ?_
  refine WL.q (oq_fieldAddr fld208_0 rfl) rfl rfl rfl ?_
  refine WL.store1 #[_, _, _] ty206 rfl rfl (by first | rfl | exact OwS.one one_) (Nat.lt_of_lt_of_le (Nat.lt_succ_self _) (Nat.le_of_ble_eq_true rfl)) rfl rfl ?_
  refine WL.nil (WE.then_normal (WC.sub (fr' := [(0, _), (6, _)]) ?_ ⟨rfl, rfl, trivial⟩))
  refine WC.region ?_
  refine WL.q (oq_move rfl) rfl rfl rfl ?_
  refine WL.q (oq_nilCheck rfl) rfl rfl rfl ?_
  refine WL.q (oq_fieldAddr fld208_1 rfl) rfl rfl rfl ?_
  refine WL.store1 #[_, _, _] ty206 rfl rfl (by first | rfl | exact OwS.one one_) (Nat.lt_of_lt_of_le (Nat.lt_succ_self _) (Nat.le_of_ble_eq_true rfl)) rfl rfl ?_
  refine WL.nil (WE.then_normal (WC.sub (fr' := [(6, _)]) ?_ ⟨rfl, trivial⟩))
  refine WC.seq (WC.region ?_)
  refine WL.q (oq_move rfl) rfl rfl rfl ?_
  refine WL.q (oq_nilCheck rfl) rfl rfl rfl ?_
  refine WL.q (oq_fieldAddr fld210_1 rfl) rfl rfl rfl ?_
  refine WL.q (oq_load flat121 rfl (.tail _ (.head _)) (mem_of hit) rfl) rfl rfl rfl ?_
  refine WL.q (oq_assign rfl) rfl rfl rfl ?_
  refine WL.f1 ?_
  refine WL.reg (reg_out (show (ch 206 210 235 (items) .nilIface).Perm ([(x.b, .cells #[nextOf 206 ([]) .nilIface, wv 235 x] 210 (0, 0))] ++ (ch 206 210 235 ([]) (.iface 206 (Pt x.b 0)) ++ ch 206 210 235 ([]) .nilIface)) from by rw [hit]; exact ch_out _ _ _ _)) ?_
  refine WL.q (oq_assign rfl) rfl rfl rfl ?_
  refine WL.nil (WE.then_normal (WC.sub (fr' := [(4, _), (5, _)]) ?_ ⟨rfl, rfl, trivial⟩))
  refine WC.ret ?_
  refine WE.lose hbx ?_
  refine WE.f2 ?_
  refine WE.f1 ?_
  refine WE.f2 ?_
  refine WE.endW2 (.inl rfl) (res2 Tryz.results76 rfl rfl) ?_
  exact ⟨rfl, perm2 rfl (by simp only [List.flatten_cons, List.flatten_nil, List.append_nil]; exact List.Perm.refl _)⟩
theorem remF1 (base sb : Nat) (nr : Value) (x : Nd) (items : List Nd) (hbx : base ≤ x.b) (y : Nd) (B2 B3 : List Nd) (l : Nd) (hit : items = [] ++ x :: (y :: B2)) (hB : y :: B2 = B3 ++ [l]) : FnW Tryz.prog 76 [Pt sb 0, S x.id] base [[(sb, .cells #[(hdp (items)), (lastp (items)), nr] 208 (0, 0))], ch 206 210 235 items .nilIface] (fun v Hs => v = .tuple #[wv 235 x, .nilIface] ∧ Hs.flatten.Perm ([[(sb, .cells #[(hdp (y :: B2)), (lastp (y :: B2)), nr] 208 (0, 0))], ch 206 210 235 (y :: B2) .nilIface] : List Hp).flatten) := by
 refine FnW.enter (n := 73) Tryz.func76 rfl rfl fun w0 R0 hbase => ?_
 subst hbase
 show WC _ _ _ _ _ _ _ ([[(sb, .cells #[(hdp (items)), (lastp (items)), nr] 208 (0, 0))], ch 206 210 235 items .nilIface, R0])
 refine WC.sub (fr' := [(0, _), (1, _)]) ?_ ⟨rfl, rfl, trivial⟩
 refine WC.seq (WC.region ?_)
 refine WL.q (oq_assign rfl) rfl rfl rfl ?_
 refine WL.q (oq_assign rfl) rfl rfl rfl ?_
 refine WL.nil (WE.then_normal (WC.sub (fr' := [(0, _), (1, _)]) ?_ ⟨rfl, rfl, trivial⟩))
 refine WC.seq (WC.region ?_)
 refine WL.q (oq_move rfl) rfl rfl rfl ?_
 refine WL.q (oq_move rfl) rfl rfl rfl ?_
 refine WL.f1 ?_
 refine WL.f1 ?_
 refine WL.callW2 (gotH1 _ sb nr x.id [] (y :: B2) x items hit rfl (by simp)) call124 rfl rfl rfl fun v1_2 Hs1_2 hR1_2 => ?_
 obtain ⟨rfl, rfl⟩ := hR1_2
 refine WL.to2 ?_
 refine WL.q (oq_move rfl) rfl rfl rfl ?_
 refine WL.q (oq_extract rfl rfl) rfl rfl rfl ?_
 refine WL.q (oq_extract rfl rfl) rfl rfl rfl ?_
 refine WL.q (oq_assign rfl) rfl rfl rfl ?_
 refine WL.q (oq_assign rfl) rfl rfl rfl ?_
 refine WL.nil (WE.then_normal (WC.sub (fr' := [(0, _), (6, _), (7, _)]) ?_ ⟨rfl, rfl, rfl, trivial⟩))
 refine WC.seq (WC.seq (WC.region ?_))
 refine WL.q (oq_move rfl) rfl rfl rfl ?_
 refine WL.q (oq_peql Tryz.underlying206 rfl rfl) rfl rfl rfl ?_
 refine WL.nil (WE.then_normal (WC.sub (fr' := [(0, _), (6, _), (7, _), (15, _)]) ?_ ⟨rfl, rfl, rfl, rfl, trivial⟩))
 refine WC.cond rfl (fun q2 => ?_) (fun q2 => ?_)
 ·
  try simp only [Z1, Z2, Z3, Z4, Z5, Z6, Z7, Z8, Z9, Z0] at q2
  first | (simp at q2; done) | exact absurd q4 hhl | exact absurd q4.symm hhl | exact absurd q7 hxh | exact absurd q7.symm hxh | exact absurd q9 hxl | exact absurd q9.symm hxl | (exfalso; omega)
 ·
  try simp only [Z1, Z2, Z3, Z4, Z5, Z6, Z7, Z8, Z9, Z0] at q2
  refine WC.skip (WE.then_normal (WC.sub (fr' := [(0, _), (6, _), (7, _)]) ?_ ⟨rfl, rfl, rfl, trivial⟩))
  refine WC.seq (WC.seq ?_)
  refine WC.distinct fun hdd => ?_
  have hnn := nd_of hdd
  have hhl : l.b ≠ x.b := nd_ne hnn hit (.inr (by rw [hB]; simp))
  have hit3 : items = (x :: B3) ++ l :: [] := by rw [hit, hB]; rfl
  have hh : hdp items = Pt x.b 0 := by rw [hit]; rfl
  have ht : lastp items = Pt l.b 0 := by rw [hit3]; exact lastp_snoc _ _
  rw [hh, ht]
  refine WC.quiet (by kernel_rfl) (by kernel_rfl) ?_
  refine WQ.q (oq_move rfl) rfl rfl rfl ?_
  refine WQ.q (oq_nilCheck rfl) rfl rfl rfl ?_
  refine WQ.q (oq_fieldAddr fld208_0 rfl) rfl rfl rfl ?_
  refine WQ.q (oq_load flat206 rfl (.head _) (List.mem_singleton.2 rfl) rfl) rfl rfl rfl ?_
  refine WQ.q (oq_move rfl) rfl rfl rfl ?_
  refine WQ.q (oq_nilCheck rfl) rfl rfl rfl ?_
  refine WQ.q (oq_fieldAddr fld208_1 rfl) rfl rfl rfl ?_
  refine WQ.q (oq_load flat206 rfl (.head _) (List.mem_singleton.2 rfl) rfl) rfl rfl rfl ?_
  refine WQ.q (oq_peq Tryz.underlying206 ty210 (by decide) (.tail _ (.head _)) (mem_of hit) (.tail _ (.head _)) (mem_of hit3) rfl rfl) rfl rfl rfl ?_
  refine WQ.nil (WE.then_normal (WC.sub (fr' := [(0, _), (6, _), (7, _), (25, _)]) ?_ ⟨rfl, rfl, rfl, rfl, trivial⟩))
  refine WC.cond rfl (fun q4 => ?_) (fun q4 => ?_)
  ·
   try simp only [Z1, Z2, Z3, Z4, Z5, Z6, Z7, Z8, Z9, Z0] at q4
   first | (simp at q2; done) | exact absurd q4 hhl | exact absurd q4.symm hhl | exact absurd q7 hxh | exact absurd q7.symm hxh | exact absurd q9 hxl | exact absurd q9.symm hxl | (exfalso; omega)
  ·
   try simp only [Z1, Z2, Z3, Z4, Z5, Z6, Z7, Z8, Z9, Z0] at q4
   refine WC.seq (WC.region ?_)
   refine WL.q (oq_move rfl) rfl rfl rfl ?_
   refine WL.q (oq_move rfl) rfl rfl rfl ?_
   refine WL.q (oq_nilCheck rfl) rfl rfl rfl ?_
   refine WL.q (oq_fieldAddr fld208_0 rfl) rfl rfl rfl ?_
   refine WL.q (oq_load flat206 rfl (.head _) (List.mem_singleton.2 rfl) rfl) rfl rfl rfl ?_
   refine WL.q (oq_pesame Tryz.underlying206 ty210 rfl rfl) rfl rfl rfl ?_
   refine WL.nil (WE.then_normal (WC.sub (fr' := [(0, _), (6, _), (7, _), (37, _)]) ?_ ⟨rfl, rfl, rfl, rfl, trivial⟩))
   refine WC.cond_t rfl ?_
   refine WC.region ?_
   refine WL.q (oq_move rfl) rfl rfl rfl ?_
   refine WL.q (oq_move rfl) rfl rfl rfl ?_
   refine WL.q (oq_nilCheck rfl) rfl rfl rfl ?_
   refine WL.q (oq_fieldAddr fld208_0 rfl) rfl rfl rfl ?_
   refine WL.q (oq_load flat206 rfl (.head _) (List.mem_singleton.2 rfl) rfl) rfl rfl rfl ?_
   refine WL.q (oq_nilCheck rfl) rfl rfl rfl ?_
   refine WL.q (oq_fieldAddr fld210_0 rfl) rfl rfl rfl ?_
   refine WL.q (oq_load flat126 rfl (.tail _ (.head _)) (mem_of hit) rfl) rfl rfl rfl ?_
   refine WL.q (oq_askT conc206 rfl) rfl rfl rfl ?_
   refine WL.q (oq_nilCheck rfl) rfl rfl rfl ?_
   refine WL.q (oq_fieldAddr fld208_0 rfl) rfl rfl rfl ?_
   refine WL.store1 #[_, _, _] ty206 rfl rfl (by first | rfl | exact OwS.one one_) (Nat.lt_of_lt_of_le (Nat.lt_succ_self _) (Nat.le_of_ble_eq_true rfl)) rfl rfl ?_
   refine WL.nil (WE.then_normal (WC.sub (fr' := [(6, _)]) ?_ ⟨rfl, trivial⟩))
   refine WC.seq (WC.region ?_)
   refine WL.q (oq_move rfl) rfl rfl rfl ?_
   refine WL.q (oq_nilCheck rfl) rfl rfl rfl ?_
   refine WL.q (oq_fieldAddr fld210_1 rfl) rfl rfl rfl ?_
   refine WL.q (oq_load flat121 rfl (.tail _ (.head _)) (mem_of hit) rfl) rfl rfl rfl ?_
   refine WL.q (oq_assign rfl) rfl rfl rfl ?_
   refine WL.f1 ?_
   refine WL.reg (reg_out (show (ch 206 210 235 (items) .nilIface).Perm ([(x.b, .cells #[nextOf 206 (y :: B2) .nilIface, wv 235 x] 210 (0, 0))] ++ (ch 206 210 235 ([]) (.iface 206 (Pt x.b 0)) ++ ch 206 210 235 (y :: B2) .nilIface)) from by rw [hit]; exact ch_out _ _ _ _)) ?_
   refine WL.q (oq_assign rfl) rfl rfl rfl ?_
   refine WL.nil (WE.then_normal (WC.sub (fr' := [(4, _), (5, _)]) ?_ ⟨rfl, rfl, trivial⟩))
   refine WC.ret ?_
   refine WE.lose hbx ?_
   refine WE.f2 ?_
   refine WE.f1 ?_
   refine WE.f2 ?_
   refine WE.endW2 (.inl rfl) (res2 Tryz.results76 rfl rfl) ?_
   exact ⟨rfl, perm2 (by rw [last_of hB]; rfl) (by simp only [List.flatten_cons, List.flatten_nil, List.append_nil]; exact List.Perm.refl _)⟩
theorem remL1 (base sb : Nat) (nr : Value) (x : Nd) (items : List Nd) (hbx : base ≤ x.b) (h : Nd) (rr A2 : List Nd) (p : Nd) (hA0 : A2 ++ [p] = h :: rr) (hit : items = (A2 ++ [p]) ++ x :: ([])) (hA : ∀ y ∈ A2 ++ [p], y.id ≠ x.id) : FnW Tryz.prog 76 [Pt sb 0, S x.id] base [[(sb, .cells #[(hdp (items)), (lastp (items)), nr] 208 (0, 0))], ch 206 210 235 items .nilIface] (fun v Hs => v = .tuple #[wv 235 x, .nilIface] ∧ Hs.flatten.Perm ([[(sb, .cells #[(hdp (A2 ++ p :: [])), (lastp (A2 ++ p :: [])), nr] 208 (0, 0))], ch 206 210 235 (A2 ++ p :: []) .nilIface] : List Hp).flatten) := by
 refine FnW.enter (n := 73) Tryz.func76 rfl rfl fun w0 R0 hbase => ?_
 subst hbase
 show WC _ _ _ _ _ _ _ ([[(sb, .cells #[(hdp (items)), (lastp (items)), nr] 208 (0, 0))], ch 206 210 235 items .nilIface, R0])
 refine WC.sub (fr' := [(0, _), (1, _)]) ?_ ⟨rfl, rfl, trivial⟩
 refine WC.seq (WC.region ?_)
 refine WL.q (oq_assign rfl) rfl rfl rfl ?_
 refine WL.q (oq_assign rfl) rfl rfl rfl ?_
 refine WL.nil (WE.then_normal (WC.sub (fr' := [(0, _), (1, _)]) ?_ ⟨rfl, rfl, trivial⟩))
 refine WC.seq (WC.region ?_)
 refine WL.q (oq_move rfl) rfl rfl rfl ?_
 refine WL.q (oq_move rfl) rfl rfl rfl ?_
 refine WL.f1 ?_
 refine WL.f1 ?_
 refine WL.callW2 (gotH1 _ sb nr x.id (A2 ++ [p]) [] x items hit rfl hA) call124 rfl rfl rfl fun v1_2 Hs1_2 hR1_2 => ?_
 obtain ⟨rfl, rfl⟩ := hR1_2
 rw [lastp_snoc]
 refine WL.to2 ?_
 refine WL.q (oq_move rfl) rfl rfl rfl ?_
 refine WL.q (oq_extract rfl rfl) rfl rfl rfl ?_
 refine WL.q (oq_extract rfl rfl) rfl rfl rfl ?_
 refine WL.q (oq_assign rfl) rfl rfl rfl ?_
 refine WL.q (oq_assign rfl) rfl rfl rfl ?_
 refine WL.nil (WE.then_normal (WC.sub (fr' := [(0, _), (6, _), (7, _)]) ?_ ⟨rfl, rfl, rfl, trivial⟩))
 refine WC.seq (WC.seq (WC.region ?_))
 refine WL.q (oq_move rfl) rfl rfl rfl ?_
 refine WL.q (oq_peql Tryz.underlying206 rfl rfl) rfl rfl rfl ?_
 refine WL.nil (WE.then_normal (WC.sub (fr' := [(0, _), (6, _), (7, _), (15, _)]) ?_ ⟨rfl, rfl, rfl, rfl, trivial⟩))
 refine WC.cond rfl (fun q2 => ?_) (fun q2 => ?_)
 ·
  try simp only [Z1, Z2, Z3, Z4, Z5, Z6, Z7, Z8, Z9, Z0] at q2
  first | (simp at q2; done) | exact absurd q4 hhl | exact absurd q4.symm hhl | exact absurd q7 hxh | exact absurd q7.symm hxh | exact absurd q9 hxl | exact absurd q9.symm hxl | (exfalso; omega)
 ·
  try simp only [Z1, Z2, Z3, Z4, Z5, Z6, Z7, Z8, Z9, Z0] at q2
  refine WC.skip (WE.then_normal (WC.sub (fr' := [(0, _), (6, _), (7, _)]) ?_ ⟨rfl, rfl, rfl, trivial⟩))
  refine WC.seq (WC.seq ?_)
  refine WC.distinct fun hdd => ?_
  have hnn := nd_of hdd
  have hit2 : items = A2 ++ p :: x :: ([]) := by rw [hit]; simp
  have hith : items = [] ++ h :: (rr ++ x :: ([])) := by rw [hit, hA0]; rfl
  have hxh : h.b ≠ x.b := nd_ne hnn hit (.inl (by rw [hA0]; simp))
  have hh : hdp items = Pt h.b 0 := by rw [hith]; rfl
  have hhp : hdp (A2 ++ [p]) = Pt h.b 0 := by rw [hA0]; rfl
  have hhl := hxh
  have ht : lastp items = Pt x.b 0 := by rw [hit]; exact lastp_snoc _ _
  rw [hh, ht]
  refine WC.quiet (by kernel_rfl) (by kernel_rfl) ?_
  refine WQ.q (oq_move rfl) rfl rfl rfl ?_
  refine WQ.q (oq_nilCheck rfl) rfl rfl rfl ?_
  refine WQ.q (oq_fieldAddr fld208_0 rfl) rfl rfl rfl ?_
  refine WQ.q (oq_load flat206 rfl (.head _) (List.mem_singleton.2 rfl) rfl) rfl rfl rfl ?_
  refine WQ.q (oq_move rfl) rfl rfl rfl ?_
  refine WQ.q (oq_nilCheck rfl) rfl rfl rfl ?_
  refine WQ.q (oq_fieldAddr fld208_1 rfl) rfl rfl rfl ?_
  refine WQ.q (oq_load flat206 rfl (.head _) (List.mem_singleton.2 rfl) rfl) rfl rfl rfl ?_
  refine WQ.q (oq_peq Tryz.underlying206 ty210 (by decide) (.tail _ (.head _)) (mem_of hith) (.tail _ (.head _)) (mem_of hit) rfl rfl) rfl rfl rfl ?_
  refine WQ.nil (WE.then_normal (WC.sub (fr' := [(0, _), (6, _), (7, _), (25, _)]) ?_ ⟨rfl, rfl, rfl, rfl, trivial⟩))
  refine WC.cond rfl (fun q4 => ?_) (fun q4 => ?_)
  ·
   try simp only [Z1, Z2, Z3, Z4, Z5, Z6, Z7, Z8, Z9, Z0] at q4
   first | (simp at q2; done) | exact absurd q4 hhl | exact absurd q4.symm hhl | exact absurd q7 hxh | exact absurd q7.symm hxh | exact absurd q9 hxl | exact absurd q9.symm hxl | (exfalso; omega)
  ·
   try simp only [Z1, Z2, Z3, Z4, Z5, Z6, Z7, Z8, Z9, Z0] at q4
   refine WC.seq (WC.region ?_)
   refine WL.q (oq_move rfl) rfl rfl rfl ?_
   refine WL.q (oq_move rfl) rfl rfl rfl ?_
   refine WL.q (oq_nilCheck rfl) rfl rfl rfl ?_
   refine WL.q (oq_fieldAddr fld208_0 rfl) rfl rfl rfl ?_
   refine WL.q (oq_load flat206 rfl (.head _) (List.mem_singleton.2 rfl) rfl) rfl rfl rfl ?_
   refine WL.q (oq_peq Tryz.underlying206 ty210 (by decide) (.tail _ (.head _)) (mem_of hit) (.tail _ (.head _)) (mem_of hith) rfl rfl) rfl rfl rfl ?_
   refine WL.nil (WE.then_normal (WC.sub (fr' := [(0, _), (6, _), (7, _), (37, _)]) ?_ ⟨rfl, rfl, rfl, rfl, trivial⟩))
   refine WC.cond rfl (fun q7 => ?_) (fun q7 => ?_)
   ·
    try simp only [Z1, Z2, Z3, Z4, Z5, Z6, Z7, Z8, Z9, Z0] at q7
    first | (simp at q2; done) | exact absurd q4 hhl | exact absurd q4.symm hhl | exact absurd q7 hxh | exact absurd q7.symm hxh | exact absurd q9 hxl | exact absurd q9.symm hxl | (exfalso; omega)
   ·
    try simp only [Z1, Z2, Z3, Z4, Z5, Z6, Z7, Z8, Z9, Z0] at q7
    refine WC.seq (WC.region ?_)
    refine WL.q (oq_move rfl) rfl rfl rfl ?_
    refine WL.q (oq_move rfl) rfl rfl rfl ?_
    refine WL.q (oq_nilCheck rfl) rfl rfl rfl ?_
    refine WL.q (oq_fieldAddr fld208_1 rfl) rfl rfl rfl ?_
    refine WL.q (oq_load flat206 rfl (.head _) (List.mem_singleton.2 rfl) rfl) rfl rfl rfl ?_
    refine WL.q (oq_pesame Tryz.underlying206 ty210 rfl rfl) rfl rfl rfl ?_
    refine WL.nil (WE.then_normal (WC.sub (fr' := [(0, _), (6, _), (7, _), (54, _)]) ?_ ⟨rfl, rfl, rfl, rfl, trivial⟩))
    refine WC.cond_t rfl ?_
    refine WC.seq (WC.region ?_)
    refine WL.f1 ?_
    refine WL.reg (reg_out (show (ch 206 210 235 (items) .nilIface).Perm ([(p.b, .cells #[nextOf 206 (x :: []) .nilIface, wv 235 p] 210 (0, 0))] ++ (ch 206 210 235 (A2) (.iface 206 (Pt p.b 0)) ++ ch 206 210 235 (x :: []) .nilIface)) from by rw [hit2]; exact ch_out _ _ _ _)) ?_
    refine WL.q (oq_move rfl) rfl rfl rfl ?_
    refine WL.q (oq_nilCheck rfl) rfl rfl rfl ?_
    refine WL.q (oq_fieldAddr fld210_0 rfl) rfl rfl rfl ?_
    refine WL.store1 #[_, _] ty126 rfl rfl (by first | rfl | exact OwS.one one_) (Nat.lt_of_lt_of_le (Nat.lt_succ_self _) (Nat.le_of_ble_eq_true rfl)) rfl rfl ?_
    refine WL.nil (WE.then_normal (WC.sub (fr' := [(0, _), (6, _), (7, _)]) ?_ ⟨rfl, rfl, rfl, trivial⟩))
    refine WC.region ?_
    refine WL.q (oq_move rfl) rfl rfl rfl ?_
    refine WL.q (oq_move rfl) rfl rfl rfl ?_
    refine WL.q (oq_nilCheck rfl) rfl rfl rfl ?_
    refine WL.q (oq_fieldAddr fld208_1 rfl) rfl rfl rfl ?_
    refine WL.f2 ?_
    refine WL.store1 #[_, _, _] ty206 rfl rfl (by first | rfl | exact OwS.one one_) (Nat.lt_of_lt_of_le (Nat.lt_succ_self _) (Nat.le_of_ble_eq_true rfl)) rfl rfl ?_
    refine WL.nil (WE.then_normal (WC.sub (fr' := [(6, _)]) ?_ ⟨rfl, trivial⟩))
    refine WC.seq (WC.region ?_)
    refine WL.q (oq_move rfl) rfl rfl rfl ?_
    refine WL.q (oq_nilCheck rfl) rfl rfl rfl ?_
    refine WL.q (oq_fieldAddr fld210_1 rfl) rfl rfl rfl ?_
    refine WL.q (oq_load flat121 rfl (.tail _ (.tail _ (.head _))) (List.mem_append_right _ List.mem_cons_self) rfl) rfl rfl rfl ?_
    refine WL.q (oq_assign rfl) rfl rfl rfl ?_
    refine WL.f2 ?_
    refine WL.reg (reg_out (show (ch 206 210 235 (A2) (.iface 206 (Pt p.b 0)) ++ ch 206 210 235 (x :: []) .nilIface).Perm ([(x.b, .cells #[nextOf 206 ([]) .nilIface, wv 235 x] 210 (0, 0))] ++ (ch 206 210 235 (A2) (.iface 206 (Pt p.b 0)) ++ ch 206 210 235 ([]) .nilIface)) from List.perm_middle)) ?_
    refine WL.q (oq_assign rfl) rfl rfl rfl ?_
    refine WL.nil (WE.then_normal (WC.sub (fr' := [(4, _), (5, _)]) ?_ ⟨rfl, rfl, trivial⟩))
    refine WC.ret ?_
    refine WE.lose hbx ?_
    refine WE.f3 ?_
    refine WE.f1 ?_
    refine WE.f3 ?_
    refine WE.f3 ?_
    refine WE.endW3 (.inl rfl) (res2 Tryz.results76 rfl rfl) ?_
    exact ⟨rfl, perm2 (by rw [hhp]) (by simp only [List.flatten_cons, List.flatten_nil, List.append_nil]; exact ch_del A2 p [] _)⟩
theorem remM1 (base sb : Nat) (nr : Value) (x : Nd) (items : List Nd) (hbx : base ≤ x.b) (y : Nd) (B2 B3 : List Nd) (l : Nd) (hB : y :: B2 = B3 ++ [l]) (h : Nd) (rr A2 : List Nd) (p : Nd) (hA0 : A2 ++ [p] = h :: rr) (hit : items = (A2 ++ [p]) ++ x :: (y :: B2)) (hA : ∀ y ∈ A2 ++ [p], y.id ≠ x.id) : FnW Tryz.prog 76 [Pt sb 0, S x.id] base [[(sb, .cells #[(hdp (items)), (lastp (items)), nr] 208 (0, 0))], ch 206 210 235 items .nilIface] (fun v Hs => v = .tuple #[wv 235 x, .nilIface] ∧ Hs.flatten.Perm ([[(sb, .cells #[(hdp (A2 ++ p :: y :: B2)), (lastp (A2 ++ p :: y :: B2)), nr] 208 (0, 0))], ch 206 210 235 (A2 ++ p :: y :: B2) .nilIface] : List Hp).flatten) := by
 refine FnW.enter (n := 73) Tryz.func76 rfl rfl fun w0 R0 hbase => ?_
 subst hbase
 show WC _ _ _ _ _ _ _ ([[(sb, .cells #[(hdp (items)), (lastp (items)), nr] 208 (0, 0))], ch 206 210 235 items .nilIface, R0])
 refine WC.sub (fr' := [(0, _), (1, _)]) ?_ ⟨rfl, rfl, trivial⟩
 refine WC.seq (WC.region ?_)
 refine WL.q (oq_assign rfl) rfl rfl rfl ?_
 refine WL.q (oq_assign rfl) rfl rfl rfl ?_
 refine WL.nil (WE.then_normal (WC.sub (fr' := [(0, _), (1, _)]) ?_ ⟨rfl, rfl, trivial⟩))
 refine WC.seq (WC.region ?_)
 refine WL.q (oq_move rfl) rfl rfl rfl ?_
 refine WL.q (oq_move rfl) rfl rfl rfl ?_
 refine WL.f1 ?_
 refine WL.f1 ?_
 refine WL.callW2 (gotH1 _ sb nr x.id (A2 ++ [p]) (y :: B2) x items hit rfl hA) call124 rfl rfl rfl fun v1_2 Hs1_2 hR1_2 => ?_
 obtain ⟨rfl, rfl⟩ := hR1_2
 rw [lastp_snoc]
 refine WL.to2 ?_
 refine WL.q (oq_move rfl) rfl rfl rfl ?_
 refine WL.q (oq_extract rfl rfl) rfl rfl rfl ?_
 refine WL.q (oq_extract rfl rfl) rfl rfl rfl ?_
 refine WL.q (oq_assign rfl) rfl rfl rfl ?_
 refine WL.q (oq_assign rfl) rfl rfl rfl ?_
 refine WL.nil (WE.then_normal (WC.sub (fr' := [(0, _), (6, _), (7, _)]) ?_ ⟨rfl, rfl, rfl, trivial⟩))
 refine WC.seq (WC.seq (WC.region ?_))
 refine WL.q (oq_move rfl) rfl rfl rfl ?_
 refine WL.q (oq_peql Tryz.underlying206 rfl rfl) rfl rfl rfl ?_
 refine WL.nil (WE.then_normal (WC.sub (fr' := [(0, _), (6, _), (7, _), (15, _)]) ?_ ⟨rfl, rfl, rfl, rfl, trivial⟩))
 refine WC.cond rfl (fun q2 => ?_) (fun q2 => ?_)
 ·
  try simp only [Z1, Z2, Z3, Z4, Z5, Z6, Z7, Z8, Z9, Z0] at q2
  first | (simp at q2; done) | exact absurd q4 hhl | exact absurd q4.symm hhl | exact absurd q7 hxh | exact absurd q7.symm hxh | exact absurd q9 hxl | exact absurd q9.symm hxl | (exfalso; omega)
 ·
  try simp only [Z1, Z2, Z3, Z4, Z5, Z6, Z7, Z8, Z9, Z0] at q2
  refine WC.skip (WE.then_normal (WC.sub (fr' := [(0, _), (6, _), (7, _)]) ?_ ⟨rfl, rfl, rfl, trivial⟩))
  refine WC.seq (WC.seq ?_)
  refine WC.distinct fun hdd => ?_
  have hnn := nd_of hdd
  have hit2 : items = A2 ++ p :: x :: (y :: B2) := by rw [hit]; simp
  have hith : items = [] ++ h :: (rr ++ x :: (y :: B2)) := by rw [hit, hA0]; rfl
  have hxh : h.b ≠ x.b := nd_ne hnn hit (.inl (by rw [hA0]; simp))
  have hh : hdp items = Pt h.b 0 := by rw [hith]; rfl
  have hhp : hdp (A2 ++ [p]) = Pt h.b 0 := by rw [hA0]; rfl
  have hitl : items = ((A2 ++ [p]) ++ x :: B3) ++ l :: [] := by rw [hit, hB]; simp
  have hxl : l.b ≠ x.b := nd_ne hnn hit (.inr (by rw [hB]; simp))
  have hhl : h.b ≠ l.b := nd_ne hnn hitl (.inl (by rw [hA0]; simp))
  have ht : lastp items = Pt l.b 0 := by rw [hitl]; exact lastp_snoc _ _
  rw [hh, ht]
  refine WC.quiet (by kernel_rfl) (by kernel_rfl) ?_
  refine WQ.q (oq_move rfl) rfl rfl rfl ?_
  refine WQ.q (oq_nilCheck rfl) rfl rfl rfl ?_
  refine WQ.q (oq_fieldAddr fld208_0 rfl) rfl rfl rfl ?_
  refine WQ.q (oq_load flat206 rfl (.head _) (List.mem_singleton.2 rfl) rfl) rfl rfl rfl ?_
  refine WQ.q (oq_move rfl) rfl rfl rfl ?_
  refine WQ.q (oq_nilCheck rfl) rfl rfl rfl ?_
  refine WQ.q (oq_fieldAddr fld208_1 rfl) rfl rfl rfl ?_
  refine WQ.q (oq_load flat206 rfl (.head _) (List.mem_singleton.2 rfl) rfl) rfl rfl rfl ?_
  refine WQ.q (oq_peq Tryz.underlying206 ty210 (by decide) (.tail _ (.head _)) (mem_of hith) (.tail _ (.head _)) (mem_of hitl) rfl rfl) rfl rfl rfl ?_
  refine WQ.nil (WE.then_normal (WC.sub (fr' := [(0, _), (6, _), (7, _), (25, _)]) ?_ ⟨rfl, rfl, rfl, rfl, trivial⟩))
  refine WC.cond rfl (fun q4 => ?_) (fun q4 => ?_)
  ·
   try simp only [Z1, Z2, Z3, Z4, Z5, Z6, Z7, Z8, Z9, Z0] at q4
   first | (simp at q2; done) | exact absurd q4 hhl | exact absurd q4.symm hhl | exact absurd q7 hxh | exact absurd q7.symm hxh | exact absurd q9 hxl | exact absurd q9.symm hxl | (exfalso; omega)
  ·
   try simp only [Z1, Z2, Z3, Z4, Z5, Z6, Z7, Z8, Z9, Z0] at q4
   refine WC.seq (WC.region ?_)
   refine WL.q (oq_move rfl) rfl rfl rfl ?_
   refine WL.q (oq_move rfl) rfl rfl rfl ?_
   refine WL.q (oq_nilCheck rfl) rfl rfl rfl ?_
   refine WL.q (oq_fieldAddr fld208_0 rfl) rfl rfl rfl ?_
   refine WL.q (oq_load flat206 rfl (.head _) (List.mem_singleton.2 rfl) rfl) rfl rfl rfl ?_
   refine WL.q (oq_peq Tryz.underlying206 ty210 (by decide) (.tail _ (.head _)) (mem_of hit) (.tail _ (.head _)) (mem_of hith) rfl rfl) rfl rfl rfl ?_
   refine WL.nil (WE.then_normal (WC.sub (fr' := [(0, _), (6, _), (7, _), (37, _)]) ?_ ⟨rfl, rfl, rfl, rfl, trivial⟩))
   refine WC.cond rfl (fun q7 => ?_) (fun q7 => ?_)
   ·
    try simp only [Z1, Z2, Z3, Z4, Z5, Z6, Z7, Z8, Z9, Z0] at q7
    first | (simp at q2; done) | exact absurd q4 hhl | exact absurd q4.symm hhl | exact absurd q7 hxh | exact absurd q7.symm hxh | exact absurd q9 hxl | exact absurd q9.symm hxl | (exfalso; omega)
   ·
    try simp only [Z1, Z2, Z3, Z4, Z5, Z6, Z7, Z8, Z9, Z0] at q7
    refine WC.seq (WC.region ?_)
    refine WL.q (oq_move rfl) rfl rfl rfl ?_
    refine WL.q (oq_move rfl) rfl rfl rfl ?_
    refine WL.q (oq_nilCheck rfl) rfl rfl rfl ?_
    refine WL.q (oq_fieldAddr fld208_1 rfl) rfl rfl rfl ?_
    refine WL.q (oq_load flat206 rfl (.head _) (List.mem_singleton.2 rfl) rfl) rfl rfl rfl ?_
    refine WL.q (oq_peq Tryz.underlying206 ty210 (by decide) (.tail _ (.head _)) (mem_of hit) (.tail _ (.head _)) (mem_of hitl) rfl rfl) rfl rfl rfl ?_
    refine WL.nil (WE.then_normal (WC.sub (fr' := [(0, _), (6, _), (7, _), (54, _)]) ?_ ⟨rfl, rfl, rfl, rfl, trivial⟩))
    refine WC.cond rfl (fun q9 => ?_) (fun q9 => ?_)
    ·
     try simp only [Z1, Z2, Z3, Z4, Z5, Z6, Z7, Z8, Z9, Z0] at q9
     first | (simp at q2; done) | exact absurd q4 hhl | exact absurd q4.symm hhl | exact absurd q7 hxh | exact absurd q7.symm hxh | exact absurd q9 hxl | exact absurd q9.symm hxl | (exfalso; omega)
    ·
     try simp only [Z1, Z2, Z3, Z4, Z5, Z6, Z7, Z8, Z9, Z0] at q9
     refine WC.region ?_
     refine WL.f1 ?_
     refine WL.reg (reg_out (show (ch 206 210 235 (items) .nilIface).Perm ([(p.b, .cells #[nextOf 206 (x :: y :: B2) .nilIface, wv 235 p] 210 (0, 0))] ++ (ch 206 210 235 (A2) (.iface 206 (Pt p.b 0)) ++ ch 206 210 235 (x :: y :: B2) .nilIface)) from by rw [hit2]; exact ch_out _ _ _ _)) ?_
     refine WL.q (oq_move rfl) rfl rfl rfl ?_
     refine WL.q (oq_move rfl) rfl rfl rfl ?_
     refine WL.q (oq_nilCheck rfl) rfl rfl rfl ?_
     refine WL.q (oq_fieldAddr fld210_0 rfl) rfl rfl rfl ?_
     refine WL.q (oq_load flat126 rfl (.tail _ (.head _)) (List.mem_append_right _ List.mem_cons_self) rfl) rfl rfl rfl ?_
     refine WL.q (oq_nilCheck rfl) rfl rfl rfl ?_
     refine WL.q (oq_fieldAddr fld210_0 rfl) rfl rfl rfl ?_
     refine WL.store1 #[_, _] ty126 rfl rfl (by first | rfl | exact OwS.one one_) (Nat.lt_of_lt_of_le (Nat.lt_succ_self _) (Nat.le_of_ble_eq_true rfl)) rfl rfl ?_
     refine WL.nil (WE.then_normal (WC.sub (fr' := [(6, _)]) ?_ ⟨rfl, trivial⟩))
     refine WC.seq (WC.region ?_)
     refine WL.q (oq_move rfl) rfl rfl rfl ?_
     refine WL.q (oq_nilCheck rfl) rfl rfl rfl ?_
     refine WL.q (oq_fieldAddr fld210_1 rfl) rfl rfl rfl ?_
     refine WL.q (oq_load flat121 rfl (.tail _ (.head _)) (List.mem_append_right _ List.mem_cons_self) rfl) rfl rfl rfl ?_
     refine WL.q (oq_assign rfl) rfl rfl rfl ?_
     refine WL.f1 ?_
     refine WL.reg (reg_out (show (ch 206 210 235 (A2) (.iface 206 (Pt p.b 0)) ++ ch 206 210 235 (x :: y :: B2) .nilIface).Perm ([(x.b, .cells #[nextOf 206 (y :: B2) .nilIface, wv 235 x] 210 (0, 0))] ++ (ch 206 210 235 (A2) (.iface 206 (Pt p.b 0)) ++ ch 206 210 235 (y :: B2) .nilIface)) from List.perm_middle)) ?_
     refine WL.q (oq_assign rfl) rfl rfl rfl ?_
     refine WL.nil (WE.then_normal (WC.sub (fr' := [(4, _), (5, _)]) ?_ ⟨rfl, rfl, trivial⟩))
     refine WC.ret ?_
     refine WE.lose hbx ?_
     refine WE.f3 ?_
     refine WE.f1 ?_
     refine WE.f2 ?_
     refine WE.f3 ?_
     refine WE.endW3 (.inl rfl) (res2 Tryz.results76 rfl rfl) ?_
     exact ⟨rfl, perm2 (by rw [lastp_cons, last_of hB, ← hhp, hdp_cons A2 p (y :: B2) []]) (by simp only [List.flatten_cons, List.flatten_nil, List.append_nil]; exact ch_del A2 p (y :: B2) _)⟩
theorem remN1 (base sb : Nat) (nr : Value) (by_ : List UInt8) (items : List Nd) (hn : ∀ y ∈ items, y.id ≠ by_) : FnW Tryz.prog 76 [Pt sb 0, S by_] base [[(sb, .cells #[(hdp (items)), (lastp (items)), nr] 208 (0, 0))], ch 206 210 235 items .nilIface] (fun v Hs => (∃ k u, v = .tuple #[.nilIface, .iface k u]) ∧ Hs = [[(sb, .cells #[(hdp (items)), (lastp (items)), nr] 208 (0, 0))], ch 206 210 235 items .nilIface]) := by
 refine FnW.enter (n := 73) Tryz.func76 rfl rfl fun w0 R0 hbase => ?_
 subst hbase
 show WC _ _ _ _ _ _ _ ([[(sb, .cells #[(hdp (items)), (lastp (items)), nr] 208 (0, 0))], ch 206 210 235 items .nilIface, R0])
 refine WC.sub (fr' := [(0, _), (1, _)]) ?_ ⟨rfl, rfl, trivial⟩
 refine WC.seq (WC.region ?_)
 refine WL.q (oq_assign rfl) rfl rfl rfl ?_
 refine WL.q (oq_assign rfl) rfl rfl rfl ?_
 refine WL.nil (WE.then_normal (WC.sub (fr' := [(0, _), (1, _)]) ?_ ⟨rfl, rfl, trivial⟩))
 refine WC.seq (WC.region ?_)
 refine WL.q (oq_move rfl) rfl rfl rfl ?_
 refine WL.q (oq_move rfl) rfl rfl rfl ?_
 refine WL.f1 ?_
 refine WL.f1 ?_
 refine WL.callW2 (gotM1 _ sb nr by_ items hn) call124 rfl rfl rfl fun v1_2 Hs1_2 hR1_2 => ?_
 obtain ⟨rfl, rfl⟩ := hR1_2
 refine WL.to2 ?_
 refine WL.q (oq_move rfl) rfl rfl rfl ?_
 refine WL.q (oq_extract rfl rfl) rfl rfl rfl ?_
 refine WL.q (oq_extract rfl rfl) rfl rfl rfl ?_
 refine WL.q (oq_assign rfl) rfl rfl rfl ?_
 refine WL.q (oq_assign rfl) rfl rfl rfl ?_
 refine WL.nil (WE.then_normal (WC.sub (fr' := [(0, _), (6, _), (7, _)]) ?_ ⟨rfl, rfl, rfl, trivial⟩))
 refine WC.seq (WC.seq (WC.region ?_))
 refine WL.q (oq_move rfl) rfl rfl rfl ?_
 refine WL.q (oq_peql Tryz.underlying206 rfl rfl) rfl rfl rfl ?_
 refine WL.nil (WE.then_normal (WC.sub (fr' := [(0, _), (6, _), (7, _), (15, _)]) ?_ ⟨rfl, rfl, rfl, rfl, trivial⟩))
 refine WC.cond rfl (fun q2 => ?_) (fun q2 => ?_)
 ·
  try simp only [Z1, Z2, Z3, Z4, Z5, Z6, Z7, Z8, Z9, Z0] at q2
  refine WC.seq (WC.region ?_)
  refine WL.callA0 (errNew _) call122 rfl rfl rfl fun v3_0 N3_0 hR3_0 hN3_0 => ?_
  obtain ⟨ek, eu, rfl⟩ := hR3_0
  refine WL.q (oq_assign rfl) rfl rfl rfl ?_
  refine WL.q (oq_assign rfl) rfl rfl rfl ?_
  refine WL.nil (WE.then_normal (WC.sub (fr' := [(4, _), (5, _)]) ?_ ⟨rfl, rfl, trivial⟩))
  refine WC.ret (WE.then_ret ?_)
  refine WE.forget hN3_0 ?_
  refine WE.endW2 (.inl rfl) (res2 Tryz.results76 rfl rfl) ?_
  exact ⟨⟨_, _, rfl⟩, rfl⟩
 ·
  try simp only [Z1, Z2, Z3, Z4, Z5, Z6, Z7, Z8, Z9, Z0] at q2
  simp at q2
theorem remO2 (base sb : Nat) (x : Nd) (items : List Nd) (hbx : base ≤ x.b) (hit : items = [] ++ x :: []) : FnW Tryz.prog 90 [Pt sb 0, S x.id] base [[(sb, .cells #[(hdp (items)), (lastp (items))] 214 (0, 0))], ch 212 216 239 items .nilIface] (fun v Hs => v = .tuple #[wv 239 x, .nilIface] ∧ Hs.flatten.Perm ([[(sb, .cells #[(hdp ([])), (lastp ([]))] 214 (0, 0))], ch 212 216 239 [] .nilIface] : List Hp).flatten) := by
 refine FnW.enter (n := 73) Tryz.func90 rfl rfl fun w0 R0 hbase => ?_
 subst hbase
 show WC _ _ _ _ _ _ _ ([[(sb, .cells #[(hdp (items)), (lastp (items))] 214 (0, 0))], ch 212 216 239 items .nilIface, R0])
 refine WC.sub (fr' := [(0, _), (1, _)]) ?_ ⟨rfl, rfl, trivial⟩
 refine WC.seq (WC.region ?_)
 refine WL.q (oq_assign rfl) rfl rfl rfl ?_
 refine WL.q (oq_assign rfl) rfl rfl rfl ?_
 refine WL.nil (WE.then_normal (WC.sub (fr' := [(0, _), (1, _)]) ?_ ⟨rfl, rfl, trivial⟩))
 refine WC.seq (WC.region ?_)
 refine WL.q (oq_move rfl) rfl rfl rfl ?_
 refine WL.q (oq_move rfl) rfl rfl rfl ?_
 refine WL.f1 ?_
 refine WL.f1 ?_
 refine WL.callW2 (gotH2 _ sb x.id [] [] x items hit rfl (by simp)) call125 rfl rfl rfl fun v1_2 Hs1_2 hR1_2 => ?_
 obtain ⟨rfl, rfl⟩ := hR1_2
 refine WL.to2 ?_
 refine WL.q (oq_move rfl) rfl rfl rfl ?_
 refine WL.q (oq_extract rfl rfl) rfl rfl rfl ?_
 refine WL.q (oq_extract rfl rfl) rfl rfl rfl ?_
 refine WL.q (oq_assign rfl) rfl rfl rfl ?_
 refine WL.q (oq_assign rfl) rfl rfl rfl ?_
 refine WL.nil (WE.then_normal (WC.sub (fr' := [(0, _), (6, _), (7, _)]) ?_ ⟨rfl, rfl, rfl, trivial⟩))
 refine WC.seq (WC.seq (WC.region ?_))
 refine WL.q (oq_move rfl) rfl rfl rfl ?_
 refine WL.q (oq_peql Tryz.underlying212 rfl rfl) rfl rfl rfl ?_
 refine WL.nil (WE.then_normal (WC.sub (fr' := [(0, _), (6, _), (7, _), (15, _)]) ?_ ⟨rfl, rfl, rfl, rfl, trivial⟩))
 refine WC.cond rfl (fun q2 => ?_) (fun q2 => ?_)
 ·
  try simp only [Z1, Z2, Z3, Z4, Z5, Z6, Z7, Z8, Z9, Z0] at q2
  first | (simp at q2; done) | exact absurd q4 hhl | exact absurd q4.symm hhl | exact absurd q7 hxh | exact absurd q7.symm hxh | exact absurd q9 hxl | exact absurd q9.symm hxl | (exfalso; omega)
 ·
  try simp only [Z1, Z2, Z3, Z4, Z5, Z6, Z7, Z8, Z9, Z0] at q2
  refine WC.skip (WE.then_normal (WC.sub (fr' := [(0, _), (6, _), (7, _)]) ?_ ⟨rfl, rfl, rfl, trivial⟩))
  refine WC.seq (WC.seq ?_)
  have hh : hdp items = Pt x.b 0 := by rw [hit]; rfl
  have ht : lastp items = Pt x.b 0 := by rw [hit]; rfl
  rw [hh, ht]
  refine WC.quiet (by kernel_rfl) (by kernel_rfl) ?_
  refine WQ.q (oq_move rfl) rfl rfl rfl ?_
  refine WQ.q (oq_nilCheck rfl) rfl rfl rfl ?_
  refine WQ.q (oq_fieldAddr fld214_0 rfl) rfl rfl rfl ?_
  refine WQ.q (oq_load flat212 rfl (.head _) (List.mem_singleton.2 rfl) rfl) rfl rfl rfl ?_
  refine WQ.q (oq_move rfl) rfl rfl rfl ?_
  refine WQ.q (oq_nilCheck rfl) rfl rfl rfl ?_
  refine WQ.q (oq_fieldAddr fld214_1 rfl) rfl rfl rfl ?_
  refine WQ.q (oq_load flat212 rfl (.head _) (List.mem_singleton.2 rfl) rfl) rfl rfl rfl ?_
  refine WQ.q (oq_pesame Tryz.underlying212 ty216 rfl rfl) rfl rfl rfl ?_
  refine WQ.nil (WE.then_normal (WC.sub (fr' := [(0, _), (6, _), (7, _), (25, _)]) ?_ ⟨rfl, rfl, rfl, rfl, trivial⟩))
  refine WC.cond_t rfl ?_
  refine WC.seq (WC.region ?_)
  refine WL.q (oq_move rfl) rfl rfl rfl ?_
  refine WL.q (oq_nilCheck rfl) rfl rfl rfl ?_
  refine WL.q (oq_fieldAddr fld214_0 rfl) rfl rfl rfl ?_
  refine WL.store1 #[_, _] ty212 rfl rfl (by first | rfl | exact OwS.one one_) (Nat.lt_of_lt_of_le (Nat.lt_succ_self _) (Nat.le_of_ble_eq_true rfl)) rfl rfl ?_
  refine WL.nil (WE.then_normal (WC.sub (fr' := [(0, _), (6, _)]) ?_ ⟨rfl, rfl, trivial⟩))
  refine WC.region ?_
  refine WL.q (oq_move rfl) rfl rfl rfl ?_
  refine WL.q (oq_nilCheck rfl) rfl rfl rfl ?_
  refine WL.q (oq_fieldAddr fld214_1 rfl) rfl rfl rfl ?_
  refine WL.store1 #[_, _] ty212 rfl rfl (by first | rfl | exact OwS.one one_) (Nat.lt_of_lt_of_le (Nat.lt_succ_self _) (Nat.le_of_ble_eq_true rfl)) rfl rfl ?_
  refine WL.nil (WE.then_normal (WC.sub (fr' := [(6, _)]) ?_ ⟨rfl, trivial⟩))
  refine WC.seq (WC.region ?_)
  refine WL.q (oq_move rfl) rfl rfl rfl ?_
  refine WL.q (oq_nilCheck rfl) rfl rfl rfl ?_
  refine WL.q (oq_fieldAddr fld216_1 rfl) rfl rfl rfl ?_
  refine WL.q (oq_load flat140 rfl (.tail _ (.head _)) (mem_of hit) rfl) rfl rfl rfl ?_
  refine WL.q (oq_assign rfl) rfl rfl rfl ?_
  refine WL.f1 ?_
  refine WL.reg (reg_out (show (ch 212 216 239 (items) .nilIface).Perm ([(x.b, .cells #[nextOf 212 ([]) .nilIface, wv 239 x] 216 (0, 0))] ++ (ch 212 216 239 ([]) (.iface 212 (Pt x.b 0)) ++ ch 212 216 239 ([]) .nilIface)) from by rw [hit]; exact ch_out _ _ _ _)) ?_
  refine WL.q (oq_assign rfl) rfl rfl rfl ?_
  refine WL.nil (WE.then_normal (WC.sub (fr' := [(4, _), (5, _)]) ?_ ⟨rfl, rfl, trivial⟩))
  refine WC.ret ?_
  refine WE.lose hbx ?_
  refine WE.f2 ?_
  refine WE.f1 ?_
  refine WE.f2 ?_
  refine WE.endW2 (.inl rfl) (res2 Tryz.results90 rfl rfl) ?_
  exact ⟨rfl, perm2 rfl (by simp only [List.flatten_cons, List.flatten_nil, List.append_nil]; exact List.Perm.refl _)⟩
theorem remF2 (base sb : Nat) (x : Nd) (items : List Nd) (hbx : base ≤ x.b) (y : Nd) (B2 B3 : List Nd) (l : Nd) (hit : items = [] ++ x :: (y :: B2)) (hB : y :: B2 = B3 ++ [l]) : FnW Tryz.prog 90 [Pt sb 0, S x.id] base [[(sb, .cells #[(hdp (items)), (lastp (items))] 214 (0, 0))], ch 212 216 239 items .nilIface] (fun v Hs => v = .tuple #[wv 239 x, .nilIface] ∧ Hs.flatten.Perm ([[(sb, .cells #[(hdp (y :: B2)), (lastp (y :: B2))] 214 (0, 0))], ch 212 216 239 (y :: B2) .nilIface] : List Hp).flatten) := by
 refine FnW.enter (n := 73) Tryz.func90 rfl rfl fun w0 R0 hbase => ?_
 subst hbase
 show WC _ _ _ _ _ _ _ ([[(sb, .cells #[(hdp (items)), (lastp (items))] 214 (0, 0))], ch 212 216 239 items .nilIface, R0])
 refine WC.sub (fr' := [(0, _), (1, _)]) ?_ ⟨rfl, rfl, trivial⟩
 refine WC.seq (WC.region ?_)
 refine WL.q (oq_assign rfl) rfl rfl rfl ?_
 refine WL.q (oq_assign rfl) rfl rfl rfl ?_
 refine WL.nil (WE.then_normal (WC.sub (fr' := [(0, _), (1, _)]) ?_ ⟨rfl, rfl, trivial⟩))
 refine WC.seq (WC.region ?_)
 refine WL.q (oq_move rfl) rfl rfl rfl ?_
 refine WL.q (oq_move rfl) rfl rfl rfl ?_
 refine WL.f1 ?_
 refine WL.f1 ?_
 refine WL.callW2 (gotH2 _ sb x.id [] (y :: B2) x items hit rfl (by simp)) call125 rfl rfl rfl fun v1_2 Hs1_2 hR1_2 => ?_
 obtain ⟨rfl, rfl⟩ := hR1_2
 refine WL.to2 ?_
 refine WL.q (oq_move rfl) rfl rfl rfl ?_
 refine WL.q (oq_extract rfl rfl) rfl rfl rfl ?_
 refine WL.q (oq_extract rfl rfl) rfl rfl rfl ?_
 refine WL.q (oq_assign rfl) rfl rfl rfl ?_
 refine WL.q (oq_assign rfl) rfl rfl rfl ?_
 refine WL.nil (WE.then_normal (WC.sub (fr' := [(0, _), (6, _), (7, _)]) ?_ ⟨rfl, rfl, rfl, trivial⟩))
 refine WC.seq (WC.seq (WC.region ?_))
 refine WL.q (oq_move rfl) rfl rfl rfl ?_
 refine WL.q (oq_peql Tryz.underlying212 rfl rfl) rfl rfl rfl ?_
 refine WL.nil (WE.then_normal (WC.sub (fr' := [(0, _), (6, _), (7, _), (15, _)]) ?_ ⟨rfl, rfl, rfl, rfl, trivial⟩))
 refine WC.cond rfl (fun q2 => ?_) (fun q2 => ?_)
 ·
  try simp only [Z1, Z2, Z3, Z4, Z5, Z6, Z7, Z8, Z9, Z0] at q2
  first | (simp at q2; done) | exact absurd q4 hhl | exact absurd q4.symm hhl | exact absurd q7 hxh | exact absurd q7.symm hxh | exact absurd q9 hxl | exact absurd q9.symm hxl | (exfalso; omega)
 ·
  try simp only [Z1, Z2, Z3, Z4, Z5, Z6, Z7, Z8, Z9, Z0] at q2
  refine WC.skip (WE.then_normal (WC.sub (fr' := [(0, _), (6, _), (7, _)]) ?_ ⟨rfl, rfl, rfl, trivial⟩))
  refine WC.seq (WC.seq ?_)
  refine WC.distinct fun hdd => ?_
  have hnn := nd_of hdd
  have hhl : l.b ≠ x.b := nd_ne hnn hit (.inr (by rw [hB]; simp))
  have hit3 : items = (x :: B3) ++ l :: [] := by rw [hit, hB]; rfl
  have hh : hdp items = Pt x.b 0 := by rw [hit]; rfl
  have ht : lastp items = Pt l.b 0 := by rw [hit3]; exact lastp_snoc _ _
  rw [hh, ht]
  refine WC.quiet (by kernel_rfl) (by kernel_rfl) ?_
  refine WQ.q (oq_move rfl) rfl rfl rfl ?_
  refine WQ.q (oq_nilCheck rfl) rfl rfl rfl ?_
  refine WQ.q (oq_fieldAddr fld214_0 rfl) rfl rfl rfl ?_
  refine WQ.q (oq_load flat212 rfl (.head _) (List.mem_singleton.2 rfl) rfl) rfl rfl rfl ?_
  refine WQ.q (oq_move rfl) rfl rfl rfl ?_
  refine WQ.q (oq_nilCheck rfl) rfl rfl rfl ?_
  refine WQ.q (oq_fieldAddr fld214_1 rfl) rfl rfl rfl ?_
  refine WQ.q (oq_load flat212 rfl (.head _) (List.mem_singleton.2 rfl) rfl) rfl rfl rfl ?_
  refine WQ.q (oq_peq Tryz.underlying212 ty216 (by decide) (.tail _ (.head _)) (mem_of hit) (.tail _ (.head _)) (mem_of hit3) rfl rfl) rfl rfl rfl ?_
  refine WQ.nil (WE.then_normal (WC.sub (fr' := [(0, _), (6, _), (7, _), (25, _)]) ?_ ⟨rfl, rfl, rfl, rfl, trivial⟩))
  refine WC.cond rfl (fun q4 => ?_) (fun q4 => ?_)
  ·
   try simp only [Z1, Z2, Z3, Z4, Z5, Z6, Z7, Z8, Z9, Z0] at q4
   first | (simp at q2; done) | exact absurd q4 hhl | exact absurd q4.symm hhl | exact absurd q7 hxh | exact absurd q7.symm hxh | exact absurd q9 hxl | exact absurd q9.symm hxl | (exfalso; omega)
  ·
   try simp only [Z1, Z2, Z3, Z4, Z5, Z6, Z7, Z8, Z9, Z0] at q4
   refine WC.seq (WC.region ?_)
   refine WL.q (oq_move rfl) rfl rfl rfl ?_
   refine WL.q (oq_move rfl) rfl rfl rfl ?_
   refine WL.q (oq_nilCheck rfl) rfl rfl rfl ?_
   refine WL.q (oq_fieldAddr fld214_0 rfl) rfl rfl rfl ?_
   refine WL.q (oq_load flat212 rfl (.head _) (List.mem_singleton.2 rfl) rfl) rfl rfl rfl ?_
   refine WL.q (oq_pesame Tryz.underlying212 ty216 rfl rfl) rfl rfl rfl ?_
   refine WL.nil (WE.then_normal (WC.sub (fr' := [(0, _), (6, _), (7, _), (37, _)]) ?_ ⟨rfl, rfl, rfl, rfl, trivial⟩))
   refine WC.cond_t rfl ?_
   refine WC.region ?_
   refine WL.q (oq_move rfl) rfl rfl rfl ?_
   refine WL.q (oq_move rfl) rfl rfl rfl ?_
   refine WL.q (oq_nilCheck rfl) rfl rfl rfl ?_
   refine WL.q (oq_fieldAddr fld214_0 rfl) rfl rfl rfl ?_
   refine WL.q (oq_load flat212 rfl (.head _) (List.mem_singleton.2 rfl) rfl) rfl rfl rfl ?_
   refine WL.q (oq_nilCheck rfl) rfl rfl rfl ?_
   refine WL.q (oq_fieldAddr fld216_0 rfl) rfl rfl rfl ?_
   refine WL.q (oq_load flat145 rfl (.tail _ (.head _)) (mem_of hit) rfl) rfl rfl rfl ?_
   refine WL.q (oq_askT conc212 rfl) rfl rfl rfl ?_
   refine WL.q (oq_nilCheck rfl) rfl rfl rfl ?_
   refine WL.q (oq_fieldAddr fld214_0 rfl) rfl rfl rfl ?_
   refine WL.store1 #[_, _] ty212 rfl rfl (by first | rfl | exact OwS.one one_) (Nat.lt_of_lt_of_le (Nat.lt_succ_self _) (Nat.le_of_ble_eq_true rfl)) rfl rfl ?_
   refine WL.nil (WE.then_normal (WC.sub (fr' := [(6, _)]) ?_ ⟨rfl, trivial⟩))
   refine WC.seq (WC.region ?_)
   refine WL.q (oq_move rfl) rfl rfl rfl ?_
   refine WL.q (oq_nilCheck rfl) rfl rfl rfl ?_
   refine WL.q (oq_fieldAddr fld216_1 rfl) rfl rfl rfl ?_
   refine WL.q (oq_load flat140 rfl (.tail _ (.head _)) (mem_of hit) rfl) rfl rfl rfl ?_
   refine WL.q (oq_assign rfl) rfl rfl rfl ?_
   refine WL.f1 ?_
   refine WL.reg (reg_out (show (ch 212 216 239 (items) .nilIface).Perm ([(x.b, .cells #[nextOf 212 (y :: B2) .nilIface, wv 239 x] 216 (0, 0))] ++ (ch 212 216 239 ([]) (.iface 212 (Pt x.b 0)) ++ ch 212 216 239 (y :: B2) .nilIface)) from by rw [hit]; exact ch_out _ _ _ _)) ?_
   refine WL.q (oq_assign rfl) rfl rfl rfl ?_
   refine WL.nil (WE.then_normal (WC.sub (fr' := [(4, _), (5, _)]) ?_ ⟨rfl, rfl, trivial⟩))
   refine WC.ret ?_
   refine WE.lose hbx ?_
   refine WE.f2 ?_
   refine WE.f1 ?_
   refine WE.f2 ?_
   refine WE.endW2 (.inl rfl) (res2 Tryz.results90 rfl rfl) ?_
   exact ⟨rfl, perm2 (by rw [last_of hB]; rfl) (by simp only [List.flatten_cons, List.flatten_nil, List.append_nil]; exact List.Perm.refl _)⟩
theorem remL2 (base sb : Nat) (x : Nd) (items : List Nd) (hbx : base ≤ x.b) (h : Nd) (rr A2 : List Nd) (p : Nd) (hA0 : A2 ++ [p] = h :: rr) (hit : items = (A2 ++ [p]) ++ x :: ([])) (hA : ∀ y ∈ A2 ++ [p], y.id ≠ x.id) : FnW Tryz.prog 90 [Pt sb 0, S x.id] base [[(sb, .cells #[(hdp (items)), (lastp (items))] 214 (0, 0))], ch 212 216 239 items .nilIface] (fun v Hs => v = .tuple #[wv 239 x, .nilIface] ∧ Hs.flatten.Perm ([[(sb, .cells #[(hdp (A2 ++ p :: [])), (lastp (A2 ++ p :: []))] 214 (0, 0))], ch 212 216 239 (A2 ++ p :: []) .nilIface] : List Hp).flatten) := by
 refine FnW.enter (n := 73) Tryz.func90 rfl rfl fun w0 R0 hbase => ?_
 subst hbase
 show WC _ _ _ _ _ _ _ ([[(sb, .cells #[(hdp (items)), (lastp (items))] 214 (0, 0))], ch 212 216 239 items .nilIface, R0])
 refine WC.sub (fr' := [(0, _), (1, _)]) ?_ ⟨rfl, rfl, trivial⟩
 refine WC.seq (WC.region ?_)
 refine WL.q (oq_assign rfl) rfl rfl rfl ?_
 refine WL.q (oq_assign rfl) rfl rfl rfl ?_
 refine WL.nil (WE.then_normal (WC.sub (fr' := [(0, _), (1, _)]) ?_ ⟨rfl, rfl, trivial⟩))
 refine WC.seq (WC.region ?_)
 refine WL.q (oq_move rfl) rfl rfl rfl ?_
 refine WL.q (oq_move rfl) rfl rfl rfl ?_
 refine WL.f1 ?_
 refine WL.f1 ?_
 refine WL.callW2 (gotH2 _ sb x.id (A2 ++ [p]) [] x items hit rfl hA) call125 rfl rfl rfl fun v1_2 Hs1_2 hR1_2 => ?_
 obtain ⟨rfl, rfl⟩ := hR1_2
 rw [lastp_snoc]
 refine WL.to2 ?_
 refine WL.q (oq_move rfl) rfl rfl rfl ?_
 refine WL.q (oq_extract rfl rfl) rfl rfl rfl ?_
 refine WL.q (oq_extract rfl rfl) rfl rfl rfl ?_
 refine WL.q (oq_assign rfl) rfl rfl rfl ?_
 refine WL.q (oq_assign rfl) rfl rfl rfl ?_
 refine WL.nil (WE.then_normal (WC.sub (fr' := [(0, _), (6, _), (7, _)]) ?_ ⟨rfl, rfl, rfl, trivial⟩))
 refine WC.seq (WC.seq (WC.region ?_))
 refine WL.q (oq_move rfl) rfl rfl rfl ?_
 refine WL.q (oq_peql Tryz.underlying212 rfl rfl) rfl rfl rfl ?_
 refine WL.nil (WE.then_normal (WC.sub (fr' := [(0, _), (6, _), (7, _), (15, _)]) ?_ ⟨rfl, rfl, rfl, rfl, trivial⟩))
 refine WC.cond rfl (fun q2 => ?_) (fun q2 => ?_)
 ·
  try simp only [Z1, Z2, Z3, Z4, Z5, Z6, Z7, Z8, Z9, Z0] at q2
  first | (simp at q2; done) | exact absurd q4 hhl | exact absurd q4.symm hhl | exact absurd q7 hxh | exact absurd q7.symm hxh | exact absurd q9 hxl | exact absurd q9.symm hxl | (exfalso; omega)
 ·
  try simp only [Z1, Z2, Z3, Z4, Z5, Z6, Z7, Z8, Z9, Z0] at q2
  refine WC.skip (WE.then_normal (WC.sub (fr' := [(0, _), (6, _), (7, _)]) ?_ ⟨rfl, rfl, rfl, trivial⟩))
  refine WC.seq (WC.seq ?_)
  refine WC.distinct fun hdd => ?_
  have hnn := nd_of hdd
  have hit2 : items = A2 ++ p :: x :: ([]) := by rw [hit]; simp
  have hith : items = [] ++ h :: (rr ++ x :: ([])) := by rw [hit, hA0]; rfl
  have hxh : h.b ≠ x.b := nd_ne hnn hit (.inl (by rw [hA0]; simp))
  have hh : hdp items = Pt h.b 0 := by rw [hith]; rfl
  have hhp : hdp (A2 ++ [p]) = Pt h.b 0 := by rw [hA0]; rfl
  have hhl := hxh
  have ht : lastp items = Pt x.b 0 := by rw [hit]; exact lastp_snoc _ _
  rw [hh, ht]
  refine WC.quiet (by kernel_rfl) (by kernel_rfl) ?_
  refine WQ.q (oq_move rfl) rfl rfl rfl ?_
  refine WQ.q (oq_nilCheck rfl) rfl rfl rfl ?_
  refine WQ.q (oq_fieldAddr fld214_0 rfl) rfl rfl rfl ?_
  refine WQ.q (oq_load flat212 rfl (.head _) (List.mem_singleton.2 rfl) rfl) rfl rfl rfl ?_
  refine WQ.q (oq_move rfl) rfl rfl rfl ?_
  refine WQ.q (oq_nilCheck rfl) rfl rfl rfl ?_
  refine WQ.q (oq_fieldAddr fld214_1 rfl) rfl rfl rfl ?_
  refine WQ.q (oq_load flat212 rfl (.head _) (List.mem_singleton.2 rfl) rfl) rfl rfl rfl ?_
  refine WQ.q (oq_peq Tryz.underlying212 ty216 (by decide) (.tail _ (.head _)) (mem_of hith) (.tail _ (.head _)) (mem_of hit) rfl rfl) rfl rfl rfl ?_
  refine WQ.nil (WE.then_normal (WC.sub (fr' := [(0, _), (6, _), (7, _), (25, _)]) ?_ ⟨rfl, rfl, rfl, rfl, trivial⟩))
  refine WC.cond rfl (fun q4 => ?_) (fun q4 => ?_)
  ·
   try simp only [Z1, Z2, Z3, Z4, Z5, Z6, Z7, Z8, Z9, Z0] at q4
   first | (simp at q2; done) | exact absurd q4 hhl | exact absurd q4.symm hhl | exact absurd q7 hxh | exact absurd q7.symm hxh | exact absurd q9 hxl | exact absurd q9.symm hxl | (exfalso; omega)
  ·
   try simp only [Z1, Z2, Z3, Z4, Z5, Z6, Z7, Z8, Z9, Z0] at q4
   refine WC.seq (WC.region ?_)
   refine WL.q (oq_move rfl) rfl rfl rfl ?_
   refine WL.q (oq_move rfl) rfl rfl rfl ?_
   refine WL.q (oq_nilCheck rfl) rfl rfl rfl ?_
   refine WL.q (oq_fieldAddr fld214_0 rfl) rfl rfl rfl ?_
   refine WL.q (oq_load flat212 rfl (.head _) (List.mem_singleton.2 rfl) rfl) rfl rfl rfl ?_
   refine WL.q (oq_peq Tryz.underlying212 ty216 (by decide) (.tail _ (.head _)) (mem_of hit) (.tail _ (.head _)) (mem_of hith) rfl rfl) rfl rfl rfl ?_
   refine WL.nil (WE.then_normal (WC.sub (fr' := [(0, _), (6, _), (7, _), (37, _)]) ?_ ⟨rfl, rfl, rfl, rfl, trivial⟩))
   refine WC.cond rfl (fun q7 => ?_) (fun q7 => ?_)
   ·
    try simp only [Z1, Z2, Z3, Z4, Z5, Z6, Z7, Z8, Z9, Z0] at q7
    first | (simp at q2; done) | exact absurd q4 hhl | exact absurd q4.symm hhl | exact absurd q7 hxh | exact absurd q7.symm hxh | exact absurd q9 hxl | exact absurd q9.symm hxl | (exfalso; omega)
   ·
    try simp only [Z1, Z2, Z3, Z4, Z5, Z6, Z7, Z8, Z9, Z0] at q7
    refine WC.seq (WC.region ?_)
    refine WL.q (oq_move rfl) rfl rfl rfl ?_
    refine WL.q (oq_move rfl) rfl rfl rfl ?_
    refine WL.q (oq_nilCheck rfl) rfl rfl rfl ?_
    refine WL.q (oq_fieldAddr fld214_1 rfl) rfl rfl rfl ?_
    refine WL.q (oq_load flat212 rfl (.head _) (List.mem_singleton.2 rfl) rfl) rfl rfl rfl ?_
    refine WL.q (oq_pesame Tryz.underlying212 ty216 rfl rfl) rfl rfl rfl ?_
    refine WL.nil (WE.then_normal (WC.sub (fr' := [(0, _), (6, _), (7, _), (54, _)]) ?_ ⟨rfl, rfl, rfl, rfl, trivial⟩))
    refine WC.cond_t rfl ?_
    refine WC.seq (WC.region ?_)
    refine WL.f1 ?_
    refine WL.reg (reg_out (show (ch 212 216 239 (items) .nilIface).Perm ([(p.b, .cells #[nextOf 212 (x :: []) .nilIface, wv 239 p] 216 (0, 0))] ++ (ch 212 216 239 (A2) (.iface 212 (Pt p.b 0)) ++ ch 212 216 239 (x :: []) .nilIface)) from by rw [hit2]; exact ch_out _ _ _ _)) ?_
    refine WL.q (oq_move rfl) rfl rfl rfl ?_
    refine WL.q (oq_nilCheck rfl) rfl rfl rfl ?_
    refine WL.q (oq_fieldAddr fld216_0 rfl) rfl rfl rfl ?_
    refine WL.store1 #[_, _] ty145 rfl rfl (by first | rfl | exact OwS.one one_) (Nat.lt_of_lt_of_le (Nat.lt_succ_self _) (Nat.le_of_ble_eq_true rfl)) rfl rfl ?_
    refine WL.nil (WE.then_normal (WC.sub (fr' := [(0, _), (6, _), (7, _)]) ?_ ⟨rfl, rfl, rfl, trivial⟩))
    refine WC.region ?_
    refine WL.q (oq_move rfl) rfl rfl rfl ?_
    refine WL.q (oq_move rfl) rfl rfl rfl ?_
    refine WL.q (oq_nilCheck rfl) rfl rfl rfl ?_
    refine WL.q (oq_fieldAddr fld214_1 rfl) rfl rfl rfl ?_
    refine WL.f2 ?_
    refine WL.store1 #[_, _] ty212 rfl rfl (by first | rfl | exact OwS.one one_) (Nat.lt_of_lt_of_le (Nat.lt_succ_self _) (Nat.le_of_ble_eq_true rfl)) rfl rfl ?_
    refine WL.nil (WE.then_normal (WC.sub (fr' := [(6, _)]) ?_ ⟨rfl, trivial⟩))
    refine WC.seq (WC.region ?_)
    refine WL.q (oq_move rfl) rfl rfl rfl ?_
    refine WL.q (oq_nilCheck rfl) rfl rfl rfl ?_
    refine WL.q (oq_fieldAddr fld216_1 rfl) rfl rfl rfl ?_
    refine WL.q (oq_load flat140 rfl (.tail _ (.tail _ (.head _))) (List.mem_append_right _ List.mem_cons_self) rfl) rfl rfl rfl ?_
    refine WL.q (oq_assign rfl) rfl rfl rfl ?_
    refine WL.f2 ?_
    refine WL.reg (reg_out (show (ch 212 216 239 (A2) (.iface 212 (Pt p.b 0)) ++ ch 212 216 239 (x :: []) .nilIface).Perm ([(x.b, .cells #[nextOf 212 ([]) .nilIface, wv 239 x] 216 (0, 0))] ++ (ch 212 216 239 (A2) (.iface 212 (Pt p.b 0)) ++ ch 212 216 239 ([]) .nilIface)) from List.perm_middle)) ?_
    refine WL.q (oq_assign rfl) rfl rfl rfl ?_
    refine WL.nil (WE.then_normal (WC.sub (fr' := [(4, _), (5, _)]) ?_ ⟨rfl, rfl, trivial⟩))
    refine WC.ret ?_
    refine WE.lose hbx ?_
    refine WE.f3 ?_
    refine WE.f1 ?_
    refine WE.f3 ?_
    refine WE.f3 ?_
    refine WE.endW3 (.inl rfl) (res2 Tryz.results90 rfl rfl) ?_
    exact ⟨rfl, perm2 (by rw [hhp]) (by simp only [List.flatten_cons, List.flatten_nil, List.append_nil]; exact ch_del A2 p [] _)⟩
theorem remM2 (base sb : Nat) (x : Nd) (items : List Nd) (hbx : base ≤ x.b) (y : Nd) (B2 B3 : List Nd) (l : Nd) (hB : y :: B2 = B3 ++ [l]) (h : Nd) (rr A2 : List Nd) (p : Nd) (hA0 : A2 ++ [p] = h :: rr) (hit : items = (A2 ++ [p]) ++ x :: (y :: B2)) (hA : ∀ y ∈ A2 ++ [p], y.id ≠ x.id) : FnW Tryz.prog 90 [Pt sb 0, S x.id] base [[(sb, .cells #[(hdp (items)), (lastp (items))] 214 (0, 0))], ch 212 216 239 items .nilIface] (fun v Hs => v = .tuple #[wv 239 x, .nilIface] ∧ Hs.flatten.Perm ([[(sb, .cells #[(hdp (A2 ++ p :: y :: B2)), (lastp (A2 ++ p :: y :: B2))] 214 (0, 0))], ch 212 216 239 (A2 ++ p :: y :: B2) .nilIface] : List Hp).flatten) := by
 refine FnW.enter (n := 73) Tryz.func90 rfl rfl fun w0 R0 hbase => ?_
 subst hbase
 show WC _ _ _ _ _ _ _ ([[(sb, .cells #[(hdp (items)), (lastp (items))] 214 (0, 0))], ch 212 216 239 items .nilIface, R0])
 refine WC.sub (fr' := [(0, _), (1, _)]) ?_ ⟨rfl, rfl, trivial⟩
 refine WC.seq (WC.region ?_)
 refine WL.q (oq_assign rfl) rfl rfl rfl ?_
 refine WL.q (oq_assign rfl) rfl rfl rfl ?_
 refine WL.nil (WE.then_normal (WC.sub (fr' := [(0, _), (1, _)]) ?_ ⟨rfl, rfl, trivial⟩))
 refine WC.seq (WC.region ?_)
 refine WL.q (oq_move rfl) rfl rfl rfl ?_
 refine WL.q (oq_move rfl) rfl rfl rfl ?_
 refine WL.f1 ?_
 refine WL.f1 ?_
 refine WL.callW2 (gotH2 _ sb x.id (A2 ++ [p]) (y :: B2) x items hit rfl hA) call125 rfl rfl rfl fun v1_2 Hs1_2 hR1_2 => ?_
 obtain ⟨rfl, rfl⟩ := hR1_2
 rw [lastp_snoc]
 refine WL.to2 ?_
 refine WL.q (oq_move rfl) rfl rfl rfl ?_
 refine WL.q (oq_extract rfl rfl) rfl rfl rfl ?_
 refine WL.q (oq_extract rfl rfl) rfl rfl rfl ?_
 refine WL.q (oq_assign rfl) rfl rfl rfl ?_
 refine WL.q (oq_assign rfl) rfl rfl rfl ?_
 refine WL.nil (WE.then_normal (WC.sub (fr' := [(0, _), (6, _), (7, _)]) ?_ ⟨rfl, rfl, rfl, trivial⟩))
 refine WC.seq (WC.seq (WC.region ?_))
 refine WL.q (oq_move rfl) rfl rfl rfl ?_
 refine WL.q (oq_peql Tryz.underlying212 rfl rfl) rfl rfl rfl ?_
 refine WL.nil (WE.then_normal (WC.sub (fr' := [(0, _), (6, _), (7, _), (15, _)]) ?_ ⟨rfl, rfl, rfl, rfl, trivial⟩))
 refine WC.cond rfl (fun q2 => ?_) (fun q2 => ?_)
 ·
  try simp only [Z1, Z2, Z3, Z4, Z5, Z6, Z7, Z8, Z9, Z0] at q2
  first | (simp at q2; done) | exact absurd q4 hhl | exact absurd q4.symm hhl | exact absurd q7 hxh | exact absurd q7.symm hxh | exact absurd q9 hxl | exact absurd q9.symm hxl | (exfalso; omega)
 ·
  try simp only [Z1, Z2, Z3, Z4, Z5, Z6, Z7, Z8, Z9, Z0] at q2
  refine WC.skip (WE.then_normal (WC.sub (fr' := [(0, _), (6, _), (7, _)]) ?_ ⟨rfl, rfl, rfl, trivial⟩))
  refine WC.seq (WC.seq ?_)
  refine WC.distinct fun hdd => ?_
  have hnn := nd_of hdd
  have hit2 : items = A2 ++ p :: x :: (y :: B2) := by rw [hit]; simp
  have hith : items = [] ++ h :: (rr ++ x :: (y :: B2)) := by rw [hit, hA0]; rfl
  have hxh : h.b ≠ x.b := nd_ne hnn hit (.inl (by rw [hA0]; simp))
  have hh : hdp items = Pt h.b 0 := by rw [hith]; rfl
  have hhp : hdp (A2 ++ [p]) = Pt h.b 0 := by rw [hA0]; rfl
  have hitl : items = ((A2 ++ [p]) ++ x :: B3) ++ l :: [] := by rw [hit, hB]; simp
  have hxl : l.b ≠ x.b := nd_ne hnn hit (.inr (by rw [hB]; simp))
  have hhl : h.b ≠ l.b := nd_ne hnn hitl (.inl (by rw [hA0]; simp))
  have ht : lastp items = Pt l.b 0 := by rw [hitl]; exact lastp_snoc _ _
  rw [hh, ht]
  refine WC.quiet (by kernel_rfl) (by kernel_rfl) ?_
  refine WQ.q (oq_move rfl) rfl rfl rfl ?_
  refine WQ.q (oq_nilCheck rfl) rfl rfl rfl ?_
  refine WQ.q (oq_fieldAddr fld214_0 rfl) rfl rfl rfl ?_
  refine WQ.q (oq_load flat212 rfl (.head _) (List.mem_singleton.2 rfl) rfl) rfl rfl rfl ?_
  refine WQ.q (oq_move rfl) rfl rfl rfl ?_
  refine WQ.q (oq_nilCheck rfl) rfl rfl rfl ?_
  refine WQ.q (oq_fieldAddr fld214_1 rfl) rfl rfl rfl ?_
  refine WQ.q (oq_load flat212 rfl (.head _) (List.mem_singleton.2 rfl) rfl) rfl rfl rfl ?_
  refine WQ.q (oq_peq Tryz.underlying212 ty216 (by decide) (.tail _ (.head _)) (mem_of hith) (.tail _ (.head _)) (mem_of hitl) rfl rfl) rfl rfl rfl ?_
  refine WQ.nil (WE.then_normal (WC.sub (fr' := [(0, _), (6, _), (7, _), (25, _)]) ?_ ⟨rfl, rfl, rfl, rfl, trivial⟩))
  refine WC.cond rfl (fun q4 => ?_) (fun q4 => ?_)
  ·
   try simp only [Z1, Z2, Z3, Z4, Z5, Z6, Z7, Z8, Z9, Z0] at q4
   first | (simp at q2; done) | exact absurd q4 hhl | exact absurd q4.symm hhl | exact absurd q7 hxh | exact absurd q7.symm hxh | exact absurd q9 hxl | exact absurd q9.symm hxl | (exfalso; omega)
  ·
   try simp only [Z1, Z2, Z3, Z4, Z5, Z6, Z7, Z8, Z9, Z0] at q4
   refine WC.seq (WC.region ?_)
   refine WL.q (oq_move rfl) rfl rfl rfl ?_
   refine WL.q (oq_move rfl) rfl rfl rfl ?_
   refine WL.q (oq_nilCheck rfl) rfl rfl rfl ?_
   refine WL.q (oq_fieldAddr fld214_0 rfl) rfl rfl rfl ?_
   refine WL.q (oq_load flat212 rfl (.head _) (List.mem_singleton.2 rfl) rfl) rfl rfl rfl ?_
   refine WL.q (oq_peq Tryz.underlying212 ty216 (by decide) (.tail _ (.head _)) (mem_of hit) (.tail _ (.head _)) (mem_of hith) rfl rfl) rfl rfl rfl ?_
   refine WL.nil (WE.then_normal (WC.sub (fr' := [(0, _), (6, _), (7, _), (37, _)]) ?_ ⟨rfl, rfl, rfl, rfl, trivial⟩))
   refine WC.cond rfl (fun q7 => ?_) (fun q7 => ?_)
   ·
    try simp only [Z1, Z2, Z3, Z4, Z5, Z6, Z7, Z8, Z9, Z0] at q7
    first | (simp at q2; done) | exact absurd q4 hhl | exact absurd q4.symm hhl | exact absurd q7 hxh | exact absurd q7.symm hxh | exact absurd q9 hxl | exact absurd q9.symm hxl | (exfalso; omega)
   ·
    try simp only [Z1, Z2, Z3, Z4, Z5, Z6, Z7, Z8, Z9, Z0] at q7
    refine WC.seq (WC.region ?_)
    refine WL.q (oq_move rfl) rfl rfl rfl ?_
    refine WL.q (oq_move rfl) rfl rfl rfl ?_
    refine WL.q (oq_nilCheck rfl) rfl rfl rfl ?_
    refine WL.q (oq_fieldAddr fld214_1 rfl) rfl rfl rfl ?_
    refine WL.q (oq_load flat212 rfl (.head _) (List.mem_singleton.2 rfl) rfl) rfl rfl rfl ?_
    refine WL.q (oq_peq Tryz.underlying212 ty216 (by decide) (.tail _ (.head _)) (mem_of hit) (.tail _ (.head _)) (mem_of hitl) rfl rfl) rfl rfl rfl ?_
    refine WL.nil (WE.then_normal (WC.sub (fr' := [(0, _), (6, _), (7, _), (54, _)]) ?_ ⟨rfl, rfl, rfl, rfl, trivial⟩))
    refine WC.cond rfl (fun q9 => ?_) (fun q9 => ?_)
    ·
     try simp only [Z1, Z2, Z3, Z4, Z5, Z6, Z7, Z8, Z9, Z0] at q9
     first | (simp at q2; done) | exact absurd q4 hhl | exact absurd q4.symm hhl | exact absurd q7 hxh | exact absurd q7.symm hxh | exact absurd q9 hxl | exact absurd q9.symm hxl | (exfalso; omega)
    ·
     try simp only [Z1, Z2, Z3, Z4, Z5, Z6, Z7, Z8, Z9, Z0] at q9
     refine WC.region ?_
     refine WL.f1 ?_
     refine WL.reg (reg_out (show (ch 212 216 239 (items) .nilIface).Perm ([(p.b, .cells #[nextOf 212 (x :: y :: B2) .nilIface, wv 239 p] 216 (0, 0))] ++ (ch 212 216 239 (A2) (.iface 212 (Pt p.b 0)) ++ ch 212 216 239 (x :: y :: B2) .nilIface)) from by rw [hit2]; exact ch_out _ _ _ _)) ?_
     refine WL.q (oq_move rfl) rfl rfl rfl ?_
     refine WL.q (oq_move rfl) rfl rfl rfl ?_
     refine WL.q (oq_nilCheck rfl) rfl rfl rfl ?_
     refine WL.q (oq_fieldAddr fld216_0 rfl) rfl rfl rfl ?_
     refine WL.q (oq_load flat145 rfl (.tail _ (.head _)) (List.mem_append_right _ List.mem_cons_self) rfl) rfl rfl rfl ?_
     refine WL.q (oq_nilCheck rfl) rfl rfl rfl ?_
     refine WL.q (oq_fieldAddr fld216_0 rfl) rfl rfl rfl ?_
     refine WL.store1 #[_, _] ty145 rfl rfl (by first | rfl | exact OwS.one one_) (Nat.lt_of_lt_of_le (Nat.lt_succ_self _) (Nat.le_of_ble_eq_true rfl)) rfl rfl ?_
     refine WL.nil (WE.then_normal (WC.sub (fr' := [(6, _)]) ?_ ⟨rfl, trivial⟩))
     refine WC.seq (WC.region ?_)
     refine WL.q (oq_move rfl) rfl rfl rfl ?_
     refine WL.q (oq_nilCheck rfl) rfl rfl rfl ?_
     refine WL.q (oq_fieldAddr fld216_1 rfl) rfl rfl rfl ?_
     refine WL.q (oq_load flat140 rfl (.tail _ (.head _)) (List.mem_append_right _ List.mem_cons_self) rfl) rfl rfl rfl ?_
     refine WL.q (oq_assign rfl) rfl rfl rfl ?_
     refine WL.f1 ?_
     refine WL.reg (reg_out (show (ch 212 216 239 (A2) (.iface 212 (Pt p.b 0)) ++ ch 212 216 239 (x :: y :: B2) .nilIface).Perm ([(x.b, .cells #[nextOf 212 (y :: B2) .nilIface, wv 239 x] 216 (0, 0))] ++ (ch 212 216 239 (A2) (.iface 212 (Pt p.b 0)) ++ ch 212 216 239 (y :: B2) .nilIface)) from List.perm_middle)) ?_
     refine WL.q (oq_assign rfl) rfl rfl rfl ?_
     refine WL.nil (WE.then_normal (WC.sub (fr' := [(4, _), (5, _)]) ?_ ⟨rfl, rfl, trivial⟩))
     refine WC.ret ?_
     refine WE.lose hbx ?_
     refine WE.f3 ?_
     refine WE.f1 ?_
     refine WE.f2 ?_
     refine WE.f3 ?_
     refine WE.endW3 (.inl rfl) (res2 Tryz.results90 rfl rfl) ?_
     exact ⟨rfl, perm2 (by rw [lastp_cons, last_of hB, ← hhp, hdp_cons A2 p (y :: B2) []]) (by simp only [List.flatten_cons, List.flatten_nil, List.append_nil]; exact ch_del A2 p (y :: B2) _)⟩
theorem remN2 (base sb : Nat) (by_ : List UInt8) (items : List Nd) (hn : ∀ y ∈ items, y.id ≠ by_) : FnW Tryz.prog 90 [Pt sb 0, S by_] base [[(sb, .cells #[(hdp (items)), (lastp (items))] 214 (0, 0))], ch 212 216 239 items .nilIface] (fun v Hs => (∃ k u, v = .tuple #[.nilIface, .iface k u]) ∧ Hs = [[(sb, .cells #[(hdp (items)), (lastp (items))] 214 (0, 0))], ch 212 216 239 items .nilIface]) := by
 refine FnW.enter (n := 73) Tryz.func90 rfl rfl fun w0 R0 hbase => ?_
 subst hbase
 show WC _ _ _ _ _ _ _ ([[(sb, .cells #[(hdp (items)), (lastp (items))] 214 (0, 0))], ch 212 216 239 items .nilIface, R0])
 refine WC.sub (fr' := [(0, _), (1, _)]) ?_ ⟨rfl, rfl, trivial⟩
 refine WC.seq (WC.region ?_)
 refine WL.q (oq_assign rfl) rfl rfl rfl ?_
 refine WL.q (oq_assign rfl) rfl rfl rfl ?_
 refine WL.nil (WE.then_normal (WC.sub (fr' := [(0, _), (1, _)]) ?_ ⟨rfl, rfl, trivial⟩))
 refine WC.seq (WC.region ?_)
 refine WL.q (oq_move rfl) rfl rfl rfl ?_
 refine WL.q (oq_move rfl) rfl rfl rfl ?_
 refine WL.f1 ?_
 refine WL.f1 ?_
 refine WL.callW2 (gotM2 _ sb by_ items hn) call125 rfl rfl rfl fun v1_2 Hs1_2 hR1_2 => ?_
 obtain ⟨rfl, rfl⟩ := hR1_2
 refine WL.to2 ?_
 refine WL.q (oq_move rfl) rfl rfl rfl ?_
 refine WL.q (oq_extract rfl rfl) rfl rfl rfl ?_
 refine WL.q (oq_extract rfl rfl) rfl rfl rfl ?_
 refine WL.q (oq_assign rfl) rfl rfl rfl ?_
 refine WL.q (oq_assign rfl) rfl rfl rfl ?_
 refine WL.nil (WE.then_normal (WC.sub (fr' := [(0, _), (6, _), (7, _)]) ?_ ⟨rfl, rfl, rfl, trivial⟩))
 refine WC.seq (WC.seq (WC.region ?_))
 refine WL.q (oq_move rfl) rfl rfl rfl ?_
 refine WL.q (oq_peql Tryz.underlying212 rfl rfl) rfl rfl rfl ?_
 refine WL.nil (WE.then_normal (WC.sub (fr' := [(0, _), (6, _), (7, _), (15, _)]) ?_ ⟨rfl, rfl, rfl, rfl, trivial⟩))
 refine WC.cond rfl (fun q2 => ?_) (fun q2 => ?_)
 ·
  try simp only [Z1, Z2, Z3, Z4, Z5, Z6, Z7, Z8, Z9, Z0] at q2
  refine WC.seq (WC.region ?_)
  refine WL.callA0 (errNew _) call122 rfl rfl rfl fun v3_0 N3_0 hR3_0 hN3_0 => ?_
  obtain ⟨ek, eu, rfl⟩ := hR3_0
  refine WL.q (oq_assign rfl) rfl rfl rfl ?_
  refine WL.q (oq_assign rfl) rfl rfl rfl ?_
  refine WL.nil (WE.then_normal (WC.sub (fr' := [(4, _), (5, _)]) ?_ ⟨rfl, rfl, trivial⟩))
  refine WC.ret (WE.then_ret ?_)
  refine WE.forget hN3_0 ?_
  refine WE.endW2 (.inl rfl) (res2 Tryz.results90 rfl rfl) ?_
  exact ⟨⟨_, _, rfl⟩, rfl⟩
 ·
  try simp only [Z1, Z2, Z3, Z4, Z5, Z6, Z7, Z8, Z9, Z0] at q2
  simp at q2
theorem remO3 (base sb : Nat) (x : Nd) (items : List Nd) (hbx : base ≤ x.b) (hit : items = [] ++ x :: []) : FnW Tryz.prog 104 [Pt sb 0, S x.id] base [[(sb, .cells #[(hdp (items)), (lastp (items))] 220 (0, 0))], ch 218 222 243 items .nilIface] (fun v Hs => v = .tuple #[wv 243 x, .nilIface] ∧ Hs.flatten.Perm ([[(sb, .cells #[(hdp ([])), (lastp ([]))] 220 (0, 0))], ch 218 222 243 [] .nilIface] : List Hp).flatten) := by
 refine FnW.enter (n := 73) Tryz.func104 rfl rfl fun w0 R0 hbase => ?_
 subst hbase
 show WC _ _ _ _ _ _ _ ([[(sb, .cells #[(hdp (items)), (lastp (items))] 220 (0, 0))], ch 218 222 243 items .nilIface, R0])
 refine WC.sub (fr' := [(0, _), (1, _)]) ?_ ⟨rfl, rfl, trivial⟩
 refine WC.seq (WC.region ?_)
 refine WL.q (oq_assign rfl) rfl rfl rfl ?_
 refine WL.q (oq_assign rfl) rfl rfl rfl ?_
 refine WL.nil (WE.then_normal (WC.sub (fr' := [(0, _), (1, _)]) ?_ ⟨rfl, rfl, trivial⟩))
 refine WC.seq (WC.region ?_)
 refine WL.q (oq_move rfl) rfl rfl rfl ?_
 refine WL.q (oq_move rfl) rfl rfl rfl ?_
 refine WL.f1 ?_
 refine WL.f1 ?_
 refine WL.callW2 (gotH3 _ sb x.id [] [] x items hit rfl (by simp)) call126 rfl rfl rfl fun v1_2 Hs1_2 hR1_2 => ?_
 obtain ⟨rfl, rfl⟩ := hR1_2
 refine WL.to2 ?_
 refine WL.q (oq_move rfl) rfl rfl rfl ?_
 refine WL.q (oq_extract rfl rfl) rfl rfl rfl ?_
 refine WL.q (oq_extract rfl rfl) rfl rfl rfl ?_
 refine WL.q (oq_assign rfl) rfl rfl rfl ?_
 refine WL.q (oq_assign rfl) rfl rfl rfl ?_
 refine WL.nil (WE.then_normal (WC.sub (fr' := [(0, _), (6, _), (7, _)]) ?_ ⟨rfl, rfl, rfl, trivial⟩))
 refine WC.seq (WC.seq (WC.region ?_))
 refine WL.q (oq_move rfl) rfl rfl rfl ?_
 refine WL.q (oq_peql Tryz.underlying218 rfl rfl) rfl rfl rfl ?_
 refine WL.nil (WE.then_normal (WC.sub (fr' := [(0, _), (6, _), (7, _), (15, _)]) ?_ ⟨rfl, rfl, rfl, rfl, trivial⟩))
 refine WC.cond rfl (fun q2 => ?_) (fun q2 => ?_)
 ·
  try simp only [Z1, Z2, Z3, Z4, Z5, Z6, Z7, Z8, Z9, Z0] at q2
  first | (simp at q2; done) | exact absurd q4 hhl | exact absurd q4.symm hhl | exact absurd q7 hxh | exact absurd q7.symm hxh | exact absurd q9 hxl | exact absurd q9.symm hxl | (exfalso; omega)
 ·
  try simp only [Z1, Z2, Z3, Z4, Z5, Z6, Z7, Z8, Z9, Z0] at q2
  refine WC.skip (WE.then_normal (WC.sub (fr' := [(0, _), (6, _), (7, _)]) ?_ ⟨rfl, rfl, rfl, trivial⟩))
  refine WC.seq (WC.seq ?_)
  have hh : hdp items = Pt x.b 0 := by rw [hit]; rfl
  have ht : lastp items = Pt x.b 0 := by rw [hit]; rfl
  rw [hh, ht]
  refine WC.quiet (by kernel_rfl) (by kernel_rfl) ?_
  refine WQ.q (oq_move rfl) rfl rfl rfl ?_
  refine WQ.q (oq_nilCheck rfl) rfl rfl rfl ?_
  refine WQ.q (oq_fieldAddr fld220_0 rfl) rfl rfl rfl ?_
  refine WQ.q (oq_load flat218 rfl (.head _) (List.mem_singleton.2 rfl) rfl) rfl rfl rfl ?_
  refine WQ.q (oq_move rfl) rfl rfl rfl ?_
  refine WQ.q (oq_nilCheck rfl) rfl rfl rfl ?_
  refine WQ.q (oq_fieldAddr fld220_1 rfl) rfl rfl rfl ?_
  refine WQ.q (oq_load flat218 rfl (.head _) (List.mem_singleton.2 rfl) rfl) rfl rfl rfl ?_
  refine WQ.q (oq_pesame Tryz.underlying218 ty222 rfl rfl) rfl rfl rfl ?_
  refine WQ.nil (WE.then_normal (WC.sub (fr' := [(0, _), (6, _), (7, _), (25, _)]) ?_ ⟨rfl, rfl, rfl, rfl, trivial⟩))
  refine WC.cond_t rfl ?_
  refine WC.seq (WC.region ?_)
  refine WL.q (oq_move rfl) rfl rfl rfl ?_
  refine WL.q (oq_nilCheck rfl) rfl rfl rfl ?_
  refine WL.q (oq_fieldAddr fld220_0 rfl) rfl rfl rfl ?_
  refine WL.store1 #[_, _] ty218 rfl rfl (by first | rfl | exact OwS.one one_) (Nat.lt_of_lt_of_le (Nat.lt_succ_self _) (Nat.le_of_ble_eq_true rfl)) rfl rfl ?_
  refine WL.nil (WE.then_normal (WC.sub (fr' := [(0, _), (6, _)]) ?_ ⟨rfl, rfl, trivial⟩))
  refine WC.region ?_
  refine WL.q (oq_move rfl) rfl rfl rfl ?_
  refine WL.q (oq_nilCheck rfl) rfl rfl rfl ?_
  refine WL.q (oq_fieldAddr fld220_1 rfl) rfl rfl rfl ?_
  refine WL.store1 #[_, _] ty218 rfl rfl (by first | rfl | exact OwS.one one_) (Nat.lt_of_lt_of_le (Nat.lt_succ_self _) (Nat.le_of_ble_eq_true rfl)) rfl rfl ?_
  refine WL.nil (WE.then_normal (WC.sub (fr' := [(6, _)]) ?_ ⟨rfl, trivial⟩))
  refine WC.seq (WC.region ?_)
  refine WL.q (oq_move rfl) rfl rfl rfl ?_
  refine WL.q (oq_nilCheck rfl) rfl rfl rfl ?_
  refine WL.q (oq_fieldAddr fld222_1 rfl) rfl rfl rfl ?_
  refine WL.q (oq_load flat159 rfl (.tail _ (.head _)) (mem_of hit) rfl) rfl rfl rfl ?_
  refine WL.q (oq_assign rfl) rfl rfl rfl ?_
  refine WL.f1 ?_
  refine WL.reg (reg_out (show (ch 218 222 243 (items) .nilIface).Perm ([(x.b, .cells #[nextOf 218 ([]) .nilIface, wv 243 x] 222 (0, 0))] ++ (ch 218 222 243 ([]) (.iface 218 (Pt x.b 0)) ++ ch 218 222 243 ([]) .nilIface)) from by rw [hit]; exact ch_out _ _ _ _)) ?_
  refine WL.q (oq_assign rfl) rfl rfl rfl ?_
  refine WL.nil (WE.then_normal (WC.sub (fr' := [(4, _), (5, _)]) ?_ ⟨rfl, rfl, trivial⟩))
  refine WC.ret ?_
  refine WE.lose hbx ?_
  refine WE.f2 ?_
  refine WE.f1 ?_
  refine WE.f2 ?_
  refine WE.endW2 (.inl rfl) (res2 Tryz.results104 rfl rfl) ?_
  exact ⟨rfl, perm2 rfl (by simp only [List.flatten_cons, List.flatten_nil, List.append_nil]; exact List.Perm.refl _)⟩
theorem remF3 (base sb : Nat) (x : Nd) (items : List Nd) (hbx : base ≤ x.b) (y : Nd) (B2 B3 : List Nd) (l : Nd) (hit : items = [] ++ x :: (y :: B2)) (hB : y :: B2 = B3 ++ [l]) : FnW Tryz.prog 104 [Pt sb 0, S x.id] base [[(sb, .cells #[(hdp (items)), (lastp (items))] 220 (0, 0))], ch 218 222 243 items .nilIface] (fun v Hs => v = .tuple #[wv 243 x, .nilIface] ∧ Hs.flatten.Perm ([[(sb, .cells #[(hdp (y :: B2)), (lastp (y :: B2))] 220 (0, 0))], ch 218 222 243 (y :: B2) .nilIface] : List Hp).flatten) := by
 refine FnW.enter (n := 73) Tryz.func104 rfl rfl fun w0 R0 hbase => ?_
 subst hbase
 show WC _ _ _ _ _ _ _ ([[(sb, .cells #[(hdp (items)), (lastp (items))] 220 (0, 0))], ch 218 222 243 items .nilIface, R0])
 refine WC.sub (fr' := [(0, _), (1, _)]) ?_ ⟨rfl, rfl, trivial⟩
 refine WC.seq (WC.region ?_)
 refine WL.q (oq_assign rfl) rfl rfl rfl ?_
 refine WL.q (oq_assign rfl) rfl rfl rfl ?_
 refine WL.nil (WE.then_normal (WC.sub (fr' := [(0, _), (1, _)]) ?_ ⟨rfl, rfl, trivial⟩))
 refine WC.seq (WC.region ?_)
 refine WL.q (oq_move rfl) rfl rfl rfl ?_
 refine WL.q (oq_move rfl) rfl rfl rfl ?_
 refine WL.f1 ?_
 refine WL.f1 ?_
 refine WL.callW2 (gotH3 _ sb x.id [] (y :: B2) x items hit rfl (by simp)) call126 rfl rfl rfl fun v1_2 Hs1_2 hR1_2 => ?_
 obtain ⟨rfl, rfl⟩ := hR1_2
 refine WL.to2 ?_
 refine WL.q (oq_move rfl) rfl rfl rfl ?_
 refine WL.q (oq_extract rfl rfl) rfl rfl rfl ?_
 refine WL.q (oq_extract rfl rfl) rfl rfl rfl ?_
 refine WL.q (oq_assign rfl) rfl rfl rfl ?_
 refine WL.q (oq_assign rfl) rfl rfl rfl ?_
 refine WL.nil (WE.then_normal (WC.sub (fr' := [(0, _), (6, _), (7, _)]) ?_ ⟨rfl, rfl, rfl, trivial⟩))
 refine WC.seq (WC.seq (WC.region ?_))
 refine WL.q (oq_move rfl) rfl rfl rfl ?_
 refine WL.q (oq_peql Tryz.underlying218 rfl rfl) rfl rfl rfl ?_
 refine WL.nil (WE.then_normal (WC.sub (fr' := [(0, _), (6, _), (7, _), (15, _)]) ?_ ⟨rfl, rfl, rfl, rfl, trivial⟩))
 refine WC.cond rfl (fun q2 => ?_) (fun q2 => ?_)
 ·
  try simp only [Z1, Z2, Z3, Z4, Z5, Z6, Z7, Z8, Z9, Z0] at q2
  first | (simp at q2; done) | exact absurd q4 hhl | exact absurd q4.symm hhl | exact absurd q7 hxh | exact absurd q7.symm hxh | exact absurd q9 hxl | exact absurd q9.symm hxl | (exfalso; omega)
 ·
  try simp only [Z1, Z2, Z3, Z4, Z5, Z6, Z7, Z8, Z9, Z0] at q2
  refine WC.skip (WE.then_normal (WC.sub (fr' := [(0, _), (6, _), (7, _)]) ?_ ⟨rfl, rfl, rfl, trivial⟩))
  refine WC.seq (WC.seq ?_)
  refine WC.distinct fun hdd => ?_
  have hnn := nd_of hdd
  have hhl : l.b ≠ x.b := nd_ne hnn hit (.inr (by rw [hB]; simp))
  have hit3 : items = (x :: B3) ++ l :: [] := by rw [hit, hB]; rfl
  have hh : hdp items = Pt x.b 0 := by rw [hit]; rfl
  have ht : lastp items = Pt l.b 0 := by rw [hit3]; exact lastp_snoc _ _
  rw [hh, ht]
  refine WC.quiet (by kernel_rfl) (by kernel_rfl) ?_
  refine WQ.q (oq_move rfl) rfl rfl rfl ?_
  refine WQ.q (oq_nilCheck rfl) rfl rfl rfl ?_
  refine WQ.q (oq_fieldAddr fld220_0 rfl) rfl rfl rfl ?_
  refine WQ.q (oq_load flat218 rfl (.head _) (List.mem_singleton.2 rfl) rfl) rfl rfl rfl ?_
  refine WQ.q (oq_move rfl) rfl rfl rfl ?_
  refine WQ.q (oq_nilCheck rfl) rfl rfl rfl ?_
  refine WQ.q (oq_fieldAddr fld220_1 rfl) rfl rfl rfl ?_
  refine WQ.q (oq_load flat218 rfl (.head _) (List.mem_singleton.2 rfl) rfl) rfl rfl rfl ?_
  refine WQ.q (oq_peq Tryz.underlying218 ty222 (by decide) (.tail _ (.head _)) (mem_of hit) (.tail _ (.head _)) (mem_of hit3) rfl rfl) rfl rfl rfl ?_
  refine WQ.nil (WE.then_normal (WC.sub (fr' := [(0, _), (6, _), (7, _), (25, _)]) ?_ ⟨rfl, rfl, rfl, rfl, trivial⟩))
  refine WC.cond rfl (fun q4 => ?_) (fun q4 => ?_)
  ·
   try simp only [Z1, Z2, Z3, Z4, Z5, Z6, Z7, Z8, Z9, Z0] at q4
   first | (simp at q2; done) | exact absurd q4 hhl | exact absurd q4.symm hhl | exact absurd q7 hxh | exact absurd q7.symm hxh | exact absurd q9 hxl | exact absurd q9.symm hxl | (exfalso; omega)
  ·
   try simp only [Z1, Z2, Z3, Z4, Z5, Z6, Z7, Z8, Z9, Z0] at q4
   refine WC.seq (WC.region ?_)
   refine WL.q (oq_move rfl) rfl rfl rfl ?_
   refine WL.q (oq_move rfl) rfl rfl rfl ?_
   refine WL.q (oq_nilCheck rfl) rfl rfl rfl ?_
   refine WL.q (oq_fieldAddr fld220_0 rfl) rfl rfl rfl ?_
   refine WL.q (oq_load flat218 rfl (.head _) (List.mem_singleton.2 rfl) rfl) rfl rfl rfl ?_
   refine WL.q (oq_pesame Tryz.underlying218 ty222 rfl rfl) rfl rfl rfl ?_
   refine WL.nil (WE.then_normal (WC.sub (fr' := [(0, _), (6, _), (7, _), (37, _)]) ?_ ⟨rfl, rfl, rfl, rfl, trivial⟩))
   refine WC.cond_t rfl ?_
   refine WC.region ?_
   refine WL.q (oq_move rfl) rfl rfl rfl ?_
   refine WL.q (oq_move rfl) rfl rfl rfl ?_
   refine WL.q (oq_nilCheck rfl) rfl rfl rfl ?_
   refine WL.q (oq_fieldAddr fld220_0 rfl) rfl rfl rfl ?_
   refine WL.q (oq_load flat218 rfl (.head _) (List.mem_singleton.2 rfl) rfl) rfl rfl rfl ?_
   refine WL.q (oq_nilCheck rfl) rfl rfl rfl ?_
   refine WL.q (oq_fieldAddr fld222_0 rfl) rfl rfl rfl ?_
   refine WL.q (oq_load flat163 rfl (.tail _ (.head _)) (mem_of hit) rfl) rfl rfl rfl ?_
   refine WL.q (oq_askT conc218 rfl) rfl rfl rfl ?_
   refine WL.q (oq_nilCheck rfl) rfl rfl rfl ?_
   refine WL.q (oq_fieldAddr fld220_0 rfl) rfl rfl rfl ?_
   refine WL.store1 #[_, _] ty218 rfl rfl (by first | rfl | exact OwS.one one_) (Nat.lt_of_lt_of_le (Nat.lt_succ_self _) (Nat.le_of_ble_eq_true rfl)) rfl rfl ?_
   refine WL.nil (WE.then_normal (WC.sub (fr' := [(6, _)]) ?_ ⟨rfl, trivial⟩))
   refine WC.seq (WC.region ?_)
   refine WL.q (oq_move rfl) rfl rfl rfl ?_
   refine WL.q (oq_nilCheck rfl) rfl rfl rfl ?_
   refine WL.q (oq_fieldAddr fld222_1 rfl) rfl rfl rfl ?_
   refine WL.q (oq_load flat159 rfl (.tail _ (.head _)) (mem_of hit) rfl) rfl rfl rfl ?_
   refine WL.q (oq_assign rfl) rfl rfl rfl ?_
   refine WL.f1 ?_
   refine WL.reg (reg_out (show (ch 218 222 243 (items) .nilIface).Perm ([(x.b, .cells #[nextOf 218 (y :: B2) .nilIface, wv 243 x] 222 (0, 0))] ++ (ch 218 222 243 ([]) (.iface 218 (Pt x.b 0)) ++ ch 218 222 243 (y :: B2) .nilIface)) from by rw [hit]; exact ch_out _ _ _ _)) ?_
   refine WL.q (oq_assign rfl) rfl rfl rfl ?_
   refine WL.nil (WE.then_normal (WC.sub (fr' := [(4, _), (5, _)]) ?_ ⟨rfl, rfl, trivial⟩))
   refine WC.ret ?_
   refine WE.lose hbx ?_
   refine WE.f2 ?_
   refine WE.f1 ?_
   refine WE.f2 ?_
   refine WE.endW2 (.inl rfl) (res2 Tryz.results104 rfl rfl) ?_
   exact ⟨rfl, perm2 (by rw [last_of hB]; rfl) (by simp only [List.flatten_cons, List.flatten_nil, List.append_nil]; exact List.Perm.refl _)⟩
theorem remL3 (base sb : Nat) (x : Nd) (items : List Nd) (hbx : base ≤ x.b) (h : Nd) (rr A2 : List Nd) (p : Nd) (hA0 : A2 ++ [p] = h :: rr) (hit : items = (A2 ++ [p]) ++ x :: ([])) (hA : ∀ y ∈ A2 ++ [p], y.id ≠ x.id) : FnW Tryz.prog 104 [Pt sb 0, S x.id] base [[(sb, .cells #[(hdp (items)), (lastp (items))] 220 (0, 0))], ch 218 222 243 items .nilIface] (fun v Hs => v = .tuple #[wv 243 x, .nilIface] ∧ Hs.flatten.Perm ([[(sb, .cells #[(hdp (A2 ++ p :: [])), (lastp (A2 ++ p :: []))] 220 (0, 0))], ch 218 222 243 (A2 ++ p :: []) .nilIface] : List Hp).flatten) := by
 refine FnW.enter (n := 73) Tryz.func104 rfl rfl fun w0 R0 hbase => ?_
 subst hbase
 show WC _ _ _ _ _ _ _ ([[(sb, .cells #[(hdp (items)), (lastp (items))] 220 (0, 0))], ch 218 222 243 items .nilIface, R0])
 refine WC.sub (fr' := [(0, _), (1, _)]) ?_ ⟨rfl, rfl, trivial⟩
 refine WC.seq (WC.region ?_)
 refine WL.q (oq_assign rfl) rfl rfl rfl ?_
 refine WL.q (oq_assign rfl) rfl rfl rfl ?_
 refine WL.nil (WE.then_normal (WC.sub (fr' := [(0, _), (1, _)]) ?_ ⟨rfl, rfl, trivial⟩))
 refine WC.seq (WC.region ?_)
 refine WL.q (oq_move rfl) rfl rfl rfl ?_
 refine WL.q (oq_move rfl) rfl rfl rfl ?_
 refine WL.f1 ?_
 refine WL.f1 ?_
 refine WL.callW2 (gotH3 _ sb x.id (A2 ++ [p]) [] x items hit rfl hA) call126 rfl rfl rfl fun v1_2 Hs1_2 hR1_2 => ?_
 obtain ⟨rfl, rfl⟩ := hR1_2
 rw [lastp_snoc]
 refine WL.to2 ?_
 refine WL.q (oq_move rfl) rfl rfl rfl ?_
 refine WL.q (oq_extract rfl rfl) rfl rfl rfl ?_
 refine WL.q (oq_extract rfl rfl) rfl rfl rfl ?_
 refine WL.q (oq_assign rfl) rfl rfl rfl ?_
 refine WL.q (oq_assign rfl) rfl rfl rfl ?_
 refine WL.nil (WE.then_normal (WC.sub (fr' := [(0, _), (6, _), (7, _)]) ?_ ⟨rfl, rfl, rfl, trivial⟩))
 refine WC.seq (WC.seq (WC.region ?_))
 refine WL.q (oq_move rfl) rfl rfl rfl ?_
 refine WL.q (oq_peql Tryz.underlying218 rfl rfl) rfl rfl rfl ?_
 refine WL.nil (WE.then_normal (WC.sub (fr' := [(0, _), (6, _), (7, _), (15, _)]) ?_ ⟨rfl, rfl, rfl, rfl, trivial⟩))
 refine WC.cond rfl (fun q2 => ?_) (fun q2 => ?_)
 ·
  try simp only [Z1, Z2, Z3, Z4, Z5, Z6, Z7, Z8, Z9, Z0] at q2
  first | (simp at q2; done) | exact absurd q4 hhl | exact absurd q4.symm hhl | exact absurd q7 hxh | exact absurd q7.symm hxh | exact absurd q9 hxl | exact absurd q9.symm hxl | (exfalso; omega)
 ·
  try simp only [Z1, Z2, Z3, Z4, Z5, Z6, Z7, Z8, Z9, Z0] at q2
  refine WC.skip (WE.then_normal (WC.sub (fr' := [(0, _), (6, _), (7, _)]) ?_ ⟨rfl, rfl, rfl, trivial⟩))
  refine WC.seq (WC.seq ?_)
  refine WC.distinct fun hdd => ?_
  have hnn := nd_of hdd
  have hit2 : items = A2 ++ p :: x :: ([]) := by rw [hit]; simp
  have hith : items = [] ++ h :: (rr ++ x :: ([])) := by rw [hit, hA0]; rfl
  have hxh : h.b ≠ x.b := nd_ne hnn hit (.inl (by rw [hA0]; simp))
  have hh : hdp items = Pt h.b 0 := by rw [hith]; rfl
  have hhp : hdp (A2 ++ [p]) = Pt h.b 0 := by rw [hA0]; rfl
  have hhl := hxh
  have ht : lastp items = Pt x.b 0 := by rw [hit]; exact lastp_snoc _ _
  rw [hh, ht]
  refine WC.quiet (by kernel_rfl) (by kernel_rfl) ?_
  refine WQ.q (oq_move rfl) rfl rfl rfl ?_
  refine WQ.q (oq_nilCheck rfl) rfl rfl rfl ?_
  refine WQ.q (oq_fieldAddr fld220_0 rfl) rfl rfl rfl ?_
  refine WQ.q (oq_load flat218 rfl (.head _) (List.mem_singleton.2 rfl) rfl) rfl rfl rfl ?_
  refine WQ.q (oq_move rfl) rfl rfl rfl ?_
  refine WQ.q (oq_nilCheck rfl) rfl rfl rfl ?_
  refine WQ.q (oq_fieldAddr fld220_1 rfl) rfl rfl rfl ?_
  refine WQ.q (oq_load flat218 rfl (.head _) (List.mem_singleton.2 rfl) rfl) rfl rfl rfl ?_
  refine WQ.q (oq_peq Tryz.underlying218 ty222 (by decide) (.tail _ (.head _)) (mem_of hith) (.tail _ (.head _)) (mem_of hit) rfl rfl) rfl rfl rfl ?_
  refine WQ.nil (WE.then_normal (WC.sub (fr' := [(0, _), (6, _), (7, _), (25, _)]) ?_ ⟨rfl, rfl, rfl, rfl, trivial⟩))
  refine WC.cond rfl (fun q4 => ?_) (fun q4 => ?_)
  ·
   try simp only [Z1, Z2, Z3, Z4, Z5, Z6, Z7, Z8, Z9, Z0] at q4
   first | (simp at q2; done) | exact absurd q4 hhl | exact absurd q4.symm hhl | exact absurd q7 hxh | exact absurd q7.symm hxh | exact absurd q9 hxl | exact absurd q9.symm hxl | (exfalso; omega)
  ·
   try simp only [Z1, Z2, Z3, Z4, Z5, Z6, Z7, Z8, Z9, Z0] at q4
   refine WC.seq (WC.region ?_)
   refine WL.q (oq_move rfl) rfl rfl rfl ?_
   refine WL.q (oq_move rfl) rfl rfl rfl ?_
   refine WL.q (oq_nilCheck rfl) rfl rfl rfl ?_
   refine WL.q (oq_fieldAddr fld220_0 rfl) rfl rfl rfl ?_
   refine WL.q (oq_load flat218 rfl (.head _) (List.mem_singleton.2 rfl) rfl) rfl rfl rfl ?_
   refine WL.q (oq_peq Tryz.underlying218 ty222 (by decide) (.tail _ (.head _)) (mem_of hit) (.tail _ (.head _)) (mem_of hith) rfl rfl) rfl rfl rfl ?_
   refine WL.nil (WE.then_normal (WC.sub (fr' := [(0, _), (6, _), (7, _), (37, _)]) ?_ ⟨rfl, rfl, rfl, rfl, trivial⟩))
   refine WC.cond rfl (fun q7 => ?_) (fun q7 => ?_)
   ·
    try simp only [Z1, Z2, Z3, Z4, Z5, Z6, Z7, Z8, Z9, Z0] at q7
    first | (simp at q2; done) | exact absurd q4 hhl | exact absurd q4.symm hhl | exact absurd q7 hxh | exact absurd q7.symm hxh | exact absurd q9 hxl | exact absurd q9.symm hxl | (exfalso; omega)
   ·
    try simp only [Z1, Z2, Z3, Z4, Z5, Z6, Z7, Z8, Z9, Z0] at q7
    refine WC.seq (WC.region ?_)
    refine WL.q (oq_move rfl) rfl rfl rfl ?_
    refine WL.q (oq_move rfl) rfl rfl rfl ?_
    refine WL.q (oq_nilCheck rfl) rfl rfl rfl ?_
    refine WL.q (oq_fieldAddr fld220_1 rfl) rfl rfl rfl ?_
    refine WL.q (oq_load flat218 rfl (.head _) (List.mem_singleton.2 rfl) rfl) rfl rfl rfl ?_
    refine WL.q (oq_pesame Tryz.underlying218 ty222 rfl rfl) rfl rfl rfl ?_
    refine WL.nil (WE.then_normal (WC.sub (fr' := [(0, _), (6, _), (7, _), (54, _)]) ?_ ⟨rfl, rfl, rfl, rfl, trivial⟩))
    refine WC.cond_t rfl ?_
    refine WC.seq (WC.region ?_)
    refine WL.f1 ?_
    refine WL.reg (reg_out (show (ch 218 222 243 (items) .nilIface).Perm ([(p.b, .cells #[nextOf 218 (x :: []) .nilIface, wv 243 p] 222 (0, 0))] ++ (ch 218 222 243 (A2) (.iface 218 (Pt p.b 0)) ++ ch 218 222 243 (x :: []) .nilIface)) from by rw [hit2]; exact ch_out _ _ _ _)) ?_
    refine WL.q (oq_move rfl) rfl rfl rfl ?_
    refine WL.q (oq_nilCheck rfl) rfl rfl rfl ?_
    refine WL.q (oq_fieldAddr fld222_0 rfl) rfl rfl rfl ?_
    refine WL.store1 #[_, _] ty163 rfl rfl (by first | rfl | exact OwS.one one_) (Nat.lt_of_lt_of_le (Nat.lt_succ_self _) (Nat.le_of_ble_eq_true rfl)) rfl rfl ?_
    refine WL.nil (WE.then_normal (WC.sub (fr' := [(0, _), (6, _), (7, _)]) ?_ ⟨rfl, rfl, rfl, trivial⟩))
    refine WC.region ?_
    refine WL.q (oq_move rfl) rfl rfl rfl ?_
    refine WL.q (oq_move rfl) rfl rfl rfl ?_
    refine WL.q (oq_nilCheck rfl) rfl rfl rfl ?_
    refine WL.q (oq_fieldAddr fld220_1 rfl) rfl rfl rfl ?_
    refine WL.f2 ?_
    refine WL.store1 #[_, _] ty218 rfl rfl (by first | rfl | exact OwS.one one_) (Nat.lt_of_lt_of_le (Nat.lt_succ_self _) (Nat.le_of_ble_eq_true rfl)) rfl rfl ?_
    refine WL.nil (WE.then_normal (WC.sub (fr' := [(6, _)]) ?_ ⟨rfl, trivial⟩))
    refine WC.seq (WC.region ?_)
    refine WL.q (oq_move rfl) rfl rfl rfl ?_
    refine WL.q (oq_nilCheck rfl) rfl rfl rfl ?_
    refine WL.q (oq_fieldAddr fld222_1 rfl) rfl rfl rfl ?_
    refine WL.q (oq_load flat159 rfl (.tail _ (.tail _ (.head _))) (List.mem_append_right _ List.mem_cons_self) rfl) rfl rfl rfl ?_
    refine WL.q (oq_assign rfl) rfl rfl rfl ?_
    refine WL.f2 ?_
    refine WL.reg (reg_out (show (ch 218 222 243 (A2) (.iface 218 (Pt p.b 0)) ++ ch 218 222 243 (x :: []) .nilIface).Perm ([(x.b, .cells #[nextOf 218 ([]) .nilIface, wv 243 x] 222 (0, 0))] ++ (ch 218 222 243 (A2) (.iface 218 (Pt p.b 0)) ++ ch 218 222 243 ([]) .nilIface)) from List.perm_middle)) ?_
    refine WL.q (oq_assign rfl) rfl rfl rfl ?_
    refine WL.nil (WE.then_normal (WC.sub (fr' := [(4, _), (5, _)]) ?_ ⟨rfl, rfl, trivial⟩))
    refine WC.ret ?_
    refine WE.lose hbx ?_
    refine WE.f3 ?_
    refine WE.f1 ?_
    refine WE.f3 ?_
    refine WE.f3 ?_
    refine WE.endW3 (.inl rfl) (res2 Tryz.results104 rfl rfl) ?_
    exact ⟨rfl, perm2 (by rw [hhp]) (by simp only [List.flatten_cons, List.flatten_nil, List.append_nil]; exact ch_del A2 p [] _)⟩
theorem remM3 (base sb : Nat) (x : Nd) (items : List Nd) (hbx : base ≤ x.b) (y : Nd) (B2 B3 : List Nd) (l : Nd) (hB : y :: B2 = B3 ++ [l]) (h : Nd) (rr A2 : List Nd) (p : Nd) (hA0 : A2 ++ [p] = h :: rr) (hit : items = (A2 ++ [p]) ++ x :: (y :: B2)) (hA : ∀ y ∈ A2 ++ [p], y.id ≠ x.id) : FnW Tryz.prog 104 [Pt sb 0, S x.id] base [[(sb, .cells #[(hdp (items)), (lastp (items))] 220 (0, 0))], ch 218 222 243 items .nilIface] (fun v Hs => v = .tuple #[wv 243 x, .nilIface] ∧ Hs.flatten.Perm ([[(sb, .cells #[(hdp (A2 ++ p :: y :: B2)), (lastp (A2 ++ p :: y :: B2))] 220 (0, 0))], ch 218 222 243 (A2 ++ p :: y :: B2) .nilIface] : List Hp).flatten) := by
 refine FnW.enter (n := 73) Tryz.func104 rfl rfl fun w0 R0 hbase => ?_
 subst hbase
 show WC _ _ _ _ _ _ _ ([[(sb, .cells #[(hdp (items)), (lastp (items))] 220 (0, 0))], ch 218 222 243 items .nilIface, R0])
 refine WC.sub (fr' := [(0, _), (1, _)]) ?_ ⟨rfl, rfl, trivial⟩
 refine WC.seq (WC.region ?_)
 refine WL.q (oq_assign rfl) rfl rfl rfl ?_
 refine WL.q (oq_assign rfl) rfl rfl rfl ?_
 refine WL.nil (WE.then_normal (WC.sub (fr' := [(0, _), (1, _)]) ?_ ⟨rfl, rfl, trivial⟩))
 refine WC.seq (WC.region ?_)
 refine WL.q (oq_move rfl) rfl rfl rfl ?_
 refine WL.q (oq_move rfl) rfl rfl rfl ?_
 refine WL.f1 ?_
 refine WL.f1 ?_
 refine WL.callW2 (gotH3 _ sb x.id (A2 ++ [p]) (y :: B2) x items hit rfl hA) call126 rfl rfl rfl fun v1_2 Hs1_2 hR1_2 => ?_
 obtain ⟨rfl, rfl⟩ := hR1_2
 rw [lastp_snoc]
 refine WL.to2 ?_
 refine WL.q (oq_move rfl) rfl rfl rfl ?_
 refine WL.q (oq_extract rfl rfl) rfl rfl rfl ?_
 refine WL.q (oq_extract rfl rfl) rfl rfl rfl ?_
 refine WL.q (oq_assign rfl) rfl rfl rfl ?_
 refine WL.q (oq_assign rfl) rfl rfl rfl ?_
 refine WL.nil (WE.then_normal (WC.sub (fr' := [(0, _), (6, _), (7, _)]) ?_ ⟨rfl, rfl, rfl, trivial⟩))
 refine WC.seq (WC.seq (WC.region ?_))
 refine WL.q (oq_move rfl) rfl rfl rfl ?_
 refine WL.q (oq_peql Tryz.underlying218 rfl rfl) rfl rfl rfl ?_
 refine WL.nil (WE.then_normal (WC.sub (fr' := [(0, _), (6, _), (7, _), (15, _)]) ?_ ⟨rfl, rfl, rfl, rfl, trivial⟩))
 refine WC.cond rfl (fun q2 => ?_) (fun q2 => ?_)
 ·
  try simp only [Z1, Z2, Z3, Z4, Z5, Z6, Z7, Z8, Z9, Z0] at q2
  first | (simp at q2; done) | exact absurd q4 hhl | exact absurd q4.symm hhl | exact absurd q7 hxh | exact absurd q7.symm hxh | exact absurd q9 hxl | exact absurd q9.symm hxl | (exfalso; omega)
 ·
  try simp only [Z1, Z2, Z3, Z4, Z5, Z6, Z7, Z8, Z9, Z0] at q2
  refine WC.skip (WE.then_normal (WC.sub (fr' := [(0, _), (6, _), (7, _)]) ?_ ⟨rfl, rfl, rfl, trivial⟩))
  refine WC.seq (WC.seq ?_)
  refine WC.distinct fun hdd => ?_
  have hnn := nd_of hdd
  have hit2 : items = A2 ++ p :: x :: (y :: B2) := by rw [hit]; simp
  have hith : items = [] ++ h :: (rr ++ x :: (y :: B2)) := by rw [hit, hA0]; rfl
  have hxh : h.b ≠ x.b := nd_ne hnn hit (.inl (by rw [hA0]; simp))
  have hh : hdp items = Pt h.b 0 := by rw [hith]; rfl
  have hhp : hdp (A2 ++ [p]) = Pt h.b 0 := by rw [hA0]; rfl
  have hitl : items = ((A2 ++ [p]) ++ x :: B3) ++ l :: [] := by rw [hit, hB]; simp
  have hxl : l.b ≠ x.b := nd_ne hnn hit (.inr (by rw [hB]; simp))
  have hhl : h.b ≠ l.b := nd_ne hnn hitl (.inl (by rw [hA0]; simp))
  have ht : lastp items = Pt l.b 0 := by rw [hitl]; exact lastp_snoc _ _
  rw [hh, ht]
  refine WC.quiet (by kernel_rfl) (by kernel_rfl) ?_
  refine WQ.q (oq_move rfl) rfl rfl rfl ?_
  refine WQ.q (oq_nilCheck rfl) rfl rfl rfl ?_
  refine WQ.q (oq_fieldAddr fld220_0 rfl) rfl rfl rfl ?_
  refine WQ.q (oq_load flat218 rfl (.head _) (List.mem_singleton.2 rfl) rfl) rfl rfl rfl ?_
  refine WQ.q (oq_move rfl) rfl rfl rfl ?_
  refine WQ.q (oq_nilCheck rfl) rfl rfl rfl ?_
  refine WQ.q (oq_fieldAddr fld220_1 rfl) rfl rfl rfl ?_
  refine WQ.q (oq_load flat218 rfl (.head _) (List.mem_singleton.2 rfl) rfl) rfl rfl rfl ?_
  refine WQ.q (oq_peq Tryz.underlying218 ty222 (by decide) (.tail _ (.head _)) (mem_of hith) (.tail _ (.head _)) (mem_of hitl) rfl rfl) rfl rfl rfl ?_
  refine WQ.nil (WE.then_normal (WC.sub (fr' := [(0, _), (6, _), (7, _), (25, _)]) ?_ ⟨rfl, rfl, rfl, rfl, trivial⟩))
  refine WC.cond rfl (fun q4 => ?_) (fun q4 => ?_)
  ·
   try simp only [Z1, Z2, Z3, Z4, Z5, Z6, Z7, Z8, Z9, Z0] at q4
   first | (simp at q2; done) | exact absurd q4 hhl | exact absurd q4.symm hhl | exact absurd q7 hxh | exact absurd q7.symm hxh | exact absurd q9 hxl | exact absurd q9.symm hxl | (exfalso; omega)
  ·
   try simp only [Z1, Z2, Z3, Z4, Z5, Z6, Z7, Z8, Z9, Z0] at q4
   refine WC.seq (WC.region ?_)
   refine WL.q (oq_move rfl) rfl rfl rfl ?_
   refine WL.q (oq_move rfl) rfl rfl rfl ?_
   refine WL.q (oq_nilCheck rfl) rfl rfl rfl ?_
   refine WL.q (oq_fieldAddr fld220_0 rfl) rfl rfl rfl ?_
   refine WL.q (oq_load flat218 rfl (.head _) (List.mem_singleton.2 rfl) rfl) rfl rfl rfl ?_
   refine WL.q (oq_peq Tryz.underlying218 ty222 (by decide) (.tail _ (.head _)) (mem_of hit) (.tail _ (.head _)) (mem_of hith) rfl rfl) rfl rfl rfl ?_
   refine WL.nil (WE.then_normal (WC.sub (fr' := [(0, _), (6, _), (7, _), (37, _)]) ?_ ⟨rfl, rfl, rfl, rfl, trivial⟩))
   refine WC.cond rfl (fun q7 => ?_) (fun q7 => ?_)
   ·
    try simp only [Z1, Z2, Z3, Z4, Z5, Z6, Z7, Z8, Z9, Z0] at q7
    first | (simp at q2; done) | exact absurd q4 hhl | exact absurd q4.symm hhl | exact absurd q7 hxh | exact absurd q7.symm hxh | exact absurd q9 hxl | exact absurd q9.symm hxl | (exfalso; omega)
   ·
    try simp only [Z1, Z2, Z3, Z4, Z5, Z6, Z7, Z8, Z9, Z0] at q7
    refine WC.seq (WC.region ?_)
    refine WL.q (oq_move rfl) rfl rfl rfl ?_
    refine WL.q (oq_move rfl) rfl rfl rfl ?_
    refine WL.q (oq_nilCheck rfl) rfl rfl rfl ?_
    refine WL.q (oq_fieldAddr fld220_1 rfl) rfl rfl rfl ?_
    refine WL.q (oq_load flat218 rfl (.head _) (List.mem_singleton.2 rfl) rfl) rfl rfl rfl ?_
    refine WL.q (oq_peq Tryz.underlying218 ty222 (by decide) (.tail _ (.head _)) (mem_of hit) (.tail _ (.head _)) (mem_of hitl) rfl rfl) rfl rfl rfl ?_
    refine WL.nil (WE.then_normal (WC.sub (fr' := [(0, _), (6, _), (7, _), (54, _)]) ?_ ⟨rfl, rfl, rfl, rfl, trivial⟩))
    refine WC.cond rfl (fun q9 => ?_) (fun q9 => ?_)
    ·
     try simp only [Z1, Z2, Z3, Z4, Z5, Z6, Z7, Z8, Z9, Z0] at q9
     first | (simp at q2; done) | exact absurd q4 hhl | exact absurd q4.symm hhl | exact absurd q7 hxh | exact absurd q7.symm hxh | exact absurd q9 hxl | exact absurd q9.symm hxl | (exfalso; omega)
    ·
     try simp only [Z1, Z2, Z3, Z4, Z5, Z6, Z7, Z8, Z9, Z0] at q9
     refine WC.region ?_
     refine WL.f1 ?_
     refine WL.reg (reg_out (show (ch 218 222 243 (items) .nilIface).Perm ([(p.b, .cells #[nextOf 218 (x :: y :: B2) .nilIface, wv 243 p] 222 (0, 0))] ++ (ch 218 222 243 (A2) (.iface 218 (Pt p.b 0)) ++ ch 218 222 243 (x :: y :: B2) .nilIface)) from by rw [hit2]; exact ch_out _ _ _ _)) ?_
     refine WL.q (oq_move rfl) rfl rfl rfl ?_
     refine WL.q (oq_move rfl) rfl rfl rfl ?_
     refine WL.q (oq_nilCheck rfl) rfl rfl rfl ?_
     refine WL.q (oq_fieldAddr fld222_0 rfl) rfl rfl rfl ?_
     refine WL.q (oq_load flat163 rfl (.tail _ (.head _)) (List.mem_append_right _ List.mem_cons_self) rfl) rfl rfl rfl ?_
     refine WL.q (oq_nilCheck rfl) rfl rfl rfl ?_
     refine WL.q (oq_fieldAddr fld222_0 rfl) rfl rfl rfl ?_
     refine WL.store1 #[_, _] ty163 rfl rfl (by first | rfl | exact OwS.one one_) (Nat.lt_of_lt_of_le (Nat.lt_succ_self _) (Nat.le_of_ble_eq_true rfl)) rfl rfl ?_
     refine WL.nil (WE.then_normal (WC.sub (fr' := [(6, _)]) ?_ ⟨rfl, trivial⟩))
     refine WC.seq (WC.region ?_)
     refine WL.q (oq_move rfl) rfl rfl rfl ?_
     refine WL.q (oq_nilCheck rfl) rfl rfl rfl ?_
     refine WL.q (oq_fieldAddr fld222_1 rfl) rfl rfl rfl ?_
     refine WL.q (oq_load flat159 rfl (.tail _ (.head _)) (List.mem_append_right _ List.mem_cons_self) rfl) rfl rfl rfl ?_
     refine WL.q (oq_assign rfl) rfl rfl rfl ?_
     refine WL.f1 ?_
     refine WL.reg (reg_out (show (ch 218 222 243 (A2) (.iface 218 (Pt p.b 0)) ++ ch 218 222 243 (x :: y :: B2) .nilIface).Perm ([(x.b, .cells #[nextOf 218 (y :: B2) .nilIface, wv 243 x] 222 (0, 0))] ++ (ch 218 222 243 (A2) (.iface 218 (Pt p.b 0)) ++ ch 218 222 243 (y :: B2) .nilIface)) from List.perm_middle)) ?_
     refine WL.q (oq_assign rfl) rfl rfl rfl ?_
     refine WL.nil (WE.then_normal (WC.sub (fr' := [(4, _), (5, _)]) ?_ ⟨rfl, rfl, trivial⟩))
     refine WC.ret ?_
     refine WE.lose hbx ?_
     refine WE.f3 ?_
     refine WE.f1 ?_
     refine WE.f2 ?_
     refine WE.f3 ?_
     refine WE.endW3 (.inl rfl) (res2 Tryz.results104 rfl rfl) ?_
     exact ⟨rfl, perm2 (by rw [lastp_cons, last_of hB, ← hhp, hdp_cons A2 p (y :: B2) []]) (by simp only [List.flatten_cons, List.flatten_nil, List.append_nil]; exact ch_del A2 p (y :: B2) _)⟩
theorem remN3 (base sb : Nat) (by_ : List UInt8) (items : List Nd) (hn : ∀ y ∈ items, y.id ≠ by_) : FnW Tryz.prog 104 [Pt sb 0, S by_] base [[(sb, .cells #[(hdp (items)), (lastp (items))] 220 (0, 0))], ch 218 222 243 items .nilIface] (fun v Hs => (∃ k u, v = .tuple #[.nilIface, .iface k u]) ∧ Hs = [[(sb, .cells #[(hdp (items)), (lastp (items))] 220 (0, 0))], ch 218 222 243 items .nilIface]) := by
 refine FnW.enter (n := 73) Tryz.func104 rfl rfl fun w0 R0 hbase => ?_
 subst hbase
 show WC _ _ _ _ _ _ _ ([[(sb, .cells #[(hdp (items)), (lastp (items))] 220 (0, 0))], ch 218 222 243 items .nilIface, R0])
 refine WC.sub (fr' := [(0, _), (1, _)]) ?_ ⟨rfl, rfl, trivial⟩
 refine WC.seq (WC.region ?_)
 refine WL.q (oq_assign rfl) rfl rfl rfl ?_
 refine WL.q (oq_assign rfl) rfl rfl rfl ?_
 refine WL.nil (WE.then_normal (WC.sub (fr' := [(0, _), (1, _)]) ?_ ⟨rfl, rfl, trivial⟩))
 refine WC.seq (WC.region ?_)
 refine WL.q (oq_move rfl) rfl rfl rfl ?_
 refine WL.q (oq_move rfl) rfl rfl rfl ?_
 refine WL.f1 ?_
 refine WL.f1 ?_
 refine WL.callW2 (gotM3 _ sb by_ items hn) call126 rfl rfl rfl fun v1_2 Hs1_2 hR1_2 => ?_
 obtain ⟨rfl, rfl⟩ := hR1_2
 refine WL.to2 ?_
 refine WL.q (oq_move rfl) rfl rfl rfl ?_
 refine WL.q (oq_extract rfl rfl) rfl rfl rfl ?_
 refine WL.q (oq_extract rfl rfl) rfl rfl rfl ?_
 refine WL.q (oq_assign rfl) rfl rfl rfl ?_
 refine WL.q (oq_assign rfl) rfl rfl rfl ?_
 refine WL.nil (WE.then_normal (WC.sub (fr' := [(0, _), (6, _), (7, _)]) ?_ ⟨rfl, rfl, rfl, trivial⟩))
 refine WC.seq (WC.seq (WC.region ?_))
 refine WL.q (oq_move rfl) rfl rfl rfl ?_
 refine WL.q (oq_peql Tryz.underlying218 rfl rfl) rfl rfl rfl ?_
 refine WL.nil (WE.then_normal (WC.sub (fr' := [(0, _), (6, _), (7, _), (15, _)]) ?_ ⟨rfl, rfl, rfl, rfl, trivial⟩))
 refine WC.cond rfl (fun q2 => ?_) (fun q2 => ?_)
 ·
  try simp only [Z1, Z2, Z3, Z4, Z5, Z6, Z7, Z8, Z9, Z0] at q2
  refine WC.seq (WC.region ?_)
  refine WL.callA0 (errNew _) call122 rfl rfl rfl fun v3_0 N3_0 hR3_0 hN3_0 => ?_
  obtain ⟨ek, eu, rfl⟩ := hR3_0
  refine WL.q (oq_assign rfl) rfl rfl rfl ?_
  refine WL.q (oq_assign rfl) rfl rfl rfl ?_
  refine WL.nil (WE.then_normal (WC.sub (fr' := [(4, _), (5, _)]) ?_ ⟨rfl, rfl, trivial⟩))
  refine WC.ret (WE.then_ret ?_)
  refine WE.forget hN3_0 ?_
  refine WE.endW2 (.inl rfl) (res2 Tryz.results104 rfl rfl) ?_
  exact ⟨⟨_, _, rfl⟩, rfl⟩
 ·
  try simp only [Z1, Z2, Z3, Z4, Z5, Z6, Z7, Z8, Z9, Z0] at q2
  simp at q2
theorem remO4 (base sb : Nat) (x : Nd) (items : List Nd) (hbx : base ≤ x.b) (hit : items = [] ++ x :: []) : FnW Tryz.prog 118 [Pt sb 0, S x.id] base [[(sb, .cells #[(hdp (items)), (lastp (items))] 226 (0, 0))], ch 224 228 247 items .nilIface] (fun v Hs => v = .tuple #[wv 247 x, .nilIface] ∧ Hs.flatten.Perm ([[(sb, .cells #[(hdp ([])), (lastp ([]))] 226 (0, 0))], ch 224 228 247 [] .nilIface] : List Hp).flatten) := by
 refine FnW.enter (n := 73) Tryz.func118 rfl rfl fun w0 R0 hbase => ?_
 subst hbase
 show WC _ _ _ _ _ _ _ ([[(sb, .cells #[(hdp (items)), (lastp (items))] 226 (0, 0))], ch 224 228 247 items .nilIface, R0])
 refine WC.sub (fr' := [(0, _), (1, _)]) ?_ ⟨rfl, rfl, trivial⟩
 refine WC.seq (WC.region ?_)
 refine WL.q (oq_assign rfl) rfl rfl rfl ?_
 refine WL.q (oq_assign rfl) rfl rfl rfl ?_
 refine WL.nil (WE.then_normal (WC.sub (fr' := [(0, _), (1, _)]) ?_ ⟨rfl, rfl, trivial⟩))
 refine WC.seq (WC.region ?_)
 refine WL.q (oq_move rfl) rfl rfl rfl ?_
 refine WL.q (oq_move rfl) rfl rfl rfl ?_
 refine WL.f1 ?_
 refine WL.f1 ?_
 refine WL.callW2 (gotH4 _ sb x.id [] [] x items hit rfl (by simp)) call127 rfl rfl rfl fun v1_2 Hs1_2 hR1_2 => ?_
 obtain ⟨rfl, rfl⟩ := hR1_2
 refine WL.to2 ?_
 refine WL.q (oq_move rfl) rfl rfl rfl ?_
 refine WL.q (oq_extract rfl rfl) rfl rfl rfl ?_
 refine WL.q (oq_extract rfl rfl) rfl rfl rfl ?_
 refine WL.q (oq_assign rfl) rfl rfl rfl ?_
 refine WL.q (oq_assign rfl) rfl rfl rfl ?_
 refine WL.nil (WE.then_normal (WC.sub (fr' := [(0, _), (6, _), (7, _)]) ?_ ⟨rfl, rfl, rfl, trivial⟩))
 refine WC.seq (WC.seq (WC.region ?_))
 refine WL.q (oq_move rfl) rfl rfl rfl ?_
 refine WL.q (oq_peql Tryz.underlying224 rfl rfl) rfl rfl rfl ?_
 refine WL.nil (WE.then_normal (WC.sub (fr' := [(0, _), (6, _), (7, _), (15, _)]) ?_ ⟨rfl, rfl, rfl, rfl, trivial⟩))
 refine WC.cond rfl (fun q2 => ?_) (fun q2 => ?_)
 ·
  try simp only [Z1, Z2, Z3, Z4, Z5, Z6, Z7, Z8, Z9, Z0] at q2
  first | (simp at q2; done) | exact absurd q4 hhl | exact absurd q4.symm hhl | exact absurd q7 hxh | exact absurd q7.symm hxh | exact absurd q9 hxl | exact absurd q9.symm hxl | (exfalso; omega)
 ·
  try simp only [Z1, Z2, Z3, Z4, Z5, Z6, Z7, Z8, Z9, Z0] at q2
  refine WC.skip (WE.then_normal (WC.sub (fr' := [(0, _), (6, _), (7, _)]) ?_ ⟨rfl, rfl, rfl, trivial⟩))
  refine WC.seq (WC.seq ?_)
  have hh : hdp items = Pt x.b 0 := by rw [hit]; rfl
  have ht : lastp items = Pt x.b 0 := by rw [hit]; rfl
  rw [hh, ht]
  refine WC.quiet (by kernel_rfl) (by kernel_rfl) ?_
  refine WQ.q (oq_move rfl) rfl rfl rfl ?_
  refine WQ.q (oq_nilCheck rfl) rfl rfl rfl ?_
  refine WQ.q (oq_fieldAddr fld226_0 rfl) rfl rfl rfl ?_
  refine WQ.q (oq_load flat224 rfl (.head _) (List.mem_singleton.2 rfl) rfl) rfl rfl rfl ?_
  refine WQ.q (oq_move rfl) rfl rfl rfl ?_
  refine WQ.q (oq_nilCheck rfl) rfl rfl rfl ?_
  refine WQ.q (oq_fieldAddr fld226_1 rfl) rfl rfl rfl ?_
  refine WQ.q (oq_load flat224 rfl (.head _) (List.mem_singleton.2 rfl) rfl) rfl rfl rfl ?_
  refine WQ.q (oq_pesame Tryz.underlying224 ty228 rfl rfl) rfl rfl rfl ?_
  refine WQ.nil (WE.then_normal (WC.sub (fr' := [(0, _), (6, _), (7, _), (25, _)]) ?_ ⟨rfl, rfl, rfl, rfl, trivial⟩))
  refine WC.cond_t rfl ?_
  refine WC.seq (WC.region ?_)
  refine WL.q (oq_move rfl) rfl rfl rfl ?_
  refine WL.q (oq_nilCheck rfl) rfl rfl rfl ?_
  refine WL.q (oq_fieldAddr fld226_0 rfl) rfl rfl rfl ?_
  refine WL.store1 #[_, _] ty224 rfl rfl (by first | rfl | exact OwS.one one_) (Nat.lt_of_lt_of_le (Nat.lt_succ_self _) (Nat.le_of_ble_eq_true rfl)) rfl rfl ?_
  refine WL.nil (WE.then_normal (WC.sub (fr' := [(0, _), (6, _)]) ?_ ⟨rfl, rfl, trivial⟩))
  refine WC.region ?_
  refine WL.q (oq_move rfl) rfl rfl rfl ?_
  refine WL.q (oq_nilCheck rfl) rfl rfl rfl ?_
  refine WL.q (oq_fieldAddr fld226_1 rfl) rfl rfl rfl ?_
  refine WL.store1 #[_, _] ty224 rfl rfl (by first | rfl | exact OwS.one one_) (Nat.lt_of_lt_of_le (Nat.lt_succ_self _) (Nat.le_of_ble_eq_true rfl)) rfl rfl ?_
  refine WL.nil (WE.then_normal (WC.sub (fr' := [(6, _)]) ?_ ⟨rfl, trivial⟩))
  refine WC.seq (WC.region ?_)
  refine WL.q (oq_move rfl) rfl rfl rfl ?_
  refine WL.q (oq_nilCheck rfl) rfl rfl rfl ?_
  refine WL.q (oq_fieldAddr fld228_1 rfl) rfl rfl rfl ?_
  refine WL.q (oq_load flat177 rfl (.tail _ (.head _)) (mem_of hit) rfl) rfl rfl rfl ?_
  refine WL.q (oq_assign rfl) rfl rfl rfl ?_
  refine WL.f1 ?_
  refine WL.reg (reg_out (show (ch 224 228 247 (items) .nilIface).Perm ([(x.b, .cells #[nextOf 224 ([]) .nilIface, wv 247 x] 228 (0, 0))] ++ (ch 224 228 247 ([]) (.iface 224 (Pt x.b 0)) ++ ch 224 228 247 ([]) .nilIface)) from by rw [hit]; exact ch_out _ _ _ _)) ?_
  refine WL.q (oq_assign rfl) rfl rfl rfl ?_
  refine WL.nil (WE.then_normal (WC.sub (fr' := [(4, _), (5, _)]) ?_ ⟨rfl, rfl, trivial⟩))
  refine WC.ret ?_
  refine WE.lose hbx ?_
  refine WE.f2 ?_
  refine WE.f1 ?_
  refine WE.f2 ?_
  refine WE.endW2 (.inl rfl) (res2 Tryz.results118 rfl rfl) ?_
  exact ⟨rfl, perm2 rfl (by simp only [List.flatten_cons, List.flatten_nil, List.append_nil]; exact List.Perm.refl _)⟩
theorem remF4 (base sb : Nat) (x : Nd) (items : List Nd) (hbx : base ≤ x.b) (y : Nd) (B2 B3 : List Nd) (l : Nd) (hit : items = [] ++ x :: (y :: B2)) (hB : y :: B2 = B3 ++ [l]) : FnW Tryz.prog 118 [Pt sb 0, S x.id] base [[(sb, .cells #[(hdp (items)), (lastp (items))] 226 (0, 0))], ch 224 228 247 items .nilIface] (fun v Hs => v = .tuple #[wv 247 x, .nilIface] ∧ Hs.flatten.Perm ([[(sb, .cells #[(hdp (y :: B2)), (lastp (y :: B2))] 226 (0, 0))], ch 224 228 247 (y :: B2) .nilIface] : List Hp).flatten) := by
 refine FnW.enter (n := 73) Tryz.func118 rfl rfl fun w0 R0 hbase => ?_
 subst hbase
 show WC _ _ _ _ _ _ _ ([[(sb, .cells #[(hdp (items)), (lastp (items))] 226 (0, 0))], ch 224 228 247 items .nilIface, R0])
 refine WC.sub (fr' := [(0, _), (1, _)]) ?_ ⟨rfl, rfl, trivial⟩
 refine WC.seq (WC.region ?_)
 refine WL.q (oq_assign rfl) rfl rfl rfl ?_
 refine WL.q (oq_assign rfl) rfl rfl rfl ?_
 refine WL.nil (WE.then_normal (WC.sub (fr' := [(0, _), (1, _)]) ?_ ⟨rfl, rfl, trivial⟩))
 refine WC.seq (WC.region ?_)
 refine WL.q (oq_move rfl) rfl rfl rfl ?_
 refine WL.q (oq_move rfl) rfl rfl rfl ?_
 refine WL.f1 ?_
 refine WL.f1 ?_
 refine WL.callW2 (gotH4 _ sb x.id [] (y :: B2) x items hit rfl (by simp)) call127 rfl rfl rfl fun v1_2 Hs1_2 hR1_2 => ?_
 obtain ⟨rfl, rfl⟩ := hR1_2
 refine WL.to2 ?_
 refine WL.q (oq_move rfl) rfl rfl rfl ?_
 refine WL.q (oq_extract rfl rfl) rfl rfl rfl ?_
 refine WL.q (oq_extract rfl rfl) rfl rfl rfl ?_
 refine WL.q (oq_assign rfl) rfl rfl rfl ?_
 refine WL.q (oq_assign rfl) rfl rfl rfl ?_
 refine WL.nil (WE.then_normal (WC.sub (fr' := [(0, _), (6, _), (7, _)]) ?_ ⟨rfl, rfl, rfl, trivial⟩))
 refine WC.seq (WC.seq (WC.region ?_))
 refine WL.q (oq_move rfl) rfl rfl rfl ?_
 refine WL.q (oq_peql Tryz.underlying224 rfl rfl) rfl rfl rfl ?_
 refine WL.nil (WE.then_normal (WC.sub (fr' := [(0, _), (6, _), (7, _), (15, _)]) ?_ ⟨rfl, rfl, rfl, rfl, trivial⟩))
 refine WC.cond rfl (fun q2 => ?_) (fun q2 => ?_)
 ·
  try simp only [Z1, Z2, Z3, Z4, Z5, Z6, Z7, Z8, Z9, Z0] at q2
  first | (simp at q2; done) | exact absurd q4 hhl | exact absurd q4.symm hhl | exact absurd q7 hxh | exact absurd q7.symm hxh | exact absurd q9 hxl | exact absurd q9.symm hxl | (exfalso; omega)
 ·
  try simp only [Z1, Z2, Z3, Z4, Z5, Z6, Z7, Z8, Z9, Z0] at q2
  refine WC.skip (WE.then_normal (WC.sub (fr' := [(0, _), (6, _), (7, _)]) ?_ ⟨rfl, rfl, rfl, trivial⟩))
  refine WC.seq (WC.seq ?_)
  refine WC.distinct fun hdd => ?_
  have hnn := nd_of hdd
  have hhl : l.b ≠ x.b := nd_ne hnn hit (.inr (by rw [hB]; simp))
  have hit3 : items = (x :: B3) ++ l :: [] := by rw [hit, hB]; rfl
  have hh : hdp items = Pt x.b 0 := by rw [hit]; rfl
  have ht : lastp items = Pt l.b 0 := by rw [hit3]; exact lastp_snoc _ _
  rw [hh, ht]
  refine WC.quiet (by kernel_rfl) (by kernel_rfl) ?_
  refine WQ.q (oq_move rfl) rfl rfl rfl ?_
  refine WQ.q (oq_nilCheck rfl) rfl rfl rfl ?_
  refine WQ.q (oq_fieldAddr fld226_0 rfl) rfl rfl rfl ?_
  refine WQ.q (oq_load flat224 rfl (.head _) (List.mem_singleton.2 rfl) rfl) rfl rfl rfl ?_
  refine WQ.q (oq_move rfl) rfl rfl rfl ?_
  refine WQ.q (oq_nilCheck rfl) rfl rfl rfl ?_
  refine WQ.q (oq_fieldAddr fld226_1 rfl) rfl rfl rfl ?_
  refine WQ.q (oq_load flat224 rfl (.head _) (List.mem_singleton.2 rfl) rfl) rfl rfl rfl ?_
  refine WQ.q (oq_peq Tryz.underlying224 ty228 (by decide) (.tail _ (.head _)) (mem_of hit) (.tail _ (.head _)) (mem_of hit3) rfl rfl) rfl rfl rfl ?_
  refine WQ.nil (WE.then_normal (WC.sub (fr' := [(0, _), (6, _), (7, _), (25, _)]) ?_ ⟨rfl, rfl, rfl, rfl, trivial⟩))
  refine WC.cond rfl (fun q4 => ?_) (fun q4 => ?_)
  ·
   try simp only [Z1, Z2, Z3, Z4, Z5, Z6, Z7, Z8, Z9, Z0] at q4
   first | (simp at q2; done) | exact absurd q4 hhl | exact absurd q4.symm hhl | exact absurd q7 hxh | exact absurd q7.symm hxh | exact absurd q9 hxl | exact absurd q9.symm hxl | (exfalso; omega)
  ·
   try simp only [Z1, Z2, Z3, Z4, Z5, Z6, Z7, Z8, Z9, Z0] at q4
   refine WC.seq (WC.region ?_)
   refine WL.q (oq_move rfl) rfl rfl rfl ?_
   refine WL.q (oq_move rfl) rfl rfl rfl ?_
   refine WL.q (oq_nilCheck rfl) rfl rfl rfl ?_
   refine WL.q (oq_fieldAddr fld226_0 rfl) rfl rfl rfl ?_
   refine WL.q (oq_load flat224 rfl (.head _) (List.mem_singleton.2 rfl) rfl) rfl rfl rfl ?_
   refine WL.q (oq_pesame Tryz.underlying224 ty228 rfl rfl) rfl rfl rfl ?_
   refine WL.nil (WE.then_normal (WC.sub (fr' := [(0, _), (6, _), (7, _), (37, _)]) ?_ ⟨rfl, rfl, rfl, rfl, trivial⟩))
   refine WC.cond_t rfl ?_
   refine WC.region ?_
   refine WL.q (oq_move rfl) rfl rfl rfl ?_
   refine WL.q (oq_move rfl) rfl rfl rfl ?_
   refine WL.q (oq_nilCheck rfl) rfl rfl rfl ?_
   refine WL.q (oq_fieldAddr fld226_0 rfl) rfl rfl rfl ?_
   refine WL.q (oq_load flat224 rfl (.head _) (List.mem_singleton.2 rfl) rfl) rfl rfl rfl ?_
   refine WL.q (oq_nilCheck rfl) rfl rfl rfl ?_
   refine WL.q (oq_fieldAddr fld228_0 rfl) rfl rfl rfl ?_
   refine WL.q (oq_load flat181 rfl (.tail _ (.head _)) (mem_of hit) rfl) rfl rfl rfl ?_
   refine WL.q (oq_askT conc224 rfl) rfl rfl rfl ?_
   refine WL.q (oq_nilCheck rfl) rfl rfl rfl ?_
   refine WL.q (oq_fieldAddr fld226_0 rfl) rfl rfl rfl ?_
   refine WL.store1 #[_, _] ty224 rfl rfl (by first | rfl | exact OwS.one one_) (Nat.lt_of_lt_of_le (Nat.lt_succ_self _) (Nat.le_of_ble_eq_true rfl)) rfl rfl ?_
   refine WL.nil (WE.then_normal (WC.sub (fr' := [(6, _)]) ?_ ⟨rfl, trivial⟩))
   refine WC.seq (WC.region ?_)
   refine WL.q (oq_move rfl) rfl rfl rfl ?_
   refine WL.q (oq_nilCheck rfl) rfl rfl rfl ?_
   refine WL.q (oq_fieldAddr fld228_1 rfl) rfl rfl rfl ?_
   refine WL.q (oq_load flat177 rfl (.tail _ (.head _)) (mem_of hit) rfl) rfl rfl rfl ?_
   refine WL.q (oq_assign rfl) rfl rfl rfl ?_
   refine WL.f1 ?_
   refine WL.reg (reg_out (show (ch 224 228 247 (items) .nilIface).Perm ([(x.b, .cells #[nextOf 224 (y :: B2) .nilIface, wv 247 x] 228 (0, 0))] ++ (ch 224 228 247 ([]) (.iface 224 (Pt x.b 0)) ++ ch 224 228 247 (y :: B2) .nilIface)) from by rw [hit]; exact ch_out _ _ _ _)) ?_
   refine WL.q (oq_assign rfl) rfl rfl rfl ?_
   refine WL.nil (WE.then_normal (WC.sub (fr' := [(4, _), (5, _)]) ?_ ⟨rfl, rfl, trivial⟩))
   refine WC.ret ?_
   refine WE.lose hbx ?_
   refine WE.f2 ?_
   refine WE.f1 ?_
   refine WE.f2 ?_
   refine WE.endW2 (.inl rfl) (res2 Tryz.results118 rfl rfl) ?_
   exact ⟨rfl, perm2 (by rw [last_of hB]; rfl) (by simp only [List.flatten_cons, List.flatten_nil, List.append_nil]; exact List.Perm.refl _)⟩
theorem remL4 (base sb : Nat) (x : Nd) (items : List Nd) (hbx : base ≤ x.b) (h : Nd) (rr A2 : List Nd) (p : Nd) (hA0 : A2 ++ [p] = h :: rr) (hit : items = (A2 ++ [p]) ++ x :: ([])) (hA : ∀ y ∈ A2 ++ [p], y.id ≠ x.id) : FnW Tryz.prog 118 [Pt sb 0, S x.id] base [[(sb, .cells #[(hdp (items)), (lastp (items))] 226 (0, 0))], ch 224 228 247 items .nilIface] (fun v Hs => v = .tuple #[wv 247 x, .nilIface] ∧ Hs.flatten.Perm ([[(sb, .cells #[(hdp (A2 ++ p :: [])), (lastp (A2 ++ p :: []))] 226 (0, 0))], ch 224 228 247 (A2 ++ p :: []) .nilIface] : List Hp).flatten) := by
 refine FnW.enter (n := 73) Tryz.func118 rfl rfl fun w0 R0 hbase => ?_
 subst hbase
 show WC _ _ _ _ _ _ _ ([[(sb, .cells #[(hdp (items)), (lastp (items))] 226 (0, 0))], ch 224 228 247 items .nilIface, R0])
 refine WC.sub (fr' := [(0, _), (1, _)]) ?_ ⟨rfl, rfl, trivial⟩
 refine WC.seq (WC.region ?_)
 refine WL.q (oq_assign rfl) rfl rfl rfl ?_
 refine WL.q (oq_assign rfl) rfl rfl rfl ?_
 refine WL.nil (WE.then_normal (WC.sub (fr' := [(0, _), (1, _)]) ?_ ⟨rfl, rfl, trivial⟩))
 refine WC.seq (WC.region ?_)
 refine WL.q (oq_move rfl) rfl rfl rfl ?_
 refine WL.q (oq_move rfl) rfl rfl rfl ?_
 refine WL.f1 ?_
 refine WL.f1 ?_
 refine WL.callW2 (gotH4 _ sb x.id (A2 ++ [p]) [] x items hit rfl hA) call127 rfl rfl rfl fun v1_2 Hs1_2 hR1_2 => ?_
 obtain ⟨rfl, rfl⟩ := hR1_2
 rw [lastp_snoc]
 refine WL.to2 ?_
 refine WL.q (oq_move rfl) rfl rfl rfl ?_
 refine WL.q (oq_extract rfl rfl) rfl rfl rfl ?_
 refine WL.q (oq_extract rfl rfl) rfl rfl rfl ?_
 refine WL.q (oq_assign rfl) rfl rfl rfl ?_
 refine WL.q (oq_assign rfl) rfl rfl rfl ?_
 refine WL.nil (WE.then_normal (WC.sub (fr' := [(0, _), (6, _), (7, _)]) ?_ ⟨rfl, rfl, rfl, trivial⟩))
 refine WC.seq (WC.seq (WC.region ?_))
 refine WL.q (oq_move rfl) rfl rfl rfl ?_
 refine WL.q (oq_peql Tryz.underlying224 rfl rfl) rfl rfl rfl ?_
 refine WL.nil (WE.then_normal (WC.sub (fr' := [(0, _), (6, _), (7, _), (15, _)]) ?_ ⟨rfl, rfl, rfl, rfl, trivial⟩))
 refine WC.cond rfl (fun q2 => ?_) (fun q2 => ?_)
 ·
  try simp only [Z1, Z2, Z3, Z4, Z5, Z6, Z7, Z8, Z9, Z0] at q2
  first | (simp at q2; done) | exact absurd q4 hhl | exact absurd q4.symm hhl | exact absurd q7 hxh | exact absurd q7.symm hxh | exact absurd q9 hxl | exact absurd q9.symm hxl | (exfalso; omega)
 ·
  try simp only [Z1, Z2, Z3, Z4, Z5, Z6, Z7, Z8, Z9, Z0] at q2
  refine WC.skip (WE.then_normal (WC.sub (fr' := [(0, _), (6, _), (7, _)]) ?_ ⟨rfl, rfl, rfl, trivial⟩))
  refine WC.seq (WC.seq ?_)
  refine WC.distinct fun hdd => ?_
  have hnn := nd_of hdd
  have hit2 : items = A2 ++ p :: x :: ([]) := by rw [hit]; simp
  have hith : items = [] ++ h :: (rr ++ x :: ([])) := by rw [hit, hA0]; rfl
  have hxh : h.b ≠ x.b := nd_ne hnn hit (.inl (by rw [hA0]; simp))
  have hh : hdp items = Pt h.b 0 := by rw [hith]; rfl
  have hhp : hdp (A2 ++ [p]) = Pt h.b 0 := by rw [hA0]; rfl
  have hhl := hxh
  have ht : lastp items = Pt x.b 0 := by rw [hit]; exact lastp_snoc _ _
  rw [hh, ht]
  refine WC.quiet (by kernel_rfl) (by kernel_rfl) ?_
  refine WQ.q (oq_move rfl) rfl rfl rfl ?_
  refine WQ.q (oq_nilCheck rfl) rfl rfl rfl ?_
  refine WQ.q (oq_fieldAddr fld226_0 rfl) rfl rfl rfl ?_
  refine WQ.q (oq_load flat224 rfl (.head _) (List.mem_singleton.2 rfl) rfl) rfl rfl rfl ?_
  refine WQ.q (oq_move rfl) rfl rfl rfl ?_
  refine WQ.q (oq_nilCheck rfl) rfl rfl rfl ?_
  refine WQ.q (oq_fieldAddr fld226_1 rfl) rfl rfl rfl ?_
  refine WQ.q (oq_load flat224 rfl (.head _) (List.mem_singleton.2 rfl) rfl) rfl rfl rfl ?_
  refine WQ.q (oq_peq Tryz.underlying224 ty228 (by decide) (.tail _ (.head _)) (mem_of hith) (.tail _ (.head _)) (mem_of hit) rfl rfl) rfl rfl rfl ?_
  refine WQ.nil (WE.then_normal (WC.sub (fr' := [(0, _), (6, _), (7, _), (25, _)]) ?_ ⟨rfl, rfl, rfl, rfl, trivial⟩))
  refine WC.cond rfl (fun q4 => ?_) (fun q4 => ?_)
  ·
   try simp only [Z1, Z2, Z3, Z4, Z5, Z6, Z7, Z8, Z9, Z0] at q4
   first | (simp at q2; done) | exact absurd q4 hhl | exact absurd q4.symm hhl | exact absurd q7 hxh | exact absurd q7.symm hxh | exact absurd q9 hxl | exact absurd q9.symm hxl | (exfalso; omega)
  ·
   try simp only [Z1, Z2, Z3, Z4, Z5, Z6, Z7, Z8, Z9, Z0] at q4
   refine WC.seq (WC.region ?_)
   refine WL.q (oq_move rfl) rfl rfl rfl ?_
   refine WL.q (oq_move rfl) rfl rfl rfl ?_
   refine WL.q (oq_nilCheck rfl) rfl rfl rfl ?_
   refine WL.q (oq_fieldAddr fld226_0 rfl) rfl rfl rfl ?_
   refine WL.q (oq_load flat224 rfl (.head _) (List.mem_singleton.2 rfl) rfl) rfl rfl rfl ?_
   refine WL.q (oq_peq Tryz.underlying224 ty228 (by decide) (.tail _ (.head _)) (mem_of hit) (.tail _ (.head _)) (mem_of hith) rfl rfl) rfl rfl rfl ?_
   refine WL.nil (WE.then_normal (WC.sub (fr' := [(0, _), (6, _), (7, _), (37, _)]) ?_ ⟨rfl, rfl, rfl, rfl, trivial⟩))
   refine WC.cond rfl (fun q7 => ?_) (fun q7 => ?_)
   ·
    try simp only [Z1, Z2, Z3, Z4, Z5, Z6, Z7, Z8, Z9, Z0] at q7
    first | (simp at q2; done) | exact absurd q4 hhl | exact absurd q4.symm hhl | exact absurd q7 hxh | exact absurd q7.symm hxh | exact absurd q9 hxl | exact absurd q9.symm hxl | (exfalso; omega)
   ·
    try simp only [Z1, Z2, Z3, Z4, Z5, Z6, Z7, Z8, Z9, Z0] at q7
    refine WC.seq (WC.region ?_)
    refine WL.q (oq_move rfl) rfl rfl rfl ?_
    refine WL.q (oq_move rfl) rfl rfl rfl ?_
    refine WL.q (oq_nilCheck rfl) rfl rfl rfl ?_
    refine WL.q (oq_fieldAddr fld226_1 rfl) rfl rfl rfl ?_
    refine WL.q (oq_load flat224 rfl (.head _) (List.mem_singleton.2 rfl) rfl) rfl rfl rfl ?_
    refine WL.q (oq_pesame Tryz.underlying224 ty228 rfl rfl) rfl rfl rfl ?_
    refine WL.nil (WE.then_normal (WC.sub (fr' := [(0, _), (6, _), (7, _), (54, _)]) ?_ ⟨rfl, rfl, rfl, rfl, trivial⟩))
    refine WC.cond_t rfl ?_
    refine WC.seq (WC.region ?_)
    refine WL.f1 ?_
    refine WL.reg (reg_out (show (ch 224 228 247 (items) .nilIface).Perm ([(p.b, .cells #[nextOf 224 (x :: []) .nilIface, wv 247 p] 228 (0, 0))] ++ (ch 224 228 247 (A2) (.iface 224 (Pt p.b 0)) ++ ch 224 228 247 (x :: []) .nilIface)) from by rw [hit2]; exact ch_out _ _ _ _)) ?_
    refine WL.q (oq_move rfl) rfl rfl rfl ?_
    refine WL.q (oq_nilCheck rfl) rfl rfl rfl ?_
    refine WL.q (oq_fieldAddr fld228_0 rfl) rfl rfl rfl ?_
    refine WL.store1 #[_, _] ty181 rfl rfl (by first | rfl | exact OwS.one one_) (Nat.lt_of_lt_of_le (Nat.lt_succ_self _) (Nat.le_of_ble_eq_true rfl)) rfl rfl ?_
    refine WL.nil (WE.then_normal (WC.sub (fr' := [(0, _), (6, _), (7, _)]) ?_ ⟨rfl, rfl, rfl, trivial⟩))
    refine WC.region ?_
    refine WL.q (oq_move rfl) rfl rfl rfl ?_
    refine WL.q (oq_move rfl) rfl rfl rfl ?_
    refine WL.q (oq_nilCheck rfl) rfl rfl rfl ?_
    refine WL.q (oq_fieldAddr fld226_1 rfl) rfl rfl rfl ?_
    refine WL.f2 ?_
    refine WL.store1 #[_, _] ty224 rfl rfl (by first | rfl | exact OwS.one one_) (Nat.lt_of_lt_of_le (Nat.lt_succ_self _) (Nat.le_of_ble_eq_true rfl)) rfl rfl ?_
    refine WL.nil (WE.then_normal (WC.sub (fr' := [(6, _)]) ?_ ⟨rfl, trivial⟩))
    refine WC.seq (WC.region ?_)
    refine WL.q (oq_move rfl) rfl rfl rfl ?_
    refine WL.q (oq_nilCheck rfl) rfl rfl rfl ?_
    refine WL.q (oq_fieldAddr fld228_1 rfl) rfl rfl rfl ?_
    refine WL.q (oq_load flat177 rfl (.tail _ (.tail _ (.head _))) (List.mem_append_right _ List.mem_cons_self) rfl) rfl rfl rfl ?_
    refine WL.q (oq_assign rfl) rfl rfl rfl ?_
    refine WL.f2 ?_
    refine WL.reg (reg_out (show (ch 224 228 247 (A2) (.iface 224 (Pt p.b 0)) ++ ch 224 228 247 (x :: []) .nilIface).Perm ([(x.b, .cells #[nextOf 224 ([]) .nilIface, wv 247 x] 228 (0, 0))] ++ (ch 224 228 247 (A2) (.iface 224 (Pt p.b 0)) ++ ch 224 228 247 ([]) .nilIface)) from List.perm_middle)) ?_
    refine WL.q (oq_assign rfl) rfl rfl rfl ?_
    refine WL.nil (WE.then_normal (WC.sub (fr' := [(4, _), (5, _)]) ?_ ⟨rfl, rfl, trivial⟩))
    refine WC.ret ?_
    refine WE.lose hbx ?_
    refine WE.f3 ?_
    refine WE.f1 ?_
    refine WE.f3 ?_
    refine WE.f3 ?_
    refine WE.endW3 (.inl rfl) (res2 Tryz.results118 rfl rfl) ?_
    exact ⟨rfl, perm2 (by rw [hhp]) (by simp only [List.flatten_cons, List.flatten_nil, List.append_nil]; exact ch_del A2 p [] _)⟩
theorem remM4 (base sb : Nat) (x : Nd) (items : List Nd) (hbx : base ≤ x.b) (y : Nd) (B2 B3 : List Nd) (l : Nd) (hB : y :: B2 = B3 ++ [l]) (h : Nd) (rr A2 : List Nd) (p : Nd) (hA0 : A2 ++ [p] = h :: rr) (hit : items = (A2 ++ [p]) ++ x :: (y :: B2)) (hA : ∀ y ∈ A2 ++ [p], y.id ≠ x.id) : FnW Tryz.prog 118 [Pt sb 0, S x.id] base [[(sb, .cells #[(hdp (items)), (lastp (items))] 226 (0, 0))], ch 224 228 247 items .nilIface] (fun v Hs => v = .tuple #[wv 247 x, .nilIface] ∧ Hs.flatten.Perm ([[(sb, .cells #[(hdp (A2 ++ p :: y :: B2)), (lastp (A2 ++ p :: y :: B2))] 226 (0, 0))], ch 224 228 247 (A2 ++ p :: y :: B2) .nilIface] : List Hp).flatten) := by
 refine FnW.enter (n := 73) Tryz.func118 rfl rfl fun w0 R0 hbase => ?_
 subst hbase
 show WC _ _ _ _ _ _ _ ([[(sb, .cells #[(hdp (items)), (lastp (items))] 226 (0, 0))], ch 224 228 247 items .nilIface, R0])
 refine WC.sub (fr' := [(0, _), (1, _)]) ?_ ⟨rfl, rfl, trivial⟩
 refine WC.seq (WC.region ?_)
 refine WL.q (oq_assign rfl) rfl rfl rfl ?_
 refine WL.q (oq_assign rfl) rfl rfl rfl ?_
 refine WL.nil (WE.then_normal (WC.sub (fr' := [(0, _), (1, _)]) ?_ ⟨rfl, rfl, trivial⟩))
 refine WC.seq (WC.region ?_)
 refine WL.q (oq_move rfl) rfl rfl rfl ?_
 refine WL.q (oq_move rfl) rfl rfl rfl ?_
 refine WL.f1 ?_
 refine WL.f1 ?_
 refine WL.callW2 (gotH4 _ sb x.id (A2 ++ [p]) (y :: B2) x items hit rfl hA) call127 rfl rfl rfl fun v1_2 Hs1_2 hR1_2 => ?_
 obtain ⟨rfl, rfl⟩ := hR1_2
 rw [lastp_snoc]
 refine WL.to2 ?_
 refine WL.q (oq_move rfl) rfl rfl rfl ?_
 refine WL.q (oq_extract rfl rfl) rfl rfl rfl ?_
 refine WL.q (oq_extract rfl rfl) rfl rfl rfl ?_
 refine WL.q (oq_assign rfl) rfl rfl rfl ?_
 refine WL.q (oq_assign rfl) rfl rfl rfl ?_
 refine WL.nil (WE.then_normal (WC.sub (fr' := [(0, _), (6, _), (7, _)]) ?_ ⟨rfl, rfl, rfl, trivial⟩))
 refine WC.seq (WC.seq (WC.region ?_))
 refine WL.q (oq_move rfl) rfl rfl rfl ?_
 refine WL.q (oq_peql Tryz.underlying224 rfl rfl) rfl rfl rfl ?_
 refine WL.nil (WE.then_normal (WC.sub (fr' := [(0, _), (6, _), (7, _), (15, _)]) ?_ ⟨rfl, rfl, rfl, rfl, trivial⟩))
 refine WC.cond rfl (fun q2 => ?_) (fun q2 => ?_)
 ·
  try simp only [Z1, Z2, Z3, Z4, Z5, Z6, Z7, Z8, Z9, Z0] at q2
  first | (simp at q2; done) | exact absurd q4 hhl | exact absurd q4.symm hhl | exact absurd q7 hxh | exact absurd q7.symm hxh | exact absurd q9 hxl | exact absurd q9.symm hxl | (exfalso; omega)
 ·
  try simp only [Z1, Z2, Z3, Z4, Z5, Z6, Z7, Z8, Z9, Z0] at q2
  refine WC.skip (WE.then_normal (WC.sub (fr' := [(0, _), (6, _), (7, _)]) ?_ ⟨rfl, rfl, rfl, trivial⟩))
  refine WC.seq (WC.seq ?_)
  refine WC.distinct fun hdd => ?_
  have hnn := nd_of hdd
  have hit2 : items = A2 ++ p :: x :: (y :: B2) := by rw [hit]; simp
  have hith : items = [] ++ h :: (rr ++ x :: (y :: B2)) := by rw [hit, hA0]; rfl
  have hxh : h.b ≠ x.b := nd_ne hnn hit (.inl (by rw [hA0]; simp))
  have hh : hdp items = Pt h.b 0 := by rw [hith]; rfl
  have hhp : hdp (A2 ++ [p]) = Pt h.b 0 := by rw [hA0]; rfl
  have hitl : items = ((A2 ++ [p]) ++ x :: B3) ++ l :: [] := by rw [hit, hB]; simp
  have hxl : l.b ≠ x.b := nd_ne hnn hit (.inr (by rw [hB]; simp))
  have hhl : h.b ≠ l.b := nd_ne hnn hitl (.inl (by rw [hA0]; simp))
  have ht : lastp items = Pt l.b 0 := by rw [hitl]; exact lastp_snoc _ _
  rw [hh, ht]
  refine WC.quiet (by kernel_rfl) (by kernel_rfl) ?_
  refine WQ.q (oq_move rfl) rfl rfl rfl ?_
  refine WQ.q (oq_nilCheck rfl) rfl rfl rfl ?_
  refine WQ.q (oq_fieldAddr fld226_0 rfl) rfl rfl rfl ?_
  refine WQ.q (oq_load flat224 rfl (.head _) (List.mem_singleton.2 rfl) rfl) rfl rfl rfl ?_
  refine WQ.q (oq_move rfl) rfl rfl rfl ?_
  refine WQ.q (oq_nilCheck rfl) rfl rfl rfl ?_
  refine WQ.q (oq_fieldAddr fld226_1 rfl) rfl rfl rfl ?_
  refine WQ.q (oq_load flat224 rfl (.head _) (List.mem_singleton.2 rfl) rfl) rfl rfl rfl ?_
  refine WQ.q (oq_peq Tryz.underlying224 ty228 (by decide) (.tail _ (.head _)) (mem_of hith) (.tail _ (.head _)) (mem_of hitl) rfl rfl) rfl rfl rfl ?_
  refine WQ.nil (WE.then_normal (WC.sub (fr' := [(0, _), (6, _), (7, _), (25, _)]) ?_ ⟨rfl, rfl, rfl, rfl, trivial⟩))
  refine WC.cond rfl (fun q4 => ?_) (fun q4 => ?_)
  ·
   try simp only [Z1, Z2, Z3, Z4, Z5, Z6, Z7, Z8, Z9, Z0] at q4
   first | (simp at q2; done) | exact absurd q4 hhl | exact absurd q4.symm hhl | exact absurd q7 hxh | exact absurd q7.symm hxh | exact absurd q9 hxl | exact absurd q9.symm hxl | (exfalso; omega)
  ·
   try simp only [Z1, Z2, Z3, Z4, Z5, Z6, Z7, Z8, Z9, Z0] at q4
   refine WC.seq (WC.region ?_)
   refine WL.q (oq_move rfl) rfl rfl rfl ?_
   refine WL.q (oq_move rfl) rfl rfl rfl ?_
   refine WL.q (oq_nilCheck rfl) rfl rfl rfl ?_
   refine WL.q (oq_fieldAddr fld226_0 rfl) rfl rfl rfl ?_
   refine WL.q (oq_load flat224 rfl (.head _) (List.mem_singleton.2 rfl) rfl) rfl rfl rfl ?_
   refine WL.q (oq_peq Tryz.underlying224 ty228 (by decide) (.tail _ (.head _)) (mem_of hit) (.tail _ (.head _)) (mem_of hith) rfl rfl) rfl rfl rfl ?_
   refine WL.nil (WE.then_normal (WC.sub (fr' := [(0, _), (6, _), (7, _), (37, _)]) ?_ ⟨rfl, rfl, rfl, rfl, trivial⟩))
   refine WC.cond rfl (fun q7 => ?_) (fun q7 => ?_)
   ·
    try simp only [Z1, Z2, Z3, Z4, Z5, Z6, Z7, Z8, Z9, Z0] at q7
    first | (simp at q2; done) | exact absurd q4 hhl | exact absurd q4.symm hhl | exact absurd q7 hxh | exact absurd q7.symm hxh | exact absurd q9 hxl | exact absurd q9.symm hxl | (exfalso; omega)
   ·
    try simp only [Z1, Z2, Z3, Z4, Z5, Z6, Z7, Z8, Z9, Z0] at q7
    refine WC.seq (WC.region ?_)
    refine WL.q (oq_move rfl) rfl rfl rfl ?_
    refine WL.q (oq_move rfl) rfl rfl rfl ?_
    refine WL.q (oq_nilCheck rfl) rfl rfl rfl ?_
    refine WL.q (oq_fieldAddr fld226_1 rfl) rfl rfl rfl ?_
    refine WL.q (oq_load flat224 rfl (.head _) (List.mem_singleton.2 rfl) rfl) rfl rfl rfl ?_
    refine WL.q (oq_peq Tryz.underlying224 ty228 (by decide) (.tail _ (.head _)) (mem_of hit) (.tail _ (.head _)) (mem_of hitl) rfl rfl) rfl rfl rfl ?_
    refine WL.nil (WE.then_normal (WC.sub (fr' := [(0, _), (6, _), (7, _), (54, _)]) ?_ ⟨rfl, rfl, rfl, rfl, trivial⟩))
    refine WC.cond rfl (fun q9 => ?_) (fun q9 => ?_)
    ·
     try simp only [Z1, Z2, Z3, Z4, Z5, Z6, Z7, Z8, Z9, Z0] at q9
     first | (simp at q2; done) | exact absurd q4 hhl | exact absurd q4.symm hhl | exact absurd q7 hxh | exact absurd q7.symm hxh | exact absurd q9 hxl | exact absurd q9.symm hxl | (exfalso; omega)
    ·
     try simp only [Z1, Z2, Z3, Z4, Z5, Z6, Z7, Z8, Z9, Z0] at q9
     refine WC.region ?_
     refine WL.f1 ?_
     refine WL.reg (reg_out (show (ch 224 228 247 (items) .nilIface).Perm ([(p.b, .cells #[nextOf 224 (x :: y :: B2) .nilIface, wv 247 p] 228 (0, 0))] ++ (ch 224 228 247 (A2) (.iface 224 (Pt p.b 0)) ++ ch 224 228 247 (x :: y :: B2) .nilIface)) from by rw [hit2]; exact ch_out _ _ _ _)) ?_
     refine WL.q (oq_move rfl) rfl rfl rfl ?_
     refine WL.q (oq_move rfl) rfl rfl rfl ?_
     refine WL.q (oq_nilCheck rfl) rfl rfl rfl ?_
     refine WL.q (oq_fieldAddr fld228_0 rfl) rfl rfl rfl ?_
     refine WL.q (oq_load flat181 rfl (.tail _ (.head _)) (List.mem_append_right _ List.mem_cons_self) rfl) rfl rfl rfl ?_
     refine WL.q (oq_nilCheck rfl) rfl rfl rfl ?_
     refine WL.q (oq_fieldAddr fld228_0 rfl) rfl rfl rfl ?_
     refine WL.store1 #[_, _] ty181 rfl rfl (by first | rfl | exact OwS.one one_) (Nat.lt_of_lt_of_le (Nat.lt_succ_self _) (Nat.le_of_ble_eq_true rfl)) rfl rfl ?_
     refine WL.nil (WE.then_normal (WC.sub (fr' := [(6, _)]) ?_ ⟨rfl, trivial⟩))
     refine WC.seq (WC.region ?_)
     refine WL.q (oq_move rfl) rfl rfl rfl ?_
     refine WL.q (oq_nilCheck rfl) rfl rfl rfl ?_
     refine WL.q (oq_fieldAddr fld228_1 rfl) rfl rfl rfl ?_
     refine WL.q (oq_load flat177 rfl (.tail _ (.head _)) (List.mem_append_right _ List.mem_cons_self) rfl) rfl rfl rfl ?_
     refine WL.q (oq_assign rfl) rfl rfl rfl ?_
     refine WL.f1 ?_
     refine WL.reg (reg_out (show (ch 224 228 247 (A2) (.iface 224 (Pt p.b 0)) ++ ch 224 228 247 (x :: y :: B2) .nilIface).Perm ([(x.b, .cells #[nextOf 224 (y :: B2) .nilIface, wv 247 x] 228 (0, 0))] ++ (ch 224 228 247 (A2) (.iface 224 (Pt p.b 0)) ++ ch 224 228 247 (y :: B2) .nilIface)) from List.perm_middle)) ?_
     refine WL.q (oq_assign rfl) rfl rfl rfl ?_
     refine WL.nil (WE.then_normal (WC.sub (fr' := [(4, _), (5, _)]) ?_ ⟨rfl, rfl, trivial⟩))
     refine WC.ret ?_
     refine WE.lose hbx ?_
     refine WE.f3 ?_
     refine WE.f1 ?_
     refine WE.f2 ?_
     refine WE.f3 ?_
     refine WE.endW3 (.inl rfl) (res2 Tryz.results118 rfl rfl) ?_
     exact ⟨rfl, perm2 (by rw [lastp_cons, last_of hB, ← hhp, hdp_cons A2 p (y :: B2) []]) (by simp only [List.flatten_cons, List.flatten_nil, List.append_nil]; exact ch_del A2 p (y :: B2) _)⟩
theorem remN4 (base sb : Nat) (by_ : List UInt8) (items : List Nd) (hn : ∀ y ∈ items, y.id ≠ by_) : FnW Tryz.prog 118 [Pt sb 0, S by_] base [[(sb, .cells #[(hdp (items)), (lastp (items))] 226 (0, 0))], ch 224 228 247 items .nilIface] (fun v Hs => (∃ k u, v = .tuple #[.nilIface, .iface k u]) ∧ Hs = [[(sb, .cells #[(hdp (items)), (lastp (items))] 226 (0, 0))], ch 224 228 247 items .nilIface]) := by
 refine FnW.enter (n := 73) Tryz.func118 rfl rfl fun w0 R0 hbase => ?_
 subst hbase
 show WC _ _ _ _ _ _ _ ([[(sb, .cells #[(hdp (items)), (lastp (items))] 226 (0, 0))], ch 224 228 247 items .nilIface, R0])
 refine WC.sub (fr' := [(0, _), (1, _)]) ?_ ⟨rfl, rfl, trivial⟩
 refine WC.seq (WC.region ?_)
 refine WL.q (oq_assign rfl) rfl rfl rfl ?_
 refine WL.q (oq_assign rfl) rfl rfl rfl ?_
 refine WL.nil (WE.then_normal (WC.sub (fr' := [(0, _), (1, _)]) ?_ ⟨rfl, rfl, trivial⟩))
 refine WC.seq (WC.region ?_)
 refine WL.q (oq_move rfl) rfl rfl rfl ?_
 refine WL.q (oq_move rfl) rfl rfl rfl ?_
 refine WL.f1 ?_
 refine WL.f1 ?_
 refine WL.callW2 (gotM4 _ sb by_ items hn) call127 rfl rfl rfl fun v1_2 Hs1_2 hR1_2 => ?_
 obtain ⟨rfl, rfl⟩ := hR1_2
 refine WL.to2 ?_
 refine WL.q (oq_move rfl) rfl rfl rfl ?_
 refine WL.q (oq_extract rfl rfl) rfl rfl rfl ?_
 refine WL.q (oq_extract rfl rfl) rfl rfl rfl ?_
 refine WL.q (oq_assign rfl) rfl rfl rfl ?_
 refine WL.q (oq_assign rfl) rfl rfl rfl ?_
 refine WL.nil (WE.then_normal (WC.sub (fr' := [(0, _), (6, _), (7, _)]) ?_ ⟨rfl, rfl, rfl, trivial⟩))
 refine WC.seq (WC.seq (WC.region ?_))
 refine WL.q (oq_move rfl) rfl rfl rfl ?_
 refine WL.q (oq_peql Tryz.underlying224 rfl rfl) rfl rfl rfl ?_
 refine WL.nil (WE.then_normal (WC.sub (fr' := [(0, _), (6, _), (7, _), (15, _)]) ?_ ⟨rfl, rfl, rfl, rfl, trivial⟩))
 refine WC.cond rfl (fun q2 => ?_) (fun q2 => ?_)
 ·
  try simp only [Z1, Z2, Z3, Z4, Z5, Z6, Z7, Z8, Z9, Z0] at q2
  refine WC.seq (WC.region ?_)
  refine WL.callA0 (errNew _) call122 rfl rfl rfl fun v3_0 N3_0 hR3_0 hN3_0 => ?_
  obtain ⟨ek, eu, rfl⟩ := hR3_0
  refine WL.q (oq_assign rfl) rfl rfl rfl ?_
  refine WL.q (oq_assign rfl) rfl rfl rfl ?_
  refine WL.nil (WE.then_normal (WC.sub (fr' := [(4, _), (5, _)]) ?_ ⟨rfl, rfl, trivial⟩))
  refine WC.ret (WE.then_ret ?_)
  refine WE.forget hN3_0 ?_
  refine WE.endW2 (.inl rfl) (res2 Tryz.results118 rfl rfl) ?_
  exact ⟨⟨_, _, rfl⟩, rfl⟩
 ·
  try simp only [Z1, Z2, Z3, Z4, Z5, Z6, Z7, Z8, Z9, Z0] at q2
  simp at q2
end S3
end Go.Proofs.YtiegaefkahnfjaaGreat
