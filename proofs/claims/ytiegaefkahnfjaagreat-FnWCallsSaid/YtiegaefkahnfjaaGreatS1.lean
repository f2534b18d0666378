/- Walks of a step: what is there, and what is put at its ends. -/
import Derived.Test.YtiegaefkahnfjaaGreatS0
namespace Go.Proofs.YtiegaefkahnfjaaGreat
open Go Go.RowKit V S0
set_option linter.unusedSimpArgs false
set_option linter.unusedVariables false
set_option maxRecDepth 10000
namespace S1
theorem call123 : Callable Tryz.prog 123 := ⟨_, Tryz.func123, rfl, by kernel_rfl⟩
theorem call124 : Callable Tryz.prog 124 := ⟨_, Tryz.func124, rfl, by kernel_rfl⟩
theorem call125 : Callable Tryz.prog 125 := ⟨_, Tryz.func125, rfl, by kernel_rfl⟩
theorem call126 : Callable Tryz.prog 126 := ⟨_, Tryz.func126, rfl, by kernel_rfl⟩
theorem call127 : Callable Tryz.prog 127 := ⟨_, Tryz.func127, rfl, by kernel_rfl⟩
theorem flat98 : Flat Tryz.prog 98 := ⟨_, Tryz.underlying98, by simp⟩
theorem flat121 : Flat Tryz.prog 121 := ⟨_, Tryz.underlying121, by simp⟩
theorem flat140 : Flat Tryz.prog 140 := ⟨_, Tryz.underlying140, by simp⟩
theorem flat159 : Flat Tryz.prog 159 := ⟨_, Tryz.underlying159, by simp⟩
theorem flat177 : Flat Tryz.prog 177 := ⟨_, Tryz.underlying177, by simp⟩
theorem flat200 : Flat Tryz.prog 200 := ⟨_, Tryz.underlying200, by simp⟩
theorem flat206 : Flat Tryz.prog 206 := ⟨_, Tryz.underlying206, by simp⟩
theorem flat212 : Flat Tryz.prog 212 := ⟨_, Tryz.underlying212, by simp⟩
theorem flat218 : Flat Tryz.prog 218 := ⟨_, Tryz.underlying218, by simp⟩
theorem flat224 : Flat Tryz.prog 224 := ⟨_, Tryz.underlying224, by simp⟩
theorem ty98 : Ty Tryz.prog 98 .nilIface 1 16 := ty_of (by kernel_rfl)
theorem ty103 : Ty Tryz.prog 103 .nilIface 1 16 := ty_of (by kernel_rfl)
theorem ty121 : Ty Tryz.prog 121 .nilIface 1 16 := ty_of (by kernel_rfl)
theorem ty126 : Ty Tryz.prog 126 .nilIface 1 16 := ty_of (by kernel_rfl)
theorem ty140 : Ty Tryz.prog 140 .nilIface 1 16 := ty_of (by kernel_rfl)
theorem ty145 : Ty Tryz.prog 145 .nilIface 1 16 := ty_of (by kernel_rfl)
theorem ty159 : Ty Tryz.prog 159 .nilIface 1 16 := ty_of (by kernel_rfl)
theorem ty163 : Ty Tryz.prog 163 .nilIface 1 16 := ty_of (by kernel_rfl)
theorem ty177 : Ty Tryz.prog 177 .nilIface 1 16 := ty_of (by kernel_rfl)
theorem ty181 : Ty Tryz.prog 181 .nilIface 1 16 := ty_of (by kernel_rfl)
theorem ty200 : Ty Tryz.prog 200 (.pointer none) 1 8 := ty_of (by kernel_rfl)
theorem ty204 : Ty Tryz.prog 204 (.agg #[.nilIface, .nilIface]) 2 32 := ty_of (by kernel_rfl)
theorem ty206 : Ty Tryz.prog 206 (.pointer none) 1 8 := ty_of (by kernel_rfl)
theorem ty210 : Ty Tryz.prog 210 (.agg #[.nilIface, .nilIface]) 2 32 := ty_of (by kernel_rfl)
theorem ty212 : Ty Tryz.prog 212 (.pointer none) 1 8 := ty_of (by kernel_rfl)
theorem ty216 : Ty Tryz.prog 216 (.agg #[.nilIface, .nilIface]) 2 32 := ty_of (by kernel_rfl)
theorem ty218 : Ty Tryz.prog 218 (.pointer none) 1 8 := ty_of (by kernel_rfl)
theorem ty222 : Ty Tryz.prog 222 (.agg #[.nilIface, .nilIface]) 2 32 := ty_of (by kernel_rfl)
theorem ty224 : Ty Tryz.prog 224 (.pointer none) 1 8 := ty_of (by kernel_rfl)
theorem ty228 : Ty Tryz.prog 228 (.agg #[.nilIface, .nilIface]) 2 32 := ty_of (by kernel_rfl)
theorem ty252 : Ty Tryz.prog 252 (.agg #[(S [])]) 1 16 := ty_of (by kernel_rfl)
theorem conc200 : Conc Tryz.prog 200 := ⟨_, Tryz.underlying200, by simp⟩
theorem conc206 : Conc Tryz.prog 206 := ⟨_, Tryz.underlying206, by simp⟩
theorem conc212 : Conc Tryz.prog 212 := ⟨_, Tryz.underlying212, by simp⟩
theorem conc218 : Conc Tryz.prog 218 := ⟨_, Tryz.underlying218, by simp⟩
theorem conc224 : Conc Tryz.prog 224 := ⟨_, Tryz.underlying224, by simp⟩
theorem conc250 : Conc Tryz.prog 250 := ⟨_, Tryz.underlying250, by simp⟩
theorem str204 : Str Tryz.prog 204 #[(0, 1), (1, 1)] := ⟨_, Tryz.underlying204, fun w => by kernel_rfl⟩
theorem str210 : Str Tryz.prog 210 #[(0, 1), (1, 1)] := ⟨_, Tryz.underlying210, fun w => by kernel_rfl⟩
theorem str216 : Str Tryz.prog 216 #[(0, 1), (1, 1)] := ⟨_, Tryz.underlying216, fun w => by kernel_rfl⟩
theorem str222 : Str Tryz.prog 222 #[(0, 1), (1, 1)] := ⟨_, Tryz.underlying222, fun w => by kernel_rfl⟩
theorem str228 : Str Tryz.prog 228 #[(0, 1), (1, 1)] := ⟨_, Tryz.underlying228, fun w => by kernel_rfl⟩
theorem str252 : Str Tryz.prog 252 #[(0, 1)] := ⟨_, Tryz.underlying252, fun w => by kernel_rfl⟩
theorem fld202_0 : Fld Tryz.prog 202 0 0 200 := fld_of Tryz.underlying202 rfl rfl rfl ty200 (by decide)
theorem fld202_1 : Fld Tryz.prog 202 1 1 200 := fld_of Tryz.underlying202 rfl rfl rfl ty200 (by decide)
theorem fld204_0 : Fld Tryz.prog 204 0 0 103 := fld_of Tryz.underlying204 rfl rfl rfl ty103 (by decide)
theorem fld204_1 : Fld Tryz.prog 204 1 1 98 := fld_of Tryz.underlying204 rfl rfl rfl ty98 (by decide)
theorem fld208_0 : Fld Tryz.prog 208 0 0 206 := fld_of Tryz.underlying208 rfl rfl rfl ty206 (by decide)
theorem fld208_1 : Fld Tryz.prog 208 1 1 206 := fld_of Tryz.underlying208 rfl rfl rfl ty206 (by decide)
theorem fld210_0 : Fld Tryz.prog 210 0 0 126 := fld_of Tryz.underlying210 rfl rfl rfl ty126 (by decide)
theorem fld210_1 : Fld Tryz.prog 210 1 1 121 := fld_of Tryz.underlying210 rfl rfl rfl ty121 (by decide)
theorem fld214_0 : Fld Tryz.prog 214 0 0 212 := fld_of Tryz.underlying214 rfl rfl rfl ty212 (by decide)
theorem fld214_1 : Fld Tryz.prog 214 1 1 212 := fld_of Tryz.underlying214 rfl rfl rfl ty212 (by decide)
theorem fld216_0 : Fld Tryz.prog 216 0 0 145 := fld_of Tryz.underlying216 rfl rfl rfl ty145 (by decide)
theorem fld216_1 : Fld Tryz.prog 216 1 1 140 := fld_of Tryz.underlying216 rfl rfl rfl ty140 (by decide)
theorem fld220_0 : Fld Tryz.prog 220 0 0 218 := fld_of Tryz.underlying220 rfl rfl rfl ty218 (by decide)
theorem fld220_1 : Fld Tryz.prog 220 1 1 218 := fld_of Tryz.underlying220 rfl rfl rfl ty218 (by decide)
theorem fld222_0 : Fld Tryz.prog 222 0 0 163 := fld_of Tryz.underlying222 rfl rfl rfl ty163 (by decide)
theorem fld222_1 : Fld Tryz.prog 222 1 1 159 := fld_of Tryz.underlying222 rfl rfl rfl ty159 (by decide)
theorem fld226_0 : Fld Tryz.prog 226 0 0 224 := fld_of Tryz.underlying226 rfl rfl rfl ty224 (by decide)
theorem fld226_1 : Fld Tryz.prog 226 1 1 224 := fld_of Tryz.underlying226 rfl rfl rfl ty224 (by decide)
theorem fld228_0 : Fld Tryz.prog 228 0 0 181 := fld_of Tryz.underlying228 rfl rfl rfl ty181 (by decide)
theorem fld228_1 : Fld Tryz.prog 228 1 1 177 := fld_of Tryz.underlying228 rfl rfl rfl ty177 (by decide)
theorem errNew (m : List UInt8) : FnA Tryz.prog 122 [S m] [] (fun v N => ∃ k u, v = .iface k u) := by
 refine FnA.enter0 (n := 7) Tryz.func122 rfl rfl fun w0 => ?_
 refine WC.sub (fr' := [(0, _)]) ?_ ⟨rfl, trivial⟩
 refine WC.seq (WC.region ?_)
 refine WL.q (oq_assign rfl) rfl rfl rfl ?_
 refine WL.nil (WE.then_normal (WC.sub (fr' := [(0, _)]) ?_ ⟨rfl, trivial⟩))
 refine WC.seq (WC.region ?_)
 refine WL.q (oq_move rfl) rfl rfl rfl ?_
 refine WL.q (oq_build #[_] str252 ty252 rfl rfl) rfl rfl rfl ?_
 refine WL.box rfl rfl rfl fun p hp => ?_
 refine WL.q (oq_makeI conc250 rfl) rfl rfl rfl ?_
 refine WL.q (oq_assign rfl) rfl rfl rfl ?_
 refine WL.nil (WE.then_normal (WC.sub (fr' := [(2, _)]) ?_ ⟨rfl, trivial⟩))
 refine WC.ret ?_
 refine WE.endA0 (.inl rfl) (res1 Tryz.results122 rfl) ?_ (fresh1 hp)
 exact ⟨_, _, rfl⟩
theorem got0 (base sb : Nat) (id : List UInt8) (items : List Nd) : FnW Tryz.prog 123 [Pt sb 0, S id] base [[(sb, .cells #[(hdp (items)), (lastp (items))] 202 (0, 0))], ch 200 204 231 items .nilIface] (fun v Hs => GotV id items v ∧ Hs = [[(sb, .cells #[(hdp (items)), (lastp (items))] 202 (0, 0))], ch 200 204 231 items .nilIface]) := by
 cases items with
 | nil => exact (getN0 base sb id).reg (by simp [ch, hdp, lastp]) (fun v Hs h => ⟨_, ⟨h.1, rfl⟩, by rw [h.2]; simp [ch, hdp, lastp]⟩)
 | cons x r => exact getC0 base sb (x :: r) x r rfl id
theorem gotH0 (base sb : Nat) (id : List UInt8) (A B : List Nd) (x : Nd) (items : List Nd) (hit : items = A ++ x :: B) (hx : x.id = id) (hA : ∀ y ∈ A, y.id ≠ id) : FnW Tryz.prog 123 [Pt sb 0, S id] base [[(sb, .cells #[(hdp (items)), (lastp (items))] 202 (0, 0))], ch 200 204 231 items .nilIface] (fun v Hs => v = .tuple #[Pt x.b 0, lastp A] ∧ Hs = [[(sb, .cells #[(hdp (items)), (lastp (items))] 202 (0, 0))], ch 200 204 231 items .nilIface]) :=
 (got0 base sb id items).mono fun v Hs h => ⟨by have h1 := h.1; rw [hit] at h1; exact got_hit h1 hx hA, h.2⟩
theorem gotM0 (base sb : Nat) (id : List UInt8) (items : List Nd) (hn : ∀ y ∈ items, y.id ≠ id) : FnW Tryz.prog 123 [Pt sb 0, S id] base [[(sb, .cells #[(hdp (items)), (lastp (items))] 202 (0, 0))], ch 200 204 231 items .nilIface] (fun v Hs => v = .tuple #[.pointer none, lastp items] ∧ Hs = [[(sb, .cells #[(hdp (items)), (lastp (items))] 202 (0, 0))], ch 200 204 231 items .nilIface]) :=
 (got0 base sb id items).mono fun v Hs h => ⟨got_miss h.1 hn, h.2⟩
theorem GetH0 (base sb : Nat) (A B : List Nd) (x : Nd) (items : List Nd) (hit : items = A ++ x :: B) (hA : ∀ y ∈ A, y.id ≠ x.id)  : FnW Tryz.prog 65 [Pt sb 0, S x.id] base [[(sb, .cells #[(hdp (items)), (lastp (items))] 202 (0, 0))], ch 200 204 231 items .nilIface] (fun v Hs => v = .tuple #[wv 231 x, .bool true] ∧ Hs = [[(sb, .cells #[(hdp (items)), (lastp (items))] 202 (0, 0))], ch 200 204 231 items .nilIface]) := by
 refine FnW.enter (n := 20) Tryz.func65 rfl rfl fun w0 R0 hbase => ?_
 subst hbase
 show WC _ _ _ _ _ _ _ ([[(sb, .cells #[(hdp (items)), (lastp (items))] 202 (0, 0))], ch 200 204 231 items .nilIface, R0])
 refine WC.sub (fr' := [(0, _), (1, _)]) ?_ ⟨rfl, rfl, trivial⟩
 refine WC.seq (WC.region ?_)
 refine WL.q (oq_assign rfl) rfl rfl rfl ?_
 refine WL.q (oq_assign rfl) rfl rfl rfl ?_
 refine WL.nil (WE.then_normal (WC.sub (fr' := [(0, _), (1, _)]) ?_ ⟨rfl, rfl, trivial⟩))
 refine WC.seq (WC.region ?_)
 refine WL.q (oq_move rfl) rfl rfl rfl ?_
 refine WL.q (oq_move rfl) rfl rfl rfl ?_
 refine WL.f1 ?_
 refine WL.f1 ?_
 refine WL.callW2 (gotH0 _ sb x.id A B x items hit rfl hA) call123 rfl rfl rfl fun v1_2 Hs1_2 hR1_2 => ?_
 obtain ⟨rfl, rfl⟩ := hR1_2
 refine WL.to2 ?_
 refine WL.q (oq_move rfl) rfl rfl rfl ?_
 refine WL.q (oq_extract rfl rfl) rfl rfl rfl ?_
 refine WL.q (oq_extract rfl rfl) rfl rfl rfl ?_
 refine WL.q (oq_assign rfl) rfl rfl rfl ?_
 refine WL.q (oq_assign rfl) rfl rfl rfl ?_
 refine WL.nil (WE.then_normal (WC.sub (fr' := [(6, _)]) ?_ ⟨rfl, trivial⟩))
 refine WC.seq (WC.seq (WC.region ?_))
 refine WL.q (oq_move rfl) rfl rfl rfl ?_
 refine WL.q (oq_peql Tryz.underlying200 rfl rfl) rfl rfl rfl ?_
 refine WL.nil (WE.then_normal (WC.sub (fr' := [(6, _), (15, _)]) ?_ ⟨rfl, rfl, trivial⟩))
 refine WC.cond rfl (fun q2 => ?_) (fun q2 => ?_)
 ·
  try simp only [Z1, Z2, Z3, Z4, Z5, Z6, Z7, Z8, Z9, Z0] at q2
  simp at q2
 ·
  try simp only [Z1, Z2, Z3, Z4, Z5, Z6, Z7, Z8, Z9, Z0] at q2
  refine WC.skip (WE.then_normal (WC.sub (fr' := [(6, _)]) ?_ ⟨rfl, trivial⟩))
  refine WC.seq (WC.region ?_)
  refine WL.q (oq_move rfl) rfl rfl rfl ?_
  refine WL.q (oq_nilCheck rfl) rfl rfl rfl ?_
  refine WL.q (oq_fieldAddr fld204_1 rfl) rfl rfl rfl ?_
  refine WL.q (oq_load flat98 rfl (.tail _ (.head _)) (by rw [hit]; exact ch_mem _ _ _ _) rfl) rfl rfl rfl ?_
  refine WL.q (oq_assign rfl) rfl rfl rfl ?_
  refine WL.q (oq_assign rfl) rfl rfl rfl ?_
  refine WL.nil (WE.then_normal (WC.sub (fr' := [(4, _), (5, _)]) ?_ ⟨rfl, rfl, trivial⟩))
  refine WC.ret ?_
  refine WE.endW2 (.inl rfl) (res2 Tryz.results65 rfl rfl) ?_
  exact ⟨rfl, rfl⟩
theorem GetM0 (base sb : Nat) (id : List UInt8) (items : List Nd) (hn : ∀ y ∈ items, y.id ≠ id) : FnW Tryz.prog 65 [Pt sb 0, S id] base [[(sb, .cells #[(hdp (items)), (lastp (items))] 202 (0, 0))], ch 200 204 231 items .nilIface] (fun v Hs => v = .tuple #[.nilIface, .bool false] ∧ Hs = [[(sb, .cells #[(hdp (items)), (lastp (items))] 202 (0, 0))], ch 200 204 231 items .nilIface]) := by
 refine FnW.enter (n := 20) Tryz.func65 rfl rfl fun w0 R0 hbase => ?_
 subst hbase
 show WC _ _ _ _ _ _ _ ([[(sb, .cells #[(hdp (items)), (lastp (items))] 202 (0, 0))], ch 200 204 231 items .nilIface, R0])
 refine WC.sub (fr' := [(0, _), (1, _)]) ?_ ⟨rfl, rfl, trivial⟩
 refine WC.seq (WC.region ?_)
 refine WL.q (oq_assign rfl) rfl rfl rfl ?_
 refine WL.q (oq_assign rfl) rfl rfl rfl ?_
 refine WL.nil (WE.then_normal (WC.sub (fr' := [(0, _), (1, _)]) ?_ ⟨rfl, rfl, trivial⟩))
 refine WC.seq (WC.region ?_)
 refine WL.q (oq_move rfl) rfl rfl rfl ?_
 refine WL.q (oq_move rfl) rfl rfl rfl ?_
 refine WL.f1 ?_
 refine WL.f1 ?_
 refine WL.callW2 (gotM0 _ sb id items hn) call123 rfl rfl rfl fun v1_2 Hs1_2 hR1_2 => ?_
 obtain ⟨rfl, rfl⟩ := hR1_2
 refine WL.to2 ?_
 refine WL.q (oq_move rfl) rfl rfl rfl ?_
 refine WL.q (oq_extract rfl rfl) rfl rfl rfl ?_
 refine WL.q (oq_extract rfl rfl) rfl rfl rfl ?_
 refine WL.q (oq_assign rfl) rfl rfl rfl ?_
 refine WL.q (oq_assign rfl) rfl rfl rfl ?_
 refine WL.nil (WE.then_normal (WC.sub (fr' := [(6, _)]) ?_ ⟨rfl, trivial⟩))
 refine WC.seq (WC.seq (WC.region ?_))
 refine WL.q (oq_move rfl) rfl rfl rfl ?_
 refine WL.q (oq_peql Tryz.underlying200 rfl rfl) rfl rfl rfl ?_
 refine WL.nil (WE.then_normal (WC.sub (fr' := [(6, _), (15, _)]) ?_ ⟨rfl, rfl, trivial⟩))
 refine WC.cond rfl (fun q2 => ?_) (fun q2 => ?_)
 ·
  try simp only [Z1, Z2, Z3, Z4, Z5, Z6, Z7, Z8, Z9, Z0] at q2
  refine WC.seq (WC.region ?_)
  refine WL.q (oq_assign rfl) rfl rfl rfl ?_
  refine WL.q (oq_assign rfl) rfl rfl rfl ?_
  refine WL.nil (WE.then_normal (WC.sub (fr' := [(4, _), (5, _)]) ?_ ⟨rfl, rfl, trivial⟩))
  refine WC.ret (WE.then_ret ?_)
  refine WE.endW2 (.inl rfl) (res2 Tryz.results65 rfl rfl) ?_
  exact ⟨rfl, rfl⟩
 ·
  try simp only [Z1, Z2, Z3, Z4, Z5, Z6, Z7, Z8, Z9, Z0] at q2
  simp at q2
theorem Clear0 (base sb : Nat) (hv tv : Value) : FnW Tryz.prog 63 [Pt sb 0] base [[(sb, .cells #[hv, tv] 202 (0, 0))]] (fun v Hs => Hs = [[(sb, .cells #[.pointer none, .pointer none] 202 (0, 0))]]) := by
 refine FnW.enter (n := 8) Tryz.func63 rfl rfl fun w0 R0 hbase => ?_
 subst hbase
 show WC _ _ _ _ _ _ _ ([[(sb, .cells #[hv, tv] 202 (0, 0))], R0])
 refine WC.sub (fr' := [(0, _)]) ?_ ⟨rfl, trivial⟩
 refine WC.seq (WC.region ?_)
 refine WL.q (oq_move rfl) rfl rfl rfl ?_
 refine WL.q (oq_nilCheck rfl) rfl rfl rfl ?_
 refine WL.q (oq_fieldAddr fld202_0 rfl) rfl rfl rfl ?_
 refine WL.store1 #[_, _] ty200 rfl rfl (by first | rfl | exact OwS.one one_) (Nat.lt_of_lt_of_le (Nat.lt_succ_self _) (Nat.le_of_ble_eq_true rfl)) rfl rfl ?_
 refine WL.nil (WE.then_normal (WC.sub (fr' := [(0, _)]) ?_ ⟨rfl, trivial⟩))
 refine WC.region ?_
 refine WL.q (oq_move rfl) rfl rfl rfl ?_
 refine WL.q (oq_nilCheck rfl) rfl rfl rfl ?_
 refine WL.q (oq_fieldAddr fld202_1 rfl) rfl rfl rfl ?_
 refine WL.store1 #[_, _] ty200 rfl rfl (by first | rfl | exact OwS.one one_) (Nat.lt_of_lt_of_le (Nat.lt_succ_self _) (Nat.le_of_ble_eq_true rfl)) rfl rfl ?_
 refine WL.nil ?_
 refine WE.endW1 (.inr rfl) (res0 Tryz.results63) ?_
 exact rfl
theorem addN0 (base sb : Nat) (id : List UInt8) (fv : Value) (pos : Int) : FnW Tryz.prog 56 [Pt sb 0, .iface 231 (.agg #[S id, fv]), I pos] base [[(sb, .cells #[.pointer none, .pointer none] 202 (0, 0))]] (fun v Hs => v = .nilIface ∧ ∃ e, base ≤ e ∧ Hs = [[(sb, .cells #[Pt e 0, Pt e 0] 202 (0, 0))], [(e, .cells #[.nilIface, .iface 231 (.agg #[S id, fv])] 204 (0, 0))]]) := by
 refine FnW.enter (n := 54) Tryz.func56 rfl rfl fun w0 R0 hbase => ?_
 subst hbase
 show WC _ _ _ _ _ _ _ ([[(sb, .cells #[.pointer none, .pointer none] 202 (0, 0))], R0])
 refine WC.sub (fr' := [(0, _), (1, _), (2, _)]) ?_ ⟨rfl, rfl, rfl, trivial⟩
 refine WC.seq (WC.region ?_)
 refine WL.q (oq_assign rfl) rfl rfl rfl ?_
 refine WL.nil (WE.then_normal (WC.sub (fr' := [(0, _), (1, _), (2, _)]) ?_ ⟨rfl, rfl, rfl, trivial⟩))
 refine WC.seq (WC.seq (WC.region ?_))
 refine WL.q (oq_move rfl) rfl rfl rfl ?_
 refine WL.q (oq_nilCheck rfl) rfl rfl rfl ?_
 refine WL.q (oq_fieldAddr fld202_0 rfl) rfl rfl rfl ?_
 refine WL.q (oq_load flat200 rfl (.head _) (List.mem_singleton.2 rfl) rfl) rfl rfl rfl ?_
 refine WL.q (oq_peql Tryz.underlying200 rfl rfl) rfl rfl rfl ?_
 refine WL.nil (WE.then_normal (WC.sub (fr' := [(0, _), (1, _), (2, _), (12, _)]) ?_ ⟨rfl, rfl, rfl, rfl, trivial⟩))
 refine WC.cond rfl (fun q1 => ?_) (fun q1 => ?_)
 ·
  try simp only [Z1, Z2, Z3, Z4, Z5, Z6, Z7, Z8, Z9, Z0] at q1
  refine WC.seq (WC.region ?_)
  refine WL.q (oq_move rfl) rfl rfl rfl ?_
  refine WL.q (oq_move rfl) rfl rfl rfl ?_
  refine WL.q (oq_build #[_, _] str204 ty204 rfl rfl) rfl rfl rfl ?_
  refine WL.box rfl rfl rfl fun e he => ?_
  refine WL.q (oq_nilCheck rfl) rfl rfl rfl ?_
  refine WL.q (oq_fieldAddr fld202_0 rfl) rfl rfl rfl ?_
  refine WL.f1 ?_
  refine WL.store1 #[_, _] ty200 rfl rfl (by first | rfl | exact OwS.one one_) (Nat.lt_of_lt_of_le (Nat.lt_succ_self _) (Nat.le_of_ble_eq_true rfl)) rfl rfl ?_
  refine WL.nil (WE.then_normal (WC.sub (fr' := [(0, _)]) ?_ ⟨rfl, trivial⟩))
  refine WC.seq (WC.region ?_)
  refine WL.q (oq_move rfl) rfl rfl rfl ?_
  refine WL.q (oq_move rfl) rfl rfl rfl ?_
  refine WL.q (oq_nilCheck rfl) rfl rfl rfl ?_
  refine WL.q (oq_fieldAddr fld202_0 rfl) rfl rfl rfl ?_
  refine WL.q (oq_load flat200 rfl (.head _) (List.mem_singleton.2 rfl) rfl) rfl rfl rfl ?_
  refine WL.q (oq_nilCheck rfl) rfl rfl rfl ?_
  refine WL.q (oq_fieldAddr fld202_1 rfl) rfl rfl rfl ?_
  refine WL.store1 #[_, _] ty200 rfl rfl (by first | rfl | exact OwS.one one_) (Nat.lt_of_lt_of_le (Nat.lt_succ_self _) (Nat.le_of_ble_eq_true rfl)) rfl rfl ?_
  refine WL.nil (WE.then_normal (WC.sub (fr' := []) ?_ trivial))
  refine WC.seq (WC.region ?_)
  refine WL.q (oq_assign rfl) rfl rfl rfl ?_
  refine WL.nil (WE.then_normal (WC.sub (fr' := [(6, _)]) ?_ ⟨rfl, trivial⟩))
  refine WC.ret (WE.then_ret ?_)
  refine WE.endW2 (.inl rfl) (res1 Tryz.results56 rfl) ?_
  exact ⟨rfl, e, he, rfl⟩
 ·
  try simp only [Z1, Z2, Z3, Z4, Z5, Z6, Z7, Z8, Z9, Z0] at q1
  simp at q1
theorem addB0 (base sb hb : Nat) (tv : Value) (id : List UInt8) (fv : Value) : FnW Tryz.prog 56 [Pt sb 0, .iface 231 (.agg #[S id, fv]), I 1] base [[(sb, .cells #[Pt hb 0, tv] 202 (0, 0))]] (fun v Hs => v = .nilIface ∧ ∃ e, base ≤ e ∧ Hs = [[(sb, .cells #[Pt e 0, tv] 202 (0, 0))], [(e, .cells #[.iface 200 (Pt hb 0), .iface 231 (.agg #[S id, fv])] 204 (0, 0))]]) := by
 refine FnW.enter (n := 54) Tryz.func56 rfl rfl fun w0 R0 hbase => ?_
 subst hbase
 show WC _ _ _ _ _ _ _ ([[(sb, .cells #[Pt hb 0, tv] 202 (0, 0))], R0])
 refine WC.sub (fr' := [(0, _), (1, _), (2, _)]) ?_ ⟨rfl, rfl, rfl, trivial⟩
 refine WC.seq (WC.region ?_)
 refine WL.q (oq_assign rfl) rfl rfl rfl ?_
 refine WL.nil (WE.then_normal (WC.sub (fr' := [(0, _), (1, _), (2, _)]) ?_ ⟨rfl, rfl, rfl, trivial⟩))
 refine WC.seq (WC.seq (WC.region ?_))
 refine WL.q (oq_move rfl) rfl rfl rfl ?_
 refine WL.q (oq_nilCheck rfl) rfl rfl rfl ?_
 refine WL.q (oq_fieldAddr fld202_0 rfl) rfl rfl rfl ?_
 refine WL.q (oq_load flat200 rfl (.head _) (List.mem_singleton.2 rfl) rfl) rfl rfl rfl ?_
 refine WL.q (oq_peql Tryz.underlying200 rfl rfl) rfl rfl rfl ?_
 refine WL.nil (WE.then_normal (WC.sub (fr' := [(0, _), (1, _), (2, _), (12, _)]) ?_ ⟨rfl, rfl, rfl, rfl, trivial⟩))
 refine WC.cond rfl (fun q1 => ?_) (fun q1 => ?_)
 ·
  try simp only [Z1, Z2, Z3, Z4, Z5, Z6, Z7, Z8, Z9, Z0] at q1
  first | (simp at q1; done) | (simp at q5; done) | (exfalso; omega)
 ·
  try simp only [Z1, Z2, Z3, Z4, Z5, Z6, Z7, Z8, Z9, Z0] at q1
  refine WC.skip (WE.then_normal (WC.sub (fr' := [(0, _), (1, _), (2, _)]) ?_ ⟨rfl, rfl, rfl, trivial⟩))
  refine WC.seq (WC.seq (WC.region ?_))
  refine WL.q (oq_move rfl) rfl rfl rfl ?_
  refine WL.q (oq_eql rfl rfl) rfl rfl rfl ?_
  refine WL.nil (WE.then_normal (WC.sub (fr' := [(0, _), (1, _), (27, _)]) ?_ ⟨rfl, rfl, rfl, trivial⟩))
  refine WC.cond rfl (fun q5 => ?_) (fun q5 => ?_)
  ·
   try simp only [Z1, Z2, Z3, Z4, Z5, Z6, Z7, Z8, Z9, Z0] at q5
   refine WC.region ?_
   refine WL.q (oq_move rfl) rfl rfl rfl ?_
   refine WL.q (oq_move rfl) rfl rfl rfl ?_
   refine WL.q (oq_nilCheck rfl) rfl rfl rfl ?_
   refine WL.q (oq_fieldAddr fld202_0 rfl) rfl rfl rfl ?_
   refine WL.q (oq_load flat200 rfl (.head _) (List.mem_singleton.2 rfl) rfl) rfl rfl rfl ?_
   refine WL.q (oq_makeI conc200 rfl) rfl rfl rfl ?_
   refine WL.q (oq_move rfl) rfl rfl rfl ?_
   refine WL.q (oq_build #[_, _] str204 ty204 rfl rfl) rfl rfl rfl ?_
   refine WL.box rfl rfl rfl fun e he => ?_
   refine WL.q (oq_nilCheck rfl) rfl rfl rfl ?_
   refine WL.q (oq_fieldAddr fld202_0 rfl) rfl rfl rfl ?_
   refine WL.f1 ?_
   refine WL.store1 #[_, _] ty200 rfl rfl (by first | rfl | exact OwS.one one_) (Nat.lt_of_lt_of_le (Nat.lt_succ_self _) (Nat.le_of_ble_eq_true rfl)) rfl rfl ?_
   refine WL.nil (WE.then_normal (WC.sub (fr' := []) ?_ trivial))
   refine WC.seq (WC.region ?_)
   refine WL.q (oq_assign rfl) rfl rfl rfl ?_
   refine WL.nil (WE.then_normal (WC.sub (fr' := [(6, _)]) ?_ ⟨rfl, trivial⟩))
   refine WC.ret ?_
   refine WE.endW2 (.inl rfl) (res1 Tryz.results56 rfl) ?_
   exact ⟨rfl, e, he, rfl⟩
  ·
   try simp only [Z1, Z2, Z3, Z4, Z5, Z6, Z7, Z8, Z9, Z0] at q5
   first | (simp at q1; done) | (simp at q5; done) | (exfalso; omega)
theorem addA0 (base sb hb lb : Nat) (lw : Value) (id : List UInt8) (fv : Value) : FnW Tryz.prog 56 [Pt sb 0, .iface 231 (.agg #[S id, fv]), I 0] base [[(sb, .cells #[Pt hb 0, Pt lb 0] 202 (0, 0))], [(lb, .cells #[.nilIface, lw] 204 (0, 0))]] (fun v Hs => v = .nilIface ∧ ∃ e, base ≤ e ∧ Hs = [[(sb, .cells #[Pt hb 0, Pt e 0] 202 (0, 0))], [(lb, .cells #[.iface 200 (Pt e 0), lw] 204 (0, 0))], [(e, .cells #[.nilIface, .iface 231 (.agg #[S id, fv])] 204 (0, 0))]]) := by
 refine FnW.enter (n := 54) Tryz.func56 rfl rfl fun w0 R0 hbase => ?_
 subst hbase
 show WC _ _ _ _ _ _ _ ([[(sb, .cells #[Pt hb 0, Pt lb 0] 202 (0, 0))], [(lb, .cells #[.nilIface, lw] 204 (0, 0))], R0])
 refine WC.sub (fr' := [(0, _), (1, _), (2, _)]) ?_ ⟨rfl, rfl, rfl, trivial⟩
 refine WC.seq (WC.region ?_)
 refine WL.q (oq_assign rfl) rfl rfl rfl ?_
 refine WL.nil (WE.then_normal (WC.sub (fr' := [(0, _), (1, _), (2, _)]) ?_ ⟨rfl, rfl, rfl, trivial⟩))
 refine WC.seq (WC.seq (WC.region ?_))
 refine WL.q (oq_move rfl) rfl rfl rfl ?_
 refine WL.q (oq_nilCheck rfl) rfl rfl rfl ?_
 refine WL.q (oq_fieldAddr fld202_0 rfl) rfl rfl rfl ?_
 refine WL.q (oq_load flat200 rfl (.head _) (List.mem_singleton.2 rfl) rfl) rfl rfl rfl ?_
 refine WL.q (oq_peql Tryz.underlying200 rfl rfl) rfl rfl rfl ?_
 refine WL.nil (WE.then_normal (WC.sub (fr' := [(0, _), (1, _), (2, _), (12, _)]) ?_ ⟨rfl, rfl, rfl, rfl, trivial⟩))
 refine WC.cond rfl (fun q1 => ?_) (fun q1 => ?_)
 ·
  try simp only [Z1, Z2, Z3, Z4, Z5, Z6, Z7, Z8, Z9, Z0] at q1
  first | (simp at q1; done) | (simp at q5; done) | (exfalso; omega)
 ·
  try simp only [Z1, Z2, Z3, Z4, Z5, Z6, Z7, Z8, Z9, Z0] at q1
  refine WC.skip (WE.then_normal (WC.sub (fr' := [(0, _), (1, _), (2, _)]) ?_ ⟨rfl, rfl, rfl, trivial⟩))
  refine WC.seq (WC.seq (WC.region ?_))
  refine WL.q (oq_move rfl) rfl rfl rfl ?_
  refine WL.q (oq_eql rfl rfl) rfl rfl rfl ?_
  refine WL.nil (WE.then_normal (WC.sub (fr' := [(0, _), (1, _), (27, _)]) ?_ ⟨rfl, rfl, rfl, trivial⟩))
  refine WC.cond rfl (fun q5 => ?_) (fun q5 => ?_)
  ·
   try simp only [Z1, Z2, Z3, Z4, Z5, Z6, Z7, Z8, Z9, Z0] at q5
   first | (simp at q1; done) | (simp at q5; done) | (exfalso; omega)
  ·
   try simp only [Z1, Z2, Z3, Z4, Z5, Z6, Z7, Z8, Z9, Z0] at q5
   refine WC.seq (WC.region ?_)
   refine WL.q (oq_move rfl) rfl rfl rfl ?_
   refine WL.q (oq_build #[_, _] str204 ty204 rfl rfl) rfl rfl rfl ?_
   refine WL.box rfl rfl rfl fun e he => ?_
   refine WL.q (oq_assign rfl) rfl rfl rfl ?_
   refine WL.nil (WE.then_normal (WC.sub (fr' := [(0, _), (7, _)]) ?_ ⟨rfl, rfl, trivial⟩))
   refine WC.seq (WC.region ?_)
   refine WL.q (oq_move rfl) rfl rfl rfl ?_
   refine WL.q (oq_nilCheck rfl) rfl rfl rfl ?_
   refine WL.q (oq_fieldAddr fld202_1 rfl) rfl rfl rfl ?_
   refine WL.q (oq_load flat200 rfl (.tail _ (.head _)) (List.mem_singleton.2 rfl) rfl) rfl rfl rfl ?_
   refine WL.q (oq_move rfl) rfl rfl rfl ?_
   refine WL.q (oq_makeI conc200 rfl) rfl rfl rfl ?_
   refine WL.q (oq_nilCheck rfl) rfl rfl rfl ?_
   refine WL.q (oq_fieldAddr fld204_0 rfl) rfl rfl rfl ?_
   refine WL.f2 ?_
   refine WL.store1 #[_, _] ty103 rfl rfl (by first | rfl | exact OwS.one one_) (Nat.lt_of_lt_of_le (Nat.lt_succ_self _) (Nat.le_of_ble_eq_true rfl)) rfl rfl ?_
   refine WL.nil (WE.then_normal (WC.sub (fr' := [(0, _), (7, _)]) ?_ ⟨rfl, rfl, trivial⟩))
   refine WC.region ?_
   refine WL.q (oq_move rfl) rfl rfl rfl ?_
   refine WL.q (oq_move rfl) rfl rfl rfl ?_
   refine WL.q (oq_nilCheck rfl) rfl rfl rfl ?_
   refine WL.q (oq_fieldAddr fld202_1 rfl) rfl rfl rfl ?_
   refine WL.f2 ?_
   refine WL.store1 #[_, _] ty200 rfl rfl (by first | rfl | exact OwS.one one_) (Nat.lt_of_lt_of_le (Nat.lt_succ_self _) (Nat.le_of_ble_eq_true rfl)) rfl rfl ?_
   refine WL.nil (WE.then_normal (WC.sub (fr' := []) ?_ trivial))
   refine WC.seq (WC.region ?_)
   refine WL.q (oq_assign rfl) rfl rfl rfl ?_
   refine WL.nil (WE.then_normal (WC.sub (fr' := [(6, _)]) ?_ ⟨rfl, trivial⟩))
   refine WC.ret ?_
   refine WE.endW3 (.inl rfl) (res1 Tryz.results56 rfl) ?_
   exact ⟨rfl, e, he, rfl⟩
theorem got1 (base sb : Nat) (nr : Value) (id : List UInt8) (items : List Nd) : FnW Tryz.prog 124 [Pt sb 0, S id] base [[(sb, .cells #[(hdp (items)), (lastp (items)), nr] 208 (0, 0))], ch 206 210 235 items .nilIface] (fun v Hs => GotV id items v ∧ Hs = [[(sb, .cells #[(hdp (items)), (lastp (items)), nr] 208 (0, 0))], ch 206 210 235 items .nilIface]) := by
 cases items with
 | nil => exact (getN1 base sb nr id).reg (by simp [ch, hdp, lastp]) (fun v Hs h => ⟨_, ⟨h.1, rfl⟩, by rw [h.2]; simp [ch, hdp, lastp]⟩)
 | cons x r => exact getC1 base sb nr (x :: r) x r rfl id
theorem gotH1 (base sb : Nat) (nr : Value) (id : List UInt8) (A B : List Nd) (x : Nd) (items : List Nd) (hit : items = A ++ x :: B) (hx : x.id = id) (hA : ∀ y ∈ A, y.id ≠ id) : FnW Tryz.prog 124 [Pt sb 0, S id] base [[(sb, .cells #[(hdp (items)), (lastp (items)), nr] 208 (0, 0))], ch 206 210 235 items .nilIface] (fun v Hs => v = .tuple #[Pt x.b 0, lastp A] ∧ Hs = [[(sb, .cells #[(hdp (items)), (lastp (items)), nr] 208 (0, 0))], ch 206 210 235 items .nilIface]) :=
 (got1 base sb nr id items).mono fun v Hs h => ⟨by have h1 := h.1; rw [hit] at h1; exact got_hit h1 hx hA, h.2⟩
theorem gotM1 (base sb : Nat) (nr : Value) (id : List UInt8) (items : List Nd) (hn : ∀ y ∈ items, y.id ≠ id) : FnW Tryz.prog 124 [Pt sb 0, S id] base [[(sb, .cells #[(hdp (items)), (lastp (items)), nr] 208 (0, 0))], ch 206 210 235 items .nilIface] (fun v Hs => v = .tuple #[.pointer none, lastp items] ∧ Hs = [[(sb, .cells #[(hdp (items)), (lastp (items)), nr] 208 (0, 0))], ch 206 210 235 items .nilIface]) :=
 (got1 base sb nr id items).mono fun v Hs h => ⟨got_miss h.1 hn, h.2⟩
theorem GetH1 (base sb : Nat) (nr : Value) (A B : List Nd) (x : Nd) (items : List Nd) (hit : items = A ++ x :: B) (hA : ∀ y ∈ A, y.id ≠ x.id)  : FnW Tryz.prog 79 [Pt sb 0, S x.id] base [[(sb, .cells #[(hdp (items)), (lastp (items)), nr] 208 (0, 0))], ch 206 210 235 items .nilIface] (fun v Hs => v = .tuple #[wv 235 x, .bool true] ∧ Hs = [[(sb, .cells #[(hdp (items)), (lastp (items)), nr] 208 (0, 0))], ch 206 210 235 items .nilIface]) := by
 refine FnW.enter (n := 20) Tryz.func79 rfl rfl fun w0 R0 hbase => ?_
 subst hbase
 show WC _ _ _ _ _ _ _ ([[(sb, .cells #[(hdp (items)), (lastp (items)), nr] 208 (0, 0))], ch 206 210 235 items .nilIface, R0])
 refine WC.sub (fr' := [(0, _), (1, _)]) ?_ ⟨rfl, rfl, trivial⟩
 refine WC.seq (WC.region ?_)
 refine WL.q (oq_assign rfl) rfl rfl rfl ?_
 refine WL.q (oq_assign rfl) rfl rfl rfl ?_
 refine WL.nil (WE.then_normal (WC.sub (fr' := [(0, _), (1, _)]) ?_ ⟨rfl, rfl, trivial⟩))
 refine WC.seq (WC.region ?_)
 refine WL.q (oq_move rfl) rfl rfl rfl ?_
 refine WL.q (oq_move rfl) rfl rfl rfl ?_
 refine WL.f1 ?_
 refine WL.f1 ?_
 refine WL.callW2 (gotH1 _ sb nr x.id A B x items hit rfl hA) call124 rfl rfl rfl fun v1_2 Hs1_2 hR1_2 => ?_
 obtain ⟨rfl, rfl⟩ := hR1_2
 refine WL.to2 ?_
 refine WL.q (oq_move rfl) rfl rfl rfl ?_
 refine WL.q (oq_extract rfl rfl) rfl rfl rfl ?_
 refine WL.q (oq_extract rfl rfl) rfl rfl rfl ?_
 refine WL.q (oq_assign rfl) rfl rfl rfl ?_
 refine WL.q (oq_assign rfl) rfl rfl rfl ?_
 refine WL.nil (WE.then_normal (WC.sub (fr' := [(6, _)]) ?_ ⟨rfl, trivial⟩))
 refine WC.seq (WC.seq (WC.region ?_))
 refine WL.q (oq_move rfl) rfl rfl rfl ?_
 refine WL.q (oq_peql Tryz.underlying206 rfl rfl) rfl rfl rfl ?_
 refine WL.nil (WE.then_normal (WC.sub (fr' := [(6, _), (15, _)]) ?_ ⟨rfl, rfl, trivial⟩))
 refine WC.cond rfl (fun q2 => ?_) (fun q2 => ?_)
 ·
  try simp only [Z1, Z2, Z3, Z4, Z5, Z6, Z7, Z8, Z9, Z0] at q2
  simp at q2
 ·
  try simp only [Z1, Z2, Z3, Z4, Z5, Z6, Z7, Z8, Z9, Z0] at q2
  refine WC.skip (WE.then_normal (WC.sub (fr' := [(6, _)]) ?_ ⟨rfl, trivial⟩))
  refine WC.seq (WC.region ?_)
  refine WL.q (oq_move rfl) rfl rfl rfl ?_
  refine WL.q (oq_nilCheck rfl) rfl rfl rfl ?_
  refine WL.q (oq_fieldAddr fld210_1 rfl) rfl rfl rfl ?_
  refine WL.q (oq_load flat121 rfl (.tail _ (.head _)) (by rw [hit]; exact ch_mem _ _ _ _) rfl) rfl rfl rfl ?_
  refine WL.q (oq_assign rfl) rfl rfl rfl ?_
  refine WL.q (oq_assign rfl) rfl rfl rfl ?_
  refine WL.nil (WE.then_normal (WC.sub (fr' := [(4, _), (5, _)]) ?_ ⟨rfl, rfl, trivial⟩))
  refine WC.ret ?_
  refine WE.endW2 (.inl rfl) (res2 Tryz.results79 rfl rfl) ?_
  exact ⟨rfl, rfl⟩
theorem GetM1 (base sb : Nat) (nr : Value) (id : List UInt8) (items : List Nd) (hn : ∀ y ∈ items, y.id ≠ id) : FnW Tryz.prog 79 [Pt sb 0, S id] base [[(sb, .cells #[(hdp (items)), (lastp (items)), nr] 208 (0, 0))], ch 206 210 235 items .nilIface] (fun v Hs => v = .tuple #[.nilIface, .bool false] ∧ Hs = [[(sb, .cells #[(hdp (items)), (lastp (items)), nr] 208 (0, 0))], ch 206 210 235 items .nilIface]) := by
 refine FnW.enter (n := 20) Tryz.func79 rfl rfl fun w0 R0 hbase => ?_
 subst hbase
 show WC _ _ _ _ _ _ _ ([[(sb, .cells #[(hdp (items)), (lastp (items)), nr] 208 (0, 0))], ch 206 210 235 items .nilIface, R0])
 refine WC.sub (fr' := [(0, _), (1, _)]) ?_ ⟨rfl, rfl, trivial⟩
 refine WC.seq (WC.region ?_)
 refine WL.q (oq_assign rfl) rfl rfl rfl ?_
 refine WL.q (oq_assign rfl) rfl rfl rfl ?_
 refine WL.nil (WE.then_normal (WC.sub (fr' := [(0, _), (1, _)]) ?_ ⟨rfl, rfl, trivial⟩))
 refine WC.seq (WC.region ?_)
 refine WL.q (oq_move rfl) rfl rfl rfl ?_
 refine WL.q (oq_move rfl) rfl rfl rfl ?_
 refine WL.f1 ?_
 refine WL.f1 ?_
 refine WL.callW2 (gotM1 _ sb nr id items hn) call124 rfl rfl rfl fun v1_2 Hs1_2 hR1_2 => ?_
 obtain ⟨rfl, rfl⟩ := hR1_2
 refine WL.to2 ?_
 refine WL.q (oq_move rfl) rfl rfl rfl ?_
 refine WL.q (oq_extract rfl rfl) rfl rfl rfl ?_
 refine WL.q (oq_extract rfl rfl) rfl rfl rfl ?_
 refine WL.q (oq_assign rfl) rfl rfl rfl ?_
 refine WL.q (oq_assign rfl) rfl rfl rfl ?_
 refine WL.nil (WE.then_normal (WC.sub (fr' := [(6, _)]) ?_ ⟨rfl, trivial⟩))
 refine WC.seq (WC.seq (WC.region ?_))
 refine WL.q (oq_move rfl) rfl rfl rfl ?_
 refine WL.q (oq_peql Tryz.underlying206 rfl rfl) rfl rfl rfl ?_
 refine WL.nil (WE.then_normal (WC.sub (fr' := [(6, _), (15, _)]) ?_ ⟨rfl, rfl, trivial⟩))
 refine WC.cond rfl (fun q2 => ?_) (fun q2 => ?_)
 ·
  try simp only [Z1, Z2, Z3, Z4, Z5, Z6, Z7, Z8, Z9, Z0] at q2
  refine WC.seq (WC.region ?_)
  refine WL.q (oq_assign rfl) rfl rfl rfl ?_
  refine WL.q (oq_assign rfl) rfl rfl rfl ?_
  refine WL.nil (WE.then_normal (WC.sub (fr' := [(4, _), (5, _)]) ?_ ⟨rfl, rfl, trivial⟩))
  refine WC.ret (WE.then_ret ?_)
  refine WE.endW2 (.inl rfl) (res2 Tryz.results79 rfl rfl) ?_
  exact ⟨rfl, rfl⟩
 ·
  try simp only [Z1, Z2, Z3, Z4, Z5, Z6, Z7, Z8, Z9, Z0] at q2
  simp at q2
theorem Clear1 (base sb : Nat) (nr : Value) (hv tv : Value) : FnW Tryz.prog 77 [Pt sb 0] base [[(sb, .cells #[hv, tv, nr] 208 (0, 0))]] (fun v Hs => Hs = [[(sb, .cells #[.pointer none, .pointer none, nr] 208 (0, 0))]]) := by
 refine FnW.enter (n := 8) Tryz.func77 rfl rfl fun w0 R0 hbase => ?_
 subst hbase
 show WC _ _ _ _ _ _ _ ([[(sb, .cells #[hv, tv, nr] 208 (0, 0))], R0])
 refine WC.sub (fr' := [(0, _)]) ?_ ⟨rfl, trivial⟩
 refine WC.seq (WC.region ?_)
 refine WL.q (oq_move rfl) rfl rfl rfl ?_
 refine WL.q (oq_nilCheck rfl) rfl rfl rfl ?_
 refine WL.q (oq_fieldAddr fld208_0 rfl) rfl rfl rfl ?_
 refine WL.store1 #[_, _, _] ty206 rfl rfl (by first | rfl | exact OwS.one one_) (Nat.lt_of_lt_of_le (Nat.lt_succ_self _) (Nat.le_of_ble_eq_true rfl)) rfl rfl ?_
 refine WL.nil (WE.then_normal (WC.sub (fr' := [(0, _)]) ?_ ⟨rfl, trivial⟩))
 refine WC.region ?_
 refine WL.q (oq_move rfl) rfl rfl rfl ?_
 refine WL.q (oq_nilCheck rfl) rfl rfl rfl ?_
 refine WL.q (oq_fieldAddr fld208_1 rfl) rfl rfl rfl ?_
 refine WL.store1 #[_, _, _] ty206 rfl rfl (by first | rfl | exact OwS.one one_) (Nat.lt_of_lt_of_le (Nat.lt_succ_self _) (Nat.le_of_ble_eq_true rfl)) rfl rfl ?_
 refine WL.nil ?_
 refine WE.endW1 (.inr rfl) (res0 Tryz.results77) ?_
 exact rfl
theorem addN1 (base sb : Nat) (nr : Value) (id : List UInt8) (fv : Value) (pos : Int) : FnW Tryz.prog 70 [Pt sb 0, .iface 235 (.agg #[S id, fv]), I pos] base [[(sb, .cells #[.pointer none, .pointer none, nr] 208 (0, 0))]] (fun v Hs => v = .nilIface ∧ ∃ e, base ≤ e ∧ Hs = [[(sb, .cells #[Pt e 0, Pt e 0, nr] 208 (0, 0))], [(e, .cells #[.nilIface, .iface 235 (.agg #[S id, fv])] 210 (0, 0))]]) := by
 refine FnW.enter (n := 54) Tryz.func70 rfl rfl fun w0 R0 hbase => ?_
 subst hbase
 show WC _ _ _ _ _ _ _ ([[(sb, .cells #[.pointer none, .pointer none, nr] 208 (0, 0))], R0])
 refine WC.sub (fr' := [(0, _), (1, _), (2, _)]) ?_ ⟨rfl, rfl, rfl, trivial⟩
 refine WC.seq (WC.region ?_)
 refine WL.q (oq_assign rfl) rfl rfl rfl ?_
 refine WL.nil (WE.then_normal (WC.sub (fr' := [(0, _), (1, _), (2, _)]) ?_ ⟨rfl, rfl, rfl, trivial⟩))
 refine WC.seq (WC.seq (WC.region ?_))
 refine WL.q (oq_move rfl) rfl rfl rfl ?_
 refine WL.q (oq_nilCheck rfl) rfl rfl rfl ?_
 refine WL.q (oq_fieldAddr fld208_0 rfl) rfl rfl rfl ?_
 refine WL.q (oq_load flat206 rfl (.head _) (List.mem_singleton.2 rfl) rfl) rfl rfl rfl ?_
 refine WL.q (oq_peql Tryz.underlying206 rfl rfl) rfl rfl rfl ?_
 refine WL.nil (WE.then_normal (WC.sub (fr' := [(0, _), (1, _), (2, _), (12, _)]) ?_ ⟨rfl, rfl, rfl, rfl, trivial⟩))
 refine WC.cond rfl (fun q1 => ?_) (fun q1 => ?_)
 ·
  try simp only [Z1, Z2, Z3, Z4, Z5, Z6, Z7, Z8, Z9, Z0] at q1
  refine WC.seq (WC.region ?_)
  refine WL.q (oq_move rfl) rfl rfl rfl ?_
  refine WL.q (oq_move rfl) rfl rfl rfl ?_
  refine WL.q (oq_build #[_, _] str210 ty210 rfl rfl) rfl rfl rfl ?_
  refine WL.box rfl rfl rfl fun e he => ?_
  refine WL.q (oq_nilCheck rfl) rfl rfl rfl ?_
  refine WL.q (oq_fieldAddr fld208_0 rfl) rfl rfl rfl ?_
  refine WL.f1 ?_
  refine WL.store1 #[_, _, _] ty206 rfl rfl (by first | rfl | exact OwS.one one_) (Nat.lt_of_lt_of_le (Nat.lt_succ_self _) (Nat.le_of_ble_eq_true rfl)) rfl rfl ?_
  refine WL.nil (WE.then_normal (WC.sub (fr' := [(0, _)]) ?_ ⟨rfl, trivial⟩))
  refine WC.seq (WC.region ?_)
  refine WL.q (oq_move rfl) rfl rfl rfl ?_
  refine WL.q (oq_move rfl) rfl rfl rfl ?_
  refine WL.q (oq_nilCheck rfl) rfl rfl rfl ?_
  refine WL.q (oq_fieldAddr fld208_0 rfl) rfl rfl rfl ?_
  refine WL.q (oq_load flat206 rfl (.head _) (List.mem_singleton.2 rfl) rfl) rfl rfl rfl ?_
  refine WL.q (oq_nilCheck rfl) rfl rfl rfl ?_
  refine WL.q (oq_fieldAddr fld208_1 rfl) rfl rfl rfl ?_
  refine WL.store1 #[_, _, _] ty206 rfl rfl (by first | rfl | exact OwS.one one_) (Nat.lt_of_lt_of_le (Nat.lt_succ_self _) (Nat.le_of_ble_eq_true rfl)) rfl rfl ?_
  refine WL.nil (WE.then_normal (WC.sub (fr' := []) ?_ trivial))
  refine WC.seq (WC.region ?_)
  refine WL.q (oq_assign rfl) rfl rfl rfl ?_
  refine WL.nil (WE.then_normal (WC.sub (fr' := [(6, _)]) ?_ ⟨rfl, trivial⟩))
  refine WC.ret (WE.then_ret ?_)
  refine WE.endW2 (.inl rfl) (res1 Tryz.results70 rfl) ?_
  exact ⟨rfl, e, he, rfl⟩
 ·
  try simp only [Z1, Z2, Z3, Z4, Z5, Z6, Z7, Z8, Z9, Z0] at q1
  simp at q1
theorem addB1 (base sb hb : Nat) (nr : Value) (tv : Value) (id : List UInt8) (fv : Value) : FnW Tryz.prog 70 [Pt sb 0, .iface 235 (.agg #[S id, fv]), I 1] base [[(sb, .cells #[Pt hb 0, tv, nr] 208 (0, 0))]] (fun v Hs => v = .nilIface ∧ ∃ e, base ≤ e ∧ Hs = [[(sb, .cells #[Pt e 0, tv, nr] 208 (0, 0))], [(e, .cells #[.iface 206 (Pt hb 0), .iface 235 (.agg #[S id, fv])] 210 (0, 0))]]) := by
 refine FnW.enter (n := 54) Tryz.func70 rfl rfl fun w0 R0 hbase => ?_
 subst hbase
 show WC _ _ _ _ _ _ _ ([[(sb, .cells #[Pt hb 0, tv, nr] 208 (0, 0))], R0])
 refine WC.sub (fr' := [(0, _), (1, _), (2, _)]) ?_ ⟨rfl, rfl, rfl, trivial⟩
 refine WC.seq (WC.region ?_)
 refine WL.q (oq_assign rfl) rfl rfl rfl ?_
 refine WL.nil (WE.then_normal (WC.sub (fr' := [(0, _), (1, _), (2, _)]) ?_ ⟨rfl, rfl, rfl, trivial⟩))
 refine WC.seq (WC.seq (WC.region ?_))
 refine WL.q (oq_move rfl) rfl rfl rfl ?_
 refine WL.q (oq_nilCheck rfl) rfl rfl rfl ?_
 refine WL.q (oq_fieldAddr fld208_0 rfl) rfl rfl rfl ?_
 refine WL.q (oq_load flat206 rfl (.head _) (List.mem_singleton.2 rfl) rfl) rfl rfl rfl ?_
 refine WL.q (oq_peql Tryz.underlying206 rfl rfl) rfl rfl rfl ?_
 refine WL.nil (WE.then_normal (WC.sub (fr' := [(0, _), (1, _), (2, _), (12, _)]) ?_ ⟨rfl, rfl, rfl, rfl, trivial⟩))
 refine WC.cond rfl (fun q1 => ?_) (fun q1 => ?_)
 ·
  try simp only [Z1, Z2, Z3, Z4, Z5, Z6, Z7, Z8, Z9, Z0] at q1
  first | (simp at q1; done) | (simp at q5; done) | (exfalso; omega)
 ·
  try simp only [Z1, Z2, Z3, Z4, Z5, Z6, Z7, Z8, Z9, Z0] at q1
  refine WC.skip (WE.then_normal (WC.sub (fr' := [(0, _), (1, _), (2, _)]) ?_ ⟨rfl, rfl, rfl, trivial⟩))
  refine WC.seq (WC.seq (WC.region ?_))
  refine WL.q (oq_move rfl) rfl rfl rfl ?_
  refine WL.q (oq_eql rfl rfl) rfl rfl rfl ?_
  refine WL.nil (WE.then_normal (WC.sub (fr' := [(0, _), (1, _), (27, _)]) ?_ ⟨rfl, rfl, rfl, trivial⟩))
  refine WC.cond rfl (fun q5 => ?_) (fun q5 => ?_)
  ·
   try simp only [Z1, Z2, Z3, Z4, Z5, Z6, Z7, Z8, Z9, Z0] at q5
   refine WC.region ?_
   refine WL.q (oq_move rfl) rfl rfl rfl ?_
   refine WL.q (oq_move rfl) rfl rfl rfl ?_
   refine WL.q (oq_nilCheck rfl) rfl rfl rfl ?_
   refine WL.q (oq_fieldAddr fld208_0 rfl) rfl rfl rfl ?_
   refine WL.q (oq_load flat206 rfl (.head _) (List.mem_singleton.2 rfl) rfl) rfl rfl rfl ?_
   refine WL.q (oq_makeI conc206 rfl) rfl rfl rfl ?_
   refine WL.q (oq_move rfl) rfl rfl rfl ?_
   refine WL.q (oq_build #[_, _] str210 ty210 rfl rfl) rfl rfl rfl ?_
   refine WL.box rfl rfl rfl fun e he => ?_
   refine WL.q (oq_nilCheck rfl) rfl rfl rfl ?_
   refine WL.q (oq_fieldAddr fld208_0 rfl) rfl rfl rfl ?_
   refine WL.f1 ?_
   refine WL.store1 #[_, _, _] ty206 rfl rfl (by first | rfl | exact OwS.one one_) (Nat.lt_of_lt_of_le (Nat.lt_succ_self _) (Nat.le_of_ble_eq_true rfl)) rfl rfl ?_
   refine WL.nil (WE.then_normal (WC.sub (fr' := []) ?_ trivial))
   refine WC.seq (WC.region ?_)
   refine WL.q (oq_assign rfl) rfl rfl rfl ?_
   refine WL.nil (WE.then_normal (WC.sub (fr' := [(6, _)]) ?_ ⟨rfl, trivial⟩))
   refine WC.ret ?_
   refine WE.endW2 (.inl rfl) (res1 Tryz.results70 rfl) ?_
   exact ⟨rfl, e, he, rfl⟩
  ·
   try simp only [Z1, Z2, Z3, Z4, Z5, Z6, Z7, Z8, Z9, Z0] at q5
   first | (simp at q1; done) | (simp at q5; done) | (exfalso; omega)
theorem addA1 (base sb hb lb : Nat) (nr : Value) (lw : Value) (id : List UInt8) (fv : Value) : FnW Tryz.prog 70 [Pt sb 0, .iface 235 (.agg #[S id, fv]), I 0] base [[(sb, .cells #[Pt hb 0, Pt lb 0, nr] 208 (0, 0))], [(lb, .cells #[.nilIface, lw] 210 (0, 0))]] (fun v Hs => v = .nilIface ∧ ∃ e, base ≤ e ∧ Hs = [[(sb, .cells #[Pt hb 0, Pt e 0, nr] 208 (0, 0))], [(lb, .cells #[.iface 206 (Pt e 0), lw] 210 (0, 0))], [(e, .cells #[.nilIface, .iface 235 (.agg #[S id, fv])] 210 (0, 0))]]) := by
 refine FnW.enter (n := 54) Tryz.func70 rfl rfl fun w0 R0 hbase => ?_
 subst hbase
 show WC _ _ _ _ _ _ _ ([[(sb, .cells #[Pt hb 0, Pt lb 0, nr] 208 (0, 0))], [(lb, .cells #[.nilIface, lw] 210 (0, 0))], R0])
 refine WC.sub (fr' := [(0, _), (1, _), (2, _)]) ?_ ⟨rfl, rfl, rfl, trivial⟩
 refine WC.seq (WC.region ?_)
 refine WL.q (oq_assign rfl) rfl rfl rfl ?_
 refine WL.nil (WE.then_normal (WC.sub (fr' := [(0, _), (1, _), (2, _)]) ?_ ⟨rfl, rfl, rfl, trivial⟩))
 refine WC.seq (WC.seq (WC.region ?_))
 refine WL.q (oq_move rfl) rfl rfl rfl ?_
 refine WL.q (oq_nilCheck rfl) rfl rfl rfl ?_
 refine WL.q (oq_fieldAddr fld208_0 rfl) rfl rfl rfl ?_
 refine WL.q (oq_load flat206 rfl (.head _) (List.mem_singleton.2 rfl) rfl) rfl rfl rfl ?_
 refine WL.q (oq_peql Tryz.underlying206 rfl rfl) rfl rfl rfl ?_
 refine WL.nil (WE.then_normal (WC.sub (fr' := [(0, _), (1, _), (2, _), (12, _)]) ?_ ⟨rfl, rfl, rfl, rfl, trivial⟩))
 refine WC.cond rfl (fun q1 => ?_) (fun q1 => ?_)
 ·
  try simp only [Z1, Z2, Z3, Z4, Z5, Z6, Z7, Z8, Z9, Z0] at q1
  first | (simp at q1; done) | (simp at q5; done) | (exfalso; omega)
 ·
  try simp only [Z1, Z2, Z3, Z4, Z5, Z6, Z7, Z8, Z9, Z0] at q1
  refine WC.skip (WE.then_normal (WC.sub (fr' := [(0, _), (1, _), (2, _)]) ?_ ⟨rfl, rfl, rfl, trivial⟩))
  refine WC.seq (WC.seq (WC.region ?_))
  refine WL.q (oq_move rfl) rfl rfl rfl ?_
  refine WL.q (oq_eql rfl rfl) rfl rfl rfl ?_
  refine WL.nil (WE.then_normal (WC.sub (fr' := [(0, _), (1, _), (27, _)]) ?_ ⟨rfl, rfl, rfl, trivial⟩))
  refine WC.cond rfl (fun q5 => ?_) (fun q5 => ?_)
  ·
   try simp only [Z1, Z2, Z3, Z4, Z5, Z6, Z7, Z8, Z9, Z0] at q5
   first | (simp at q1; done) | (simp at q5; done) | (exfalso; omega)
  ·
   try simp only [Z1, Z2, Z3, Z4, Z5, Z6, Z7, Z8, Z9, Z0] at q5
   refine WC.seq (WC.region ?_)
   refine WL.q (oq_move rfl) rfl rfl rfl ?_
   refine WL.q (oq_build #[_, _] str210 ty210 rfl rfl) rfl rfl rfl ?_
   refine WL.box rfl rfl rfl fun e he => ?_
   refine WL.q (oq_assign rfl) rfl rfl rfl ?_
   refine WL.nil (WE.then_normal (WC.sub (fr' := [(0, _), (7, _)]) ?_ ⟨rfl, rfl, trivial⟩))
   refine WC.seq (WC.region ?_)
   refine WL.q (oq_move rfl) rfl rfl rfl ?_
   refine WL.q (oq_nilCheck rfl) rfl rfl rfl ?_
   refine WL.q (oq_fieldAddr fld208_1 rfl) rfl rfl rfl ?_
   refine WL.q (oq_load flat206 rfl (.tail _ (.head _)) (List.mem_singleton.2 rfl) rfl) rfl rfl rfl ?_
   refine WL.q (oq_move rfl) rfl rfl rfl ?_
   refine WL.q (oq_makeI conc206 rfl) rfl rfl rfl ?_
   refine WL.q (oq_nilCheck rfl) rfl rfl rfl ?_
   refine WL.q (oq_fieldAddr fld210_0 rfl) rfl rfl rfl ?_
   refine WL.f2 ?_
   refine WL.store1 #[_, _] ty126 rfl rfl (by first | rfl | exact OwS.one one_) (Nat.lt_of_lt_of_le (Nat.lt_succ_self _) (Nat.le_of_ble_eq_true rfl)) rfl rfl ?_
   refine WL.nil (WE.then_normal (WC.sub (fr' := [(0, _), (7, _)]) ?_ ⟨rfl, rfl, trivial⟩))
   refine WC.region ?_
   refine WL.q (oq_move rfl) rfl rfl rfl ?_
   refine WL.q (oq_move rfl) rfl rfl rfl ?_
   refine WL.q (oq_nilCheck rfl) rfl rfl rfl ?_
   refine WL.q (oq_fieldAddr fld208_1 rfl) rfl rfl rfl ?_
   refine WL.f2 ?_
   refine WL.store1 #[_, _, _] ty206 rfl rfl (by first | rfl | exact OwS.one one_) (Nat.lt_of_lt_of_le (Nat.lt_succ_self _) (Nat.le_of_ble_eq_true rfl)) rfl rfl ?_
   refine WL.nil (WE.then_normal (WC.sub (fr' := []) ?_ trivial))
   refine WC.seq (WC.region ?_)
   refine WL.q (oq_assign rfl) rfl rfl rfl ?_
   refine WL.nil (WE.then_normal (WC.sub (fr' := [(6, _)]) ?_ ⟨rfl, trivial⟩))
   refine WC.ret ?_
   refine WE.endW3 (.inl rfl) (res1 Tryz.results70 rfl) ?_
   exact ⟨rfl, e, he, rfl⟩
theorem got2 (base sb : Nat) (id : List UInt8) (items : List Nd) : FnW Tryz.prog 125 [Pt sb 0, S id] base [[(sb, .cells #[(hdp (items)), (lastp (items))] 214 (0, 0))], ch 212 216 239 items .nilIface] (fun v Hs => GotV id items v ∧ Hs = [[(sb, .cells #[(hdp (items)), (lastp (items))] 214 (0, 0))], ch 212 216 239 items .nilIface]) := by
 cases items with
 | nil => exact (getN2 base sb id).reg (by simp [ch, hdp, lastp]) (fun v Hs h => ⟨_, ⟨h.1, rfl⟩, by rw [h.2]; simp [ch, hdp, lastp]⟩)
 | cons x r => exact getC2 base sb (x :: r) x r rfl id
theorem gotH2 (base sb : Nat) (id : List UInt8) (A B : List Nd) (x : Nd) (items : List Nd) (hit : items = A ++ x :: B) (hx : x.id = id) (hA : ∀ y ∈ A, y.id ≠ id) : FnW Tryz.prog 125 [Pt sb 0, S id] base [[(sb, .cells #[(hdp (items)), (lastp (items))] 214 (0, 0))], ch 212 216 239 items .nilIface] (fun v Hs => v = .tuple #[Pt x.b 0, lastp A] ∧ Hs = [[(sb, .cells #[(hdp (items)), (lastp (items))] 214 (0, 0))], ch 212 216 239 items .nilIface]) :=
 (got2 base sb id items).mono fun v Hs h => ⟨by have h1 := h.1; rw [hit] at h1; exact got_hit h1 hx hA, h.2⟩
theorem gotM2 (base sb : Nat) (id : List UInt8) (items : List Nd) (hn : ∀ y ∈ items, y.id ≠ id) : FnW Tryz.prog 125 [Pt sb 0, S id] base [[(sb, .cells #[(hdp (items)), (lastp (items))] 214 (0, 0))], ch 212 216 239 items .nilIface] (fun v Hs => v = .tuple #[.pointer none, lastp items] ∧ Hs = [[(sb, .cells #[(hdp (items)), (lastp (items))] 214 (0, 0))], ch 212 216 239 items .nilIface]) :=
 (got2 base sb id items).mono fun v Hs h => ⟨got_miss h.1 hn, h.2⟩
theorem GetH2 (base sb : Nat) (A B : List Nd) (x : Nd) (items : List Nd) (hit : items = A ++ x :: B) (hA : ∀ y ∈ A, y.id ≠ x.id)  : FnW Tryz.prog 93 [Pt sb 0, S x.id] base [[(sb, .cells #[(hdp (items)), (lastp (items))] 214 (0, 0))], ch 212 216 239 items .nilIface] (fun v Hs => v = .tuple #[wv 239 x, .bool true] ∧ Hs = [[(sb, .cells #[(hdp (items)), (lastp (items))] 214 (0, 0))], ch 212 216 239 items .nilIface]) := by
 refine FnW.enter (n := 20) Tryz.func93 rfl rfl fun w0 R0 hbase => ?_
 subst hbase
 show WC _ _ _ _ _ _ _ ([[(sb, .cells #[(hdp (items)), (lastp (items))] 214 (0, 0))], ch 212 216 239 items .nilIface, R0])
 refine WC.sub (fr' := [(0, _), (1, _)]) ?_ ⟨rfl, rfl, trivial⟩
 refine WC.seq (WC.region ?_)
 refine WL.q (oq_assign rfl) rfl rfl rfl ?_
 refine WL.q (oq_assign rfl) rfl rfl rfl ?_
 refine WL.nil (WE.then_normal (WC.sub (fr' := [(0, _), (1, _)]) ?_ ⟨rfl, rfl, trivial⟩))
 refine WC.seq (WC.region ?_)
 refine WL.q (oq_move rfl) rfl rfl rfl ?_
 refine WL.q (oq_move rfl) rfl rfl rfl ?_
 refine WL.f1 ?_
 refine WL.f1 ?_
 refine WL.callW2 (gotH2 _ sb x.id A B x items hit rfl hA) call125 rfl rfl rfl fun v1_2 Hs1_2 hR1_2 => ?_
 obtain ⟨rfl, rfl⟩ := hR1_2
 refine WL.to2 ?_
 refine WL.q (oq_move rfl) rfl rfl rfl ?_
 refine WL.q (oq_extract rfl rfl) rfl rfl rfl ?_
 refine WL.q (oq_extract rfl rfl) rfl rfl rfl ?_
 refine WL.q (oq_assign rfl) rfl rfl rfl ?_
 refine WL.q (oq_assign rfl) rfl rfl rfl ?_
 refine WL.nil (WE.then_normal (WC.sub (fr' := [(6, _)]) ?_ ⟨rfl, trivial⟩))
 refine WC.seq (WC.seq (WC.region ?_))
 refine WL.q (oq_move rfl) rfl rfl rfl ?_
 refine WL.q (oq_peql Tryz.underlying212 rfl rfl) rfl rfl rfl ?_
 refine WL.nil (WE.then_normal (WC.sub (fr' := [(6, _), (15, _)]) ?_ ⟨rfl, rfl, trivial⟩))
 refine WC.cond rfl (fun q2 => ?_) (fun q2 => ?_)
 ·
  try simp only [Z1, Z2, Z3, Z4, Z5, Z6, Z7, Z8, Z9, Z0] at q2
  simp at q2
 ·
  try simp only [Z1, Z2, Z3, Z4, Z5, Z6, Z7, Z8, Z9, Z0] at q2
  refine WC.skip (WE.then_normal (WC.sub (fr' := [(6, _)]) ?_ ⟨rfl, trivial⟩))
  refine WC.seq (WC.region ?_)
  refine WL.q (oq_move rfl) rfl rfl rfl ?_
  refine WL.q (oq_nilCheck rfl) rfl rfl rfl ?_
  refine WL.q (oq_fieldAddr fld216_1 rfl) rfl rfl rfl ?_
  refine WL.q (oq_load flat140 rfl (.tail _ (.head _)) (by rw [hit]; exact ch_mem _ _ _ _) rfl) rfl rfl rfl ?_
  refine WL.q (oq_assign rfl) rfl rfl rfl ?_
  refine WL.q (oq_assign rfl) rfl rfl rfl ?_
  refine WL.nil (WE.then_normal (WC.sub (fr' := [(4, _), (5, _)]) ?_ ⟨rfl, rfl, trivial⟩))
  refine WC.ret ?_
  refine WE.endW2 (.inl rfl) (res2 Tryz.results93 rfl rfl) ?_
  exact ⟨rfl, rfl⟩
theorem GetM2 (base sb : Nat) (id : List UInt8) (items : List Nd) (hn : ∀ y ∈ items, y.id ≠ id) : FnW Tryz.prog 93 [Pt sb 0, S id] base [[(sb, .cells #[(hdp (items)), (lastp (items))] 214 (0, 0))], ch 212 216 239 items .nilIface] (fun v Hs => v = .tuple #[.nilIface, .bool false] ∧ Hs = [[(sb, .cells #[(hdp (items)), (lastp (items))] 214 (0, 0))], ch 212 216 239 items .nilIface]) := by
 refine FnW.enter (n := 20) Tryz.func93 rfl rfl fun w0 R0 hbase => ?_
 subst hbase
 show WC _ _ _ _ _ _ _ ([[(sb, .cells #[(hdp (items)), (lastp (items))] 214 (0, 0))], ch 212 216 239 items .nilIface, R0])
 refine WC.sub (fr' := [(0, _), (1, _)]) ?_ ⟨rfl, rfl, trivial⟩
 refine WC.seq (WC.region ?_)
 refine WL.q (oq_assign rfl) rfl rfl rfl ?_
 refine WL.q (oq_assign rfl) rfl rfl rfl ?_
 refine WL.nil (WE.then_normal (WC.sub (fr' := [(0, _), (1, _)]) ?_ ⟨rfl, rfl, trivial⟩))
 refine WC.seq (WC.region ?_)
 refine WL.q (oq_move rfl) rfl rfl rfl ?_
 refine WL.q (oq_move rfl) rfl rfl rfl ?_
 refine WL.f1 ?_
 refine WL.f1 ?_
 refine WL.callW2 (gotM2 _ sb id items hn) call125 rfl rfl rfl fun v1_2 Hs1_2 hR1_2 => ?_
 obtain ⟨rfl, rfl⟩ := hR1_2
 refine WL.to2 ?_
 refine WL.q (oq_move rfl) rfl rfl rfl ?_
 refine WL.q (oq_extract rfl rfl) rfl rfl rfl ?_
 refine WL.q (oq_extract rfl rfl) rfl rfl rfl ?_
 refine WL.q (oq_assign rfl) rfl rfl rfl ?_
 refine WL.q (oq_assign rfl) rfl rfl rfl ?_
 refine WL.nil (WE.then_normal (WC.sub (fr' := [(6, _)]) ?_ ⟨rfl, trivial⟩))
 refine WC.seq (WC.seq (WC.region ?_))
 refine WL.q (oq_move rfl) rfl rfl rfl ?_
 refine WL.q (oq_peql Tryz.underlying212 rfl rfl) rfl rfl rfl ?_
 refine WL.nil (WE.then_normal (WC.sub (fr' := [(6, _), (15, _)]) ?_ ⟨rfl, rfl, trivial⟩))
 refine WC.cond rfl (fun q2 => ?_) (fun q2 => ?_)
 ·
  try simp only [Z1, Z2, Z3, Z4, Z5, Z6, Z7, Z8, Z9, Z0] at q2
  refine WC.seq (WC.region ?_)
  refine WL.q (oq_assign rfl) rfl rfl rfl ?_
  refine WL.q (oq_assign rfl) rfl rfl rfl ?_
  refine WL.nil (WE.then_normal (WC.sub (fr' := [(4, _), (5, _)]) ?_ ⟨rfl, rfl, trivial⟩))
  refine WC.ret (WE.then_ret ?_)
  refine WE.endW2 (.inl rfl) (res2 Tryz.results93 rfl rfl) ?_
  exact ⟨rfl, rfl⟩
 ·
  try simp only [Z1, Z2, Z3, Z4, Z5, Z6, Z7, Z8, Z9, Z0] at q2
  simp at q2
theorem Clear2 (base sb : Nat) (hv tv : Value) : FnW Tryz.prog 91 [Pt sb 0] base [[(sb, .cells #[hv, tv] 214 (0, 0))]] (fun v Hs => Hs = [[(sb, .cells #[.pointer none, .pointer none] 214 (0, 0))]]) := by
 refine FnW.enter (n := 8) Tryz.func91 rfl rfl fun w0 R0 hbase => ?_
 subst hbase
 show WC _ _ _ _ _ _ _ ([[(sb, .cells #[hv, tv] 214 (0, 0))], R0])
 refine WC.sub (fr' := [(0, _)]) ?_ ⟨rfl, trivial⟩
 refine WC.seq (WC.region ?_)
 refine WL.q (oq_move rfl) rfl rfl rfl ?_
 refine WL.q (oq_nilCheck rfl) rfl rfl rfl ?_
 refine WL.q (oq_fieldAddr fld214_0 rfl) rfl rfl rfl ?_
 refine WL.store1 #[_, _] ty212 rfl rfl (by first | rfl | exact OwS.one one_) (Nat.lt_of_lt_of_le (Nat.lt_succ_self _) (Nat.le_of_ble_eq_true rfl)) rfl rfl ?_
 refine WL.nil (WE.then_normal (WC.sub (fr' := [(0, _)]) ?_ ⟨rfl, trivial⟩))
 refine WC.region ?_
 refine WL.q (oq_move rfl) rfl rfl rfl ?_
 refine WL.q (oq_nilCheck rfl) rfl rfl rfl ?_
 refine WL.q (oq_fieldAddr fld214_1 rfl) rfl rfl rfl ?_
 refine WL.store1 #[_, _] ty212 rfl rfl (by first | rfl | exact OwS.one one_) (Nat.lt_of_lt_of_le (Nat.lt_succ_self _) (Nat.le_of_ble_eq_true rfl)) rfl rfl ?_
 refine WL.nil ?_
 refine WE.endW1 (.inr rfl) (res0 Tryz.results91) ?_
 exact rfl
theorem addN2 (base sb : Nat) (id : List UInt8) (fv : Value) (pos : Int) : FnW Tryz.prog 84 [Pt sb 0, .iface 239 (.agg #[S id, fv]), I pos] base [[(sb, .cells #[.pointer none, .pointer none] 214 (0, 0))]] (fun v Hs => v = .nilIface ∧ ∃ e, base ≤ e ∧ Hs = [[(sb, .cells #[Pt e 0, Pt e 0] 214 (0, 0))], [(e, .cells #[.nilIface, .iface 239 (.agg #[S id, fv])] 216 (0, 0))]]) := by
 refine FnW.enter (n := 54) Tryz.func84 rfl rfl fun w0 R0 hbase => ?_
 subst hbase
 show WC _ _ _ _ _ _ _ ([[(sb, .cells #[.pointer none, .pointer none] 214 (0, 0))], R0])
 refine WC.sub (fr' := [(0, _), (1, _), (2, _)]) ?_ ⟨rfl, rfl, rfl, trivial⟩
 refine WC.seq (WC.region ?_)
 refine WL.q (oq_assign rfl) rfl rfl rfl ?_
 refine WL.nil (WE.then_normal (WC.sub (fr' := [(0, _), (1, _), (2, _)]) ?_ ⟨rfl, rfl, rfl, trivial⟩))
 refine WC.seq (WC.seq (WC.region ?_))
 refine WL.q (oq_move rfl) rfl rfl rfl ?_
 refine WL.q (oq_nilCheck rfl) rfl rfl rfl ?_
 refine WL.q (oq_fieldAddr fld214_0 rfl) rfl rfl rfl ?_
 refine WL.q (oq_load flat212 rfl (.head _) (List.mem_singleton.2 rfl) rfl) rfl rfl rfl ?_
 refine WL.q (oq_peql Tryz.underlying212 rfl rfl) rfl rfl rfl ?_
 refine WL.nil (WE.then_normal (WC.sub (fr' := [(0, _), (1, _), (2, _), (12, _)]) ?_ ⟨rfl, rfl, rfl, rfl, trivial⟩))
 refine WC.cond rfl (fun q1 => ?_) (fun q1 => ?_)
 ·
  try simp only [Z1, Z2, Z3, Z4, Z5, Z6, Z7, Z8, Z9, Z0] at q1
  refine WC.seq (WC.region ?_)
  refine WL.q (oq_move rfl) rfl rfl rfl ?_
  refine WL.q (oq_move rfl) rfl rfl rfl ?_
  refine WL.q (oq_build #[_, _] str216 ty216 rfl rfl) rfl rfl rfl ?_
  refine WL.box rfl rfl rfl fun e he => ?_
  refine WL.q (oq_nilCheck rfl) rfl rfl rfl ?_
  refine WL.q (oq_fieldAddr fld214_0 rfl) rfl rfl rfl ?_
  refine WL.f1 ?_
  refine WL.store1 #[_, _] ty212 rfl rfl (by first | rfl | exact OwS.one one_) (Nat.lt_of_lt_of_le (Nat.lt_succ_self _) (Nat.le_of_ble_eq_true rfl)) rfl rfl ?_
  refine WL.nil (WE.then_normal (WC.sub (fr' := [(0, _)]) ?_ ⟨rfl, trivial⟩))
  refine WC.seq (WC.region ?_)
  refine WL.q (oq_move rfl) rfl rfl rfl ?_
  refine WL.q (oq_move rfl) rfl rfl rfl ?_
  refine WL.q (oq_nilCheck rfl) rfl rfl rfl ?_
  refine WL.q (oq_fieldAddr fld214_0 rfl) rfl rfl rfl ?_
  refine WL.q (oq_load flat212 rfl (.head _) (List.mem_singleton.2 rfl) rfl) rfl rfl rfl ?_
  refine WL.q (oq_nilCheck rfl) rfl rfl rfl ?_
  refine WL.q (oq_fieldAddr fld214_1 rfl) rfl rfl rfl ?_
  refine WL.store1 #[_, _] ty212 rfl rfl (by first | rfl | exact OwS.one one_) (Nat.lt_of_lt_of_le (Nat.lt_succ_self _) (Nat.le_of_ble_eq_true rfl)) rfl rfl ?_
  refine WL.nil (WE.then_normal (WC.sub (fr' := []) ?_ trivial))
  refine WC.seq (WC.region ?_)
  refine WL.q (oq_assign rfl) rfl rfl rfl ?_
  refine WL.nil (WE.then_normal (WC.sub (fr' := [(6, _)]) ?_ ⟨rfl, trivial⟩))
  refine WC.ret (WE.then_ret ?_)
  refine WE.endW2 (.inl rfl) (res1 Tryz.results84 rfl) ?_
  exact ⟨rfl, e, he, rfl⟩
 ·
  try simp only [Z1, Z2, Z3, Z4, Z5, Z6, Z7, Z8, Z9, Z0] at q1
  simp at q1
theorem addB2 (base sb hb : Nat) (tv : Value) (id : List UInt8) (fv : Value) : FnW Tryz.prog 84 [Pt sb 0, .iface 239 (.agg #[S id, fv]), I 1] base [[(sb, .cells #[Pt hb 0, tv] 214 (0, 0))]] (fun v Hs => v = .nilIface ∧ ∃ e, base ≤ e ∧ Hs = [[(sb, .cells #[Pt e 0, tv] 214 (0, 0))], [(e, .cells #[.iface 212 (Pt hb 0), .iface 239 (.agg #[S id, fv])] 216 (0, 0))]]) := by
 refine FnW.enter (n := 54) Tryz.func84 rfl rfl fun w0 R0 hbase => ?_
 subst hbase
 show WC _ _ _ _ _ _ _ ([[(sb, .cells #[Pt hb 0, tv] 214 (0, 0))], R0])
 refine WC.sub (fr' := [(0, _), (1, _), (2, _)]) ?_ ⟨rfl, rfl, rfl, trivial⟩
 refine WC.seq (WC.region ?_)
 refine WL.q (oq_assign rfl) rfl rfl rfl ?_
 refine WL.nil (WE.then_normal (WC.sub (fr' := [(0, _), (1, _), (2, _)]) ?_ ⟨rfl, rfl, rfl, trivial⟩))
 refine WC.seq (WC.seq (WC.region ?_))
 refine WL.q (oq_move rfl) rfl rfl rfl ?_
 refine WL.q (oq_nilCheck rfl) rfl rfl rfl ?_
 refine WL.q (oq_fieldAddr fld214_0 rfl) rfl rfl rfl ?_
 refine WL.q (oq_load flat212 rfl (.head _) (List.mem_singleton.2 rfl) rfl) rfl rfl rfl ?_
 refine WL.q (oq_peql Tryz.underlying212 rfl rfl) rfl rfl rfl ?_
 refine WL.nil (WE.then_normal (WC.sub (fr' := [(0, _), (1, _), (2, _), (12, _)]) ?_ ⟨rfl, rfl, rfl, rfl, trivial⟩))
 refine WC.cond rfl (fun q1 => ?_) (fun q1 => ?_)
 ·
  try simp only [Z1, Z2, Z3, Z4, Z5, Z6, Z7, Z8, Z9, Z0] at q1
  first | (simp at q1; done) | (simp at q5; done) | (exfalso; omega)
 ·
  try simp only [Z1, Z2, Z3, Z4, Z5, Z6, Z7, Z8, Z9, Z0] at q1
  refine WC.skip (WE.then_normal (WC.sub (fr' := [(0, _), (1, _), (2, _)]) ?_ ⟨rfl, rfl, rfl, trivial⟩))
  refine WC.seq (WC.seq (WC.region ?_))
  refine WL.q (oq_move rfl) rfl rfl rfl ?_
  refine WL.q (oq_eql rfl rfl) rfl rfl rfl ?_
  refine WL.nil (WE.then_normal (WC.sub (fr' := [(0, _), (1, _), (27, _)]) ?_ ⟨rfl, rfl, rfl, trivial⟩))
  refine WC.cond rfl (fun q5 => ?_) (fun q5 => ?_)
  ·
   try simp only [Z1, Z2, Z3, Z4, Z5, Z6, Z7, Z8, Z9, Z0] at q5
   refine WC.region ?_
   refine WL.q (oq_move rfl) rfl rfl rfl ?_
   refine WL.q (oq_move rfl) rfl rfl rfl ?_
   refine WL.q (oq_nilCheck rfl) rfl rfl rfl ?_
   refine WL.q (oq_fieldAddr fld214_0 rfl) rfl rfl rfl ?_
   refine WL.q (oq_load flat212 rfl (.head _) (List.mem_singleton.2 rfl) rfl) rfl rfl rfl ?_
   refine WL.q (oq_makeI conc212 rfl) rfl rfl rfl ?_
   refine WL.q (oq_move rfl) rfl rfl rfl ?_
   refine WL.q (oq_build #[_, _] str216 ty216 rfl rfl) rfl rfl rfl ?_
   refine WL.box rfl rfl rfl fun e he => ?_
   refine WL.q (oq_nilCheck rfl) rfl rfl rfl ?_
   refine WL.q (oq_fieldAddr fld214_0 rfl) rfl rfl rfl ?_
   refine WL.f1 ?_
   refine WL.store1 #[_, _] ty212 rfl rfl (by first | rfl | exact OwS.one one_) (Nat.lt_of_lt_of_le (Nat.lt_succ_self _) (Nat.le_of_ble_eq_true rfl)) rfl rfl ?_
   refine WL.nil (WE.then_normal (WC.sub (fr' := []) ?_ trivial))
   refine WC.seq (WC.region ?_)
   refine WL.q (oq_assign rfl) rfl rfl rfl ?_
   refine WL.nil (WE.then_normal (WC.sub (fr' := [(6, _)]) ?_ ⟨rfl, trivial⟩))
   refine WC.ret ?_
   refine WE.endW2 (.inl rfl) (res1 Tryz.results84 rfl) ?_
   exact ⟨rfl, e, he, rfl⟩
  ·
   try simp only [Z1, Z2, Z3, Z4, Z5, Z6, Z7, Z8, Z9, Z0] at q5
   first | (simp at q1; done) | (simp at q5; done) | (exfalso; omega)
theorem addA2 (base sb hb lb : Nat) (lw : Value) (id : List UInt8) (fv : Value) : FnW Tryz.prog 84 [Pt sb 0, .iface 239 (.agg #[S id, fv]), I 0] base [[(sb, .cells #[Pt hb 0, Pt lb 0] 214 (0, 0))], [(lb, .cells #[.nilIface, lw] 216 (0, 0))]] (fun v Hs => v = .nilIface ∧ ∃ e, base ≤ e ∧ Hs = [[(sb, .cells #[Pt hb 0, Pt e 0] 214 (0, 0))], [(lb, .cells #[.iface 212 (Pt e 0), lw] 216 (0, 0))], [(e, .cells #[.nilIface, .iface 239 (.agg #[S id, fv])] 216 (0, 0))]]) := by
 refine FnW.enter (n := 54) Tryz.func84 rfl rfl fun w0 R0 hbase => ?_
 subst hbase
 show WC _ _ _ _ _ _ _ ([[(sb, .cells #[Pt hb 0, Pt lb 0] 214 (0, 0))], [(lb, .cells #[.nilIface, lw] 216 (0, 0))], R0])
 refine WC.sub (fr' := [(0, _), (1, _), (2, _)]) ?_ ⟨rfl, rfl, rfl, trivial⟩
 refine WC.seq (WC.region ?_)
 refine WL.q (oq_assign rfl) rfl rfl rfl ?_
 refine WL.nil (WE.then_normal (WC.sub (fr' := [(0, _), (1, _), (2, _)]) ?_ ⟨rfl, rfl, rfl, trivial⟩))
 refine WC.seq (WC.seq (WC.region ?_))
 refine WL.q (oq_move rfl) rfl rfl rfl ?_
 refine WL.q (oq_nilCheck rfl) rfl rfl rfl ?_
 refine WL.q (oq_fieldAddr fld214_0 rfl) rfl rfl rfl ?_
 refine WL.q (oq_load flat212 rfl (.head _) (List.mem_singleton.2 rfl) rfl) rfl rfl rfl ?_
 refine WL.q (oq_peql Tryz.underlying212 rfl rfl) rfl rfl rfl ?_
 refine WL.nil (WE.then_normal (WC.sub (fr' := [(0, _), (1, _), (2, _), (12, _)]) ?_ ⟨rfl, rfl, rfl, rfl, trivial⟩))
 refine WC.cond rfl (fun q1 => ?_) (fun q1 => ?_)
 ·
  try simp only [Z1, Z2, Z3, Z4, Z5, Z6, Z7, Z8, Z9, Z0] at q1
  first | (simp at q1; done) | (simp at q5; done) | (exfalso; omega)
 ·
  try simp only [Z1, Z2, Z3, Z4, Z5, Z6, Z7, Z8, Z9, Z0] at q1
  refine WC.skip (WE.then_normal (WC.sub (fr' := [(0, _), (1, _), (2, _)]) ?_ ⟨rfl, rfl, rfl, trivial⟩))
  refine WC.seq (WC.seq (WC.region ?_))
  refine WL.q (oq_move rfl) rfl rfl rfl ?_
  refine WL.q (oq_eql rfl rfl) rfl rfl rfl ?_
  refine WL.nil (WE.then_normal (WC.sub (fr' := [(0, _), (1, _), (27, _)]) ?_ ⟨rfl, rfl, rfl, trivial⟩))
  refine WC.cond rfl (fun q5 => ?_) (fun q5 => ?_)
  ·
   try simp only [Z1, Z2, Z3, Z4, Z5, Z6, Z7, Z8, Z9, Z0] at q5
   first | (simp at q1; done) | (simp at q5; done) | (exfalso; omega)
  ·
   try simp only [Z1, Z2, Z3, Z4, Z5, Z6, Z7, Z8, Z9, Z0] at q5
   refine WC.seq (WC.region ?_)
   refine WL.q (oq_move rfl) rfl rfl rfl ?_
   refine WL.q (oq_build #[_, _] str216 ty216 rfl rfl) rfl rfl rfl ?_
   refine WL.box rfl rfl rfl fun e he => ?_
   refine WL.q (oq_assign rfl) rfl rfl rfl ?_
   refine WL.nil (WE.then_normal (WC.sub (fr' := [(0, _), (7, _)]) ?_ ⟨rfl, rfl, trivial⟩))
   refine WC.seq (WC.region ?_)
   refine WL.q (oq_move rfl) rfl rfl rfl ?_
   refine WL.q (oq_nilCheck rfl) rfl rfl rfl ?_
   refine WL.q (oq_fieldAddr fld214_1 rfl) rfl rfl rfl ?_
   refine WL.q (oq_load flat212 rfl (.tail _ (.head _)) (List.mem_singleton.2 rfl) rfl) rfl rfl rfl ?_
   refine WL.q (oq_move rfl) rfl rfl rfl ?_
   refine WL.q (oq_makeI conc212 rfl) rfl rfl rfl ?_
   refine WL.q (oq_nilCheck rfl) rfl rfl rfl ?_
   refine WL.q (oq_fieldAddr fld216_0 rfl) rfl rfl rfl ?_
   refine WL.f2 ?_
   refine WL.store1 #[_, _] ty145 rfl rfl (by first | rfl | exact OwS.one one_) (Nat.lt_of_lt_of_le (Nat.lt_succ_self _) (Nat.le_of_ble_eq_true rfl)) rfl rfl ?_
   refine WL.nil (WE.then_normal (WC.sub (fr' := [(0, _), (7, _)]) ?_ ⟨rfl, rfl, trivial⟩))
   refine WC.region ?_
   refine WL.q (oq_move rfl) rfl rfl rfl ?_
   refine WL.q (oq_move rfl) rfl rfl rfl ?_
   refine WL.q (oq_nilCheck rfl) rfl rfl rfl ?_
   refine WL.q (oq_fieldAddr fld214_1 rfl) rfl rfl rfl ?_
   refine WL.f2 ?_
   refine WL.store1 #[_, _] ty212 rfl rfl (by first | rfl | exact OwS.one one_) (Nat.lt_of_lt_of_le (Nat.lt_succ_self _) (Nat.le_of_ble_eq_true rfl)) rfl rfl ?_
   refine WL.nil (WE.then_normal (WC.sub (fr' := []) ?_ trivial))
   refine WC.seq (WC.region ?_)
   refine WL.q (oq_assign rfl) rfl rfl rfl ?_
   refine WL.nil (WE.then_normal (WC.sub (fr' := [(6, _)]) ?_ ⟨rfl, trivial⟩))
   refine WC.ret ?_
   refine WE.endW3 (.inl rfl) (res1 Tryz.results84 rfl) ?_
   exact ⟨rfl, e, he, rfl⟩
theorem got3 (base sb : Nat) (id : List UInt8) (items : List Nd) : FnW Tryz.prog 126 [Pt sb 0, S id] base [[(sb, .cells #[(hdp (items)), (lastp (items))] 220 (0, 0))], ch 218 222 243 items .nilIface] (fun v Hs => GotV id items v ∧ Hs = [[(sb, .cells #[(hdp (items)), (lastp (items))] 220 (0, 0))], ch 218 222 243 items .nilIface]) := by
 cases items with
 | nil => exact (getN3 base sb id).reg (by simp [ch, hdp, lastp]) (fun v Hs h => ⟨_, ⟨h.1, rfl⟩, by rw [h.2]; simp [ch, hdp, lastp]⟩)
 | cons x r => exact getC3 base sb (x :: r) x r rfl id
theorem gotH3 (base sb : Nat) (id : List UInt8) (A B : List Nd) (x : Nd) (items : List Nd) (hit : items = A ++ x :: B) (hx : x.id = id) (hA : ∀ y ∈ A, y.id ≠ id) : FnW Tryz.prog 126 [Pt sb 0, S id] base [[(sb, .cells #[(hdp (items)), (lastp (items))] 220 (0, 0))], ch 218 222 243 items .nilIface] (fun v Hs => v = .tuple #[Pt x.b 0, lastp A] ∧ Hs = [[(sb, .cells #[(hdp (items)), (lastp (items))] 220 (0, 0))], ch 218 222 243 items .nilIface]) :=
 (got3 base sb id items).mono fun v Hs h => ⟨by have h1 := h.1; rw [hit] at h1; exact got_hit h1 hx hA, h.2⟩
theorem gotM3 (base sb : Nat) (id : List UInt8) (items : List Nd) (hn : ∀ y ∈ items, y.id ≠ id) : FnW Tryz.prog 126 [Pt sb 0, S id] base [[(sb, .cells #[(hdp (items)), (lastp (items))] 220 (0, 0))], ch 218 222 243 items .nilIface] (fun v Hs => v = .tuple #[.pointer none, lastp items] ∧ Hs = [[(sb, .cells #[(hdp (items)), (lastp (items))] 220 (0, 0))], ch 218 222 243 items .nilIface]) :=
 (got3 base sb id items).mono fun v Hs h => ⟨got_miss h.1 hn, h.2⟩
theorem GetH3 (base sb : Nat) (A B : List Nd) (x : Nd) (items : List Nd) (hit : items = A ++ x :: B) (hA : ∀ y ∈ A, y.id ≠ x.id)  : FnW Tryz.prog 107 [Pt sb 0, S x.id] base [[(sb, .cells #[(hdp (items)), (lastp (items))] 220 (0, 0))], ch 218 222 243 items .nilIface] (fun v Hs => v = .tuple #[wv 243 x, .bool true] ∧ Hs = [[(sb, .cells #[(hdp (items)), (lastp (items))] 220 (0, 0))], ch 218 222 243 items .nilIface]) := by
 refine FnW.enter (n := 20) Tryz.func107 rfl rfl fun w0 R0 hbase => ?_
 subst hbase
 show WC _ _ _ _ _ _ _ ([[(sb, .cells #[(hdp (items)), (lastp (items))] 220 (0, 0))], ch 218 222 243 items .nilIface, R0])
 refine WC.sub (fr' := [(0, _), (1, _)]) ?_ ⟨rfl, rfl, trivial⟩
 refine WC.seq (WC.region ?_)
 refine WL.q (oq_assign rfl) rfl rfl rfl ?_
 refine WL.q (oq_assign rfl) rfl rfl rfl ?_
 refine WL.nil (WE.then_normal (WC.sub (fr' := [(0, _), (1, _)]) ?_ ⟨rfl, rfl, trivial⟩))
 refine WC.seq (WC.region ?_)
 refine WL.q (oq_move rfl) rfl rfl rfl ?_
 refine WL.q (oq_move rfl) rfl rfl rfl ?_
 refine WL.f1 ?_
 refine WL.f1 ?_
 refine WL.callW2 (gotH3 _ sb x.id A B x items hit rfl hA) call126 rfl rfl rfl fun v1_2 Hs1_2 hR1_2 => ?_
 obtain ⟨rfl, rfl⟩ := hR1_2
 refine WL.to2 ?_
 refine WL.q (oq_move rfl) rfl rfl rfl ?_
 refine WL.q (oq_extract rfl rfl) rfl rfl rfl ?_
 refine WL.q (oq_extract rfl rfl) rfl rfl rfl ?_
 refine WL.q (oq_assign rfl) rfl rfl rfl ?_
 refine WL.q (oq_assign rfl) rfl rfl rfl ?_
 refine WL.nil (WE.then_normal (WC.sub (fr' := [(6, _)]) ?_ ⟨rfl, trivial⟩))
 refine WC.seq (WC.seq (WC.region ?_))
 refine WL.q (oq_move rfl) rfl rfl rfl ?_
 refine WL.q (oq_peql Tryz.underlying218 rfl rfl) rfl rfl rfl ?_
 refine WL.nil (WE.then_normal (WC.sub (fr' := [(6, _), (15, _)]) ?_ ⟨rfl, rfl, trivial⟩))
 refine WC.cond rfl (fun q2 => ?_) (fun q2 => ?_)
 ·
  try simp only [Z1, Z2, Z3, Z4, Z5, Z6, Z7, Z8, Z9, Z0] at q2
  simp at q2
 ·
  try simp only [Z1, Z2, Z3, Z4, Z5, Z6, Z7, Z8, Z9, Z0] at q2
  refine WC.skip (WE.then_normal (WC.sub (fr' := [(6, _)]) ?_ ⟨rfl, trivial⟩))
  refine WC.seq (WC.region ?_)
  refine WL.q (oq_move rfl) rfl rfl rfl ?_
  refine WL.q (oq_nilCheck rfl) rfl rfl rfl ?_
  refine WL.q (oq_fieldAddr fld222_1 rfl) rfl rfl rfl ?_
  refine WL.q (oq_load flat159 rfl (.tail _ (.head _)) (by rw [hit]; exact ch_mem _ _ _ _) rfl) rfl rfl rfl ?_
  refine WL.q (oq_assign rfl) rfl rfl rfl ?_
  refine WL.q (oq_assign rfl) rfl rfl rfl ?_
  refine WL.nil (WE.then_normal (WC.sub (fr' := [(4, _), (5, _)]) ?_ ⟨rfl, rfl, trivial⟩))
  refine WC.ret ?_
  refine WE.endW2 (.inl rfl) (res2 Tryz.results107 rfl rfl) ?_
  exact ⟨rfl, rfl⟩
theorem GetM3 (base sb : Nat) (id : List UInt8) (items : List Nd) (hn : ∀ y ∈ items, y.id ≠ id) : FnW Tryz.prog 107 [Pt sb 0, S id] base [[(sb, .cells #[(hdp (items)), (lastp (items))] 220 (0, 0))], ch 218 222 243 items .nilIface] (fun v Hs => v = .tuple #[.nilIface, .bool false] ∧ Hs = [[(sb, .cells #[(hdp (items)), (lastp (items))] 220 (0, 0))], ch 218 222 243 items .nilIface]) := by
 refine FnW.enter (n := 20) Tryz.func107 rfl rfl fun w0 R0 hbase => ?_
 subst hbase
 show WC _ _ _ _ _ _ _ ([[(sb, .cells #[(hdp (items)), (lastp (items))] 220 (0, 0))], ch 218 222 243 items .nilIface, R0])
 refine WC.sub (fr' := [(0, _), (1, _)]) ?_ ⟨rfl, rfl, trivial⟩
 refine WC.seq (WC.region ?_)
 refine WL.q (oq_assign rfl) rfl rfl rfl ?_
 refine WL.q (oq_assign rfl) rfl rfl rfl ?_
 refine WL.nil (WE.then_normal (WC.sub (fr' := [(0, _), (1, _)]) ?_ ⟨rfl, rfl, trivial⟩))
 refine WC.seq (WC.region ?_)
 refine WL.q (oq_move rfl) rfl rfl rfl ?_
 refine WL.q (oq_move rfl) rfl rfl rfl ?_
 refine WL.f1 ?_
 refine WL.f1 ?_
 refine WL.callW2 (gotM3 _ sb id items hn) call126 rfl rfl rfl fun v1_2 Hs1_2 hR1_2 => ?_
 obtain ⟨rfl, rfl⟩ := hR1_2
 refine WL.to2 ?_
 refine WL.q (oq_move rfl) rfl rfl rfl ?_
 refine WL.q (oq_extract rfl rfl) rfl rfl rfl ?_
 refine WL.q (oq_extract rfl rfl) rfl rfl rfl ?_
 refine WL.q (oq_assign rfl) rfl rfl rfl ?_
 refine WL.q (oq_assign rfl) rfl rfl rfl ?_
 refine WL.nil (WE.then_normal (WC.sub (fr' := [(6, _)]) ?_ ⟨rfl, trivial⟩))
 refine WC.seq (WC.seq (WC.region ?_))
 refine WL.q (oq_move rfl) rfl rfl rfl ?_
 refine WL.q (oq_peql Tryz.underlying218 rfl rfl) rfl rfl rfl ?_
 refine WL.nil (WE.then_normal (WC.sub (fr' := [(6, _), (15, _)]) ?_ ⟨rfl, rfl, trivial⟩))
 refine WC.cond rfl (fun q2 => ?_) (fun q2 => ?_)
 ·
  try simp only [Z1, Z2, Z3, Z4, Z5, Z6, Z7, Z8, Z9, Z0] at q2
  refine WC.seq (WC.region ?_)
  refine WL.q (oq_assign rfl) rfl rfl rfl ?_
  refine WL.q (oq_assign rfl) rfl rfl rfl ?_
  refine WL.nil (WE.then_normal (WC.sub (fr' := [(4, _), (5, _)]) ?_ ⟨rfl, rfl, trivial⟩))
  refine WC.ret (WE.then_ret ?_)
  refine WE.endW2 (.inl rfl) (res2 Tryz.results107 rfl rfl) ?_
  exact ⟨rfl, rfl⟩
 ·
  try simp only [Z1, Z2, Z3, Z4, Z5, Z6, Z7, Z8, Z9, Z0] at q2
  simp at q2
theorem Clear3 (base sb : Nat) (hv tv : Value) : FnW Tryz.prog 105 [Pt sb 0] base [[(sb, .cells #[hv, tv] 220 (0, 0))]] (fun v Hs => Hs = [[(sb, .cells #[.pointer none, .pointer none] 220 (0, 0))]]) := by
 refine FnW.enter (n := 8) Tryz.func105 rfl rfl fun w0 R0 hbase => ?_
 subst hbase
 show WC _ _ _ _ _ _ _ ([[(sb, .cells #[hv, tv] 220 (0, 0))], R0])
 refine WC.sub (fr' := [(0, _)]) ?_ ⟨rfl, trivial⟩
 refine WC.seq (WC.region ?_)
 refine WL.q (oq_move rfl) rfl rfl rfl ?_
 refine WL.q (oq_nilCheck rfl) rfl rfl rfl ?_
 refine WL.q (oq_fieldAddr fld220_0 rfl) rfl rfl rfl ?_
 refine WL.store1 #[_, _] ty218 rfl rfl (by first | rfl | exact OwS.one one_) (Nat.lt_of_lt_of_le (Nat.lt_succ_self _) (Nat.le_of_ble_eq_true rfl)) rfl rfl ?_
 refine WL.nil (WE.then_normal (WC.sub (fr' := [(0, _)]) ?_ ⟨rfl, trivial⟩))
 refine WC.region ?_
 refine WL.q (oq_move rfl) rfl rfl rfl ?_
 refine WL.q (oq_nilCheck rfl) rfl rfl rfl ?_
 refine WL.q (oq_fieldAddr fld220_1 rfl) rfl rfl rfl ?_
 refine WL.store1 #[_, _] ty218 rfl rfl (by first | rfl | exact OwS.one one_) (Nat.lt_of_lt_of_le (Nat.lt_succ_self _) (Nat.le_of_ble_eq_true rfl)) rfl rfl ?_
 refine WL.nil ?_
 refine WE.endW1 (.inr rfl) (res0 Tryz.results105) ?_
 exact rfl
theorem addN3 (base sb : Nat) (id : List UInt8) (fv : Value) (pos : Int) : FnW Tryz.prog 98 [Pt sb 0, .iface 243 (.agg #[S id, fv]), I pos] base [[(sb, .cells #[.pointer none, .pointer none] 220 (0, 0))]] (fun v Hs => v = .nilIface ∧ ∃ e, base ≤ e ∧ Hs = [[(sb, .cells #[Pt e 0, Pt e 0] 220 (0, 0))], [(e, .cells #[.nilIface, .iface 243 (.agg #[S id, fv])] 222 (0, 0))]]) := by
 refine FnW.enter (n := 54) Tryz.func98 rfl rfl fun w0 R0 hbase => ?_
 subst hbase
 show WC _ _ _ _ _ _ _ ([[(sb, .cells #[.pointer none, .pointer none] 220 (0, 0))], R0])
 refine WC.sub (fr' := [(0, _), (1, _), (2, _)]) ?_ ⟨rfl, rfl, rfl, trivial⟩
 refine WC.seq (WC.region ?_)
 refine WL.q (oq_assign rfl) rfl rfl rfl ?_
 refine WL.nil (WE.then_normal (WC.sub (fr' := [(0, _), (1, _), (2, _)]) ?_ ⟨rfl, rfl, rfl, trivial⟩))
 refine WC.seq (WC.seq (WC.region ?_))
 refine WL.q (oq_move rfl) rfl rfl rfl ?_
 refine WL.q (oq_nilCheck rfl) rfl rfl rfl ?_
 refine WL.q (oq_fieldAddr fld220_0 rfl) rfl rfl rfl ?_
 refine WL.q (oq_load flat218 rfl (.head _) (List.mem_singleton.2 rfl) rfl) rfl rfl rfl ?_
 refine WL.q (oq_peql Tryz.underlying218 rfl rfl) rfl rfl rfl ?_
 refine WL.nil (WE.then_normal (WC.sub (fr' := [(0, _), (1, _), (2, _), (12, _)]) ?_ ⟨rfl, rfl, rfl, rfl, trivial⟩))
 refine WC.cond rfl (fun q1 => ?_) (fun q1 => ?_)
 ·
  try simp only [Z1, Z2, Z3, Z4, Z5, Z6, Z7, Z8, Z9, Z0] at q1
  refine WC.seq (WC.region ?_)
  refine WL.q (oq_move rfl) rfl rfl rfl ?_
  refine WL.q (oq_move rfl) rfl rfl rfl ?_
  refine WL.q (oq_build #[_, _] str222 ty222 rfl rfl) rfl rfl rfl ?_
  refine WL.box rfl rfl rfl fun e he => ?_
  refine WL.q (oq_nilCheck rfl) rfl rfl rfl ?_
  refine WL.q (oq_fieldAddr fld220_0 rfl) rfl rfl rfl ?_
  refine WL.f1 ?_
  refine WL.store1 #[_, _] ty218 rfl rfl (by first | rfl | exact OwS.one one_) (Nat.lt_of_lt_of_le (Nat.lt_succ_self _) (Nat.le_of_ble_eq_true rfl)) rfl rfl ?_
  refine WL.nil (WE.then_normal (WC.sub (fr' := [(0, _)]) ?_ ⟨rfl, trivial⟩))
  refine WC.seq (WC.region ?_)
  refine WL.q (oq_move rfl) rfl rfl rfl ?_
  refine WL.q (oq_move rfl) rfl rfl rfl ?_
  refine WL.q (oq_nilCheck rfl) rfl rfl rfl ?_
  refine WL.q (oq_fieldAddr fld220_0 rfl) rfl rfl rfl ?_
  refine WL.q (oq_load flat218 rfl (.head _) (List.mem_singleton.2 rfl) rfl) rfl rfl rfl ?_
  refine WL.q (oq_nilCheck rfl) rfl rfl rfl ?_
  refine WL.q (oq_fieldAddr fld220_1 rfl) rfl rfl rfl ?_
  refine WL.store1 #[_, _] ty218 rfl rfl (by first | rfl | exact OwS.one one_) (Nat.lt_of_lt_of_le (Nat.lt_succ_self _) (Nat.le_of_ble_eq_true rfl)) rfl rfl ?_
  refine WL.nil (WE.then_normal (WC.sub (fr' := []) ?_ trivial))
  refine WC.seq (WC.region ?_)
  refine WL.q (oq_assign rfl) rfl rfl rfl ?_
  refine WL.nil (WE.then_normal (WC.sub (fr' := [(6, _)]) ?_ ⟨rfl, trivial⟩))
  refine WC.ret (WE.then_ret ?_)
  refine WE.endW2 (.inl rfl) (res1 Tryz.results98 rfl) ?_
  exact ⟨rfl, e, he, rfl⟩
 ·
  try simp only [Z1, Z2, Z3, Z4, Z5, Z6, Z7, Z8, Z9, Z0] at q1
  simp at q1
theorem addB3 (base sb hb : Nat) (tv : Value) (id : List UInt8) (fv : Value) : FnW Tryz.prog 98 [Pt sb 0, .iface 243 (.agg #[S id, fv]), I 1] base [[(sb, .cells #[Pt hb 0, tv] 220 (0, 0))]] (fun v Hs => v = .nilIface ∧ ∃ e, base ≤ e ∧ Hs = [[(sb, .cells #[Pt e 0, tv] 220 (0, 0))], [(e, .cells #[.iface 218 (Pt hb 0), .iface 243 (.agg #[S id, fv])] 222 (0, 0))]]) := by
 refine FnW.enter (n := 54) Tryz.func98 rfl rfl fun w0 R0 hbase => ?_
 subst hbase
 show WC _ _ _ _ _ _ _ ([[(sb, .cells #[Pt hb 0, tv] 220 (0, 0))], R0])
 refine WC.sub (fr' := [(0, _), (1, _), (2, _)]) ?_ ⟨rfl, rfl, rfl, trivial⟩
 refine WC.seq (WC.region ?_)
 refine WL.q (oq_assign rfl) rfl rfl rfl ?_
 refine WL.nil (WE.then_normal (WC.sub (fr' := [(0, _), (1, _), (2, _)]) ?_ ⟨rfl, rfl, rfl, trivial⟩))
 refine WC.seq (WC.seq (WC.region ?_))
 refine WL.q (oq_move rfl) rfl rfl rfl ?_
 refine WL.q (oq_nilCheck rfl) rfl rfl rfl ?_
 refine WL.q (oq_fieldAddr fld220_0 rfl) rfl rfl rfl ?_
 refine WL.q (oq_load flat218 rfl (.head _) (List.mem_singleton.2 rfl) rfl) rfl rfl rfl ?_
 refine WL.q (oq_peql Tryz.underlying218 rfl rfl) rfl rfl rfl ?_
 refine WL.nil (WE.then_normal (WC.sub (fr' := [(0, _), (1, _), (2, _), (12, _)]) ?_ ⟨rfl, rfl, rfl, rfl, trivial⟩))
 refine WC.cond rfl (fun q1 => ?_) (fun q1 => ?_)
 ·
  try simp only [Z1, Z2, Z3, Z4, Z5, Z6, Z7, Z8, Z9, Z0] at q1
  first | (simp at q1; done) | (simp at q5; done) | (exfalso; omega)
 ·
  try simp only [Z1, Z2, Z3, Z4, Z5, Z6, Z7, Z8, Z9, Z0] at q1
  refine WC.skip (WE.then_normal (WC.sub (fr' := [(0, _), (1, _), (2, _)]) ?_ ⟨rfl, rfl, rfl, trivial⟩))
  refine WC.seq (WC.seq (WC.region ?_))
  refine WL.q (oq_move rfl) rfl rfl rfl ?_
  refine WL.q (oq_eql rfl rfl) rfl rfl rfl ?_
  refine WL.nil (WE.then_normal (WC.sub (fr' := [(0, _), (1, _), (27, _)]) ?_ ⟨rfl, rfl, rfl, trivial⟩))
  refine WC.cond rfl (fun q5 => ?_) (fun q5 => ?_)
  ·
   try simp only [Z1, Z2, Z3, Z4, Z5, Z6, Z7, Z8, Z9, Z0] at q5
   refine WC.region ?_
   refine WL.q (oq_move rfl) rfl rfl rfl ?_
   refine WL.q (oq_move rfl) rfl rfl rfl ?_
   refine WL.q (oq_nilCheck rfl) rfl rfl rfl ?_
   refine WL.q (oq_fieldAddr fld220_0 rfl) rfl rfl rfl ?_
   refine WL.q (oq_load flat218 rfl (.head _) (List.mem_singleton.2 rfl) rfl) rfl rfl rfl ?_
   refine WL.q (oq_makeI conc218 rfl) rfl rfl rfl ?_
   refine WL.q (oq_move rfl) rfl rfl rfl ?_
   refine WL.q (oq_build #[_, _] str222 ty222 rfl rfl) rfl rfl rfl ?_
   refine WL.box rfl rfl rfl fun e he => ?_
   refine WL.q (oq_nilCheck rfl) rfl rfl rfl ?_
   refine WL.q (oq_fieldAddr fld220_0 rfl) rfl rfl rfl ?_
   refine WL.f1 ?_
   refine WL.store1 #[_, _] ty218 rfl rfl (by first | rfl | exact OwS.one one_) (Nat.lt_of_lt_of_le (Nat.lt_succ_self _) (Nat.le_of_ble_eq_true rfl)) rfl rfl ?_
   refine WL.nil (WE.then_normal (WC.sub (fr' := []) ?_ trivial))
   refine WC.seq (WC.region ?_)
   refine WL.q (oq_assign rfl) rfl rfl rfl ?_
   refine WL.nil (WE.then_normal (WC.sub (fr' := [(6, _)]) ?_ ⟨rfl, trivial⟩))
   refine WC.ret ?_
   refine WE.endW2 (.inl rfl) (res1 Tryz.results98 rfl) ?_
   exact ⟨rfl, e, he, rfl⟩
  ·
   try simp only [Z1, Z2, Z3, Z4, Z5, Z6, Z7, Z8, Z9, Z0] at q5
   first | (simp at q1; done) | (simp at q5; done) | (exfalso; omega)
theorem addA3 (base sb hb lb : Nat) (lw : Value) (id : List UInt8) (fv : Value) : FnW Tryz.prog 98 [Pt sb 0, .iface 243 (.agg #[S id, fv]), I 0] base [[(sb, .cells #[Pt hb 0, Pt lb 0] 220 (0, 0))], [(lb, .cells #[.nilIface, lw] 222 (0, 0))]] (fun v Hs => v = .nilIface ∧ ∃ e, base ≤ e ∧ Hs = [[(sb, .cells #[Pt hb 0, Pt e 0] 220 (0, 0))], [(lb, .cells #[.iface 218 (Pt e 0), lw] 222 (0, 0))], [(e, .cells #[.nilIface, .iface 243 (.agg #[S id, fv])] 222 (0, 0))]]) := by
 refine FnW.enter (n := 54) Tryz.func98 rfl rfl fun w0 R0 hbase => ?_
 subst hbase
 show WC _ _ _ _ _ _ _ ([[(sb, .cells #[Pt hb 0, Pt lb 0] 220 (0, 0))], [(lb, .cells #[.nilIface, lw] 222 (0, 0))], R0])
 refine WC.sub (fr' := [(0, _), (1, _), (2, _)]) ?_ ⟨rfl, rfl, rfl, trivial⟩
 refine WC.seq (WC.region ?_)
 refine WL.q (oq_assign rfl) rfl rfl rfl ?_
 refine WL.nil (WE.then_normal (WC.sub (fr' := [(0, _), (1, _), (2, _)]) ?_ ⟨rfl, rfl, rfl, trivial⟩))
 refine WC.seq (WC.seq (WC.region ?_))
 refine WL.q (oq_move rfl) rfl rfl rfl ?_
 refine WL.q (oq_nilCheck rfl) rfl rfl rfl ?_
 refine WL.q (oq_fieldAddr fld220_0 rfl) rfl rfl rfl ?_
 refine WL.q (oq_load flat218 rfl (.head _) (List.mem_singleton.2 rfl) rfl) rfl rfl rfl ?_
 refine WL.q (oq_peql Tryz.underlying218 rfl rfl) rfl rfl rfl ?_
 refine WL.nil (WE.then_normal (WC.sub (fr' := [(0, _), (1, _), (2, _), (12, _)]) ?_ ⟨rfl, rfl, rfl, rfl, trivial⟩))
 refine WC.cond rfl (fun q1 => ?_) (fun q1 => ?_)
 ·
  try simp only [Z1, Z2, Z3, Z4, Z5, Z6, Z7, Z8, Z9, Z0] at q1
  first | (simp at q1; done) | (simp at q5; done) | (exfalso; omega)
 ·
  try simp only [Z1, Z2, Z3, Z4, Z5, Z6, Z7, Z8, Z9, Z0] at q1
  refine WC.skip (WE.then_normal (WC.sub (fr' := [(0, _), (1, _), (2, _)]) ?_ ⟨rfl, rfl, rfl, trivial⟩))
  refine WC.seq (WC.seq (WC.region ?_))
  refine WL.q (oq_move rfl) rfl rfl rfl ?_
  refine WL.q (oq_eql rfl rfl) rfl rfl rfl ?_
  refine WL.nil (WE.then_normal (WC.sub (fr' := [(0, _), (1, _), (27, _)]) ?_ ⟨rfl, rfl, rfl, trivial⟩))
  refine WC.cond rfl (fun q5 => ?_) (fun q5 => ?_)
  ·
   try simp only [Z1, Z2, Z3, Z4, Z5, Z6, Z7, Z8, Z9, Z0] at q5
   first | (simp at q1; done) | (simp at q5; done) | (exfalso; omega)
  ·
   try simp only [Z1, Z2, Z3, Z4, Z5, Z6, Z7, Z8, Z9, Z0] at q5
   refine WC.seq (WC.region ?_)
   refine WL.q (oq_move rfl) rfl rfl rfl ?_
   refine WL.q (oq_build #[_, _] str222 ty222 rfl rfl) rfl rfl rfl ?_
   refine WL.box rfl rfl rfl fun e he => ?_
   refine WL.q (oq_assign rfl) rfl rfl rfl ?_
   refine WL.nil (WE.then_normal (WC.sub (fr' := [(0, _), (7, _)]) ?_ ⟨rfl, rfl, trivial⟩))
   refine WC.seq (WC.region ?_)
   refine WL.q (oq_move rfl) rfl rfl rfl ?_
   refine WL.q (oq_nilCheck rfl) rfl rfl rfl ?_
   refine WL.q (oq_fieldAddr fld220_1 rfl) rfl rfl rfl ?_
   refine WL.q (oq_load flat218 rfl (.tail _ (.head _)) (List.mem_singleton.2 rfl) rfl) rfl rfl rfl ?_
   refine WL.q (oq_move rfl) rfl rfl rfl ?_
   refine WL.q (oq_makeI conc218 rfl) rfl rfl rfl ?_
   refine WL.q (oq_nilCheck rfl) rfl rfl rfl ?_
   refine WL.q (oq_fieldAddr fld222_0 rfl) rfl rfl rfl ?_
   refine WL.f2 ?_
   refine WL.store1 #[_, _] ty163 rfl rfl (by first | rfl | exact OwS.one one_) (Nat.lt_of_lt_of_le (Nat.lt_succ_self _) (Nat.le_of_ble_eq_true rfl)) rfl rfl ?_
   refine WL.nil (WE.then_normal (WC.sub (fr' := [(0, _), (7, _)]) ?_ ⟨rfl, rfl, trivial⟩))
   refine WC.region ?_
   refine WL.q (oq_move rfl) rfl rfl rfl ?_
   refine WL.q (oq_move rfl) rfl rfl rfl ?_
   refine WL.q (oq_nilCheck rfl) rfl rfl rfl ?_
   refine WL.q (oq_fieldAddr fld220_1 rfl) rfl rfl rfl ?_
   refine WL.f2 ?_
   refine WL.store1 #[_, _] ty218 rfl rfl (by first | rfl | exact OwS.one one_) (Nat.lt_of_lt_of_le (Nat.lt_succ_self _) (Nat.le_of_ble_eq_true rfl)) rfl rfl ?_
   refine WL.nil (WE.then_normal (WC.sub (fr' := []) ?_ trivial))
   refine WC.seq (WC.region ?_)
   refine WL.q (oq_assign rfl) rfl rfl rfl ?_
   refine WL.nil (WE.then_normal (WC.sub (fr' := [(6, _)]) ?_ ⟨rfl, trivial⟩))
   refine WC.ret ?_
   refine WE.endW3 (.inl rfl) (res1 Tryz.results98 rfl) ?_
   exact ⟨rfl, e, he, rfl⟩
theorem got4 (base sb : Nat) (id : List UInt8) (items : List Nd) : FnW Tryz.prog 127 [Pt sb 0, S id] base [[(sb, .cells #[(hdp (items)), (lastp (items))] 226 (0, 0))], ch 224 228 247 items .nilIface] (fun v Hs => GotV id items v ∧ Hs = [[(sb, .cells #[(hdp (items)), (lastp (items))] 226 (0, 0))], ch 224 228 247 items .nilIface]) := by
 cases items with
 | nil => exact (getN4 base sb id).reg (by simp [ch, hdp, lastp]) (fun v Hs h => ⟨_, ⟨h.1, rfl⟩, by rw [h.2]; simp [ch, hdp, lastp]⟩)
 | cons x r => exact getC4 base sb (x :: r) x r rfl id
theorem gotH4 (base sb : Nat) (id : List UInt8) (A B : List Nd) (x : Nd) (items : List Nd) (hit : items = A ++ x :: B) (hx : x.id = id) (hA : ∀ y ∈ A, y.id ≠ id) : FnW Tryz.prog 127 [Pt sb 0, S id] base [[(sb, .cells #[(hdp (items)), (lastp (items))] 226 (0, 0))], ch 224 228 247 items .nilIface] (fun v Hs => v = .tuple #[Pt x.b 0, lastp A] ∧ Hs = [[(sb, .cells #[(hdp (items)), (lastp (items))] 226 (0, 0))], ch 224 228 247 items .nilIface]) :=
 (got4 base sb id items).mono fun v Hs h => ⟨by have h1 := h.1; rw [hit] at h1; exact got_hit h1 hx hA, h.2⟩
theorem gotM4 (base sb : Nat) (id : List UInt8) (items : List Nd) (hn : ∀ y ∈ items, y.id ≠ id) : FnW Tryz.prog 127 [Pt sb 0, S id] base [[(sb, .cells #[(hdp (items)), (lastp (items))] 226 (0, 0))], ch 224 228 247 items .nilIface] (fun v Hs => v = .tuple #[.pointer none, lastp items] ∧ Hs = [[(sb, .cells #[(hdp (items)), (lastp (items))] 226 (0, 0))], ch 224 228 247 items .nilIface]) :=
 (got4 base sb id items).mono fun v Hs h => ⟨got_miss h.1 hn, h.2⟩
theorem GetH4 (base sb : Nat) (A B : List Nd) (x : Nd) (items : List Nd) (hit : items = A ++ x :: B) (hA : ∀ y ∈ A, y.id ≠ x.id)  : FnW Tryz.prog 121 [Pt sb 0, S x.id] base [[(sb, .cells #[(hdp (items)), (lastp (items))] 226 (0, 0))], ch 224 228 247 items .nilIface] (fun v Hs => v = .tuple #[wv 247 x, .bool true] ∧ Hs = [[(sb, .cells #[(hdp (items)), (lastp (items))] 226 (0, 0))], ch 224 228 247 items .nilIface]) := by
 refine FnW.enter (n := 20) Tryz.func121 rfl rfl fun w0 R0 hbase => ?_
 subst hbase
 show WC _ _ _ _ _ _ _ ([[(sb, .cells #[(hdp (items)), (lastp (items))] 226 (0, 0))], ch 224 228 247 items .nilIface, R0])
 refine WC.sub (fr' := [(0, _), (1, _)]) ?_ ⟨rfl, rfl, trivial⟩
 refine WC.seq (WC.region ?_)
 refine WL.q (oq_assign rfl) rfl rfl rfl ?_
 refine WL.q (oq_assign rfl) rfl rfl rfl ?_
 refine WL.nil (WE.then_normal (WC.sub (fr' := [(0, _), (1, _)]) ?_ ⟨rfl, rfl, trivial⟩))
 refine WC.seq (WC.region ?_)
 refine WL.q (oq_move rfl) rfl rfl rfl ?_
 refine WL.q (oq_move rfl) rfl rfl rfl ?_
 refine WL.f1 ?_
 refine WL.f1 ?_
 refine WL.callW2 (gotH4 _ sb x.id A B x items hit rfl hA) call127 rfl rfl rfl fun v1_2 Hs1_2 hR1_2 => ?_
 obtain ⟨rfl, rfl⟩ := hR1_2
 refine WL.to2 ?_
 refine WL.q (oq_move rfl) rfl rfl rfl ?_
 refine WL.q (oq_extract rfl rfl) rfl rfl rfl ?_
 refine WL.q (oq_extract rfl rfl) rfl rfl rfl ?_
 refine WL.q (oq_assign rfl) rfl rfl rfl ?_
 refine WL.q (oq_assign rfl) rfl rfl rfl ?_
 refine WL.nil (WE.then_normal (WC.sub (fr' := [(6, _)]) ?_ ⟨rfl, trivial⟩))
 refine WC.seq (WC.seq (WC.region ?_))
 refine WL.q (oq_move rfl) rfl rfl rfl ?_
 refine WL.q (oq_peql Tryz.underlying224 rfl rfl) rfl rfl rfl ?_
 refine WL.nil (WE.then_normal (WC.sub (fr' := [(6, _), (15, _)]) ?_ ⟨rfl, rfl, trivial⟩))
 refine WC.cond rfl (fun q2 => ?_) (fun q2 => ?_)
 ·
  try simp only [Z1, Z2, Z3, Z4, Z5, Z6, Z7, Z8, Z9, Z0] at q2
  simp at q2
 ·
  try simp only [Z1, Z2, Z3, Z4, Z5, Z6, Z7, Z8, Z9, Z0] at q2
  refine WC.skip (WE.then_normal (WC.sub (fr' := [(6, _)]) ?_ ⟨rfl, trivial⟩))
  refine WC.seq (WC.region ?_)
  refine WL.q (oq_move rfl) rfl rfl rfl ?_
  refine WL.q (oq_nilCheck rfl) rfl rfl rfl ?_
  refine WL.q (oq_fieldAddr fld228_1 rfl) rfl rfl rfl ?_
  refine WL.q (oq_load flat177 rfl (.tail _ (.head _)) (by rw [hit]; exact ch_mem _ _ _ _) rfl) rfl rfl rfl ?_
  refine WL.q (oq_assign rfl) rfl rfl rfl ?_
  refine WL.q (oq_assign rfl) rfl rfl rfl ?_
  refine WL.nil (WE.then_normal (WC.sub (fr' := [(4, _), (5, _)]) ?_ ⟨rfl, rfl, trivial⟩))
  refine WC.ret ?_
  refine WE.endW2 (.inl rfl) (res2 Tryz.results121 rfl rfl) ?_
  exact ⟨rfl, rfl⟩
theorem GetM4 (base sb : Nat) (id : List UInt8) (items : List Nd) (hn : ∀ y ∈ items, y.id ≠ id) : FnW Tryz.prog 121 [Pt sb 0, S id] base [[(sb, .cells #[(hdp (items)), (lastp (items))] 226 (0, 0))], ch 224 228 247 items .nilIface] (fun v Hs => v = .tuple #[.nilIface, .bool false] ∧ Hs = [[(sb, .cells #[(hdp (items)), (lastp (items))] 226 (0, 0))], ch 224 228 247 items .nilIface]) := by
 refine FnW.enter (n := 20) Tryz.func121 rfl rfl fun w0 R0 hbase => ?_
 subst hbase
 show WC _ _ _ _ _ _ _ ([[(sb, .cells #[(hdp (items)), (lastp (items))] 226 (0, 0))], ch 224 228 247 items .nilIface, R0])
 refine WC.sub (fr' := [(0, _), (1, _)]) ?_ ⟨rfl, rfl, trivial⟩
 refine WC.seq (WC.region ?_)
 refine WL.q (oq_assign rfl) rfl rfl rfl ?_
 refine WL.q (oq_assign rfl) rfl rfl rfl ?_
 refine WL.nil (WE.then_normal (WC.sub (fr' := [(0, _), (1, _)]) ?_ ⟨rfl, rfl, trivial⟩))
 refine WC.seq (WC.region ?_)
 refine WL.q (oq_move rfl) rfl rfl rfl ?_
 refine WL.q (oq_move rfl) rfl rfl rfl ?_
 refine WL.f1 ?_
 refine WL.f1 ?_
 refine WL.callW2 (gotM4 _ sb id items hn) call127 rfl rfl rfl fun v1_2 Hs1_2 hR1_2 => ?_
 obtain ⟨rfl, rfl⟩ := hR1_2
 refine WL.to2 ?_
 refine WL.q (oq_move rfl) rfl rfl rfl ?_
 refine WL.q (oq_extract rfl rfl) rfl rfl rfl ?_
 refine WL.q (oq_extract rfl rfl) rfl rfl rfl ?_
 refine WL.q (oq_assign rfl) rfl rfl rfl ?_
 refine WL.q (oq_assign rfl) rfl rfl rfl ?_
 refine WL.nil (WE.then_normal (WC.sub (fr' := [(6, _)]) ?_ ⟨rfl, trivial⟩))
 refine WC.seq (WC.seq (WC.region ?_))
 refine WL.q (oq_move rfl) rfl rfl rfl ?_
 refine WL.q (oq_peql Tryz.underlying224 rfl rfl) rfl rfl rfl ?_
 refine WL.nil (WE.then_normal (WC.sub (fr' := [(6, _), (15, _)]) ?_ ⟨rfl, rfl, trivial⟩))
 refine WC.cond rfl (fun q2 => ?_) (fun q2 => ?_)
 ·
  try simp only [Z1, Z2, Z3, Z4, Z5, Z6, Z7, Z8, Z9, Z0] at q2
  refine WC.seq (WC.region ?_)
  refine WL.q (oq_assign rfl) rfl rfl rfl ?_
  refine WL.q (oq_assign rfl) rfl rfl rfl ?_
  refine WL.nil (WE.then_normal (WC.sub (fr' := [(4, _), (5, _)]) ?_ ⟨rfl, rfl, trivial⟩))
  refine WC.ret (WE.then_ret ?_)
  refine WE.endW2 (.inl rfl) (res2 Tryz.results121 rfl rfl) ?_
  exact ⟨rfl, rfl⟩
 ·
  try simp only [Z1, Z2, Z3, Z4, Z5, Z6, Z7, Z8, Z9, Z0] at q2
  simp at q2
theorem Clear4 (base sb : Nat) (hv tv : Value) : FnW Tryz.prog 119 [Pt sb 0] base [[(sb, .cells #[hv, tv] 226 (0, 0))]] (fun v Hs => Hs = [[(sb, .cells #[.pointer none, .pointer none] 226 (0, 0))]]) := by
 refine FnW.enter (n := 8) Tryz.func119 rfl rfl fun w0 R0 hbase => ?_
 subst hbase
 show WC _ _ _ _ _ _ _ ([[(sb, .cells #[hv, tv] 226 (0, 0))], R0])
 refine WC.sub (fr' := [(0, _)]) ?_ ⟨rfl, trivial⟩
 refine WC.seq (WC.region ?_)
 refine WL.q (oq_move rfl) rfl rfl rfl ?_
 refine WL.q (oq_nilCheck rfl) rfl rfl rfl ?_
 refine WL.q (oq_fieldAddr fld226_0 rfl) rfl rfl rfl ?_
 refine WL.store1 #[_, _] ty224 rfl rfl (by first | rfl | exact OwS.one one_) (Nat.lt_of_lt_of_le (Nat.lt_succ_self _) (Nat.le_of_ble_eq_true rfl)) rfl rfl ?_
 refine WL.nil (WE.then_normal (WC.sub (fr' := [(0, _)]) ?_ ⟨rfl, trivial⟩))
 refine WC.region ?_
 refine WL.q (oq_move rfl) rfl rfl rfl ?_
 refine WL.q (oq_nilCheck rfl) rfl rfl rfl ?_
 refine WL.q (oq_fieldAddr fld226_1 rfl) rfl rfl rfl ?_
 refine WL.store1 #[_, _] ty224 rfl rfl (by first | rfl | exact OwS.one one_) (Nat.lt_of_lt_of_le (Nat.lt_succ_self _) (Nat.le_of_ble_eq_true rfl)) rfl rfl ?_
 refine WL.nil ?_
 refine WE.endW1 (.inr rfl) (res0 Tryz.results119) ?_
 exact rfl
theorem addN4 (base sb : Nat) (id : List UInt8) (fv : Value) (pos : Int) : FnW Tryz.prog 112 [Pt sb 0, .iface 247 (.agg #[S id, fv]), I pos] base [[(sb, .cells #[.pointer none, .pointer none] 226 (0, 0))]] (fun v Hs => v = .nilIface ∧ ∃ e, base ≤ e ∧ Hs = [[(sb, .cells #[Pt e 0, Pt e 0] 226 (0, 0))], [(e, .cells #[.nilIface, .iface 247 (.agg #[S id, fv])] 228 (0, 0))]]) := by
 refine FnW.enter (n := 54) Tryz.func112 rfl rfl fun w0 R0 hbase => ?_
 subst hbase
 show WC _ _ _ _ _ _ _ ([[(sb, .cells #[.pointer none, .pointer none] 226 (0, 0))], R0])
 refine WC.sub (fr' := [(0, _), (1, _), (2, _)]) ?_ ⟨rfl, rfl, rfl, trivial⟩
 refine WC.seq (WC.region ?_)
 refine WL.q (oq_assign rfl) rfl rfl rfl ?_
 refine WL.nil (WE.then_normal (WC.sub (fr' := [(0, _), (1, _), (2, _)]) ?_ ⟨rfl, rfl, rfl, trivial⟩))
 refine WC.seq (WC.seq (WC.region ?_))
 refine WL.q (oq_move rfl) rfl rfl rfl ?_
 refine WL.q (oq_nilCheck rfl) rfl rfl rfl ?_
 refine WL.q (oq_fieldAddr fld226_0 rfl) rfl rfl rfl ?_
 refine WL.q (oq_load flat224 rfl (.head _) (List.mem_singleton.2 rfl) rfl) rfl rfl rfl ?_
 refine WL.q (oq_peql Tryz.underlying224 rfl rfl) rfl rfl rfl ?_
 refine WL.nil (WE.then_normal (WC.sub (fr' := [(0, _), (1, _), (2, _), (12, _)]) ?_ ⟨rfl, rfl, rfl, rfl, trivial⟩))
 refine WC.cond rfl (fun q1 => ?_) (fun q1 => ?_)
 ·
  try simp only [Z1, Z2, Z3, Z4, Z5, Z6, Z7, Z8, Z9, Z0] at q1
  refine WC.seq (WC.region ?_)
  refine WL.q (oq_move rfl) rfl rfl rfl ?_
  refine WL.q (oq_move rfl) rfl rfl rfl ?_
  refine WL.q (oq_build #[_, _] str228 ty228 rfl rfl) rfl rfl rfl ?_
  refine WL.box rfl rfl rfl fun e he => ?_
  refine WL.q (oq_nilCheck rfl) rfl rfl rfl ?_
  refine WL.q (oq_fieldAddr fld226_0 rfl) rfl rfl rfl ?_
  refine WL.f1 ?_
  refine WL.store1 #[_, _] ty224 rfl rfl (by first | rfl | exact OwS.one one_) (Nat.lt_of_lt_of_le (Nat.lt_succ_self _) (Nat.le_of_ble_eq_true rfl)) rfl rfl ?_
  refine WL.nil (WE.then_normal (WC.sub (fr' := [(0, _)]) ?_ ⟨rfl, trivial⟩))
  refine WC.seq (WC.region ?_)
  refine WL.q (oq_move rfl) rfl rfl rfl ?_
  refine WL.q (oq_move rfl) rfl rfl rfl ?_
  refine WL.q (oq_nilCheck rfl) rfl rfl rfl ?_
  refine WL.q (oq_fieldAddr fld226_0 rfl) rfl rfl rfl ?_
  refine WL.q (oq_load flat224 rfl (.head _) (List.mem_singleton.2 rfl) rfl) rfl rfl rfl ?_
  refine WL.q (oq_nilCheck rfl) rfl rfl rfl ?_
  refine WL.q (oq_fieldAddr fld226_1 rfl) rfl rfl rfl ?_
  refine WL.store1 #[_, _] ty224 rfl rfl (by first | rfl | exact OwS.one one_) (Nat.lt_of_lt_of_le (Nat.lt_succ_self _) (Nat.le_of_ble_eq_true rfl)) rfl rfl ?_
  refine WL.nil (WE.then_normal (WC.sub (fr' := []) ?_ trivial))
  refine WC.seq (WC.region ?_)
  refine WL.q (oq_assign rfl) rfl rfl rfl ?_
  refine WL.nil (WE.then_normal (WC.sub (fr' := [(6, _)]) ?_ ⟨rfl, trivial⟩))
  refine WC.ret (WE.then_ret ?_)
  refine WE.endW2 (.inl rfl) (res1 Tryz.results112 rfl) ?_
  exact ⟨rfl, e, he, rfl⟩
 ·
  try simp only [Z1, Z2, Z3, Z4, Z5, Z6, Z7, Z8, Z9, Z0] at q1
  simp at q1
theorem addB4 (base sb hb : Nat) (tv : Value) (id : List UInt8) (fv : Value) : FnW Tryz.prog 112 [Pt sb 0, .iface 247 (.agg #[S id, fv]), I 1] base [[(sb, .cells #[Pt hb 0, tv] 226 (0, 0))]] (fun v Hs => v = .nilIface ∧ ∃ e, base ≤ e ∧ Hs = [[(sb, .cells #[Pt e 0, tv] 226 (0, 0))], [(e, .cells #[.iface 224 (Pt hb 0), .iface 247 (.agg #[S id, fv])] 228 (0, 0))]]) := by
 refine FnW.enter (n := 54) Tryz.func112 rfl rfl fun w0 R0 hbase => ?_
 subst hbase
 show WC _ _ _ _ _ _ _ ([[(sb, .cells #[Pt hb 0, tv] 226 (0, 0))], R0])
 refine WC.sub (fr' := [(0, _), (1, _), (2, _)]) ?_ ⟨rfl, rfl, rfl, trivial⟩
 refine WC.seq (WC.region ?_)
 refine WL.q (oq_assign rfl) rfl rfl rfl ?_
 refine WL.nil (WE.then_normal (WC.sub (fr' := [(0, _), (1, _), (2, _)]) ?_ ⟨rfl, rfl, rfl, trivial⟩))
 refine WC.seq (WC.seq (WC.region ?_))
 refine WL.q (oq_move rfl) rfl rfl rfl ?_
 refine WL.q (oq_nilCheck rfl) rfl rfl rfl ?_
 refine WL.q (oq_fieldAddr fld226_0 rfl) rfl rfl rfl ?_
 refine WL.q (oq_load flat224 rfl (.head _) (List.mem_singleton.2 rfl) rfl) rfl rfl rfl ?_
 refine WL.q (oq_peql Tryz.underlying224 rfl rfl) rfl rfl rfl ?_
 refine WL.nil (WE.then_normal (WC.sub (fr' := [(0, _), (1, _), (2, _), (12, _)]) ?_ ⟨rfl, rfl, rfl, rfl, trivial⟩))
 refine WC.cond rfl (fun q1 => ?_) (fun q1 => ?_)
 ·
  try simp only [Z1, Z2, Z3, Z4, Z5, Z6, Z7, Z8, Z9, Z0] at q1
  first | (simp at q1; done) | (simp at q5; done) | (exfalso; omega)
 ·
  try simp only [Z1, Z2, Z3, Z4, Z5, Z6, Z7, Z8, Z9, Z0] at q1
  refine WC.skip (WE.then_normal (WC.sub (fr' := [(0, _), (1, _), (2, _)]) ?_ ⟨rfl, rfl, rfl, trivial⟩))
  refine WC.seq (WC.seq (WC.region ?_))
  refine WL.q (oq_move rfl) rfl rfl rfl ?_
  refine WL.q (oq_eql rfl rfl) rfl rfl rfl ?_
  refine WL.nil (WE.then_normal (WC.sub (fr' := [(0, _), (1, _), (27, _)]) ?_ ⟨rfl, rfl, rfl, trivial⟩))
  refine WC.cond rfl (fun q5 => ?_) (fun q5 => ?_)
  ·
   try simp only [Z1, Z2, Z3, Z4, Z5, Z6, Z7, Z8, Z9, Z0] at q5
   refine WC.region ?_
   refine WL.q (oq_move rfl) rfl rfl rfl ?_
   refine WL.q (oq_move rfl) rfl rfl rfl ?_
   refine WL.q (oq_nilCheck rfl) rfl rfl rfl ?_
   refine WL.q (oq_fieldAddr fld226_0 rfl) rfl rfl rfl ?_
   refine WL.q (oq_load flat224 rfl (.head _) (List.mem_singleton.2 rfl) rfl) rfl rfl rfl ?_
   refine WL.q (oq_makeI conc224 rfl) rfl rfl rfl ?_
   refine WL.q (oq_move rfl) rfl rfl rfl ?_
   refine WL.q (oq_build #[_, _] str228 ty228 rfl rfl) rfl rfl rfl ?_
   refine WL.box rfl rfl rfl fun e he => ?_
   refine WL.q (oq_nilCheck rfl) rfl rfl rfl ?_
   refine WL.q (oq_fieldAddr fld226_0 rfl) rfl rfl rfl ?_
   refine WL.f1 ?_
   refine WL.store1 #[_, _] ty224 rfl rfl (by first | rfl | exact OwS.one one_) (Nat.lt_of_lt_of_le (Nat.lt_succ_self _) (Nat.le_of_ble_eq_true rfl)) rfl rfl ?_
   refine WL.nil (WE.then_normal (WC.sub (fr' := []) ?_ trivial))
   refine WC.seq (WC.region ?_)
   refine WL.q (oq_assign rfl) rfl rfl rfl ?_
   refine WL.nil (WE.then_normal (WC.sub (fr' := [(6, _)]) ?_ ⟨rfl, trivial⟩))
   refine WC.ret ?_
   refine WE.endW2 (.inl rfl) (res1 Tryz.results112 rfl) ?_
   exact ⟨rfl, e, he, rfl⟩
  ·
   try simp only [Z1, Z2, Z3, Z4, Z5, Z6, Z7, Z8, Z9, Z0] at q5
   first | (simp at q1; done) | (simp at q5; done) | (exfalso; omega)
theorem addA4 (base sb hb lb : Nat) (lw : Value) (id : List UInt8) (fv : Value) : FnW Tryz.prog 112 [Pt sb 0, .iface 247 (.agg #[S id, fv]), I 0] base [[(sb, .cells #[Pt hb 0, Pt lb 0] 226 (0, 0))], [(lb, .cells #[.nilIface, lw] 228 (0, 0))]] (fun v Hs => v = .nilIface ∧ ∃ e, base ≤ e ∧ Hs = [[(sb, .cells #[Pt hb 0, Pt e 0] 226 (0, 0))], [(lb, .cells #[.iface 224 (Pt e 0), lw] 228 (0, 0))], [(e, .cells #[.nilIface, .iface 247 (.agg #[S id, fv])] 228 (0, 0))]]) := by
 refine FnW.enter (n := 54) Tryz.func112 rfl rfl fun w0 R0 hbase => ?_
 subst hbase
 show WC _ _ _ _ _ _ _ ([[(sb, .cells #[Pt hb 0, Pt lb 0] 226 (0, 0))], [(lb, .cells #[.nilIface, lw] 228 (0, 0))], R0])
 refine WC.sub (fr' := [(0, _), (1, _), (2, _)]) ?_ ⟨rfl, rfl, rfl, trivial⟩
 refine WC.seq (WC.region ?_)
 refine WL.q (oq_assign rfl) rfl rfl rfl ?_
 refine WL.nil (WE.then_normal (WC.sub (fr' := [(0, _), (1, _), (2, _)]) ?_ ⟨rfl, rfl, rfl, trivial⟩))
 refine WC.seq (WC.seq (WC.region ?_))
 refine WL.q (oq_move rfl) rfl rfl rfl ?_
 refine WL.q (oq_nilCheck rfl) rfl rfl rfl ?_
 refine WL.q (oq_fieldAddr fld226_0 rfl) rfl rfl rfl ?_
 refine WL.q (oq_load flat224 rfl (.head _) (List.mem_singleton.2 rfl) rfl) rfl rfl rfl ?_
 refine WL.q (oq_peql Tryz.underlying224 rfl rfl) rfl rfl rfl ?_
 refine WL.nil (WE.then_normal (WC.sub (fr' := [(0, _), (1, _), (2, _), (12, _)]) ?_ ⟨rfl, rfl, rfl, rfl, trivial⟩))
 refine WC.cond rfl (fun q1 => ?_) (fun q1 => ?_)
 ·
  try simp only [Z1, Z2, Z3, Z4, Z5, Z6, Z7, Z8, Z9, Z0] at q1
  first | (simp at q1; done) | (simp at q5; done) | (exfalso; omega)
 ·
  try simp only [Z1, Z2, Z3, Z4, Z5, Z6, Z7, Z8, Z9, Z0] at q1
  refine WC.skip (WE.then_normal (WC.sub (fr' := [(0, _), (1, _), (2, _)]) ?_ ⟨rfl, rfl, rfl, trivial⟩))
  refine WC.seq (WC.seq (WC.region ?_))
  refine WL.q (oq_move rfl) rfl rfl rfl ?_
  refine WL.q (oq_eql rfl rfl) rfl rfl rfl ?_
  refine WL.nil (WE.then_normal (WC.sub (fr' := [(0, _), (1, _), (27, _)]) ?_ ⟨rfl, rfl, rfl, trivial⟩))
  refine WC.cond rfl (fun q5 => ?_) (fun q5 => ?_)
  ·
   try simp only [Z1, Z2, Z3, Z4, Z5, Z6, Z7, Z8, Z9, Z0] at q5
   first | (simp at q1; done) | (simp at q5; done) | (exfalso; omega)
  ·
   try simp only [Z1, Z2, Z3, Z4, Z5, Z6, Z7, Z8, Z9, Z0] at q5
   refine WC.seq (WC.region ?_)
   refine WL.q (oq_move rfl) rfl rfl rfl ?_
   refine WL.q (oq_build #[_, _] str228 ty228 rfl rfl) rfl rfl rfl ?_
   refine WL.box rfl rfl rfl fun e he => ?_
   refine WL.q (oq_assign rfl) rfl rfl rfl ?_
   refine WL.nil (WE.then_normal (WC.sub (fr' := [(0, _), (7, _)]) ?_ ⟨rfl, rfl, trivial⟩))
   refine WC.seq (WC.region ?_)
   refine WL.q (oq_move rfl) rfl rfl rfl ?_
   refine WL.q (oq_nilCheck rfl) rfl rfl rfl ?_
   refine WL.q (oq_fieldAddr fld226_1 rfl) rfl rfl rfl ?_
   refine WL.q (oq_load flat224 rfl (.tail _ (.head _)) (List.mem_singleton.2 rfl) rfl) rfl rfl rfl ?_
   refine WL.q (oq_move rfl) rfl rfl rfl ?_
   refine WL.q (oq_makeI conc224 rfl) rfl rfl rfl ?_
   refine WL.q (oq_nilCheck rfl) rfl rfl rfl ?_
   refine WL.q (oq_fieldAddr fld228_0 rfl) rfl rfl rfl ?_
   refine WL.f2 ?_
   refine WL.store1 #[_, _] ty181 rfl rfl (by first | rfl | exact OwS.one one_) (Nat.lt_of_lt_of_le (Nat.lt_succ_self _) (Nat.le_of_ble_eq_true rfl)) rfl rfl ?_
   refine WL.nil (WE.then_normal (WC.sub (fr' := [(0, _), (7, _)]) ?_ ⟨rfl, rfl, trivial⟩))
   refine WC.region ?_
   refine WL.q (oq_move rfl) rfl rfl rfl ?_
   refine WL.q (oq_move rfl) rfl rfl rfl ?_
   refine WL.q (oq_nilCheck rfl) rfl rfl rfl ?_
   refine WL.q (oq_fieldAddr fld226_1 rfl) rfl rfl rfl ?_
   refine WL.f2 ?_
   refine WL.store1 #[_, _] ty224 rfl rfl (by first | rfl | exact OwS.one one_) (Nat.lt_of_lt_of_le (Nat.lt_succ_self _) (Nat.le_of_ble_eq_true rfl)) rfl rfl ?_
   refine WL.nil (WE.then_normal (WC.sub (fr' := []) ?_ trivial))
   refine WC.seq (WC.region ?_)
   refine WL.q (oq_assign rfl) rfl rfl rfl ?_
   refine WL.nil (WE.then_normal (WC.sub (fr' := [(6, _)]) ?_ ⟨rfl, trivial⟩))
   refine WC.ret ?_
   refine WE.endW3 (.inl rfl) (res1 Tryz.results112 rfl) ?_
   exact ⟨rfl, e, he, rfl⟩
end S1
end Go.Proofs.YtiegaefkahnfjaaGreat
