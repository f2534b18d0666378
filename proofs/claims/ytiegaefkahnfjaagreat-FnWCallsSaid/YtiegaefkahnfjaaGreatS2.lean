/- Walks of a step: what is put beside a name, and in its place. -/
import Derived.Test.YtiegaefkahnfjaaGreatS1
namespace Go.Proofs.YtiegaefkahnfjaaGreat
open Go Go.RowKit V S0 S1
set_option linter.unusedSimpArgs false
set_option linter.unusedVariables false
set_option maxRecDepth 10000
namespace S2
theorem call122 : Callable Tryz.prog 122 := ⟨_, Tryz.func122, rfl, by kernel_rfl⟩
theorem call123 : Callable Tryz.prog 123 := ⟨_, Tryz.func123, rfl, by kernel_rfl⟩
theorem call124 : Callable Tryz.prog 124 := ⟨_, Tryz.func124, rfl, by kernel_rfl⟩
theorem call125 : Callable Tryz.prog 125 := ⟨_, Tryz.func125, rfl, by kernel_rfl⟩
theorem call126 : Callable Tryz.prog 126 := ⟨_, Tryz.func126, rfl, by kernel_rfl⟩
theorem call127 : Callable Tryz.prog 127 := ⟨_, Tryz.func127, rfl, by kernel_rfl⟩
theorem flat98 : Flat Tryz.prog 98 := ⟨_, Tryz.underlying98, by simp⟩
theorem flat103 : Flat Tryz.prog 103 := ⟨_, Tryz.underlying103, by simp⟩
theorem flat121 : Flat Tryz.prog 121 := ⟨_, Tryz.underlying121, by simp⟩
theorem flat126 : Flat Tryz.prog 126 := ⟨_, Tryz.underlying126, by simp⟩
theorem flat140 : Flat Tryz.prog 140 := ⟨_, Tryz.underlying140, by simp⟩
theorem flat145 : Flat Tryz.prog 145 := ⟨_, Tryz.underlying145, by simp⟩
theorem flat159 : Flat Tryz.prog 159 := ⟨_, Tryz.underlying159, by simp⟩
theorem flat163 : Flat Tryz.prog 163 := ⟨_, Tryz.underlying163, by simp⟩
theorem flat177 : Flat Tryz.prog 177 := ⟨_, Tryz.underlying177, by simp⟩
theorem flat181 : Flat Tryz.prog 181 := ⟨_, Tryz.underlying181, by simp⟩
theorem flat200 : Flat Tryz.prog 200 := ⟨_, Tryz.underlying200, by simp⟩
theorem flat206 : Flat Tryz.prog 206 := ⟨_, Tryz.underlying206, by simp⟩
theorem flat212 : Flat Tryz.prog 212 := ⟨_, Tryz.underlying212, by simp⟩
theorem flat218 : Flat Tryz.prog 218 := ⟨_, Tryz.underlying218, by simp⟩
theorem flat224 : Flat Tryz.prog 224 := ⟨_, Tryz.underlying224, by simp⟩
theorem ty98 : Ty Tryz.prog 98 .nilIface 1 16 := ty_of (by kernel_rfl)
theorem ty103 : Ty Tryz.prog 103 .nilIface 1 16 := ty_of (by kernel_rfl)
theorem ty121 : Ty Tryz.prog 121 .nilIface 1 16 := ty_of (by kernel_rfl)
theorem ty126 : Ty Tryz.prog 126 .nilIface 1 16 := ty_of (by kernel_rfl)
theorem ty140 : Ty Tryz.prog 140 .nilIface 1 16 := ty_of (by kernel_rfl)
theorem ty145 : Ty Tryz.prog 145 .nilIface 1 16 := ty_of (by kernel_rfl)
theorem ty159 : Ty Tryz.prog 159 .nilIface 1 16 := ty_of (by kernel_rfl)
theorem ty163 : Ty Tryz.prog 163 .nilIface 1 16 := ty_of (by kernel_rfl)
theorem ty177 : Ty Tryz.prog 177 .nilIface 1 16 := ty_of (by kernel_rfl)
theorem ty181 : Ty Tryz.prog 181 .nilIface 1 16 := ty_of (by kernel_rfl)
theorem ty200 : Ty Tryz.prog 200 (.pointer none) 1 8 := ty_of (by kernel_rfl)
theorem ty204 : Ty Tryz.prog 204 (.agg #[.nilIface, .nilIface]) 2 32 := ty_of (by kernel_rfl)
theorem ty206 : Ty Tryz.prog 206 (.pointer none) 1 8 := ty_of (by kernel_rfl)
theorem ty210 : Ty Tryz.prog 210 (.agg #[.nilIface, .nilIface]) 2 32 := ty_of (by kernel_rfl)
theorem ty212 : Ty Tryz.prog 212 (.pointer none) 1 8 := ty_of (by kernel_rfl)
theorem ty216 : Ty Tryz.prog 216 (.agg #[.nilIface, .nilIface]) 2 32 := ty_of (by kernel_rfl)
theorem ty218 : Ty Tryz.prog 218 (.pointer none) 1 8 := ty_of (by kernel_rfl)
theorem ty222 : Ty Tryz.prog 222 (.agg #[.nilIface, .nilIface]) 2 32 := ty_of (by kernel_rfl)
theorem ty224 : Ty Tryz.prog 224 (.pointer none) 1 8 := ty_of (by kernel_rfl)
theorem ty228 : Ty Tryz.prog 228 (.agg #[.nilIface, .nilIface]) 2 32 := ty_of (by kernel_rfl)
theorem conc200 : Conc Tryz.prog 200 := ⟨_, Tryz.underlying200, by simp⟩
theorem conc206 : Conc Tryz.prog 206 := ⟨_, Tryz.underlying206, by simp⟩
theorem conc212 : Conc Tryz.prog 212 := ⟨_, Tryz.underlying212, by simp⟩
theorem conc218 : Conc Tryz.prog 218 := ⟨_, Tryz.underlying218, by simp⟩
theorem conc224 : Conc Tryz.prog 224 := ⟨_, Tryz.underlying224, by simp⟩
theorem str204 : Str Tryz.prog 204 #[(0, 1), (1, 1)] := ⟨_, Tryz.underlying204, fun w => by kernel_rfl⟩
theorem str210 : Str Tryz.prog 210 #[(0, 1), (1, 1)] := ⟨_, Tryz.underlying210, fun w => by kernel_rfl⟩
theorem str216 : Str Tryz.prog 216 #[(0, 1), (1, 1)] := ⟨_, Tryz.underlying216, fun w => by kernel_rfl⟩
theorem str222 : Str Tryz.prog 222 #[(0, 1), (1, 1)] := ⟨_, Tryz.underlying222, fun w => by kernel_rfl⟩
theorem str228 : Str Tryz.prog 228 #[(0, 1), (1, 1)] := ⟨_, Tryz.underlying228, fun w => by kernel_rfl⟩
theorem fld202_0 : Fld Tryz.prog 202 0 0 200 := fld_of Tryz.underlying202 rfl rfl rfl ty200 (by decide)
theorem fld202_1 : Fld Tryz.prog 202 1 1 200 := fld_of Tryz.underlying202 rfl rfl rfl ty200 (by decide)
theorem fld204_0 : Fld Tryz.prog 204 0 0 103 := fld_of Tryz.underlying204 rfl rfl rfl ty103 (by decide)
theorem fld204_1 : Fld Tryz.prog 204 1 1 98 := fld_of Tryz.underlying204 rfl rfl rfl ty98 (by decide)
theorem fld208_0 : Fld Tryz.prog 208 0 0 206 := fld_of Tryz.underlying208 rfl rfl rfl ty206 (by decide)
theorem fld208_1 : Fld Tryz.prog 208 1 1 206 := fld_of Tryz.underlying208 rfl rfl rfl ty206 (by decide)
theorem fld210_0 : Fld Tryz.prog 210 0 0 126 := fld_of Tryz.underlying210 rfl rfl rfl ty126 (by decide)
theorem fld210_1 : Fld Tryz.prog 210 1 1 121 := fld_of Tryz.underlying210 rfl rfl rfl ty121 (by decide)
theorem fld214_0 : Fld Tryz.prog 214 0 0 212 := fld_of Tryz.underlying214 rfl rfl rfl ty212 (by decide)
theorem fld214_1 : Fld Tryz.prog 214 1 1 212 := fld_of Tryz.underlying214 rfl rfl rfl ty212 (by decide)
theorem fld216_0 : Fld Tryz.prog 216 0 0 145 := fld_of Tryz.underlying216 rfl rfl rfl ty145 (by decide)
theorem fld216_1 : Fld Tryz.prog 216 1 1 140 := fld_of Tryz.underlying216 rfl rfl rfl ty140 (by decide)
theorem fld220_0 : Fld Tryz.prog 220 0 0 218 := fld_of Tryz.underlying220 rfl rfl rfl ty218 (by decide)
theorem fld220_1 : Fld Tryz.prog 220 1 1 218 := fld_of Tryz.underlying220 rfl rfl rfl ty218 (by decide)
theorem fld222_0 : Fld Tryz.prog 222 0 0 163 := fld_of Tryz.underlying222 rfl rfl rfl ty163 (by decide)
theorem fld222_1 : Fld Tryz.prog 222 1 1 159 := fld_of Tryz.underlying222 rfl rfl rfl ty159 (by decide)
theorem fld226_0 : Fld Tryz.prog 226 0 0 224 := fld_of Tryz.underlying226 rfl rfl rfl ty224 (by decide)
theorem fld226_1 : Fld Tryz.prog 226 1 1 224 := fld_of Tryz.underlying226 rfl rfl rfl ty224 (by decide)
theorem fld228_0 : Fld Tryz.prog 228 0 0 181 := fld_of Tryz.underlying228 rfl rfl rfl ty181 (by decide)
theorem fld228_1 : Fld Tryz.prog 228 1 1 177 := fld_of Tryz.underlying228 rfl rfl rfl ty177 (by decide)
theorem perm2 {S1 S2 C2 : Hp} {X : List Hp} (hs : S1 = S2) (hp : X.flatten.Perm C2) : (S1 :: X).flatten.Perm ([S2, C2] : List Hp).flatten := by
 subst hs
 simp only [List.flatten_cons, List.flatten_nil, List.append_nil]
 exact hp.append_left _
theorem ch_front {PD tD MF : TypeId} {items B : List Nd} {x : Nd} (h : items = [] ++ x :: B) (y : Nd) : ((y.b, Obj.cells #[.iface PD (Pt x.b 0), wv MF y] tD (0, 0)) :: ch PD tD MF items .nilIface) = ch PD tD MF (y :: items) .nilIface := by subst h; rfl
theorem nd_ne {A B : List Nd} {x y : Nd} {items : List Nd} (hn : (items.map Nd.b).Nodup) (he : items = A ++ x :: B) (hy : y ∈ A ∨ y ∈ B) : y.b ≠ x.b := by
 rw [he, List.map_append, List.map_cons, List.nodup_append] at hn
 obtain ⟨h1, h2, h3⟩ := hn
 rw [List.nodup_cons] at h2
 rcases hy with h | h
 ·exact h3 y.b (List.mem_map.2 ⟨y, h, rfl⟩) x.b List.mem_cons_self
 ·exact fun e => h2.1 (by rw [← e]; exact List.mem_map.2 ⟨y, h, rfl⟩)
theorem nd_of {PD tD MF : TypeId} {S : Hp} {items : List Nd} {e : Value} {H : List Hp} (h : ((S :: ch PD tD MF items e :: H).flatten.map Prod.fst).Nodup) : (items.map Nd.b).Nodup := by
 simp only [List.flatten_cons, List.map_append, ch_ids] at h
 exact (List.nodup_append.1 (List.nodup_append.1 h).2.1).1
theorem lastp_ne (x : Nd) (l : List Nd) (h : l ≠ []) : lastp (x :: l) = lastp l := by
 cases l with
 | nil => exact absurd rfl h
 | cons y r => rfl
theorem hdp_b (A B : List Nd) (x : Nd) (i : List UInt8) (f : Value) : hdp (A ++ Nd.mk x.b i f :: B) = hdp (A ++ x :: B) := by cases A <;> rfl
theorem lastp_b (A B : List Nd) (x : Nd) (i : List UInt8) (f : Value) : lastp (A ++ Nd.mk x.b i f :: B) = lastp (A ++ x :: B) := by
 rw [lastp_app, lastp_app]; cases B <;> rfl
theorem mem_of {PD tD MF : TypeId} {items A B : List Nd} {x : Nd} {e : Value} (h : items = A ++ x :: B) : (x.b, Obj.cells #[nextOf PD B e, wv MF x] tD (0, 0)) ∈ ch PD tD MF items e := by rw [h]; exact ch_mem _ _ _ _
theorem insF0 (base sb : Nat) (x : Nd) (items : List Nd) (id : List UInt8) (fv : Value) (B : List Nd) (hit : items = [] ++ x :: B) : FnW Tryz.prog 58 [Pt sb 0, .iface 231 (.agg #[S id, fv]), S x.id, I 1] base [[(sb, .cells #[(hdp (items)), (lastp (items))] 202 (0, 0))], ch 200 204 231 items .nilIface] (fun v Hs => v = .nilIface ∧ ∃ e, base ≤ e ∧ Hs.flatten.Perm ([[(sb, .cells #[(hdp (Nd.mk e id fv :: items)), (lastp (Nd.mk e id fv :: items))] 202 (0, 0))], ch 200 204 231 (Nd.mk e id fv :: items) .nilIface] : List Hp).flatten) := by
 refine FnW.enter (n := 76) Tryz.func58 rfl rfl fun w0 R0 hbase => ?_
 subst hbase
 show WC _ _ _ _ _ _ _ ([[(sb, .cells #[(hdp (items)), (lastp (items))] 202 (0, 0))], ch 200 204 231 items .nilIface, R0])
 refine WC.sub (fr' := [(0, _), (1, _), (2, _), (3, _)]) ?_ ⟨rfl, rfl, rfl, rfl, trivial⟩
 refine WC.seq (WC.region ?_)
 refine WL.q (oq_assign rfl) rfl rfl rfl ?_
 refine WL.nil (WE.then_normal (WC.sub (fr' := [(0, _), (1, _), (2, _), (3, _)]) ?_ ⟨rfl, rfl, rfl, rfl, trivial⟩))
 refine WC.seq (WC.region ?_)
 refine WL.q (oq_move rfl) rfl rfl rfl ?_
 refine WL.q (oq_move rfl) rfl rfl rfl ?_
 refine WL.f1 ?_
 refine WL.f1 ?_
 refine WL.callW2 (gotH0 _ sb x.id [] B x items hit rfl (by simp)) call123 rfl rfl rfl fun v1_2 Hs1_2 hR1_2 => ?_
 obtain ⟨rfl, rfl⟩ := hR1_2
 refine WL.to2 ?_
 refine WL.q (oq_move rfl) rfl rfl rfl ?_
 refine WL.q (oq_extract rfl rfl) rfl rfl rfl ?_
 refine WL.q (oq_extract rfl rfl) rfl rfl rfl ?_
 refine WL.q (oq_assign rfl) rfl rfl rfl ?_
 refine WL.q (oq_assign rfl) rfl rfl rfl ?_
 refine WL.nil (WE.then_normal (WC.sub (fr' := [(0, _), (1, _), (3, _), (9, _), (10, _)]) ?_ ⟨rfl, rfl, rfl, rfl, rfl, trivial⟩))
 refine WC.seq (WC.seq (WC.region ?_))
 refine WL.q (oq_move rfl) rfl rfl rfl ?_
 refine WL.q (oq_peql Tryz.underlying200 rfl rfl) rfl rfl rfl ?_
 refine WL.nil (WE.then_normal (WC.sub (fr' := [(0, _), (1, _), (3, _), (9, _), (10, _), (19, _)]) ?_ ⟨rfl, rfl, rfl, rfl, rfl, rfl, trivial⟩))
 refine WC.cond rfl (fun q2 => ?_) (fun q2 => ?_)
 ·
  try simp only [Z1, Z2, Z3, Z4, Z5, Z6, Z7, Z8, Z9, Z0] at q2
  first | (simp at q2; done) | (simp at q4; done) | (simp at q5; done) | (simp [nextOf, nilI] at q8; done) | (exfalso; omega)
 ·
  try simp only [Z1, Z2, Z3, Z4, Z5, Z6, Z7, Z8, Z9, Z0] at q2
  refine WC.skip (WE.then_normal (WC.sub (fr' := [(0, _), (1, _), (3, _), (9, _), (10, _)]) ?_ ⟨rfl, rfl, rfl, rfl, rfl, trivial⟩))
  refine WC.seq (WC.seq (WC.region ?_))
  refine WL.q (oq_move rfl) rfl rfl rfl ?_
  refine WL.q (oq_eql rfl rfl) rfl rfl rfl ?_
  refine WL.nil (WE.then_normal (WC.sub (fr' := [(0, _), (1, _), (9, _), (10, _), (22, _)]) ?_ ⟨rfl, rfl, rfl, rfl, rfl, trivial⟩))
  refine WC.cond rfl (fun q4 => ?_) (fun q4 => ?_)
  ·
   try simp only [Z1, Z2, Z3, Z4, Z5, Z6, Z7, Z8, Z9, Z0] at q4
   refine WC.seq (WC.region ?_)
   refine WL.q (oq_move rfl) rfl rfl rfl ?_
   refine WL.q (oq_peql Tryz.underlying200 rfl rfl) rfl rfl rfl ?_
   refine WL.nil (WE.then_normal (WC.sub (fr' := [(0, _), (1, _), (9, _), (10, _), (24, _)]) ?_ ⟨rfl, rfl, rfl, rfl, rfl, trivial⟩))
   refine WC.cond rfl (fun q5 => ?_) (fun q5 => ?_)
   ·
    try simp only [Z1, Z2, Z3, Z4, Z5, Z6, Z7, Z8, Z9, Z0] at q5
    have hd0 : hdp items = Pt x.b 0 := by rw [hit]; rfl
    rw [hd0]
    refine WC.region ?_
    refine WL.q (oq_move rfl) rfl rfl rfl ?_
    refine WL.q (oq_move rfl) rfl rfl rfl ?_
    refine WL.q (oq_nilCheck rfl) rfl rfl rfl ?_
    refine WL.q (oq_fieldAddr fld202_0 rfl) rfl rfl rfl ?_
    refine WL.q (oq_load flat200 rfl (.head _) (List.mem_singleton.2 rfl) rfl) rfl rfl rfl ?_
    refine WL.q (oq_makeI conc200 rfl) rfl rfl rfl ?_
    refine WL.q (oq_move rfl) rfl rfl rfl ?_
    refine WL.q (oq_build #[_, _] str204 ty204 rfl rfl) rfl rfl rfl ?_
    refine WL.box rfl rfl rfl fun e he => ?_
    refine WL.q (oq_nilCheck rfl) rfl rfl rfl ?_
    refine WL.q (oq_fieldAddr fld202_0 rfl) rfl rfl rfl ?_
    refine WL.f1 ?_
    refine WL.store1 #[_, _] ty200 rfl rfl (by first | rfl | exact OwS.one one_) (Nat.lt_of_lt_of_le (Nat.lt_succ_self _) (Nat.le_of_ble_eq_true rfl)) rfl rfl ?_
    refine WL.nil (WE.then_normal (WC.sub (fr' := []) ?_ trivial))
    refine WC.seq (WC.region ?_)
    refine WL.q (oq_assign rfl) rfl rfl rfl ?_
    refine WL.nil (WE.then_normal (WC.sub (fr' := [(8, _)]) ?_ ⟨rfl, trivial⟩))
    refine WC.ret ?_
    refine WE.endW3 (.inl rfl) (res1 Tryz.results58 rfl) ?_
    exact ⟨rfl, e, he, perm2 (by rw [lastp_ne _ _ (by rw [hit]; simp)]; rfl) (by simp only [List.flatten_cons, List.flatten_nil, List.append_nil]; exact .of_eq (ch_front hit (Nd.mk e id fv)))⟩
   ·
    try simp only [Z1, Z2, Z3, Z4, Z5, Z6, Z7, Z8, Z9, Z0] at q5
    first | (simp at q2; done) | (simp at q4; done) | (simp at q5; done) | (simp [nextOf, nilI] at q8; done) | (exfalso; omega)
  ·
   try simp only [Z1, Z2, Z3, Z4, Z5, Z6, Z7, Z8, Z9, Z0] at q4
   first | (simp at q2; done) | (simp at q4; done) | (simp at q5; done) | (simp [nextOf, nilI] at q8; done) | (exfalso; omega)
theorem insM0 (base sb : Nat) (x : Nd) (items : List Nd) (id : List UInt8) (fv : Value) (A2 B : List Nd) (p : Nd) (hit : items = (A2 ++ [p]) ++ x :: B) (hA : ∀ y ∈ A2 ++ [p], y.id ≠ x.id) : FnW Tryz.prog 58 [Pt sb 0, .iface 231 (.agg #[S id, fv]), S x.id, I 1] base [[(sb, .cells #[(hdp (items)), (lastp (items))] 202 (0, 0))], ch 200 204 231 items .nilIface] (fun v Hs => v = .nilIface ∧ ∃ e, base ≤ e ∧ Hs.flatten.Perm ([[(sb, .cells #[(hdp (A2 ++ p :: Nd.mk e id fv :: x :: B)), (lastp (A2 ++ p :: Nd.mk e id fv :: x :: B))] 202 (0, 0))], ch 200 204 231 (A2 ++ p :: Nd.mk e id fv :: x :: B) .nilIface] : List Hp).flatten) := by
 have hit2 : items = A2 ++ p :: x :: B := by rw [hit]; simp
 refine FnW.enter (n := 76) Tryz.func58 rfl rfl fun w0 R0 hbase => ?_
 subst hbase
 show WC _ _ _ _ _ _ _ ([[(sb, .cells #[(hdp (items)), (lastp (items))] 202 (0, 0))], ch 200 204 231 items .nilIface, R0])
 refine WC.sub (fr' := [(0, _), (1, _), (2, _), (3, _)]) ?_ ⟨rfl, rfl, rfl, rfl, trivial⟩
 refine WC.seq (WC.region ?_)
 refine WL.q (oq_assign rfl) rfl rfl rfl ?_
 refine WL.nil (WE.then_normal (WC.sub (fr' := [(0, _), (1, _), (2, _), (3, _)]) ?_ ⟨rfl, rfl, rfl, rfl, trivial⟩))
 refine WC.seq (WC.region ?_)
 refine WL.q (oq_move rfl) rfl rfl rfl ?_
 refine WL.q (oq_move rfl) rfl rfl rfl ?_
 refine WL.f1 ?_
 refine WL.f1 ?_
 refine WL.callW2 (gotH0 _ sb x.id (A2 ++ [p]) B x items hit rfl hA) call123 rfl rfl rfl fun v1_2 Hs1_2 hR1_2 => ?_
 obtain ⟨rfl, rfl⟩ := hR1_2
 rw [lastp_snoc]
 refine WL.to2 ?_
 refine WL.q (oq_move rfl) rfl rfl rfl ?_
 refine WL.q (oq_extract rfl rfl) rfl rfl rfl ?_
 refine WL.q (oq_extract rfl rfl) rfl rfl rfl ?_
 refine WL.q (oq_assign rfl) rfl rfl rfl ?_
 refine WL.q (oq_assign rfl) rfl rfl rfl ?_
 refine WL.nil (WE.then_normal (WC.sub (fr' := [(0, _), (1, _), (3, _), (9, _), (10, _)]) ?_ ⟨rfl, rfl, rfl, rfl, rfl, trivial⟩))
 refine WC.seq (WC.seq (WC.region ?_))
 refine WL.q (oq_move rfl) rfl rfl rfl ?_
 refine WL.q (oq_peql Tryz.underlying200 rfl rfl) rfl rfl rfl ?_
 refine WL.nil (WE.then_normal (WC.sub (fr' := [(0, _), (1, _), (3, _), (9, _), (10, _), (19, _)]) ?_ ⟨rfl, rfl, rfl, rfl, rfl, rfl, trivial⟩))
 refine WC.cond rfl (fun q2 => ?_) (fun q2 => ?_)
 ·
  try simp only [Z1, Z2, Z3, Z4, Z5, Z6, Z7, Z8, Z9, Z0] at q2
  first | (simp at q2; done) | (simp at q4; done) | (simp at q5; done) | (simp [nextOf, nilI] at q8; done) | (exfalso; omega)
 ·
  try simp only [Z1, Z2, Z3, Z4, Z5, Z6, Z7, Z8, Z9, Z0] at q2
  refine WC.skip (WE.then_normal (WC.sub (fr' := [(0, _), (1, _), (3, _), (9, _), (10, _)]) ?_ ⟨rfl, rfl, rfl, rfl, rfl, trivial⟩))
  refine WC.seq (WC.seq (WC.region ?_))
  refine WL.q (oq_move rfl) rfl rfl rfl ?_
  refine WL.q (oq_eql rfl rfl) rfl rfl rfl ?_
  refine WL.nil (WE.then_normal (WC.sub (fr' := [(0, _), (1, _), (9, _), (10, _), (22, _)]) ?_ ⟨rfl, rfl, rfl, rfl, rfl, trivial⟩))
  refine WC.cond rfl (fun q4 => ?_) (fun q4 => ?_)
  ·
   try simp only [Z1, Z2, Z3, Z4, Z5, Z6, Z7, Z8, Z9, Z0] at q4
   refine WC.seq (WC.region ?_)
   refine WL.q (oq_move rfl) rfl rfl rfl ?_
   refine WL.q (oq_peql Tryz.underlying200 rfl rfl) rfl rfl rfl ?_
   refine WL.nil (WE.then_normal (WC.sub (fr' := [(0, _), (1, _), (9, _), (10, _), (24, _)]) ?_ ⟨rfl, rfl, rfl, rfl, rfl, trivial⟩))
   refine WC.cond rfl (fun q5 => ?_) (fun q5 => ?_)
   ·
    try simp only [Z1, Z2, Z3, Z4, Z5, Z6, Z7, Z8, Z9, Z0] at q5
    first | (simp at q2; done) | (simp at q4; done) | (simp at q5; done) | (simp [nextOf, nilI] at q8; done) | (exfalso; omega)
   ·
    try simp only [Z1, Z2, Z3, Z4, Z5, Z6, Z7, Z8, Z9, Z0] at q5
    refine WC.region ?_
    refine WL.f1 ?_
    refine WL.reg (reg_out (show (ch 200 204 231 (items) .nilIface).Perm ([(p.b, .cells #[nextOf 200 (x :: B) .nilIface, wv 231 p] 204 (0, 0))] ++ (ch 200 204 231 (A2) (.iface 200 (Pt p.b 0)) ++ ch 200 204 231 (x :: B) .nilIface)) from by rw [hit2]; exact ch_out _ _ _ _)) ?_
    refine WL.q (oq_move rfl) rfl rfl rfl ?_
    refine WL.q (oq_move rfl) rfl rfl rfl ?_
    refine WL.q (oq_makeI conc200 rfl) rfl rfl rfl ?_
    refine WL.q (oq_move rfl) rfl rfl rfl ?_
    refine WL.q (oq_build #[_, _] str204 ty204 rfl rfl) rfl rfl rfl ?_
    refine WL.box rfl rfl rfl fun e he => ?_
    refine WL.q (oq_makeI conc200 rfl) rfl rfl rfl ?_
    refine WL.q (oq_nilCheck rfl) rfl rfl rfl ?_
    refine WL.q (oq_fieldAddr fld204_0 rfl) rfl rfl rfl ?_
    refine WL.f1 ?_
    refine WL.store1 #[_, _] ty103 rfl rfl (by first | rfl | exact OwS.one one_) (Nat.lt_of_lt_of_le (Nat.lt_succ_self _) (Nat.le_of_ble_eq_true rfl)) rfl rfl ?_
    refine WL.nil (WE.then_normal (WC.sub (fr' := []) ?_ trivial))
    refine WC.seq (WC.region ?_)
    refine WL.q (oq_assign rfl) rfl rfl rfl ?_
    refine WL.nil (WE.then_normal (WC.sub (fr' := [(8, _)]) ?_ ⟨rfl, trivial⟩))
    refine WC.ret ?_
    refine WE.f4 ?_
    refine WE.f3 ?_
    refine WE.f3 ?_
    refine WE.f3 ?_
    refine WE.f4 ?_
    refine WE.endW4 (.inl rfl) (res1 Tryz.results58 rfl) ?_
    exact ⟨rfl, e, he, perm2 (by rw [hit2, hdp_cons A2 p (x :: B) (Nd.mk e id fv :: x :: B), lastp_cons, lastp_cons]; rfl) (by simp only [List.flatten_cons, List.flatten_nil, List.append_nil]; exact ch_ins A2 p (Nd.mk e id fv) (x :: B) _)⟩
  ·
   try simp only [Z1, Z2, Z3, Z4, Z5, Z6, Z7, Z8, Z9, Z0] at q4
   first | (simp at q2; done) | (simp at q4; done) | (simp at q5; done) | (simp [nextOf, nilI] at q8; done) | (exfalso; omega)
theorem insE0 (base sb : Nat) (x : Nd) (items : List Nd) (id : List UInt8) (fv : Value) (A : List Nd) (hit : items = A ++ x :: []) (hA : ∀ y ∈ A, y.id ≠ x.id) : FnW Tryz.prog 58 [Pt sb 0, .iface 231 (.agg #[S id, fv]), S x.id, I 0] base [[(sb, .cells #[(hdp (items)), (lastp (items))] 202 (0, 0))], ch 200 204 231 items .nilIface] (fun v Hs => v = .nilIface ∧ ∃ e, base ≤ e ∧ Hs.flatten.Perm ([[(sb, .cells #[(hdp (A ++ x :: Nd.mk e id fv :: [])), (lastp (A ++ x :: Nd.mk e id fv :: []))] 202 (0, 0))], ch 200 204 231 (A ++ x :: Nd.mk e id fv :: []) .nilIface] : List Hp).flatten) := by
 refine FnW.enter (n := 76) Tryz.func58 rfl rfl fun w0 R0 hbase => ?_
 subst hbase
 show WC _ _ _ _ _ _ _ ([[(sb, .cells #[(hdp (items)), (lastp (items))] 202 (0, 0))], ch 200 204 231 items .nilIface, R0])
 refine WC.sub (fr' := [(0, _), (1, _), (2, _), (3, _)]) ?_ ⟨rfl, rfl, rfl, rfl, trivial⟩
 refine WC.seq (WC.region ?_)
 refine WL.q (oq_assign rfl) rfl rfl rfl ?_
 refine WL.nil (WE.then_normal (WC.sub (fr' := [(0, _), (1, _), (2, _), (3, _)]) ?_ ⟨rfl, rfl, rfl, rfl, trivial⟩))
 refine WC.seq (WC.region ?_)
 refine WL.q (oq_move rfl) rfl rfl rfl ?_
 refine WL.q (oq_move rfl) rfl rfl rfl ?_
 refine WL.f1 ?_
 refine WL.f1 ?_
 refine WL.callW2 (gotH0 _ sb x.id A [] x items hit rfl hA) call123 rfl rfl rfl fun v1_2 Hs1_2 hR1_2 => ?_
 obtain ⟨rfl, rfl⟩ := hR1_2
 refine WL.to2 ?_
 refine WL.q (oq_move rfl) rfl rfl rfl ?_
 refine WL.q (oq_extract rfl rfl) rfl rfl rfl ?_
 refine WL.q (oq_extract rfl rfl) rfl rfl rfl ?_
 refine WL.q (oq_assign rfl) rfl rfl rfl ?_
 refine WL.q (oq_assign rfl) rfl rfl rfl ?_
 refine WL.nil (WE.then_normal (WC.sub (fr' := [(0, _), (1, _), (3, _), (9, _), (10, _)]) ?_ ⟨rfl, rfl, rfl, rfl, rfl, trivial⟩))
 refine WC.seq (WC.seq (WC.region ?_))
 refine WL.q (oq_move rfl) rfl rfl rfl ?_
 refine WL.q (oq_peql Tryz.underlying200 rfl rfl) rfl rfl rfl ?_
 refine WL.nil (WE.then_normal (WC.sub (fr' := [(0, _), (1, _), (3, _), (9, _), (10, _), (19, _)]) ?_ ⟨rfl, rfl, rfl, rfl, rfl, rfl, trivial⟩))
 refine WC.cond rfl (fun q2 => ?_) (fun q2 => ?_)
 ·
  try simp only [Z1, Z2, Z3, Z4, Z5, Z6, Z7, Z8, Z9, Z0] at q2
  first | (simp at q2; done) | (simp at q4; done) | (simp at q5; done) | (simp [nextOf, nilI] at q8; done) | (exfalso; omega)
 ·
  try simp only [Z1, Z2, Z3, Z4, Z5, Z6, Z7, Z8, Z9, Z0] at q2
  refine WC.skip (WE.then_normal (WC.sub (fr' := [(0, _), (1, _), (3, _), (9, _), (10, _)]) ?_ ⟨rfl, rfl, rfl, rfl, rfl, trivial⟩))
  refine WC.seq (WC.seq (WC.region ?_))
  refine WL.q (oq_move rfl) rfl rfl rfl ?_
  refine WL.q (oq_eql rfl rfl) rfl rfl rfl ?_
  refine WL.nil (WE.then_normal (WC.sub (fr' := [(0, _), (1, _), (9, _), (10, _), (22, _)]) ?_ ⟨rfl, rfl, rfl, rfl, rfl, trivial⟩))
  refine WC.cond rfl (fun q4 => ?_) (fun q4 => ?_)
  ·
   try simp only [Z1, Z2, Z3, Z4, Z5, Z6, Z7, Z8, Z9, Z0] at q4
   first | (simp at q2; done) | (simp at q4; done) | (simp at q5; done) | (simp [nextOf, nilI] at q8; done) | (exfalso; omega)
  ·
   try simp only [Z1, Z2, Z3, Z4, Z5, Z6, Z7, Z8, Z9, Z0] at q4
   refine WC.seq (WC.region ?_)
   refine WL.q (oq_move rfl) rfl rfl rfl ?_
   refine WL.q (oq_nilCheck rfl) rfl rfl rfl ?_
   refine WL.q (oq_fieldAddr fld204_0 rfl) rfl rfl rfl ?_
   refine WL.q (oq_load flat103 rfl (.tail _ (.head _)) (mem_of hit) rfl) rfl rfl rfl ?_
   refine WL.q (oq_ieql Tryz.underlying103 rfl (.inl rfl)) rfl rfl rfl ?_
   refine WL.nil (WE.then_normal (WC.sub (fr' := [(0, _), (1, _), (9, _), (49, _)]) ?_ ⟨rfl, rfl, rfl, rfl, trivial⟩))
   refine WC.cond rfl (fun q8 => ?_) (fun q8 => ?_)
   ·
    try simp only [Z1, Z2, Z3, Z4, Z5, Z6, Z7, Z8, Z9, Z0] at q8
    refine WC.seq (WC.region ?_)
    refine WL.q (oq_move rfl) rfl rfl rfl ?_
    refine WL.q (oq_build #[_, _] str204 ty204 rfl rfl) rfl rfl rfl ?_
    refine WL.box rfl rfl rfl fun e he => ?_
    refine WL.q (oq_assign rfl) rfl rfl rfl ?_
    refine WL.nil (WE.then_normal (WC.sub (fr' := [(0, _), (11, _)]) ?_ ⟨rfl, rfl, trivial⟩))
    refine WC.seq ?_
    have hl0 : lastp items = Pt x.b 0 := by rw [hit, lastp_snoc]
    rw [hl0]
    refine WC.region ?_
    refine WL.f2 ?_
    refine WL.reg (reg_out (show (ch 200 204 231 (items) .nilIface).Perm ([(x.b, .cells #[nextOf 200 ([]) .nilIface, wv 231 x] 204 (0, 0))] ++ (ch 200 204 231 (A) (.iface 200 (Pt x.b 0)) ++ ch 200 204 231 ([]) .nilIface)) from by rw [hit]; exact ch_out _ _ _ _)) ?_
    refine WL.q (oq_move rfl) rfl rfl rfl ?_
    refine WL.q (oq_nilCheck rfl) rfl rfl rfl ?_
    refine WL.q (oq_fieldAddr fld202_1 rfl) rfl rfl rfl ?_
    refine WL.q (oq_load flat200 rfl (.tail _ (.tail _ (.tail _ (.head _)))) (List.mem_singleton.2 rfl) rfl) rfl rfl rfl ?_
    refine WL.q (oq_move rfl) rfl rfl rfl ?_
    refine WL.q (oq_makeI conc200 rfl) rfl rfl rfl ?_
    refine WL.q (oq_nilCheck rfl) rfl rfl rfl ?_
    refine WL.q (oq_fieldAddr fld204_0 rfl) rfl rfl rfl ?_
    refine WL.store1 #[_, _] ty103 rfl rfl (by first | rfl | exact OwS.one one_) (Nat.lt_of_lt_of_le (Nat.lt_succ_self _) (Nat.le_of_ble_eq_true rfl)) rfl rfl ?_
    refine WL.nil (WE.then_normal (WC.sub (fr' := [(0, _), (11, _)]) ?_ ⟨rfl, rfl, trivial⟩))
    refine WC.region ?_
    refine WL.q (oq_move rfl) rfl rfl rfl ?_
    refine WL.q (oq_move rfl) rfl rfl rfl ?_
    refine WL.q (oq_nilCheck rfl) rfl rfl rfl ?_
    refine WL.q (oq_fieldAddr fld202_1 rfl) rfl rfl rfl ?_
    refine WL.f3 ?_
    refine WL.store1 #[_, _] ty200 rfl rfl (by first | rfl | exact OwS.one one_) (Nat.lt_of_lt_of_le (Nat.lt_succ_self _) (Nat.le_of_ble_eq_true rfl)) rfl rfl ?_
    refine WL.nil (WE.then_normal (WC.sub (fr' := []) ?_ trivial))
    refine WC.seq (WC.region ?_)
    refine WL.q (oq_assign rfl) rfl rfl rfl ?_
    refine WL.nil (WE.then_normal (WC.sub (fr' := [(8, _)]) ?_ ⟨rfl, trivial⟩))
    refine WC.ret ?_
    refine WE.f4 ?_
    refine WE.f3 ?_
    refine WE.f4 ?_
    refine WE.f4 ?_
    refine WE.f4 ?_
    refine WE.endW4 (.inl rfl) (res1 Tryz.results58 rfl) ?_
    exact ⟨rfl, e, he, perm2 (by rw [hit, hdp_cons A x [] [Nd.mk e id fv], lastp_cons]; rfl) (by simp only [List.flatten_cons, List.flatten_nil, List.append_nil]; exact ch_ins A x (Nd.mk e id fv) [] _)⟩
   ·
    try simp only [Z1, Z2, Z3, Z4, Z5, Z6, Z7, Z8, Z9, Z0] at q8
    first | (simp at q2; done) | (simp at q4; done) | (simp at q5; done) | (simp [nextOf, nilI] at q8; done) | (exfalso; omega)
theorem insA0 (base sb : Nat) (x : Nd) (items : List Nd) (id : List UInt8) (fv : Value) (A B : List Nd) (y : Nd) (hit : items = A ++ x :: (y :: B)) (hA : ∀ y ∈ A, y.id ≠ x.id) : FnW Tryz.prog 58 [Pt sb 0, .iface 231 (.agg #[S id, fv]), S x.id, I 0] base [[(sb, .cells #[(hdp (items)), (lastp (items))] 202 (0, 0))], ch 200 204 231 items .nilIface] (fun v Hs => v = .nilIface ∧ ∃ e, base ≤ e ∧ Hs.flatten.Perm ([[(sb, .cells #[(hdp (A ++ x :: Nd.mk e id fv :: y :: B)), (lastp (A ++ x :: Nd.mk e id fv :: y :: B))] 202 (0, 0))], ch 200 204 231 (A ++ x :: Nd.mk e id fv :: y :: B) .nilIface] : List Hp).flatten) := by
 refine FnW.enter (n := 76) Tryz.func58 rfl rfl fun w0 R0 hbase => ?_
 subst hbase
 show WC _ _ _ _ _ _ _ ([[(sb, .cells #[(hdp (items)), (lastp (items))] 202 (0, 0))], ch 200 204 231 items .nilIface, R0])
 refine WC.sub (fr' := [(0, _), (1, _), (2, _), (3, _)]) ?_ ⟨rfl, rfl, rfl, rfl, trivial⟩
 refine WC.seq (WC.region ?_)
 refine WL.q (oq_assign rfl) rfl rfl rfl ?_
 refine WL.nil (WE.then_normal (WC.sub (fr' := [(0, _), (1, _), (2, _), (3, _)]) ?_ ⟨rfl, rfl, rfl, rfl, trivial⟩))
 refine WC.seq (WC.region ?_)
 refine WL.q (oq_move rfl) rfl rfl rfl ?_
 refine WL.q (oq_move rfl) rfl rfl rfl ?_
 refine WL.f1 ?_
 refine WL.f1 ?_
 refine WL.callW2 (gotH0 _ sb x.id A (y :: B) x items hit rfl hA) call123 rfl rfl rfl fun v1_2 Hs1_2 hR1_2 => ?_
 obtain ⟨rfl, rfl⟩ := hR1_2
 refine WL.to2 ?_
 refine WL.q (oq_move rfl) rfl rfl rfl ?_
 refine WL.q (oq_extract rfl rfl) rfl rfl rfl ?_
 refine WL.q (oq_extract rfl rfl) rfl rfl rfl ?_
 refine WL.q (oq_assign rfl) rfl rfl rfl ?_
 refine WL.q (oq_assign rfl) rfl rfl rfl ?_
 refine WL.nil (WE.then_normal (WC.sub (fr' := [(0, _), (1, _), (3, _), (9, _), (10, _)]) ?_ ⟨rfl, rfl, rfl, rfl, rfl, trivial⟩))
 refine WC.seq (WC.seq (WC.region ?_))
 refine WL.q (oq_move rfl) rfl rfl rfl ?_
 refine WL.q (oq_peql Tryz.underlying200 rfl rfl) rfl rfl rfl ?_
 refine WL.nil (WE.then_normal (WC.sub (fr' := [(0, _), (1, _), (3, _), (9, _), (10, _), (19, _)]) ?_ ⟨rfl, rfl, rfl, rfl, rfl, rfl, trivial⟩))
 refine WC.cond rfl (fun q2 => ?_) (fun q2 => ?_)
 ·
  try simp only [Z1, Z2, Z3, Z4, Z5, Z6, Z7, Z8, Z9, Z0] at q2
  first | (simp at q2; done) | (simp at q4; done) | (simp at q5; done) | (simp [nextOf, nilI] at q8; done) | (exfalso; omega)
 ·
  try simp only [Z1, Z2, Z3, Z4, Z5, Z6, Z7, Z8, Z9, Z0] at q2
  refine WC.skip (WE.then_normal (WC.sub (fr' := [(0, _), (1, _), (3, _), (9, _), (10, _)]) ?_ ⟨rfl, rfl, rfl, rfl, rfl, trivial⟩))
  refine WC.seq (WC.seq (WC.region ?_))
  refine WL.q (oq_move rfl) rfl rfl rfl ?_
  refine WL.q (oq_eql rfl rfl) rfl rfl rfl ?_
  refine WL.nil (WE.then_normal (WC.sub (fr' := [(0, _), (1, _), (9, _), (10, _), (22, _)]) ?_ ⟨rfl, rfl, rfl, rfl, rfl, trivial⟩))
  refine WC.cond rfl (fun q4 => ?_) (fun q4 => ?_)
  ·
   try simp only [Z1, Z2, Z3, Z4, Z5, Z6, Z7, Z8, Z9, Z0] at q4
   first | (simp at q2; done) | (simp at q4; done) | (simp at q5; done) | (simp [nextOf, nilI] at q8; done) | (exfalso; omega)
  ·
   try simp only [Z1, Z2, Z3, Z4, Z5, Z6, Z7, Z8, Z9, Z0] at q4
   refine WC.seq (WC.region ?_)
   refine WL.q (oq_move rfl) rfl rfl rfl ?_
   refine WL.q (oq_nilCheck rfl) rfl rfl rfl ?_
   refine WL.q (oq_fieldAddr fld204_0 rfl) rfl rfl rfl ?_
   refine WL.q (oq_load flat103 rfl (.tail _ (.head _)) (mem_of hit) rfl) rfl rfl rfl ?_
   refine WL.q (oq_ieql Tryz.underlying103 rfl (.inr ⟨_, _, rfl⟩)) rfl rfl rfl ?_
   refine WL.nil (WE.then_normal (WC.sub (fr' := [(0, _), (1, _), (9, _), (49, _)]) ?_ ⟨rfl, rfl, rfl, rfl, trivial⟩))
   refine WC.cond rfl (fun q8 => ?_) (fun q8 => ?_)
   ·
    try simp only [Z1, Z2, Z3, Z4, Z5, Z6, Z7, Z8, Z9, Z0] at q8
    first | (simp at q2; done) | (simp at q4; done) | (simp at q5; done) | (simp [nextOf, nilI] at q8; done) | (exfalso; omega)
   ·
    try simp only [Z1, Z2, Z3, Z4, Z5, Z6, Z7, Z8, Z9, Z0] at q8
    refine WC.region ?_
    refine WL.f1 ?_
    refine WL.reg (reg_out (show (ch 200 204 231 (items) .nilIface).Perm ([(x.b, .cells #[nextOf 200 (y :: B) .nilIface, wv 231 x] 204 (0, 0))] ++ (ch 200 204 231 (A) (.iface 200 (Pt x.b 0)) ++ ch 200 204 231 (y :: B) .nilIface)) from by rw [hit]; exact ch_out _ _ _ _)) ?_
    refine WL.q (oq_move rfl) rfl rfl rfl ?_
    refine WL.q (oq_move rfl) rfl rfl rfl ?_
    refine WL.q (oq_nilCheck rfl) rfl rfl rfl ?_
    refine WL.q (oq_fieldAddr fld204_0 rfl) rfl rfl rfl ?_
    refine WL.q (oq_load flat103 rfl (.head _) (List.mem_singleton.2 rfl) rfl) rfl rfl rfl ?_
    refine WL.q (oq_move rfl) rfl rfl rfl ?_
    refine WL.q (oq_build #[_, _] str204 ty204 rfl rfl) rfl rfl rfl ?_
    refine WL.box rfl rfl rfl fun e he => ?_
    refine WL.q (oq_makeI conc200 rfl) rfl rfl rfl ?_
    refine WL.q (oq_nilCheck rfl) rfl rfl rfl ?_
    refine WL.q (oq_fieldAddr fld204_0 rfl) rfl rfl rfl ?_
    refine WL.f1 ?_
    refine WL.store1 #[_, _] ty103 rfl rfl (by first | rfl | exact OwS.one one_) (Nat.lt_of_lt_of_le (Nat.lt_succ_self _) (Nat.le_of_ble_eq_true rfl)) rfl rfl ?_
    refine WL.nil (WE.then_normal (WC.sub (fr' := []) ?_ trivial))
    refine WC.seq (WC.region ?_)
    refine WL.q (oq_assign rfl) rfl rfl rfl ?_
    refine WL.nil (WE.then_normal (WC.sub (fr' := [(8, _)]) ?_ ⟨rfl, trivial⟩))
    refine WC.ret ?_
    refine WE.f4 ?_
    refine WE.f3 ?_
    refine WE.f3 ?_
    refine WE.f3 ?_
    refine WE.f4 ?_
    refine WE.endW4 (.inl rfl) (res1 Tryz.results58 rfl) ?_
    exact ⟨rfl, e, he, perm2 (by rw [hit, hdp_cons A x (y :: B) (Nd.mk e id fv :: y :: B), lastp_cons, lastp_cons]; rfl) (by simp only [List.flatten_cons, List.flatten_nil, List.append_nil]; exact ch_ins A x (Nd.mk e id fv) (y :: B) _)⟩
theorem insN0 (base sb : Nat) (id by_ : List UInt8) (fv : Value) (items : List Nd) (hn : ∀ y ∈ items, y.id ≠ by_) (pos : Int) : FnW Tryz.prog 58 [Pt sb 0, .iface 231 (.agg #[S id, fv]), S by_, I pos] base [[(sb, .cells #[(hdp (items)), (lastp (items))] 202 (0, 0))], ch 200 204 231 items .nilIface] (fun v Hs => (∃ k u, v = .iface k u) ∧ Hs = [[(sb, .cells #[(hdp (items)), (lastp (items))] 202 (0, 0))], ch 200 204 231 items .nilIface]) := by
 refine FnW.enter (n := 76) Tryz.func58 rfl rfl fun w0 R0 hbase => ?_
 subst hbase
 show WC _ _ _ _ _ _ _ ([[(sb, .cells #[(hdp (items)), (lastp (items))] 202 (0, 0))], ch 200 204 231 items .nilIface, R0])
 refine WC.sub (fr' := [(0, _), (1, _), (2, _), (3, _)]) ?_ ⟨rfl, rfl, rfl, rfl, trivial⟩
 refine WC.seq (WC.region ?_)
 refine WL.q (oq_assign rfl) rfl rfl rfl ?_
 refine WL.nil (WE.then_normal (WC.sub (fr' := [(0, _), (1, _), (2, _), (3, _)]) ?_ ⟨rfl, rfl, rfl, rfl, trivial⟩))
 refine WC.seq (WC.region ?_)
 refine WL.q (oq_move rfl) rfl rfl rfl ?_
 refine WL.q (oq_move rfl) rfl rfl rfl ?_
 refine WL.f1 ?_
 refine WL.f1 ?_
 refine WL.callW2 (gotM0 _ sb by_ items hn) call123 rfl rfl rfl fun v1_2 Hs1_2 hR1_2 => ?_
 obtain ⟨rfl, rfl⟩ := hR1_2
 refine WL.to2 ?_
 refine WL.q (oq_move rfl) rfl rfl rfl ?_
 refine WL.q (oq_extract rfl rfl) rfl rfl rfl ?_
 refine WL.q (oq_extract rfl rfl) rfl rfl rfl ?_
 refine WL.q (oq_assign rfl) rfl rfl rfl ?_
 refine WL.q (oq_assign rfl) rfl rfl rfl ?_
 refine WL.nil (WE.then_normal (WC.sub (fr' := [(0, _), (1, _), (3, _), (9, _), (10, _)]) ?_ ⟨rfl, rfl, rfl, rfl, rfl, trivial⟩))
 refine WC.seq (WC.seq (WC.region ?_))
 refine WL.q (oq_move rfl) rfl rfl rfl ?_
 refine WL.q (oq_peql Tryz.underlying200 rfl rfl) rfl rfl rfl ?_
 refine WL.nil (WE.then_normal (WC.sub (fr' := [(0, _), (1, _), (3, _), (9, _), (10, _), (19, _)]) ?_ ⟨rfl, rfl, rfl, rfl, rfl, rfl, trivial⟩))
 refine WC.cond rfl (fun q2 => ?_) (fun q2 => ?_)
 ·
  try simp only [Z1, Z2, Z3, Z4, Z5, Z6, Z7, Z8, Z9, Z0] at q2
  refine WC.seq (WC.region ?_)
  refine WL.callA0 (errNew _) call122 rfl rfl rfl fun v3_0 N3_0 hR3_0 hN3_0 => ?_
  obtain ⟨ek, eu, rfl⟩ := hR3_0
  refine WL.q (oq_assign rfl) rfl rfl rfl ?_
  refine WL.nil (WE.then_normal (WC.sub (fr' := [(8, _)]) ?_ ⟨rfl, trivial⟩))
  refine WC.ret (WE.then_ret ?_)
  refine WE.forget hN3_0 ?_
  refine WE.endW2 (.inl rfl) (res1 Tryz.results58 rfl) ?_
  exact ⟨⟨_, _, rfl⟩, rfl⟩
 ·
  try simp only [Z1, Z2, Z3, Z4, Z5, Z6, Z7, Z8, Z9, Z0] at q2
  simp at q2
theorem swapH0 (base sb : Nat) (id : List UInt8) (fv : Value) (A B : List Nd) (x : Nd) (items : List Nd) (hit : items = A ++ x :: B) (hA : ∀ y ∈ A, y.id ≠ x.id)  : FnW Tryz.prog 60 [Pt sb 0, S x.id, .iface 231 (.agg #[S id, fv])] base [[(sb, .cells #[(hdp (items)), (lastp (items))] 202 (0, 0))], ch 200 204 231 items .nilIface] (fun v Hs => v = .tuple #[wv 231 x, .nilIface] ∧ Hs.flatten.Perm ([[(sb, .cells #[(hdp (A ++ Nd.mk x.b id fv :: B)), (lastp (A ++ Nd.mk x.b id fv :: B))] 202 (0, 0))], ch 200 204 231 (A ++ Nd.mk x.b id fv :: B) .nilIface] : List Hp).flatten) := by
 refine FnW.enter (n := 29) Tryz.func60 rfl rfl fun w0 R0 hbase => ?_
 subst hbase
 show WC _ _ _ _ _ _ _ ([[(sb, .cells #[(hdp (items)), (lastp (items))] 202 (0, 0))], ch 200 204 231 items .nilIface, R0])
 refine WC.sub (fr' := [(0, _), (1, _), (2, _)]) ?_ ⟨rfl, rfl, rfl, trivial⟩
 refine WC.seq (WC.region ?_)
 refine WL.q (oq_assign rfl) rfl rfl rfl ?_
 refine WL.q (oq_assign rfl) rfl rfl rfl ?_
 refine WL.nil (WE.then_normal (WC.sub (fr' := [(0, _), (1, _), (2, _)]) ?_ ⟨rfl, rfl, rfl, trivial⟩))
 refine WC.seq (WC.region ?_)
 refine WL.q (oq_move rfl) rfl rfl rfl ?_
 refine WL.q (oq_move rfl) rfl rfl rfl ?_
 refine WL.f1 ?_
 refine WL.f1 ?_
 refine WL.callW2 (gotH0 _ sb x.id A B x items hit rfl hA) call123 rfl rfl rfl fun v1_2 Hs1_2 hR1_2 => ?_
 obtain ⟨rfl, rfl⟩ := hR1_2
 refine WL.to2 ?_
 refine WL.q (oq_move rfl) rfl rfl rfl ?_
 refine WL.q (oq_extract rfl rfl) rfl rfl rfl ?_
 refine WL.q (oq_extract rfl rfl) rfl rfl rfl ?_
 refine WL.q (oq_assign rfl) rfl rfl rfl ?_
 refine WL.q (oq_assign rfl) rfl rfl rfl ?_
 refine WL.nil (WE.then_normal (WC.sub (fr' := [(2, _), (8, _)]) ?_ ⟨rfl, rfl, trivial⟩))
 refine WC.seq (WC.seq (WC.region ?_))
 refine WL.q (oq_move rfl) rfl rfl rfl ?_
 refine WL.q (oq_peql Tryz.underlying200 rfl rfl) rfl rfl rfl ?_
 refine WL.nil (WE.then_normal (WC.sub (fr' := [(2, _), (8, _), (18, _)]) ?_ ⟨rfl, rfl, rfl, trivial⟩))
 refine WC.cond rfl (fun q2 => ?_) (fun q2 => ?_)
 ·
  try simp only [Z1, Z2, Z3, Z4, Z5, Z6, Z7, Z8, Z9, Z0] at q2
  simp at q2
 ·
  try simp only [Z1, Z2, Z3, Z4, Z5, Z6, Z7, Z8, Z9, Z0] at q2
  refine WC.skip (WE.then_normal (WC.sub (fr' := [(2, _), (8, _)]) ?_ ⟨rfl, rfl, trivial⟩))
  refine WC.seq (WC.region ?_)
  refine WL.f1 ?_
  refine WL.reg (reg_out (show (ch 200 204 231 (items) .nilIface).Perm ([(x.b, .cells #[nextOf 200 (B) .nilIface, wv 231 x] 204 (0, 0))] ++ (ch 200 204 231 (A) (.iface 200 (Pt x.b 0)) ++ ch 200 204 231 (B) .nilIface)) from by rw [hit]; exact ch_out _ _ _ _)) ?_
  refine WL.q (oq_move rfl) rfl rfl rfl ?_
  refine WL.q (oq_nilCheck rfl) rfl rfl rfl ?_
  refine WL.q (oq_fieldAddr fld204_1 rfl) rfl rfl rfl ?_
  refine WL.q (oq_load flat98 rfl (.head _) (List.mem_singleton.2 rfl) rfl) rfl rfl rfl ?_
  refine WL.q (oq_assign rfl) rfl rfl rfl ?_
  refine WL.nil (WE.then_normal (WC.sub (fr' := [(2, _), (8, _), (10, _)]) ?_ ⟨rfl, rfl, rfl, trivial⟩))
  refine WC.seq (WC.region ?_)
  refine WL.q (oq_move rfl) rfl rfl rfl ?_
  refine WL.q (oq_move rfl) rfl rfl rfl ?_
  refine WL.q (oq_nilCheck rfl) rfl rfl rfl ?_
  refine WL.q (oq_fieldAddr fld204_1 rfl) rfl rfl rfl ?_
  refine WL.store1 #[_, _] ty98 rfl rfl (by first | rfl | exact OwS.one one_) (Nat.lt_of_lt_of_le (Nat.lt_succ_self _) (Nat.le_of_ble_eq_true rfl)) rfl rfl ?_
  refine WL.nil (WE.then_normal (WC.sub (fr' := [(10, _)]) ?_ ⟨rfl, trivial⟩))
  refine WC.seq (WC.region ?_)
  refine WL.q (oq_move rfl) rfl rfl rfl ?_
  refine WL.q (oq_assign rfl) rfl rfl rfl ?_
  refine WL.q (oq_assign rfl) rfl rfl rfl ?_
  refine WL.nil (WE.then_normal (WC.sub (fr' := [(6, _), (7, _)]) ?_ ⟨rfl, rfl, trivial⟩))
  refine WC.ret ?_
  refine WE.f3 ?_
  refine WE.f2 ?_
  refine WE.f2 ?_
  refine WE.f3 ?_
  refine WE.endW3 (.inl rfl) (res2 Tryz.results60 rfl rfl) ?_
  exact ⟨rfl, perm2 (by rw [hit, ← hdp_b A B x id fv, ← lastp_b A B x id fv]) (by simp only [List.flatten_cons, List.flatten_nil, List.append_nil]; exact ch_del A (Nd.mk x.b id fv) B _)⟩
theorem swapN0 (base sb : Nat) (by_ : List UInt8) (m : Value) (items : List Nd) (hn : ∀ y ∈ items, y.id ≠ by_) : FnW Tryz.prog 60 [Pt sb 0, S by_, m] base [[(sb, .cells #[(hdp (items)), (lastp (items))] 202 (0, 0))], ch 200 204 231 items .nilIface] (fun v Hs => (∃ k u, v = .tuple #[.nilIface, .iface k u]) ∧ Hs = [[(sb, .cells #[(hdp (items)), (lastp (items))] 202 (0, 0))], ch 200 204 231 items .nilIface]) := by
 refine FnW.enter (n := 29) Tryz.func60 rfl rfl fun w0 R0 hbase => ?_
 subst hbase
 show WC _ _ _ _ _ _ _ ([[(sb, .cells #[(hdp (items)), (lastp (items))] 202 (0, 0))], ch 200 204 231 items .nilIface, R0])
 refine WC.sub (fr' := [(0, _), (1, _), (2, _)]) ?_ ⟨rfl, rfl, rfl, trivial⟩
 refine WC.seq (WC.region ?_)
 refine WL.q (oq_assign rfl) rfl rfl rfl ?_
 refine WL.q (oq_assign rfl) rfl rfl rfl ?_
 refine WL.nil (WE.then_normal (WC.sub (fr' := [(0, _), (1, _), (2, _)]) ?_ ⟨rfl, rfl, rfl, trivial⟩))
 refine WC.seq (WC.region ?_)
 refine WL.q (oq_move rfl) rfl rfl rfl ?_
 refine WL.q (oq_move rfl) rfl rfl rfl ?_
 refine WL.f1 ?_
 refine WL.f1 ?_
 refine WL.callW2 (gotM0 _ sb by_ items hn) call123 rfl rfl rfl fun v1_2 Hs1_2 hR1_2 => ?_
 obtain ⟨rfl, rfl⟩ := hR1_2
 refine WL.to2 ?_
 refine WL.q (oq_move rfl) rfl rfl rfl ?_
 refine WL.q (oq_extract rfl rfl) rfl rfl rfl ?_
 refine WL.q (oq_extract rfl rfl) rfl rfl rfl ?_
 refine WL.q (oq_assign rfl) rfl rfl rfl ?_
 refine WL.q (oq_assign rfl) rfl rfl rfl ?_
 refine WL.nil (WE.then_normal (WC.sub (fr' := [(2, _), (8, _)]) ?_ ⟨rfl, rfl, trivial⟩))
 refine WC.seq (WC.seq (WC.region ?_))
 refine WL.q (oq_move rfl) rfl rfl rfl ?_
 refine WL.q (oq_peql Tryz.underlying200 rfl rfl) rfl rfl rfl ?_
 refine WL.nil (WE.then_normal (WC.sub (fr' := [(2, _), (8, _), (18, _)]) ?_ ⟨rfl, rfl, rfl, trivial⟩))
 refine WC.cond rfl (fun q2 => ?_) (fun q2 => ?_)
 ·
  try simp only [Z1, Z2, Z3, Z4, Z5, Z6, Z7, Z8, Z9, Z0] at q2
  refine WC.seq (WC.region ?_)
  refine WL.callA0 (errNew _) call122 rfl rfl rfl fun v3_0 N3_0 hR3_0 hN3_0 => ?_
  obtain ⟨ek, eu, rfl⟩ := hR3_0
  refine WL.q (oq_assign rfl) rfl rfl rfl ?_
  refine WL.q (oq_assign rfl) rfl rfl rfl ?_
  refine WL.nil (WE.then_normal (WC.sub (fr' := [(6, _), (7, _)]) ?_ ⟨rfl, rfl, trivial⟩))
  refine WC.ret (WE.then_ret ?_)
  refine WE.forget hN3_0 ?_
  refine WE.endW2 (.inl rfl) (res2 Tryz.results60 rfl rfl) ?_
  exact ⟨⟨_, _, rfl⟩, rfl⟩
 ·
  try simp only [Z1, Z2, Z3, Z4, Z5, Z6, Z7, Z8, Z9, Z0] at q2
  simp at q2
theorem insF1 (base sb : Nat) (nr : Value) (x : Nd) (items : List Nd) (id : List UInt8) (fv : Value) (B : List Nd) (hit : items = [] ++ x :: B) : FnW Tryz.prog 72 [Pt sb 0, .iface 235 (.agg #[S id, fv]), S x.id, I 1] base [[(sb, .cells #[(hdp (items)), (lastp (items)), nr] 208 (0, 0))], ch 206 210 235 items .nilIface] (fun v Hs => v = .nilIface ∧ ∃ e, base ≤ e ∧ Hs.flatten.Perm ([[(sb, .cells #[(hdp (Nd.mk e id fv :: items)), (lastp (Nd.mk e id fv :: items)), nr] 208 (0, 0))], ch 206 210 235 (Nd.mk e id fv :: items) .nilIface] : List Hp).flatten) := by
 refine FnW.enter (n := 76) Tryz.func72 rfl rfl fun w0 R0 hbase => ?_
 subst hbase
 show WC _ _ _ _ _ _ _ ([[(sb, .cells #[(hdp (items)), (lastp (items)), nr] 208 (0, 0))], ch 206 210 235 items .nilIface, R0])
 refine WC.sub (fr' := [(0, _), (1, _), (2, _), (3, _)]) ?_ ⟨rfl, rfl, rfl, rfl, trivial⟩
 refine WC.seq (WC.region ?_)
 refine WL.q (oq_assign rfl) rfl rfl rfl ?_
 refine WL.nil (WE.then_normal (WC.sub (fr' := [(0, _), (1, _), (2, _), (3, _)]) ?_ ⟨rfl, rfl, rfl, rfl, trivial⟩))
 refine WC.seq (WC.region ?_)
 refine WL.q (oq_move rfl) rfl rfl rfl ?_
 refine WL.q (oq_move rfl) rfl rfl rfl ?_
 refine WL.f1 ?_
 refine WL.f1 ?_
 refine WL.callW2 (gotH1 _ sb nr x.id [] B x items hit rfl (by simp)) call124 rfl rfl rfl fun v1_2 Hs1_2 hR1_2 => ?_
 obtain ⟨rfl, rfl⟩ := hR1_2
 refine WL.to2 ?_
 refine WL.q (oq_move rfl) rfl rfl rfl ?_
 refine WL.q (oq_extract rfl rfl) rfl rfl rfl ?_
 refine WL.q (oq_extract rfl rfl) rfl rfl rfl ?_
 refine WL.q (oq_assign rfl) rfl rfl rfl ?_
 refine WL.q (oq_assign rfl) rfl rfl rfl ?_
 refine WL.nil (WE.then_normal (WC.sub (fr' := [(0, _), (1, _), (3, _), (9, _), (10, _)]) ?_ ⟨rfl, rfl, rfl, rfl, rfl, trivial⟩))
 refine WC.seq (WC.seq (WC.region ?_))
 refine WL.q (oq_move rfl) rfl rfl rfl ?_
 refine WL.q (oq_peql Tryz.underlying206 rfl rfl) rfl rfl rfl ?_
 refine WL.nil (WE.then_normal (WC.sub (fr' := [(0, _), (1, _), (3, _), (9, _), (10, _), (19, _)]) ?_ ⟨rfl, rfl, rfl, rfl, rfl, rfl, trivial⟩))
 refine WC.cond rfl (fun q2 => ?_) (fun q2 => ?_)
 ·
  try simp only [Z1, Z2, Z3, Z4, Z5, Z6, Z7, Z8, Z9, Z0] at q2
  first | (simp at q2; done) | (simp at q4; done) | (simp at q5; done) | (simp [nextOf, nilI] at q8; done) | (exfalso; omega)
 ·
  try simp only [Z1, Z2, Z3, Z4, Z5, Z6, Z7, Z8, Z9, Z0] at q2
  refine WC.skip (WE.then_normal (WC.sub (fr' := [(0, _), (1, _), (3, _), (9, _), (10, _)]) ?_ ⟨rfl, rfl, rfl, rfl, rfl, trivial⟩))
  refine WC.seq (WC.seq (WC.region ?_))
  refine WL.q (oq_move rfl) rfl rfl rfl ?_
  refine WL.q (oq_eql rfl rfl) rfl rfl rfl ?_
  refine WL.nil (WE.then_normal (WC.sub (fr' := [(0, _), (1, _), (9, _), (10, _), (22, _)]) ?_ ⟨rfl, rfl, rfl, rfl, rfl, trivial⟩))
  refine WC.cond rfl (fun q4 => ?_) (fun q4 => ?_)
  ·
   try simp only [Z1, Z2, Z3, Z4, Z5, Z6, Z7, Z8, Z9, Z0] at q4
   refine WC.seq (WC.region ?_)
   refine WL.q (oq_move rfl) rfl rfl rfl ?_
   refine WL.q (oq_peql Tryz.underlying206 rfl rfl) rfl rfl rfl ?_
   refine WL.nil (WE.then_normal (WC.sub (fr' := [(0, _), (1, _), (9, _), (10, _), (24, _)]) ?_ ⟨rfl, rfl, rfl, rfl, rfl, trivial⟩))
   refine WC.cond rfl (fun q5 => ?_) (fun q5 => ?_)
   ·
    try simp only [Z1, Z2, Z3, Z4, Z5, Z6, Z7, Z8, Z9, Z0] at q5
    have hd0 : hdp items = Pt x.b 0 := by rw [hit]; rfl
    rw [hd0]
    refine WC.region ?_
    refine WL.q (oq_move rfl) rfl rfl rfl ?_
    refine WL.q (oq_move rfl) rfl rfl rfl ?_
    refine WL.q (oq_nilCheck rfl) rfl rfl rfl ?_
    refine WL.q (oq_fieldAddr fld208_0 rfl) rfl rfl rfl ?_
    refine WL.q (oq_load flat206 rfl (.head _) (List.mem_singleton.2 rfl) rfl) rfl rfl rfl ?_
    refine WL.q (oq_makeI conc206 rfl) rfl rfl rfl ?_
    refine WL.q (oq_move rfl) rfl rfl rfl ?_
    refine WL.q (oq_build #[_, _] str210 ty210 rfl rfl) rfl rfl rfl ?_
    refine WL.box rfl rfl rfl fun e he => ?_
    refine WL.q (oq_nilCheck rfl) rfl rfl rfl ?_
    refine WL.q (oq_fieldAddr fld208_0 rfl) rfl rfl rfl ?_
    refine WL.f1 ?_
    refine WL.store1 #[_, _, _] ty206 rfl rfl (by first | rfl | exact OwS.one one_) (Nat.lt_of_lt_of_le (Nat.lt_succ_self _) (Nat.le_of_ble_eq_true rfl)) rfl rfl ?_
    refine WL.nil (WE.then_normal (WC.sub (fr' := []) ?_ trivial))
    refine WC.seq (WC.region ?_)
    refine WL.q (oq_assign rfl) rfl rfl rfl ?_
    refine WL.nil (WE.then_normal (WC.sub (fr' := [(8, _)]) ?_ ⟨rfl, trivial⟩))
    refine WC.ret ?_
    refine WE.endW3 (.inl rfl) (res1 Tryz.results72 rfl) ?_
    exact ⟨rfl, e, he, perm2 (by rw [lastp_ne _ _ (by rw [hit]; simp)]; rfl) (by simp only [List.flatten_cons, List.flatten_nil, List.append_nil]; exact .of_eq (ch_front hit (Nd.mk e id fv)))⟩
   ·
    try simp only [Z1, Z2, Z3, Z4, Z5, Z6, Z7, Z8, Z9, Z0] at q5
    first | (simp at q2; done) | (simp at q4; done) | (simp at q5; done) | (simp [nextOf, nilI] at q8; done) | (exfalso; omega)
  ·
   try simp only [Z1, Z2, Z3, Z4, Z5, Z6, Z7, Z8, Z9, Z0] at q4
   first | (simp at q2; done) | (simp at q4; done) | (simp at q5; done) | (simp [nextOf, nilI] at q8; done) | (exfalso; omega)
theorem insM1 (base sb : Nat) (nr : Value) (x : Nd) (items : List Nd) (id : List UInt8) (fv : Value) (A2 B : List Nd) (p : Nd) (hit : items = (A2 ++ [p]) ++ x :: B) (hA : ∀ y ∈ A2 ++ [p], y.id ≠ x.id) : FnW Tryz.prog 72 [Pt sb 0, .iface 235 (.agg #[S id, fv]), S x.id, I 1] base [[(sb, .cells #[(hdp (items)), (lastp (items)), nr] 208 (0, 0))], ch 206 210 235 items .nilIface] (fun v Hs => v = .nilIface ∧ ∃ e, base ≤ e ∧ Hs.flatten.Perm ([[(sb, .cells #[(hdp (A2 ++ p :: Nd.mk e id fv :: x :: B)), (lastp (A2 ++ p :: Nd.mk e id fv :: x :: B)), nr] 208 (0, 0))], ch 206 210 235 (A2 ++ p :: Nd.mk e id fv :: x :: B) .nilIface] : List Hp).flatten) := by
 have hit2 : items = A2 ++ p :: x :: B := by rw [hit]; simp
 refine FnW.enter (n := 76) Tryz.func72 rfl rfl fun w0 R0 hbase => ?_
 subst hbase
 show WC _ _ _ _ _ _ _ ([[(sb, .cells #[(hdp (items)), (lastp (items)), nr] 208 (0, 0))], ch 206 210 235 items .nilIface, R0])
 refine WC.sub (fr' := [(0, _), (1, _), (2, _), (3, _)]) ?_ ⟨rfl, rfl, rfl, rfl, trivial⟩
 refine WC.seq (WC.region ?_)
 refine WL.q (oq_assign rfl) rfl rfl rfl ?_
 refine WL.nil (WE.then_normal (WC.sub (fr' := [(0, _), (1, _), (2, _), (3, _)]) ?_ ⟨rfl, rfl, rfl, rfl, trivial⟩))
 refine WC.seq (WC.region ?_)
 refine WL.q (oq_move rfl) rfl rfl rfl ?_
 refine WL.q (oq_move rfl) rfl rfl rfl ?_
 refine WL.f1 ?_
 refine WL.f1 ?_
 refine WL.callW2 (gotH1 _ sb nr x.id (A2 ++ [p]) B x items hit rfl hA) call124 rfl rfl rfl fun v1_2 Hs1_2 hR1_2 => ?_
 obtain ⟨rfl, rfl⟩ := hR1_2
 rw [lastp_snoc]
 refine WL.to2 ?_
 refine WL.q (oq_move rfl) rfl rfl rfl ?_
 refine WL.q (oq_extract rfl rfl) rfl rfl rfl ?_
 refine WL.q (oq_extract rfl rfl) rfl rfl rfl ?_
 refine WL.q (oq_assign rfl) rfl rfl rfl ?_
 refine WL.q (oq_assign rfl) rfl rfl rfl ?_
 refine WL.nil (WE.then_normal (WC.sub (fr' := [(0, _), (1, _), (3, _), (9, _), (10, _)]) ?_ ⟨rfl, rfl, rfl, rfl, rfl, trivial⟩))
 refine WC.seq (WC.seq (WC.region ?_))
 refine WL.q (oq_move rfl) rfl rfl rfl ?_
 refine WL.q (oq_peql Tryz.underlying206 rfl rfl) rfl rfl rfl ?_
 refine WL.nil (WE.then_normal (WC.sub (fr' := [(0, _), (1, _), (3, _), (9, _), (10, _), (19, _)]) ?_ ⟨rfl, rfl, rfl, rfl, rfl, rfl, trivial⟩))
 refine WC.cond rfl (fun q2 => ?_) (fun q2 => ?_)
 ·
  try simp only [Z1, Z2, Z3, Z4, Z5, Z6, Z7, Z8, Z9, Z0] at q2
  first | (simp at q2; done) | (simp at q4; done) | (simp at q5; done) | (simp [nextOf, nilI] at q8; done) | (exfalso; omega)
 ·
  try simp only [Z1, Z2, Z3, Z4, Z5, Z6, Z7, Z8, Z9, Z0] at q2
  refine WC.skip (WE.then_normal (WC.sub (fr' := [(0, _), (1, _), (3, _), (9, _), (10, _)]) ?_ ⟨rfl, rfl, rfl, rfl, rfl, trivial⟩))
  refine WC.seq (WC.seq (WC.region ?_))
  refine WL.q (oq_move rfl) rfl rfl rfl ?_
  refine WL.q (oq_eql rfl rfl) rfl rfl rfl ?_
  refine WL.nil (WE.then_normal (WC.sub (fr' := [(0, _), (1, _), (9, _), (10, _), (22, _)]) ?_ ⟨rfl, rfl, rfl, rfl, rfl, trivial⟩))
  refine WC.cond rfl (fun q4 => ?_) (fun q4 => ?_)
  ·
   try simp only [Z1, Z2, Z3, Z4, Z5, Z6, Z7, Z8, Z9, Z0] at q4
   refine WC.seq (WC.region ?_)
   refine WL.q (oq_move rfl) rfl rfl rfl ?_
   refine WL.q (oq_peql Tryz.underlying206 rfl rfl) rfl rfl rfl ?_
   refine WL.nil (WE.then_normal (WC.sub (fr' := [(0, _), (1, _), (9, _), (10, _), (24, _)]) ?_ ⟨rfl, rfl, rfl, rfl, rfl, trivial⟩))
   refine WC.cond rfl (fun q5 => ?_) (fun q5 => ?_)
   ·
    try simp only [Z1, Z2, Z3, Z4, Z5, Z6, Z7, Z8, Z9, Z0] at q5
    first | (simp at q2; done) | (simp at q4; done) | (simp at q5; done) | (simp [nextOf, nilI] at q8; done) | (exfalso; omega)
   ·
    try simp only [Z1, Z2, Z3, Z4, Z5, Z6, Z7, Z8, Z9, Z0] at q5
    refine WC.region ?_
    refine WL.f1 ?_
    refine WL.reg (reg_out (show (ch 206 210 235 (items) .nilIface).Perm ([(p.b, .cells #[nextOf 206 (x :: B) .nilIface, wv 235 p] 210 (0, 0))] ++ (ch 206 210 235 (A2) (.iface 206 (Pt p.b 0)) ++ ch 206 210 235 (x :: B) .nilIface)) from by rw [hit2]; exact ch_out _ _ _ _)) ?_
    refine WL.q (oq_move rfl) rfl rfl rfl ?_
    refine WL.q (oq_move rfl) rfl rfl rfl ?_
    refine WL.q (oq_makeI conc206 rfl) rfl rfl rfl ?_
    refine WL.q (oq_move rfl) rfl rfl rfl ?_
    refine WL.q (oq_build #[_, _] str210 ty210 rfl rfl) rfl rfl rfl ?_
    refine WL.box rfl rfl rfl fun e he => ?_
    refine WL.q (oq_makeI conc206 rfl) rfl rfl rfl ?_
    refine WL.q (oq_nilCheck rfl) rfl rfl rfl ?_
    refine WL.q (oq_fieldAddr fld210_0 rfl) rfl rfl rfl ?_
    refine WL.f1 ?_
    refine WL.store1 #[_, _] ty126 rfl rfl (by first | rfl | exact OwS.one one_) (Nat.lt_of_lt_of_le (Nat.lt_succ_self _) (Nat.le_of_ble_eq_true rfl)) rfl rfl ?_
    refine WL.nil (WE.then_normal (WC.sub (fr' := []) ?_ trivial))
    refine WC.seq (WC.region ?_)
    refine WL.q (oq_assign rfl) rfl rfl rfl ?_
    refine WL.nil (WE.then_normal (WC.sub (fr' := [(8, _)]) ?_ ⟨rfl, trivial⟩))
    refine WC.ret ?_
    refine WE.f4 ?_
    refine WE.f3 ?_
    refine WE.f3 ?_
    refine WE.f3 ?_
    refine WE.f4 ?_
    refine WE.endW4 (.inl rfl) (res1 Tryz.results72 rfl) ?_
    exact ⟨rfl, e, he, perm2 (by rw [hit2, hdp_cons A2 p (x :: B) (Nd.mk e id fv :: x :: B), lastp_cons, lastp_cons]; rfl) (by simp only [List.flatten_cons, List.flatten_nil, List.append_nil]; exact ch_ins A2 p (Nd.mk e id fv) (x :: B) _)⟩
  ·
   try simp only [Z1, Z2, Z3, Z4, Z5, Z6, Z7, Z8, Z9, Z0] at q4
   first | (simp at q2; done) | (simp at q4; done) | (simp at q5; done) | (simp [nextOf, nilI] at q8; done) | (exfalso; omega)
theorem insE1 (base sb : Nat) (nr : Value) (x : Nd) (items : List Nd) (id : List UInt8) (fv : Value) (A : List Nd) (hit : items = A ++ x :: []) (hA : ∀ y ∈ A, y.id ≠ x.id) : FnW Tryz.prog 72 [Pt sb 0, .iface 235 (.agg #[S id, fv]), S x.id, I 0] base [[(sb, .cells #[(hdp (items)), (lastp (items)), nr] 208 (0, 0))], ch 206 210 235 items .nilIface] (fun v Hs => v = .nilIface ∧ ∃ e, base ≤ e ∧ Hs.flatten.Perm ([[(sb, .cells #[(hdp (A ++ x :: Nd.mk e id fv :: [])), (lastp (A ++ x :: Nd.mk e id fv :: [])), nr] 208 (0, 0))], ch 206 210 235 (A ++ x :: Nd.mk e id fv :: []) .nilIface] : List Hp).flatten) := by
 refine FnW.enter (n := 76) Tryz.func72 rfl rfl fun w0 R0 hbase => ?_
 subst hbase
 show WC _ _ _ _ _ _ _ ([[(sb, .cells #[(hdp (items)), (lastp (items)), nr] 208 (0, 0))], ch 206 210 235 items .nilIface, R0])
 refine WC.sub (fr' := [(0, _), (1, _), (2, _), (3, _)]) ?_ ⟨rfl, rfl, rfl, rfl, trivial⟩
 refine WC.seq (WC.region ?_)
 refine WL.q (oq_assign rfl) rfl rfl rfl ?_
 refine WL.nil (WE.then_normal (WC.sub (fr' := [(0, _), (1, _), (2, _), (3, _)]) ?_ ⟨rfl, rfl, rfl, rfl, trivial⟩))
 refine WC.seq (WC.region ?_)
 refine WL.q (oq_move rfl) rfl rfl rfl ?_
 refine WL.q (oq_move rfl) rfl rfl rfl ?_
 refine WL.f1 ?_
 refine WL.f1 ?_
 refine WL.callW2 (gotH1 _ sb nr x.id A [] x items hit rfl hA) call124 rfl rfl rfl fun v1_2 Hs1_2 hR1_2 => ?_
 obtain ⟨rfl, rfl⟩ := hR1_2
 refine WL.to2 ?_
 refine WL.q (oq_move rfl) rfl rfl rfl ?_
 refine WL.q (oq_extract rfl rfl) rfl rfl rfl ?_
 refine WL.q (oq_extract rfl rfl) rfl rfl rfl ?_
 refine WL.q (oq_assign rfl) rfl rfl rfl ?_
 refine WL.q (oq_assign rfl) rfl rfl rfl ?_
 refine WL.nil (WE.then_normal (WC.sub (fr' := [(0, _), (1, _), (3, _), (9, _), (10, _)]) ?_ ⟨rfl, rfl, rfl, rfl, rfl, trivial⟩))
 refine WC.seq (WC.seq (WC.region ?_))
 refine WL.q (oq_move rfl) rfl rfl rfl ?_
 refine WL.q (oq_peql Tryz.underlying206 rfl rfl) rfl rfl rfl ?_
 refine WL.nil (WE.then_normal (WC.sub (fr' := [(0, _), (1, _), (3, _), (9, _), (10, _), (19, _)]) ?_ ⟨rfl, rfl, rfl, rfl, rfl, rfl, trivial⟩))
 refine WC.cond rfl (fun q2 => ?_) (fun q2 => ?_)
 ·
  try simp only [Z1, Z2, Z3, Z4, Z5, Z6, Z7, Z8, Z9, Z0] at q2
  first | (simp at q2; done) | (simp at q4; done) | (simp at q5; done) | (simp [nextOf, nilI] at q8; done) | (exfalso; omega)
 ·
  try simp only [Z1, Z2, Z3, Z4, Z5, Z6, Z7, Z8, Z9, Z0] at q2
  refine WC.skip (WE.then_normal (WC.sub (fr' := [(0, _), (1, _), (3, _), (9, _), (10, _)]) ?_ ⟨rfl, rfl, rfl, rfl, rfl, trivial⟩))
  refine WC.seq (WC.seq (WC.region ?_))
  refine WL.q (oq_move rfl) rfl rfl rfl ?_
  refine WL.q (oq_eql rfl rfl) rfl rfl rfl ?_
  refine WL.nil (WE.then_normal (WC.sub (fr' := [(0, _), (1, _), (9, _), (10, _), (22, _)]) ?_ ⟨rfl, rfl, rfl, rfl, rfl, trivial⟩))
  refine WC.cond rfl (fun q4 => ?_) (fun q4 => ?_)
  ·
   try simp only [Z1, Z2, Z3, Z4, Z5, Z6, Z7, Z8, Z9, Z0] at q4
   first | (simp at q2; done) | (simp at q4; done) | (simp at q5; done) | (simp [nextOf, nilI] at q8; done) | (exfalso; omega)
  ·
   try simp only [Z1, Z2, Z3, Z4, Z5, Z6, Z7, Z8, Z9, Z0] at q4
   refine WC.seq (WC.region ?_)
   refine WL.q (oq_move rfl) rfl rfl rfl ?_
   refine WL.q (oq_nilCheck rfl) rfl rfl rfl ?_
   refine WL.q (oq_fieldAddr fld210_0 rfl) rfl rfl rfl ?_
   refine WL.q (oq_load flat126 rfl (.tail _ (.head _)) (mem_of hit) rfl) rfl rfl rfl ?_
   refine WL.q (oq_ieql Tryz.underlying126 rfl (.inl rfl)) rfl rfl rfl ?_
   refine WL.nil (WE.then_normal (WC.sub (fr' := [(0, _), (1, _), (9, _), (49, _)]) ?_ ⟨rfl, rfl, rfl, rfl, trivial⟩))
   refine WC.cond rfl (fun q8 => ?_) (fun q8 => ?_)
   ·
    try simp only [Z1, Z2, Z3, Z4, Z5, Z6, Z7, Z8, Z9, Z0] at q8
    refine WC.seq (WC.region ?_)
    refine WL.q (oq_move rfl) rfl rfl rfl ?_
    refine WL.q (oq_build #[_, _] str210 ty210 rfl rfl) rfl rfl rfl ?_
    refine WL.box rfl rfl rfl fun e he => ?_
    refine WL.q (oq_assign rfl) rfl rfl rfl ?_
    refine WL.nil (WE.then_normal (WC.sub (fr' := [(0, _), (11, _)]) ?_ ⟨rfl, rfl, trivial⟩))
    refine WC.seq ?_
    have hl0 : lastp items = Pt x.b 0 := by rw [hit, lastp_snoc]
    rw [hl0]
    refine WC.region ?_
    refine WL.f2 ?_
    refine WL.reg (reg_out (show (ch 206 210 235 (items) .nilIface).Perm ([(x.b, .cells #[nextOf 206 ([]) .nilIface, wv 235 x] 210 (0, 0))] ++ (ch 206 210 235 (A) (.iface 206 (Pt x.b 0)) ++ ch 206 210 235 ([]) .nilIface)) from by rw [hit]; exact ch_out _ _ _ _)) ?_
    refine WL.q (oq_move rfl) rfl rfl rfl ?_
    refine WL.q (oq_nilCheck rfl) rfl rfl rfl ?_
    refine WL.q (oq_fieldAddr fld208_1 rfl) rfl rfl rfl ?_
    refine WL.q (oq_load flat206 rfl (.tail _ (.tail _ (.tail _ (.head _)))) (List.mem_singleton.2 rfl) rfl) rfl rfl rfl ?_
    refine WL.q (oq_move rfl) rfl rfl rfl ?_
    refine WL.q (oq_makeI conc206 rfl) rfl rfl rfl ?_
    refine WL.q (oq_nilCheck rfl) rfl rfl rfl ?_
    refine WL.q (oq_fieldAddr fld210_0 rfl) rfl rfl rfl ?_
    refine WL.store1 #[_, _] ty126 rfl rfl (by first | rfl | exact OwS.one one_) (Nat.lt_of_lt_of_le (Nat.lt_succ_self _) (Nat.le_of_ble_eq_true rfl)) rfl rfl ?_
    refine WL.nil (WE.then_normal (WC.sub (fr' := [(0, _), (11, _)]) ?_ ⟨rfl, rfl, trivial⟩))
    refine WC.region ?_
    refine WL.q (oq_move rfl) rfl rfl rfl ?_
    refine WL.q (oq_move rfl) rfl rfl rfl ?_
    refine WL.q (oq_nilCheck rfl) rfl rfl rfl ?_
    refine WL.q (oq_fieldAddr fld208_1 rfl) rfl rfl rfl ?_
    refine WL.f3 ?_
    refine WL.store1 #[_, _, _] ty206 rfl rfl (by first | rfl | exact OwS.one one_) (Nat.lt_of_lt_of_le (Nat.lt_succ_self _) (Nat.le_of_ble_eq_true rfl)) rfl rfl ?_
    refine WL.nil (WE.then_normal (WC.sub (fr' := []) ?_ trivial))
    refine WC.seq (WC.region ?_)
    refine WL.q (oq_assign rfl) rfl rfl rfl ?_
    refine WL.nil (WE.then_normal (WC.sub (fr' := [(8, _)]) ?_ ⟨rfl, trivial⟩))
    refine WC.ret ?_
    refine WE.f4 ?_
    refine WE.f3 ?_
    refine WE.f4 ?_
    refine WE.f4 ?_
    refine WE.f4 ?_
    refine WE.endW4 (.inl rfl) (res1 Tryz.results72 rfl) ?_
    exact ⟨rfl, e, he, perm2 (by rw [hit, hdp_cons A x [] [Nd.mk e id fv], lastp_cons]; rfl) (by simp only [List.flatten_cons, List.flatten_nil, List.append_nil]; exact ch_ins A x (Nd.mk e id fv) [] _)⟩
   ·
    try simp only [Z1, Z2, Z3, Z4, Z5, Z6, Z7, Z8, Z9, Z0] at q8
    first | (simp at q2; done) | (simp at q4; done) | (simp at q5; done) | (simp [nextOf, nilI] at q8; done) | (exfalso; omega)
theorem insA1 (base sb : Nat) (nr : Value) (x : Nd) (items : List Nd) (id : List UInt8) (fv : Value) (A B : List Nd) (y : Nd) (hit : items = A ++ x :: (y :: B)) (hA : ∀ y ∈ A, y.id ≠ x.id) : FnW Tryz.prog 72 [Pt sb 0, .iface 235 (.agg #[S id, fv]), S x.id, I 0] base [[(sb, .cells #[(hdp (items)), (lastp (items)), nr] 208 (0, 0))], ch 206 210 235 items .nilIface] (fun v Hs => v = .nilIface ∧ ∃ e, base ≤ e ∧ Hs.flatten.Perm ([[(sb, .cells #[(hdp (A ++ x :: Nd.mk e id fv :: y :: B)), (lastp (A ++ x :: Nd.mk e id fv :: y :: B)), nr] 208 (0, 0))], ch 206 210 235 (A ++ x :: Nd.mk e id fv :: y :: B) .nilIface] : List Hp).flatten) := by
 refine FnW.enter (n := 76) Tryz.func72 rfl rfl fun w0 R0 hbase => ?_
 subst hbase
 show WC _ _ _ _ _ _ _ ([[(sb, .cells #[(hdp (items)), (lastp (items)), nr] 208 (0, 0))], ch 206 210 235 items .nilIface, R0])
 refine WC.sub (fr' := [(0, _), (1, _), (2, _), (3, _)]) ?_ ⟨rfl, rfl, rfl, rfl, trivial⟩
 refine WC.seq (WC.region ?_)
 refine WL.q (oq_assign rfl) rfl rfl rfl ?_
 refine WL.nil (WE.then_normal (WC.sub (fr' := [(0, _), (1, _), (2, _), (3, _)]) ?_ ⟨rfl, rfl, rfl, rfl, trivial⟩))
 refine WC.seq (WC.region ?_)
 refine WL.q (oq_move rfl) rfl rfl rfl ?_
 refine WL.q (oq_move rfl) rfl rfl rfl ?_
 refine WL.f1 ?_
 refine WL.f1 ?_
 refine WL.callW2 (gotH1 _ sb nr x.id A (y :: B) x items hit rfl hA) call124 rfl rfl rfl fun v1_2 Hs1_2 hR1_2 => ?_
 obtain ⟨rfl, rfl⟩ := hR1_2
 refine WL.to2 ?_
 refine WL.q (oq_move rfl) rfl rfl rfl ?_
 refine WL.q (oq_extract rfl rfl) rfl rfl rfl ?_
 refine WL.q (oq_extract rfl rfl) rfl rfl rfl ?_
 refine WL.q (oq_assign rfl) rfl rfl rfl ?_
 refine WL.q (oq_assign rfl) rfl rfl rfl ?_
 refine WL.nil (WE.then_normal (WC.sub (fr' := [(0, _), (1, _), (3, _), (9, _), (10, _)]) ?_ ⟨rfl, rfl, rfl, rfl, rfl, trivial⟩))
 refine WC.seq (WC.seq (WC.region ?_))
 refine WL.q (oq_move rfl) rfl rfl rfl ?_
 refine WL.q (oq_peql Tryz.underlying206 rfl rfl) rfl rfl rfl ?_
 refine WL.nil (WE.then_normal (WC.sub (fr' := [(0, _), (1, _), (3, _), (9, _), (10, _), (19, _)]) ?_ ⟨rfl, rfl, rfl, rfl, rfl, rfl, trivial⟩))
 refine WC.cond rfl (fun q2 => ?_) (fun q2 => ?_)
 ·
  try simp only [Z1, Z2, Z3, Z4, Z5, Z6, Z7, Z8, Z9, Z0] at q2
  first | (simp at q2; done) | (simp at q4; done) | (simp at q5; done) | (simp [nextOf, nilI] at q8; done) | (exfalso; omega)
 ·
  try simp only [Z1, Z2, Z3, Z4, Z5, Z6, Z7, Z8, Z9, Z0] at q2
  refine WC.skip (WE.then_normal (WC.sub (fr' := [(0, _), (1, _), (3, _), (9, _), (10, _)]) ?_ ⟨rfl, rfl, rfl, rfl, rfl, trivial⟩))
  refine WC.seq (WC.seq (WC.region ?_))
  refine WL.q (oq_move rfl) rfl rfl rfl ?_
  refine WL.q (oq_eql rfl rfl) rfl rfl rfl ?_
  refine WL.nil (WE.then_normal (WC.sub (fr' := [(0, _), (1, _), (9, _), (10, _), (22, _)]) ?_ ⟨rfl, rfl, rfl, rfl, rfl, trivial⟩))
  refine WC.cond rfl (fun q4 => ?_) (fun q4 => ?_)
  ·
   try simp only [Z1, Z2, Z3, Z4, Z5, Z6, Z7, Z8, Z9, Z0] at q4
   first | (simp at q2; done) | (simp at q4; done) | (simp at q5; done) | (simp [nextOf, nilI] at q8; done) | (exfalso; omega)
  ·
   try simp only [Z1, Z2, Z3, Z4, Z5, Z6, Z7, Z8, Z9, Z0] at q4
   refine WC.seq (WC.region ?_)
   refine WL.q (oq_move rfl) rfl rfl rfl ?_
   refine WL.q (oq_nilCheck rfl) rfl rfl rfl ?_
   refine WL.q (oq_fieldAddr fld210_0 rfl) rfl rfl rfl ?_
   refine WL.q (oq_load flat126 rfl (.tail _ (.head _)) (mem_of hit) rfl) rfl rfl rfl ?_
   refine WL.q (oq_ieql Tryz.underlying126 rfl (.inr ⟨_, _, rfl⟩)) rfl rfl rfl ?_
   refine WL.nil (WE.then_normal (WC.sub (fr' := [(0, _), (1, _), (9, _), (49, _)]) ?_ ⟨rfl, rfl, rfl, rfl, trivial⟩))
   refine WC.cond rfl (fun q8 => ?_) (fun q8 => ?_)
   ·
    try simp only [Z1, Z2, Z3, Z4, Z5, Z6, Z7, Z8, Z9, Z0] at q8
    first | (simp at q2; done) | (simp at q4; done) | (simp at q5; done) | (simp [nextOf, nilI] at q8; done) | (exfalso; omega)
   ·
    try simp only [Z1, Z2, Z3, Z4, Z5, Z6, Z7, Z8, Z9, Z0] at q8
    refine WC.region ?_
    refine WL.f1 ?_
    refine WL.reg (reg_out (show (ch 206 210 235 (items) .nilIface).Perm ([(x.b, .cells #[nextOf 206 (y :: B) .nilIface, wv 235 x] 210 (0, 0))] ++ (ch 206 210 235 (A) (.iface 206 (Pt x.b 0)) ++ ch 206 210 235 (y :: B) .nilIface)) from by rw [hit]; exact ch_out _ _ _ _)) ?_
    refine WL.q (oq_move rfl) rfl rfl rfl ?_
    refine WL.q (oq_move rfl) rfl rfl rfl ?_
    refine WL.q (oq_nilCheck rfl) rfl rfl rfl ?_
    refine WL.q (oq_fieldAddr fld210_0 rfl) rfl rfl rfl ?_
    refine WL.q (oq_load flat126 rfl (.head _) (List.mem_singleton.2 rfl) rfl) rfl rfl rfl ?_
    refine WL.q (oq_move rfl) rfl rfl rfl ?_
    refine WL.q (oq_build #[_, _] str210 ty210 rfl rfl) rfl rfl rfl ?_
    refine WL.box rfl rfl rfl fun e he => ?_
    refine WL.q (oq_makeI conc206 rfl) rfl rfl rfl ?_
    refine WL.q (oq_nilCheck rfl) rfl rfl rfl ?_
    refine WL.q (oq_fieldAddr fld210_0 rfl) rfl rfl rfl ?_
    refine WL.f1 ?_
    refine WL.store1 #[_, _] ty126 rfl rfl (by first | rfl | exact OwS.one one_) (Nat.lt_of_lt_of_le (Nat.lt_succ_self _) (Nat.le_of_ble_eq_true rfl)) rfl rfl ?_
    refine WL.nil (WE.then_normal (WC.sub (fr' := []) ?_ trivial))
    refine WC.seq (WC.region ?_)
    refine WL.q (oq_assign rfl) rfl rfl rfl ?_
    refine WL.nil (WE.then_normal (WC.sub (fr' := [(8, _)]) ?_ ⟨rfl, trivial⟩))
    refine WC.ret ?_
    refine WE.f4 ?_
    refine WE.f3 ?_
    refine WE.f3 ?_
    refine WE.f3 ?_
    refine WE.f4 ?_
    refine WE.endW4 (.inl rfl) (res1 Tryz.results72 rfl) ?_
    exact ⟨rfl, e, he, perm2 (by rw [hit, hdp_cons A x (y :: B) (Nd.mk e id fv :: y :: B), lastp_cons, lastp_cons]; rfl) (by simp only [List.flatten_cons, List.flatten_nil, List.append_nil]; exact ch_ins A x (Nd.mk e id fv) (y :: B) _)⟩
theorem insN1 (base sb : Nat) (nr : Value) (id by_ : List UInt8) (fv : Value) (items : List Nd) (hn : ∀ y ∈ items, y.id ≠ by_) (pos : Int) : FnW Tryz.prog 72 [Pt sb 0, .iface 235 (.agg #[S id, fv]), S by_, I pos] base [[(sb, .cells #[(hdp (items)), (lastp (items)), nr] 208 (0, 0))], ch 206 210 235 items .nilIface] (fun v Hs => (∃ k u, v = .iface k u) ∧ Hs = [[(sb, .cells #[(hdp (items)), (lastp (items)), nr] 208 (0, 0))], ch 206 210 235 items .nilIface]) := by
 refine FnW.enter (n := 76) Tryz.func72 rfl rfl fun w0 R0 hbase => ?_
 subst hbase
 show WC _ _ _ _ _ _ _ ([[(sb, .cells #[(hdp (items)), (lastp (items)), nr] 208 (0, 0))], ch 206 210 235 items .nilIface, R0])
 refine WC.sub (fr' := [(0, _), (1, _), (2, _), (3, _)]) ?_ ⟨rfl, rfl, rfl, rfl, trivial⟩
 refine WC.seq (WC.region ?_)
 refine WL.q (oq_assign rfl) rfl rfl rfl ?_
 refine WL.nil (WE.then_normal (WC.sub (fr' := [(0, _), (1, _), (2, _), (3, _)]) ?_ ⟨rfl, rfl, rfl, rfl, trivial⟩))
 refine WC.seq (WC.region ?_)
 refine WL.q (oq_move rfl) rfl rfl rfl ?_
 refine WL.q (oq_move rfl) rfl rfl rfl ?_
 refine WL.f1 ?_
 refine WL.f1 ?_
 refine WL.callW2 (gotM1 _ sb nr by_ items hn) call124 rfl rfl rfl fun v1_2 Hs1_2 hR1_2 => ?_
 obtain ⟨rfl, rfl⟩ := hR1_2
 refine WL.to2 ?_
 refine WL.q (oq_move rfl) rfl rfl rfl ?_
 refine WL.q (oq_extract rfl rfl) rfl rfl rfl ?_
 refine WL.q (oq_extract rfl rfl) rfl rfl rfl ?_
 refine WL.q (oq_assign rfl) rfl rfl rfl ?_
 refine WL.q (oq_assign rfl) rfl rfl rfl ?_
 refine WL.nil (WE.then_normal (WC.sub (fr' := [(0, _), (1, _), (3, _), (9, _), (10, _)]) ?_ ⟨rfl, rfl, rfl, rfl, rfl, trivial⟩))
 refine WC.seq (WC.seq (WC.region ?_))
 refine WL.q (oq_move rfl) rfl rfl rfl ?_
 refine WL.q (oq_peql Tryz.underlying206 rfl rfl) rfl rfl rfl ?_
 refine WL.nil (WE.then_normal (WC.sub (fr' := [(0, _), (1, _), (3, _), (9, _), (10, _), (19, _)]) ?_ ⟨rfl, rfl, rfl, rfl, rfl, rfl, trivial⟩))
 refine WC.cond rfl (fun q2 => ?_) (fun q2 => ?_)
 ·
  try simp only [Z1, Z2, Z3, Z4, Z5, Z6, Z7, Z8, Z9, Z0] at q2
  refine WC.seq (WC.region ?_)
  refine WL.callA0 (errNew _) call122 rfl rfl rfl fun v3_0 N3_0 hR3_0 hN3_0 => ?_
  obtain ⟨ek, eu, rfl⟩ := hR3_0
  refine WL.q (oq_assign rfl) rfl rfl rfl ?_
  refine WL.nil (WE.then_normal (WC.sub (fr' := [(8, _)]) ?_ ⟨rfl, trivial⟩))
  refine WC.ret (WE.then_ret ?_)
  refine WE.forget hN3_0 ?_
  refine WE.endW2 (.inl rfl) (res1 Tryz.results72 rfl) ?_
  exact ⟨⟨_, _, rfl⟩, rfl⟩
 ·
  try simp only [Z1, Z2, Z3, Z4, Z5, Z6, Z7, Z8, Z9, Z0] at q2
  simp at q2
theorem swapH1 (base sb : Nat) (nr : Value) (id : List UInt8) (fv : Value) (A B : List Nd) (x : Nd) (items : List Nd) (hit : items = A ++ x :: B) (hA : ∀ y ∈ A, y.id ≠ x.id)  : FnW Tryz.prog 74 [Pt sb 0, S x.id, .iface 235 (.agg #[S id, fv])] base [[(sb, .cells #[(hdp (items)), (lastp (items)), nr] 208 (0, 0))], ch 206 210 235 items .nilIface] (fun v Hs => v = .tuple #[wv 235 x, .nilIface] ∧ Hs.flatten.Perm ([[(sb, .cells #[(hdp (A ++ Nd.mk x.b id fv :: B)), (lastp (A ++ Nd.mk x.b id fv :: B)), nr] 208 (0, 0))], ch 206 210 235 (A ++ Nd.mk x.b id fv :: B) .nilIface] : List Hp).flatten) := by
 refine FnW.enter (n := 29) Tryz.func74 rfl rfl fun w0 R0 hbase => ?_
 subst hbase
 show WC _ _ _ _ _ _ _ ([[(sb, .cells #[(hdp (items)), (lastp (items)), nr] 208 (0, 0))], ch 206 210 235 items .nilIface, R0])
 refine WC.sub (fr' := [(0, _), (1, _), (2, _)]) ?_ ⟨rfl, rfl, rfl, trivial⟩
 refine WC.seq (WC.region ?_)
 refine WL.q (oq_assign rfl) rfl rfl rfl ?_
 refine WL.q (oq_assign rfl) rfl rfl rfl ?_
 refine WL.nil (WE.then_normal (WC.sub (fr' := [(0, _), (1, _), (2, _)]) ?_ ⟨rfl, rfl, rfl, trivial⟩))
 refine WC.seq (WC.region ?_)
 refine WL.q (oq_move rfl) rfl rfl rfl ?_
 refine WL.q (oq_move rfl) rfl rfl rfl ?_
 refine WL.f1 ?_
 refine WL.f1 ?_
 refine WL.callW2 (gotH1 _ sb nr x.id A B x items hit rfl hA) call124 rfl rfl rfl fun v1_2 Hs1_2 hR1_2 => ?_
 obtain ⟨rfl, rfl⟩ := hR1_2
 refine WL.to2 ?_
 refine WL.q (oq_move rfl) rfl rfl rfl ?_
 refine WL.q (oq_extract rfl rfl) rfl rfl rfl ?_
 refine WL.q (oq_extract rfl rfl) rfl rfl rfl ?_
 refine WL.q (oq_assign rfl) rfl rfl rfl ?_
 refine WL.q (oq_assign rfl) rfl rfl rfl ?_
 refine WL.nil (WE.then_normal (WC.sub (fr' := [(2, _), (8, _)]) ?_ ⟨rfl, rfl, trivial⟩))
 refine WC.seq (WC.seq (WC.region ?_))
 refine WL.q (oq_move rfl) rfl rfl rfl ?_
 refine WL.q (oq_peql Tryz.underlying206 rfl rfl) rfl rfl rfl ?_
 refine WL.nil (WE.then_normal (WC.sub (fr' := [(2, _), (8, _), (18, _)]) ?_ ⟨rfl, rfl, rfl, trivial⟩))
 refine WC.cond rfl (fun q2 => ?_) (fun q2 => ?_)
 ·
  try simp only [Z1, Z2, Z3, Z4, Z5, Z6, Z7, Z8, Z9, Z0] at q2
  simp at q2
 ·
  try simp only [Z1, Z2, Z3, Z4, Z5, Z6, Z7, Z8, Z9, Z0] at q2
  refine WC.skip (WE.then_normal (WC.sub (fr' := [(2, _), (8, _)]) ?_ ⟨rfl, rfl, trivial⟩))
  refine WC.seq (WC.region ?_)
  refine WL.f1 ?_
  refine WL.reg (reg_out (show (ch 206 210 235 (items) .nilIface).Perm ([(x.b, .cells #[nextOf 206 (B) .nilIface, wv 235 x] 210 (0, 0))] ++ (ch 206 210 235 (A) (.iface 206 (Pt x.b 0)) ++ ch 206 210 235 (B) .nilIface)) from by rw [hit]; exact ch_out _ _ _ _)) ?_
  refine WL.q (oq_move rfl) rfl rfl rfl ?_
  refine WL.q (oq_nilCheck rfl) rfl rfl rfl ?_
  refine WL.q (oq_fieldAddr fld210_1 rfl) rfl rfl rfl ?_
  refine WL.q (oq_load flat121 rfl (.head _) (List.mem_singleton.2 rfl) rfl) rfl rfl rfl ?_
  refine WL.q (oq_assign rfl) rfl rfl rfl ?_
  refine WL.nil (WE.then_normal (WC.sub (fr' := [(2, _), (8, _), (10, _)]) ?_ ⟨rfl, rfl, rfl, trivial⟩))
  refine WC.seq (WC.region ?_)
  refine WL.q (oq_move rfl) rfl rfl rfl ?_
  refine WL.q (oq_move rfl) rfl rfl rfl ?_
  refine WL.q (oq_nilCheck rfl) rfl rfl rfl ?_
  refine WL.q (oq_fieldAddr fld210_1 rfl) rfl rfl rfl ?_
  refine WL.store1 #[_, _] ty121 rfl rfl (by first | rfl | exact OwS.one one_) (Nat.lt_of_lt_of_le (Nat.lt_succ_self _) (Nat.le_of_ble_eq_true rfl)) rfl rfl ?_
  refine WL.nil (WE.then_normal (WC.sub (fr' := [(10, _)]) ?_ ⟨rfl, trivial⟩))
  refine WC.seq (WC.region ?_)
  refine WL.q (oq_move rfl) rfl rfl rfl ?_
  refine WL.q (oq_assign rfl) rfl rfl rfl ?_
  refine WL.q (oq_assign rfl) rfl rfl rfl ?_
  refine WL.nil (WE.then_normal (WC.sub (fr' := [(6, _), (7, _)]) ?_ ⟨rfl, rfl, trivial⟩))
  refine WC.ret ?_
  refine WE.f3 ?_
  refine WE.f2 ?_
  refine WE.f2 ?_
  refine WE.f3 ?_
  refine WE.endW3 (.inl rfl) (res2 Tryz.results74 rfl rfl) ?_
  exact ⟨rfl, perm2 (by rw [hit, ← hdp_b A B x id fv, ← lastp_b A B x id fv]) (by simp only [List.flatten_cons, List.flatten_nil, List.append_nil]; exact ch_del A (Nd.mk x.b id fv) B _)⟩
theorem swapN1 (base sb : Nat) (nr : Value) (by_ : List UInt8) (m : Value) (items : List Nd) (hn : ∀ y ∈ items, y.id ≠ by_) : FnW Tryz.prog 74 [Pt sb 0, S by_, m] base [[(sb, .cells #[(hdp (items)), (lastp (items)), nr] 208 (0, 0))], ch 206 210 235 items .nilIface] (fun v Hs => (∃ k u, v = .tuple #[.nilIface, .iface k u]) ∧ Hs = [[(sb, .cells #[(hdp (items)), (lastp (items)), nr] 208 (0, 0))], ch 206 210 235 items .nilIface]) := by
 refine FnW.enter (n := 29) Tryz.func74 rfl rfl fun w0 R0 hbase => ?_
 subst hbase
 show WC _ _ _ _ _ _ _ ([[(sb, .cells #[(hdp (items)), (lastp (items)), nr] 208 (0, 0))], ch 206 210 235 items .nilIface, R0])
 refine WC.sub (fr' := [(0, _), (1, _), (2, _)]) ?_ ⟨rfl, rfl, rfl, trivial⟩
 refine WC.seq (WC.region ?_)
 refine WL.q (oq_assign rfl) rfl rfl rfl ?_
 refine WL.q (oq_assign rfl) rfl rfl rfl ?_
 refine WL.nil (WE.then_normal (WC.sub (fr' := [(0, _), (1, _), (2, _)]) ?_ ⟨rfl, rfl, rfl, trivial⟩))
 refine WC.seq (WC.region ?_)
 refine WL.q (oq_move rfl) rfl rfl rfl ?_
 refine WL.q (oq_move rfl) rfl rfl rfl ?_
 refine WL.f1 ?_
 refine WL.f1 ?_
 refine WL.callW2 (gotM1 _ sb nr by_ items hn) call124 rfl rfl rfl fun v1_2 Hs1_2 hR1_2 => ?_
 obtain ⟨rfl, rfl⟩ := hR1_2
 refine WL.to2 ?_
 refine WL.q (oq_move rfl) rfl rfl rfl ?_
 refine WL.q (oq_extract rfl rfl) rfl rfl rfl ?_
 refine WL.q (oq_extract rfl rfl) rfl rfl rfl ?_
 refine WL.q (oq_assign rfl) rfl rfl rfl ?_
 refine WL.q (oq_assign rfl) rfl rfl rfl ?_
 refine WL.nil (WE.then_normal (WC.sub (fr' := [(2, _), (8, _)]) ?_ ⟨rfl, rfl, trivial⟩))
 refine WC.seq (WC.seq (WC.region ?_))
 refine WL.q (oq_move rfl) rfl rfl rfl ?_
 refine WL.q (oq_peql Tryz.underlying206 rfl rfl) rfl rfl rfl ?_
 refine WL.nil (WE.then_normal (WC.sub (fr' := [(2, _), (8, _), (18, _)]) ?_ ⟨rfl, rfl, rfl, trivial⟩))
 refine WC.cond rfl (fun q2 => ?_) (fun q2 => ?_)
 ·
  try simp only [Z1, Z2, Z3, Z4, Z5, Z6, Z7, Z8, Z9, Z0] at q2
  refine WC.seq (WC.region ?_)
  refine WL.callA0 (errNew _) call122 rfl rfl rfl fun v3_0 N3_0 hR3_0 hN3_0 => ?_
  obtain ⟨ek, eu, rfl⟩ := hR3_0
  refine WL.q (oq_assign rfl) rfl rfl rfl ?_
  refine WL.q (oq_assign rfl) rfl rfl rfl ?_
  refine WL.nil (WE.then_normal (WC.sub (fr' := [(6, _), (7, _)]) ?_ ⟨rfl, rfl, trivial⟩))
  refine WC.ret (WE.then_ret ?_)
  refine WE.forget hN3_0 ?_
  refine WE.endW2 (.inl rfl) (res2 Tryz.results74 rfl rfl) ?_
  exact ⟨⟨_, _, rfl⟩, rfl⟩
 ·
  try simp only [Z1, Z2, Z3, Z4, Z5, Z6, Z7, Z8, Z9, Z0] at q2
  simp at q2
theorem insF2 (base sb : Nat) (x : Nd) (items : List Nd) (id : List UInt8) (fv : Value) (B : List Nd) (hit : items = [] ++ x :: B) : FnW Tryz.prog 86 [Pt sb 0, .iface 239 (.agg #[S id, fv]), S x.id, I 1] base [[(sb, .cells #[(hdp (items)), (lastp (items))] 214 (0, 0))], ch 212 216 239 items .nilIface] (fun v Hs => v = .nilIface ∧ ∃ e, base ≤ e ∧ Hs.flatten.Perm ([[(sb, .cells #[(hdp (Nd.mk e id fv :: items)), (lastp (Nd.mk e id fv :: items))] 214 (0, 0))], ch 212 216 239 (Nd.mk e id fv :: items) .nilIface] : List Hp).flatten) := by
 refine FnW.enter (n := 76) Tryz.func86 rfl rfl fun w0 R0 hbase => ?_
 subst hbase
 show WC _ _ _ _ _ _ _ ([[(sb, .cells #[(hdp (items)), (lastp (items))] 214 (0, 0))], ch 212 216 239 items .nilIface, R0])
 refine WC.sub (fr' := [(0, _), (1, _), (2, _), (3, _)]) ?_ ⟨rfl, rfl, rfl, rfl, trivial⟩
 refine WC.seq (WC.region ?_)
 refine WL.q (oq_assign rfl) rfl rfl rfl ?_
 refine WL.nil (WE.then_normal (WC.sub (fr' := [(0, _), (1, _), (2, _), (3, _)]) ?_ ⟨rfl, rfl, rfl, rfl, trivial⟩))
 refine WC.seq (WC.region ?_)
 refine WL.q (oq_move rfl) rfl rfl rfl ?_
 refine WL.q (oq_move rfl) rfl rfl rfl ?_
 refine WL.f1 ?_
 refine WL.f1 ?_
 refine WL.callW2 (gotH2 _ sb x.id [] B x items hit rfl (by simp)) call125 rfl rfl rfl fun v1_2 Hs1_2 hR1_2 => ?_
 obtain ⟨rfl, rfl⟩ := hR1_2
 refine WL.to2 ?_
 refine WL.q (oq_move rfl) rfl rfl rfl ?_
 refine WL.q (oq_extract rfl rfl) rfl rfl rfl ?_
 refine WL.q (oq_extract rfl rfl) rfl rfl rfl ?_
 refine WL.q (oq_assign rfl) rfl rfl rfl ?_
 refine WL.q (oq_assign rfl) rfl rfl rfl ?_
 refine WL.nil (WE.then_normal (WC.sub (fr' := [(0, _), (1, _), (3, _), (9, _), (10, _)]) ?_ ⟨rfl, rfl, rfl, rfl, rfl, trivial⟩))
 refine WC.seq (WC.seq (WC.region ?_))
 refine WL.q (oq_move rfl) rfl rfl rfl ?_
 refine WL.q (oq_peql Tryz.underlying212 rfl rfl) rfl rfl rfl ?_
 refine WL.nil (WE.then_normal (WC.sub (fr' := [(0, _), (1, _), (3, _), (9, _), (10, _), (19, _)]) ?_ ⟨rfl, rfl, rfl, rfl, rfl, rfl, trivial⟩))
 refine WC.cond rfl (fun q2 => ?_) (fun q2 => ?_)
 ·
  try simp only [Z1, Z2, Z3, Z4, Z5, Z6, Z7, Z8, Z9, Z0] at q2
  first | (simp at q2; done) | (simp at q4; done) | (simp at q5; done) | (simp [nextOf, nilI] at q8; done) | (exfalso; omega)
 ·
  try simp only [Z1, Z2, Z3, Z4, Z5, Z6, Z7, Z8, Z9, Z0] at q2
  refine WC.skip (WE.then_normal (WC.sub (fr' := [(0, _), (1, _), (3, _), (9, _), (10, _)]) ?_ ⟨rfl, rfl, rfl, rfl, rfl, trivial⟩))
  refine WC.seq (WC.seq (WC.region ?_))
  refine WL.q (oq_move rfl) rfl rfl rfl ?_
  refine WL.q (oq_eql rfl rfl) rfl rfl rfl ?_
  refine WL.nil (WE.then_normal (WC.sub (fr' := [(0, _), (1, _), (9, _), (10, _), (22, _)]) ?_ ⟨rfl, rfl, rfl, rfl, rfl, trivial⟩))
  refine WC.cond rfl (fun q4 => ?_) (fun q4 => ?_)
  ·
   try simp only [Z1, Z2, Z3, Z4, Z5, Z6, Z7, Z8, Z9, Z0] at q4
   refine WC.seq (WC.region ?_)
   refine WL.q (oq_move rfl) rfl rfl rfl ?_
   refine WL.q (oq_peql Tryz.underlying212 rfl rfl) rfl rfl rfl ?_
   refine WL.nil (WE.then_normal (WC.sub (fr' := [(0, _), (1, _), (9, _), (10, _), (24, _)]) ?_ ⟨rfl, rfl, rfl, rfl, rfl, trivial⟩))
   refine WC.cond rfl (fun q5 => ?_) (fun q5 => ?_)
   ·
    try simp only [Z1, Z2, Z3, Z4, Z5, Z6, Z7, Z8, Z9, Z0] at q5
    have hd0 : hdp items = Pt x.b 0 := by rw [hit]; rfl
    rw [hd0]
    refine WC.region ?_
    refine WL.q (oq_move rfl) rfl rfl rfl ?_
    refine WL.q (oq_move rfl) rfl rfl rfl ?_
    refine WL.q (oq_nilCheck rfl) rfl rfl rfl ?_
    refine WL.q (oq_fieldAddr fld214_0 rfl) rfl rfl rfl ?_
    refine WL.q (oq_load flat212 rfl (.head _) (List.mem_singleton.2 rfl) rfl) rfl rfl rfl ?_
    refine WL.q (oq_makeI conc212 rfl) rfl rfl rfl ?_
    refine WL.q (oq_move rfl) rfl rfl rfl ?_
    refine WL.q (oq_build #[_, _] str216 ty216 rfl rfl) rfl rfl rfl ?_
    refine WL.box rfl rfl rfl fun e he => ?_
    refine WL.q (oq_nilCheck rfl) rfl rfl rfl ?_
    refine WL.q (oq_fieldAddr fld214_0 rfl) rfl rfl rfl ?_
    refine WL.f1 ?_
    refine WL.store1 #[_, _] ty212 rfl rfl (by first | rfl | exact OwS.one one_) (Nat.lt_of_lt_of_le (Nat.lt_succ_self _) (Nat.le_of_ble_eq_true rfl)) rfl rfl ?_
    refine WL.nil (WE.then_normal (WC.sub (fr' := []) ?_ trivial))
    refine WC.seq (WC.region ?_)
    refine WL.q (oq_assign rfl) rfl rfl rfl ?_
    refine WL.nil (WE.then_normal (WC.sub (fr' := [(8, _)]) ?_ ⟨rfl, trivial⟩))
    refine WC.ret ?_
    refine WE.endW3 (.inl rfl) (res1 Tryz.results86 rfl) ?_
    exact ⟨rfl, e, he, perm2 (by rw [lastp_ne _ _ (by rw [hit]; simp)]; rfl) (by simp only [List.flatten_cons, List.flatten_nil, List.append_nil]; exact .of_eq (ch_front hit (Nd.mk e id fv)))⟩
   ·
    try simp only [Z1, Z2, Z3, Z4, Z5, Z6, Z7, Z8, Z9, Z0] at q5
    first | (simp at q2; done) | (simp at q4; done) | (simp at q5; done) | (simp [nextOf, nilI] at q8; done) | (exfalso; omega)
  ·
   try simp only [Z1, Z2, Z3, Z4, Z5, Z6, Z7, Z8, Z9, Z0] at q4
   first | (simp at q2; done) | (simp at q4; done) | (simp at q5; done) | (simp [nextOf, nilI] at q8; done) | (exfalso; omega)
theorem insM2 (base sb : Nat) (x : Nd) (items : List Nd) (id : List UInt8) (fv : Value) (A2 B : List Nd) (p : Nd) (hit : items = (A2 ++ [p]) ++ x :: B) (hA : ∀ y ∈ A2 ++ [p], y.id ≠ x.id) : FnW Tryz.prog 86 [Pt sb 0, .iface 239 (.agg #[S id, fv]), S x.id, I 1] base [[(sb, .cells #[(hdp (items)), (lastp (items))] 214 (0, 0))], ch 212 216 239 items .nilIface] (fun v Hs => v = .nilIface ∧ ∃ e, base ≤ e ∧ Hs.flatten.Perm ([[(sb, .cells #[(hdp (A2 ++ p :: Nd.mk e id fv :: x :: B)), (lastp (A2 ++ p :: Nd.mk e id fv :: x :: B))] 214 (0, 0))], ch 212 216 239 (A2 ++ p :: Nd.mk e id fv :: x :: B) .nilIface] : List Hp).flatten) := by
 have hit2 : items = A2 ++ p :: x :: B := by rw [hit]; simp
 refine FnW.enter (n := 76) Tryz.func86 rfl rfl fun w0 R0 hbase => ?_
 subst hbase
 show WC _ _ _ _ _ _ _ ([[(sb, .cells #[(hdp (items)), (lastp (items))] 214 (0, 0))], ch 212 216 239 items .nilIface, R0])
 refine WC.sub (fr' := [(0, _), (1, _), (2, _), (3, _)]) ?_ ⟨rfl, rfl, rfl, rfl, trivial⟩
 refine WC.seq (WC.region ?_)
 refine WL.q (oq_assign rfl) rfl rfl rfl ?_
 refine WL.nil (WE.then_normal (WC.sub (fr' := [(0, _), (1, _), (2, _), (3, _)]) ?_ ⟨rfl, rfl, rfl, rfl, trivial⟩))
 refine WC.seq (WC.region ?_)
 refine WL.q (oq_move rfl) rfl rfl rfl ?_
 refine WL.q (oq_move rfl) rfl rfl rfl ?_
 refine WL.f1 ?_
 refine WL.f1 ?_
 refine WL.callW2 (gotH2 _ sb x.id (A2 ++ [p]) B x items hit rfl hA) call125 rfl rfl rfl fun v1_2 Hs1_2 hR1_2 => ?_
 obtain ⟨rfl, rfl⟩ := hR1_2
 rw [lastp_snoc]
 refine WL.to2 ?_
 refine WL.q (oq_move rfl) rfl rfl rfl ?_
 refine WL.q (oq_extract rfl rfl) rfl rfl rfl ?_
 refine WL.q (oq_extract rfl rfl) rfl rfl rfl ?_
 refine WL.q (oq_assign rfl) rfl rfl rfl ?_
 refine WL.q (oq_assign rfl) rfl rfl rfl ?_
 refine WL.nil (WE.then_normal (WC.sub (fr' := [(0, _), (1, _), (3, _), (9, _), (10, _)]) ?_ ⟨rfl, rfl, rfl, rfl, rfl, trivial⟩))
 refine WC.seq (WC.seq (WC.region ?_))
 refine WL.q (oq_move rfl) rfl rfl rfl ?_
 refine WL.q (oq_peql Tryz.underlying212 rfl rfl) rfl rfl rfl ?_
 refine WL.nil (WE.then_normal (WC.sub (fr' := [(0, _), (1, _), (3, _), (9, _), (10, _), (19, _)]) ?_ ⟨rfl, rfl, rfl, rfl, rfl, rfl, trivial⟩))
 refine WC.cond rfl (fun q2 => ?_) (fun q2 => ?_)
 ·
  try simp only [Z1, Z2, Z3, Z4, Z5, Z6, Z7, Z8, Z9, Z0] at q2
  first | (simp at q2; done) | (simp at q4; done) | (simp at q5; done) | (simp [nextOf, nilI] at q8; done) | (exfalso; omega)
 ·
  try simp only [Z1, Z2, Z3, Z4, Z5, Z6, Z7, Z8, Z9, Z0] at q2
  refine WC.skip (WE.then_normal (WC.sub (fr' := [(0, _), (1, _), (3, _), (9, _), (10, _)]) ?_ ⟨rfl, rfl, rfl, rfl, rfl, trivial⟩))
  refine WC.seq (WC.seq (WC.region ?_))
  refine WL.q (oq_move rfl) rfl rfl rfl ?_
  refine WL.q (oq_eql rfl rfl) rfl rfl rfl ?_
  refine WL.nil (WE.then_normal (WC.sub (fr' := [(0, _), (1, _), (9, _), (10, _), (22, _)]) ?_ ⟨rfl, rfl, rfl, rfl, rfl, trivial⟩))
  refine WC.cond rfl (fun q4 => ?_) (fun q4 => ?_)
  ·
   try simp only [Z1, Z2, Z3, Z4, Z5, Z6, Z7, Z8, Z9, Z0] at q4
   refine WC.seq (WC.region ?_)
   refine WL.q (oq_move rfl) rfl rfl rfl ?_
   refine WL.q (oq_peql Tryz.underlying212 rfl rfl) rfl rfl rfl ?_
   refine WL.nil (WE.then_normal (WC.sub (fr' := [(0, _), (1, _), (9, _), (10, _), (24, _)]) ?_ ⟨rfl, rfl, rfl, rfl, rfl, trivial⟩))
   refine WC.cond rfl (fun q5 => ?_) (fun q5 => ?_)
   ·
    try simp only [Z1, Z2, Z3, Z4, Z5, Z6, Z7, Z8, Z9, Z0] at q5
    first | (simp at q2; done) | (simp at q4; done) | (simp at q5; done) | (simp [nextOf, nilI] at q8; done) | (exfalso; omega)
   ·
    try simp only [Z1, Z2, Z3, Z4, Z5, Z6, Z7, Z8, Z9, Z0] at q5
    refine WC.region ?_
    refine WL.f1 ?_
    refine WL.reg (reg_out (show (ch 212 216 239 (items) .nilIface).Perm ([(p.b, .cells #[nextOf 212 (x :: B) .nilIface, wv 239 p] 216 (0, 0))] ++ (ch 212 216 239 (A2) (.iface 212 (Pt p.b 0)) ++ ch 212 216 239 (x :: B) .nilIface)) from by rw [hit2]; exact ch_out _ _ _ _)) ?_
    refine WL.q (oq_move rfl) rfl rfl rfl ?_
    refine WL.q (oq_move rfl) rfl rfl rfl ?_
    refine WL.q (oq_makeI conc212 rfl) rfl rfl rfl ?_
    refine WL.q (oq_move rfl) rfl rfl rfl ?_
    refine WL.q (oq_build #[_, _] str216 ty216 rfl rfl) rfl rfl rfl ?_
    refine WL.box rfl rfl rfl fun e he => ?_
    refine WL.q (oq_makeI conc212 rfl) rfl rfl rfl ?_
    refine WL.q (oq_nilCheck rfl) rfl rfl rfl ?_
    refine WL.q (oq_fieldAddr fld216_0 rfl) rfl rfl rfl ?_
    refine WL.f1 ?_
    refine WL.store1 #[_, _] ty145 rfl rfl (by first | rfl | exact OwS.one one_) (Nat.lt_of_lt_of_le (Nat.lt_succ_self _) (Nat.le_of_ble_eq_true rfl)) rfl rfl ?_
    refine WL.nil (WE.then_normal (WC.sub (fr' := []) ?_ trivial))
    refine WC.seq (WC.region ?_)
    refine WL.q (oq_assign rfl) rfl rfl rfl ?_
    refine WL.nil (WE.then_normal (WC.sub (fr' := [(8, _)]) ?_ ⟨rfl, trivial⟩))
    refine WC.ret ?_
    refine WE.f4 ?_
    refine WE.f3 ?_
    refine WE.f3 ?_
    refine WE.f3 ?_
    refine WE.f4 ?_
    refine WE.endW4 (.inl rfl) (res1 Tryz.results86 rfl) ?_
    exact ⟨rfl, e, he, perm2 (by rw [hit2, hdp_cons A2 p (x :: B) (Nd.mk e id fv :: x :: B), lastp_cons, lastp_cons]; rfl) (by simp only [List.flatten_cons, List.flatten_nil, List.append_nil]; exact ch_ins A2 p (Nd.mk e id fv) (x :: B) _)⟩
  ·
   try simp only [Z1, Z2, Z3, Z4, Z5, Z6, Z7, Z8, Z9, Z0] at q4
   first | (simp at q2; done) | (simp at q4; done) | (simp at q5; done) | (simp [nextOf, nilI] at q8; done) | (exfalso; omega)
theorem insE2 (base sb : Nat) (x : Nd) (items : List Nd) (id : List UInt8) (fv : Value) (A : List Nd) (hit : items = A ++ x :: []) (hA : ∀ y ∈ A, y.id ≠ x.id) : FnW Tryz.prog 86 [Pt sb 0, .iface 239 (.agg #[S id, fv]), S x.id, I 0] base [[(sb, .cells #[(hdp (items)), (lastp (items))] 214 (0, 0))], ch 212 216 239 items .nilIface] (fun v Hs => v = .nilIface ∧ ∃ e, base ≤ e ∧ Hs.flatten.Perm ([[(sb, .cells #[(hdp (A ++ x :: Nd.mk e id fv :: [])), (lastp (A ++ x :: Nd.mk e id fv :: []))] 214 (0, 0))], ch 212 216 239 (A ++ x :: Nd.mk e id fv :: []) .nilIface] : List Hp).flatten) := by
 refine FnW.enter (n := 76) Tryz.func86 rfl rfl fun w0 R0 hbase => ?_
 subst hbase
 show WC _ _ _ _ _ _ _ ([[(sb, .cells #[(hdp (items)), (lastp (items))] 214 (0, 0))], ch 212 216 239 items .nilIface, R0])
 refine WC.sub (fr' := [(0, _), (1, _), (2, _), (3, _)]) ?_ ⟨rfl, rfl, rfl, rfl, trivial⟩
 refine WC.seq (WC.region ?_)
 refine WL.q (oq_assign rfl) rfl rfl rfl ?_
 refine WL.nil (WE.then_normal (WC.sub (fr' := [(0, _), (1, _), (2, _), (3, _)]) ?_ ⟨rfl, rfl, rfl, rfl, trivial⟩))
 refine WC.seq (WC.region ?_)
 refine WL.q (oq_move rfl) rfl rfl rfl ?_
 refine WL.q (oq_move rfl) rfl rfl rfl ?_
 refine WL.f1 ?_
 refine WL.f1 ?_
 refine WL.callW2 (gotH2 _ sb x.id A [] x items hit rfl hA) call125 rfl rfl rfl fun v1_2 Hs1_2 hR1_2 => ?_
 obtain ⟨rfl, rfl⟩ := hR1_2
 refine WL.to2 ?_
 refine WL.q (oq_move rfl) rfl rfl rfl ?_
 refine WL.q (oq_extract rfl rfl) rfl rfl rfl ?_
 refine WL.q (oq_extract rfl rfl) rfl rfl rfl ?_
 refine WL.q (oq_assign rfl) rfl rfl rfl ?_
 refine WL.q (oq_assign rfl) rfl rfl rfl ?_
 refine WL.nil (WE.then_normal (WC.sub (fr' := [(0, _), (1, _), (3, _), (9, _), (10, _)]) ?_ ⟨rfl, rfl, rfl, rfl, rfl, trivial⟩))
 refine WC.seq (WC.seq (WC.region ?_))
 refine WL.q (oq_move rfl) rfl rfl rfl ?_
 refine WL.q (oq_peql Tryz.underlying212 rfl rfl) rfl rfl rfl ?_
 refine WL.nil (WE.then_normal (WC.sub (fr' := [(0, _), (1, _), (3, _), (9, _), (10, _), (19, _)]) ?_ ⟨rfl, rfl, rfl, rfl, rfl, rfl, trivial⟩))
 refine WC.cond rfl (fun q2 => ?_) (fun q2 => ?_)
 ·
  try simp only [Z1, Z2, Z3, Z4, Z5, Z6, Z7, Z8, Z9, Z0] at q2
  first | (simp at q2; done) | (simp at q4; done) | (simp at q5; done) | (simp [nextOf, nilI] at q8; done) | (exfalso; omega)
 ·
  try simp only [Z1, Z2, Z3, Z4, Z5, Z6, Z7, Z8, Z9, Z0] at q2
  refine WC.skip (WE.then_normal (WC.sub (fr' := [(0, _), (1, _), (3, _), (9, _), (10, _)]) ?_ ⟨rfl, rfl, rfl, rfl, rfl, trivial⟩))
  refine WC.seq (WC.seq (WC.region ?_))
  refine WL.q (oq_move rfl) rfl rfl rfl ?_
  refine WL.q (oq_eql rfl rfl) rfl rfl rfl ?_
  refine WL.nil (WE.then_normal (WC.sub (fr' := [(0, _), (1, _), (9, _), (10, _), (22, _)]) ?_ ⟨rfl, rfl, rfl, rfl, rfl, trivial⟩))
  refine WC.cond rfl (fun q4 => ?_) (fun q4 => ?_)
  ·
   try simp only [Z1, Z2, Z3, Z4, Z5, Z6, Z7, Z8, Z9, Z0] at q4
   first | (simp at q2; done) | (simp at q4; done) | (simp at q5; done) | (simp [nextOf, nilI] at q8; done) | (exfalso; omega)
  ·
   try simp only [Z1, Z2, Z3, Z4, Z5, Z6, Z7, Z8, Z9, Z0] at q4
   refine WC.seq (WC.region ?_)
   refine WL.q (oq_move rfl) rfl rfl rfl ?_
   refine WL.q (oq_nilCheck rfl) rfl rfl rfl ?_
   refine WL.q (oq_fieldAddr fld216_0 rfl) rfl rfl rfl ?_
   refine WL.q (oq_load flat145 rfl (.tail _ (.head _)) (mem_of hit) rfl) rfl rfl rfl ?_
   refine WL.q (oq_ieql Tryz.underlying145 rfl (.inl rfl)) rfl rfl rfl ?_
   refine WL.nil (WE.then_normal (WC.sub (fr' := [(0, _), (1, _), (9, _), (49, _)]) ?_ ⟨rfl, rfl, rfl, rfl, trivial⟩))
   refine WC.cond rfl (fun q8 => ?_) (fun q8 => ?_)
   ·
    try simp only [Z1, Z2, Z3, Z4, Z5, Z6, Z7, Z8, Z9, Z0] at q8
    refine WC.seq (WC.region ?_)
    refine WL.q (oq_move rfl) rfl rfl rfl ?_
    refine WL.q (oq_build #[_, _] str216 ty216 rfl rfl) rfl rfl rfl ?_
    refine WL.box rfl rfl rfl fun e he => ?_
    refine WL.q (oq_assign rfl) rfl rfl rfl ?_
    refine WL.nil (WE.then_normal (WC.sub (fr' := [(0, _), (11, _)]) ?_ ⟨rfl, rfl, trivial⟩))
    refine WC.seq ?_
    have hl0 : lastp items = Pt x.b 0 := by rw [hit, lastp_snoc]
    rw [hl0]
    refine WC.region ?_
    refine WL.f2 ?_
    refine WL.reg (reg_out (show (ch 212 216 239 (items) .nilIface).Perm ([(x.b, .cells #[nextOf 212 ([]) .nilIface, wv 239 x] 216 (0, 0))] ++ (ch 212 216 239 (A) (.iface 212 (Pt x.b 0)) ++ ch 212 216 239 ([]) .nilIface)) from by rw [hit]; exact ch_out _ _ _ _)) ?_
    refine WL.q (oq_move rfl) rfl rfl rfl ?_
    refine WL.q (oq_nilCheck rfl) rfl rfl rfl ?_
    refine WL.q (oq_fieldAddr fld214_1 rfl) rfl rfl rfl ?_
    refine WL.q (oq_load flat212 rfl (.tail _ (.tail _ (.tail _ (.head _)))) (List.mem_singleton.2 rfl) rfl) rfl rfl rfl ?_
    refine WL.q (oq_move rfl) rfl rfl rfl ?_
    refine WL.q (oq_makeI conc212 rfl) rfl rfl rfl ?_
    refine WL.q (oq_nilCheck rfl) rfl rfl rfl ?_
    refine WL.q (oq_fieldAddr fld216_0 rfl) rfl rfl rfl ?_
    refine WL.store1 #[_, _] ty145 rfl rfl (by first | rfl | exact OwS.one one_) (Nat.lt_of_lt_of_le (Nat.lt_succ_self _) (Nat.le_of_ble_eq_true rfl)) rfl rfl ?_
    refine WL.nil (WE.then_normal (WC.sub (fr' := [(0, _), (11, _)]) ?_ ⟨rfl, rfl, trivial⟩))
    refine WC.region ?_
    refine WL.q (oq_move rfl) rfl rfl rfl ?_
    refine WL.q (oq_move rfl) rfl rfl rfl ?_
    refine WL.q (oq_nilCheck rfl) rfl rfl rfl ?_
    refine WL.q (oq_fieldAddr fld214_1 rfl) rfl rfl rfl ?_
    refine WL.f3 ?_
    refine WL.store1 #[_, _] ty212 rfl rfl (by first | rfl | exact OwS.one one_) (Nat.lt_of_lt_of_le (Nat.lt_succ_self _) (Nat.le_of_ble_eq_true rfl)) rfl rfl ?_
    refine WL.nil (WE.then_normal (WC.sub (fr' := []) ?_ trivial))
    refine WC.seq (WC.region ?_)
    refine WL.q (oq_assign rfl) rfl rfl rfl ?_
    refine WL.nil (WE.then_normal (WC.sub (fr' := [(8, _)]) ?_ ⟨rfl, trivial⟩))
    refine WC.ret ?_
    refine WE.f4 ?_
    refine WE.f3 ?_
    refine WE.f4 ?_
    refine WE.f4 ?_
    refine WE.f4 ?_
    refine WE.endW4 (.inl rfl) (res1 Tryz.results86 rfl) ?_
    exact ⟨rfl, e, he, perm2 (by rw [hit, hdp_cons A x [] [Nd.mk e id fv], lastp_cons]; rfl) (by simp only [List.flatten_cons, List.flatten_nil, List.append_nil]; exact ch_ins A x (Nd.mk e id fv) [] _)⟩
   ·
    try simp only [Z1, Z2, Z3, Z4, Z5, Z6, Z7, Z8, Z9, Z0] at q8
    first | (simp at q2; done) | (simp at q4; done) | (simp at q5; done) | (simp [nextOf, nilI] at q8; done) | (exfalso; omega)
theorem insA2 (base sb : Nat) (x : Nd) (items : List Nd) (id : List UInt8) (fv : Value) (A B : List Nd) (y : Nd) (hit : items = A ++ x :: (y :: B)) (hA : ∀ y ∈ A, y.id ≠ x.id) : FnW Tryz.prog 86 [Pt sb 0, .iface 239 (.agg #[S id, fv]), S x.id, I 0] base [[(sb, .cells #[(hdp (items)), (lastp (items))] 214 (0, 0))], ch 212 216 239 items .nilIface] (fun v Hs => v = .nilIface ∧ ∃ e, base ≤ e ∧ Hs.flatten.Perm ([[(sb, .cells #[(hdp (A ++ x :: Nd.mk e id fv :: y :: B)), (lastp (A ++ x :: Nd.mk e id fv :: y :: B))] 214 (0, 0))], ch 212 216 239 (A ++ x :: Nd.mk e id fv :: y :: B) .nilIface] : List Hp).flatten) := by
 refine FnW.enter (n := 76) Tryz.func86 rfl rfl fun w0 R0 hbase => ?_
 subst hbase
 show WC _ _ _ _ _ _ _ ([[(sb, .cells #[(hdp (items)), (lastp (items))] 214 (0, 0))], ch 212 216 239 items .nilIface, R0])
 refine WC.sub (fr' := [(0, _), (1, _), (2, _), (3, _)]) ?_ ⟨rfl, rfl, rfl, rfl, trivial⟩
 refine WC.seq (WC.region ?_)
 refine WL.q (oq_assign rfl) rfl rfl rfl ?_
 refine WL.nil (WE.then_normal (WC.sub (fr' := [(0, _), (1, _), (2, _), (3, _)]) ?_ ⟨rfl, rfl, rfl, rfl, trivial⟩))
 refine WC.seq (WC.region ?_)
 refine WL.q (oq_move rfl) rfl rfl rfl ?_
 refine WL.q (oq_move rfl) rfl rfl rfl ?_
 refine WL.f1 ?_
 refine WL.f1 ?_
 refine WL.callW2 (gotH2 _ sb x.id A (y :: B) x items hit rfl hA) call125 rfl rfl rfl fun v1_2 Hs1_2 hR1_2 => ?_
 obtain ⟨rfl, rfl⟩ := hR1_2
 refine WL.to2 ?_
 refine WL.q (oq_move rfl) rfl rfl rfl ?_
 refine WL.q (oq_extract rfl rfl) rfl rfl rfl ?_
 refine WL.q (oq_extract rfl rfl) rfl rfl rfl ?_
 refine WL.q (oq_assign rfl) rfl rfl rfl ?_
 refine WL.q (oq_assign rfl) rfl rfl rfl ?_
 refine WL.nil (WE.then_normal (WC.sub (fr' := [(0, _), (1, _), (3, _), (9, _), (10, _)]) ?_ ⟨rfl, rfl, rfl, rfl, rfl, trivial⟩))
 refine WC.seq (WC.seq (WC.region ?_))
 refine WL.q (oq_move rfl) rfl rfl rfl ?_
 refine WL.q (oq_peql Tryz.underlying212 rfl rfl) rfl rfl rfl ?_
 refine WL.nil (WE.then_normal (WC.sub (fr' := [(0, _), (1, _), (3, _), (9, _), (10, _), (19, _)]) ?_ ⟨rfl, rfl, rfl, rfl, rfl, rfl, trivial⟩))
 refine WC.cond rfl (fun q2 => ?_) (fun q2 => ?_)
 ·
  try simp only [Z1, Z2, Z3, Z4, Z5, Z6, Z7, Z8, Z9, Z0] at q2
  first | (simp at q2; done) | (simp at q4; done) | (simp at q5; done) | (simp [nextOf, nilI] at q8; done) | (exfalso; omega)
 ·
  try simp only [Z1, Z2, Z3, Z4, Z5, Z6, Z7, Z8, Z9, Z0] at q2
  refine WC.skip (WE.then_normal (WC.sub (fr' := [(0, _), (1, _), (3, _), (9, _), (10, _)]) ?_ ⟨rfl, rfl, rfl, rfl, rfl, trivial⟩))
  refine WC.seq (WC.seq (WC.region ?_))
  refine WL.q (oq_move rfl) rfl rfl rfl ?_
  refine WL.q (oq_eql rfl rfl) rfl rfl rfl ?_
  refine WL.nil (WE.then_normal (WC.sub (fr' := [(0, _), (1, _), (9, _), (10, _), (22, _)]) ?_ ⟨rfl, rfl, rfl, rfl, rfl, trivial⟩))
  refine WC.cond rfl (fun q4 => ?_) (fun q4 => ?_)
  ·
   try simp only [Z1, Z2, Z3, Z4, Z5, Z6, Z7, Z8, Z9, Z0] at q4
   first | (simp at q2; done) | (simp at q4; done) | (simp at q5; done) | (simp [nextOf, nilI] at q8; done) | (exfalso; omega)
  ·
   try simp only [Z1, Z2, Z3, Z4, Z5, Z6, Z7, Z8, Z9, Z0] at q4
   refine WC.seq (WC.region ?_)
   refine WL.q (oq_move rfl) rfl rfl rfl ?_
   refine WL.q (oq_nilCheck rfl) rfl rfl rfl ?_
   refine WL.q (oq_fieldAddr fld216_0 rfl) rfl rfl rfl ?_
   refine WL.q (oq_load flat145 rfl (.tail _ (.head _)) (mem_of hit) rfl) rfl rfl rfl ?_
   refine WL.q (oq_ieql Tryz.underlying145 rfl (.inr ⟨_, _, rfl⟩)) rfl rfl rfl ?_
   refine WL.nil (WE.then_normal (WC.sub (fr' := [(0, _), (1, _), (9, _), (49, _)]) ?_ ⟨rfl, rfl, rfl, rfl, trivial⟩))
   refine WC.cond rfl (fun q8 => ?_) (fun q8 => ?_)
   ·
    try simp only [Z1, Z2, Z3, Z4, Z5, Z6, Z7, Z8, Z9, Z0] at q8
    first | (simp at q2; done) | (simp at q4; done) | (simp at q5; done) | (simp [nextOf, nilI] at q8; done) | (exfalso; omega)
   ·
    try simp only [Z1, Z2, Z3, Z4, Z5, Z6, Z7, Z8, Z9, Z0] at q8
    refine WC.region ?_
    refine WL.f1 ?_
    refine WL.reg (reg_out (show (ch 212 216 239 (items) .nilIface).Perm ([(x.b, .cells #[nextOf 212 (y :: B) .nilIface, wv 239 x] 216 (0, 0))] ++ (ch 212 216 239 (A) (.iface 212 (Pt x.b 0)) ++ ch 212 216 239 (y :: B) .nilIface)) from by rw [hit]; exact ch_out _ _ _ _)) ?_
    refine WL.q (oq_move rfl) rfl rfl rfl ?_
    refine WL.q (oq_move rfl) rfl rfl rfl ?_
    refine WL.q (oq_nilCheck rfl) rfl rfl rfl ?_
    refine WL.q (oq_fieldAddr fld216_0 rfl) rfl rfl rfl ?_
    refine WL.q (oq_load flat145 rfl (.head _) (List.mem_singleton.2 rfl) rfl) rfl rfl rfl ?_
    refine WL.q (oq_move rfl) rfl rfl rfl ?_
    refine WL.q (oq_build #[_, _] str216 ty216 rfl rfl) rfl rfl rfl ?_
    refine WL.box rfl rfl rfl fun e he => ?_
    refine WL.q (oq_makeI conc212 rfl) rfl rfl rfl ?_
    refine WL.q (oq_nilCheck rfl) rfl rfl rfl ?_
    refine WL.q (oq_fieldAddr fld216_0 rfl) rfl rfl rfl ?_
    refine WL.f1 ?_
    refine WL.store1 #[_, _] ty145 rfl rfl (by first | rfl | exact OwS.one one_) (Nat.lt_of_lt_of_le (Nat.lt_succ_self _) (Nat.le_of_ble_eq_true rfl)) rfl rfl ?_
    refine WL.nil (WE.then_normal (WC.sub (fr' := []) ?_ trivial))
    refine WC.seq (WC.region ?_)
    refine WL.q (oq_assign rfl) rfl rfl rfl ?_
    refine WL.nil (WE.then_normal (WC.sub (fr' := [(8, _)]) ?_ ⟨rfl, trivial⟩))
    refine WC.ret ?_
    refine WE.f4 ?_
    refine WE.f3 ?_
    refine WE.f3 ?_
    refine WE.f3 ?_
    refine WE.f4 ?_
    refine WE.endW4 (.inl rfl) (res1 Tryz.results86 rfl) ?_
    exact ⟨rfl, e, he, perm2 (by rw [hit, hdp_cons A x (y :: B) (Nd.mk e id fv :: y :: B), lastp_cons, lastp_cons]; rfl) (by simp only [List.flatten_cons, List.flatten_nil, List.append_nil]; exact ch_ins A x (Nd.mk e id fv) (y :: B) _)⟩
theorem insN2 (base sb : Nat) (id by_ : List UInt8) (fv : Value) (items : List Nd) (hn : ∀ y ∈ items, y.id ≠ by_) (pos : Int) : FnW Tryz.prog 86 [Pt sb 0, .iface 239 (.agg #[S id, fv]), S by_, I pos] base [[(sb, .cells #[(hdp (items)), (lastp (items))] 214 (0, 0))], ch 212 216 239 items .nilIface] (fun v Hs => (∃ k u, v = .iface k u) ∧ Hs = [[(sb, .cells #[(hdp (items)), (lastp (items))] 214 (0, 0))], ch 212 216 239 items .nilIface]) := by
 refine FnW.enter (n := 76) Tryz.func86 rfl rfl fun w0 R0 hbase => ?_
 subst hbase
 show WC _ _ _ _ _ _ _ ([[(sb, .cells #[(hdp (items)), (lastp (items))] 214 (0, 0))], ch 212 216 239 items .nilIface, R0])
 refine WC.sub (fr' := [(0, _), (1, _), (2, _), (3, _)]) ?_ ⟨rfl, rfl, rfl, rfl, trivial⟩
 refine WC.seq (WC.region ?_)
 refine WL.q (oq_assign rfl) rfl rfl rfl ?_
 refine WL.nil (WE.then_normal (WC.sub (fr' := [(0, _), (1, _), (2, _), (3, _)]) ?_ ⟨rfl, rfl, rfl, rfl, trivial⟩))
 refine WC.seq (WC.region ?_)
 refine WL.q (oq_move rfl) rfl rfl rfl ?_
 refine WL.q (oq_move rfl) rfl rfl rfl ?_
 refine WL.f1 ?_
 refine WL.f1 ?_
 refine WL.callW2 (gotM2 _ sb by_ items hn) call125 rfl rfl rfl fun v1_2 Hs1_2 hR1_2 => ?_
 obtain ⟨rfl, rfl⟩ := hR1_2
 refine WL.to2 ?_
 refine WL.q (oq_move rfl) rfl rfl rfl ?_
 refine WL.q (oq_extract rfl rfl) rfl rfl rfl ?_
 refine WL.q (oq_extract rfl rfl) rfl rfl rfl ?_
 refine WL.q (oq_assign rfl) rfl rfl rfl ?_
 refine WL.q (oq_assign rfl) rfl rfl rfl ?_
 refine WL.nil (WE.then_normal (WC.sub (fr' := [(0, _), (1, _), (3, _), (9, _), (10, _)]) ?_ ⟨rfl, rfl, rfl, rfl, rfl, trivial⟩))
 refine WC.seq (WC.seq (WC.region ?_))
 refine WL.q (oq_move rfl) rfl rfl rfl ?_
 refine WL.q (oq_peql Tryz.underlying212 rfl rfl) rfl rfl rfl ?_
 refine WL.nil (WE.then_normal (WC.sub (fr' := [(0, _), (1, _), (3, _), (9, _), (10, _), (19, _)]) ?_ ⟨rfl, rfl, rfl, rfl, rfl, rfl, trivial⟩))
 refine WC.cond rfl (fun q2 => ?_) (fun q2 => ?_)
 ·
  try simp only [Z1, Z2, Z3, Z4, Z5, Z6, Z7, Z8, Z9, Z0] at q2
  refine WC.seq (WC.region ?_)
  refine WL.callA0 (errNew _) call122 rfl rfl rfl fun v3_0 N3_0 hR3_0 hN3_0 => ?_
  obtain ⟨ek, eu, rfl⟩ := hR3_0
  refine WL.q (oq_assign rfl) rfl rfl rfl ?_
  refine WL.nil (WE.then_normal (WC.sub (fr' := [(8, _)]) ?_ ⟨rfl, trivial⟩))
  refine WC.ret (WE.then_ret ?_)
  refine WE.forget hN3_0 ?_
  refine WE.endW2 (.inl rfl) (res1 Tryz.results86 rfl) ?_
  exact ⟨⟨_, _, rfl⟩, rfl⟩
 ·
  try simp only [Z1, Z2, Z3, Z4, Z5, Z6, Z7, Z8, Z9, Z0] at q2
  simp at q2
theorem swapH2 (base sb : Nat) (id : List UInt8) (fv : Value) (A B : List Nd) (x : Nd) (items : List Nd) (hit : items = A ++ x :: B) (hA : ∀ y ∈ A, y.id ≠ x.id)  : FnW Tryz.prog 88 [Pt sb 0, S x.id, .iface 239 (.agg #[S id, fv])] base [[(sb, .cells #[(hdp (items)), (lastp (items))] 214 (0, 0))], ch 212 216 239 items .nilIface] (fun v Hs => v = .tuple #[wv 239 x, .nilIface] ∧ Hs.flatten.Perm ([[(sb, .cells #[(hdp (A ++ Nd.mk x.b id fv :: B)), (lastp (A ++ Nd.mk x.b id fv :: B))] 214 (0, 0))], ch 212 216 239 (A ++ Nd.mk x.b id fv :: B) .nilIface] : List Hp).flatten) := by
 refine FnW.enter (n := 29) Tryz.func88 rfl rfl fun w0 R0 hbase => ?_
 subst hbase
 show WC _ _ _ _ _ _ _ ([[(sb, .cells #[(hdp (items)), (lastp (items))] 214 (0, 0))], ch 212 216 239 items .nilIface, R0])
 refine WC.sub (fr' := [(0, _), (1, _), (2, _)]) ?_ ⟨rfl, rfl, rfl, trivial⟩
 refine WC.seq (WC.region ?_)
 refine WL.q (oq_assign rfl) rfl rfl rfl ?_
 refine WL.q (oq_assign rfl) rfl rfl rfl ?_
 refine WL.nil (WE.then_normal (WC.sub (fr' := [(0, _), (1, _), (2, _)]) ?_ ⟨rfl, rfl, rfl, trivial⟩))
 refine WC.seq (WC.region ?_)
 refine WL.q (oq_move rfl) rfl rfl rfl ?_
 refine WL.q (oq_move rfl) rfl rfl rfl ?_
 refine WL.f1 ?_
 refine WL.f1 ?_
 refine WL.callW2 (gotH2 _ sb x.id A B x items hit rfl hA) call125 rfl rfl rfl fun v1_2 Hs1_2 hR1_2 => ?_
 obtain ⟨rfl, rfl⟩ := hR1_2
 refine WL.to2 ?_
 refine WL.q (oq_move rfl) rfl rfl rfl ?_
 refine WL.q (oq_extract rfl rfl) rfl rfl rfl ?_
 refine WL.q (oq_extract rfl rfl) rfl rfl rfl ?_
 refine WL.q (oq_assign rfl) rfl rfl rfl ?_
 refine WL.q (oq_assign rfl) rfl rfl rfl ?_
 refine WL.nil (WE.then_normal (WC.sub (fr' := [(2, _), (8, _)]) ?_ ⟨rfl, rfl, trivial⟩))
 refine WC.seq (WC.seq (WC.region ?_))
 refine WL.q (oq_move rfl) rfl rfl rfl ?_
 refine WL.q (oq_peql Tryz.underlying212 rfl rfl) rfl rfl rfl ?_
 refine WL.nil (WE.then_normal (WC.sub (fr' := [(2, _), (8, _), (18, _)]) ?_ ⟨rfl, rfl, rfl, trivial⟩))
 refine WC.cond rfl (fun q2 => ?_) (fun q2 => ?_)
 ·
  try simp only [Z1, Z2, Z3, Z4, Z5, Z6, Z7, Z8, Z9, Z0] at q2
  simp at q2
 ·
  try simp only [Z1, Z2, Z3, Z4, Z5, Z6, Z7, Z8, Z9, Z0] at q2
  refine WC.skip (WE.then_normal (WC.sub (fr' := [(2, _), (8, _)]) ?_ ⟨rfl, rfl, trivial⟩))
  refine WC.seq (WC.region ?_)
  refine WL.f1 ?_
  refine WL.reg (reg_out (show (ch 212 216 239 (items) .nilIface).Perm ([(x.b, .cells #[nextOf 212 (B) .nilIface, wv 239 x] 216 (0, 0))] ++ (ch 212 216 239 (A) (.iface 212 (Pt x.b 0)) ++ ch 212 216 239 (B) .nilIface)) from by rw [hit]; exact ch_out _ _ _ _)) ?_
  refine WL.q (oq_move rfl) rfl rfl rfl ?_
  refine WL.q (oq_nilCheck rfl) rfl rfl rfl ?_
  refine WL.q (oq_fieldAddr fld216_1 rfl) rfl rfl rfl ?_
  refine WL.q (oq_load flat140 rfl (.head _) (List.mem_singleton.2 rfl) rfl) rfl rfl rfl ?_
  refine WL.q (oq_assign rfl) rfl rfl rfl ?_
  refine WL.nil (WE.then_normal (WC.sub (fr' := [(2, _), (8, _), (10, _)]) ?_ ⟨rfl, rfl, rfl, trivial⟩))
  refine WC.seq (WC.region ?_)
  refine WL.q (oq_move rfl) rfl rfl rfl ?_
  refine WL.q (oq_move rfl) rfl rfl rfl ?_
  refine WL.q (oq_nilCheck rfl) rfl rfl rfl ?_
  refine WL.q (oq_fieldAddr fld216_1 rfl) rfl rfl rfl ?_
  refine WL.store1 #[_, _] ty140 rfl rfl (by first | rfl | exact OwS.one one_) (Nat.lt_of_lt_of_le (Nat.lt_succ_self _) (Nat.le_of_ble_eq_true rfl)) rfl rfl ?_
  refine WL.nil (WE.then_normal (WC.sub (fr' := [(10, _)]) ?_ ⟨rfl, trivial⟩))
  refine WC.seq (WC.region ?_)
  refine WL.q (oq_move rfl) rfl rfl rfl ?_
  refine WL.q (oq_assign rfl) rfl rfl rfl ?_
  refine WL.q (oq_assign rfl) rfl rfl rfl ?_
  refine WL.nil (WE.then_normal (WC.sub (fr' := [(6, _), (7, _)]) ?_ ⟨rfl, rfl, trivial⟩))
  refine WC.ret ?_
  refine WE.f3 ?_
  refine WE.f2 ?_
  refine WE.f2 ?_
  refine WE.f3 ?_
  refine WE.endW3 (.inl rfl) (res2 Tryz.results88 rfl rfl) ?_
  exact ⟨rfl, perm2 (by rw [hit, ← hdp_b A B x id fv, ← lastp_b A B x id fv]) (by simp only [List.flatten_cons, List.flatten_nil, List.append_nil]; exact ch_del A (Nd.mk x.b id fv) B _)⟩
theorem swapN2 (base sb : Nat) (by_ : List UInt8) (m : Value) (items : List Nd) (hn : ∀ y ∈ items, y.id ≠ by_) : FnW Tryz.prog 88 [Pt sb 0, S by_, m] base [[(sb, .cells #[(hdp (items)), (lastp (items))] 214 (0, 0))], ch 212 216 239 items .nilIface] (fun v Hs => (∃ k u, v = .tuple #[.nilIface, .iface k u]) ∧ Hs = [[(sb, .cells #[(hdp (items)), (lastp (items))] 214 (0, 0))], ch 212 216 239 items .nilIface]) := by
 refine FnW.enter (n := 29) Tryz.func88 rfl rfl fun w0 R0 hbase => ?_
 subst hbase
 show WC _ _ _ _ _ _ _ ([[(sb, .cells #[(hdp (items)), (lastp (items))] 214 (0, 0))], ch 212 216 239 items .nilIface, R0])
 refine WC.sub (fr' := [(0, _), (1, _), (2, _)]) ?_ ⟨rfl, rfl, rfl, trivial⟩
 refine WC.seq (WC.region ?_)
 refine WL.q (oq_assign rfl) rfl rfl rfl ?_
 refine WL.q (oq_assign rfl) rfl rfl rfl ?_
 refine WL.nil (WE.then_normal (WC.sub (fr' := [(0, _), (1, _), (2, _)]) ?_ ⟨rfl, rfl, rfl, trivial⟩))
 refine WC.seq (WC.region ?_)
 refine WL.q (oq_move rfl) rfl rfl rfl ?_
 refine WL.q (oq_move rfl) rfl rfl rfl ?_
 refine WL.f1 ?_
 refine WL.f1 ?_
 refine WL.callW2 (gotM2 _ sb by_ items hn) call125 rfl rfl rfl fun v1_2 Hs1_2 hR1_2 => ?_
 obtain ⟨rfl, rfl⟩ := hR1_2
 refine WL.to2 ?_
 refine WL.q (oq_move rfl) rfl rfl rfl ?_
 refine WL.q (oq_extract rfl rfl) rfl rfl rfl ?_
 refine WL.q (oq_extract rfl rfl) rfl rfl rfl ?_
 refine WL.q (oq_assign rfl) rfl rfl rfl ?_
 refine WL.q (oq_assign rfl) rfl rfl rfl ?_
 refine WL.nil (WE.then_normal (WC.sub (fr' := [(2, _), (8, _)]) ?_ ⟨rfl, rfl, trivial⟩))
 refine WC.seq (WC.seq (WC.region ?_))
 refine WL.q (oq_move rfl) rfl rfl rfl ?_
 refine WL.q (oq_peql Tryz.underlying212 rfl rfl) rfl rfl rfl ?_
 refine WL.nil (WE.then_normal (WC.sub (fr' := [(2, _), (8, _), (18, _)]) ?_ ⟨rfl, rfl, rfl, trivial⟩))
 refine WC.cond rfl (fun q2 => ?_) (fun q2 => ?_)
 ·
  try simp only [Z1, Z2, Z3, Z4, Z5, Z6, Z7, Z8, Z9, Z0] at q2
  refine WC.seq (WC.region ?_)
  refine WL.callA0 (errNew _) call122 rfl rfl rfl fun v3_0 N3_0 hR3_0 hN3_0 => ?_
  obtain ⟨ek, eu, rfl⟩ := hR3_0
  refine WL.q (oq_assign rfl) rfl rfl rfl ?_
  refine WL.q (oq_assign rfl) rfl rfl rfl ?_
  refine WL.nil (WE.then_normal (WC.sub (fr' := [(6, _), (7, _)]) ?_ ⟨rfl, rfl, trivial⟩))
  refine WC.ret (WE.then_ret ?_)
  refine WE.forget hN3_0 ?_
  refine WE.endW2 (.inl rfl) (res2 Tryz.results88 rfl rfl) ?_
  exact ⟨⟨_, _, rfl⟩, rfl⟩
 ·
  try simp only [Z1, Z2, Z3, Z4, Z5, Z6, Z7, Z8, Z9, Z0] at q2
  simp at q2
theorem insF3 (base sb : Nat) (x : Nd) (items : List Nd) (id : List UInt8) (fv : Value) (B : List Nd) (hit : items = [] ++ x :: B) : FnW Tryz.prog 100 [Pt sb 0, .iface 243 (.agg #[S id, fv]), S x.id, I 1] base [[(sb, .cells #[(hdp (items)), (lastp (items))] 220 (0, 0))], ch 218 222 243 items .nilIface] (fun v Hs => v = .nilIface ∧ ∃ e, base ≤ e ∧ Hs.flatten.Perm ([[(sb, .cells #[(hdp (Nd.mk e id fv :: items)), (lastp (Nd.mk e id fv :: items))] 220 (0, 0))], ch 218 222 243 (Nd.mk e id fv :: items) .nilIface] : List Hp).flatten) := by
 refine FnW.enter (n := 76) Tryz.func100 rfl rfl fun w0 R0 hbase => ?_
 subst hbase
 show WC _ _ _ _ _ _ _ ([[(sb, .cells #[(hdp (items)), (lastp (items))] 220 (0, 0))], ch 218 222 243 items .nilIface, R0])
 refine WC.sub (fr' := [(0, _), (1, _), (2, _), (3, _)]) ?_ ⟨rfl, rfl, rfl, rfl, trivial⟩
 refine WC.seq (WC.region ?_)
 refine WL.q (oq_assign rfl) rfl rfl rfl ?_
 refine WL.nil (WE.then_normal (WC.sub (fr' := [(0, _), (1, _), (2, _), (3, _)]) ?_ ⟨rfl, rfl, rfl, rfl, trivial⟩))
 refine WC.seq (WC.region ?_)
 refine WL.q (oq_move rfl) rfl rfl rfl ?_
 refine WL.q (oq_move rfl) rfl rfl rfl ?_
 refine WL.f1 ?_
 refine WL.f1 ?_
 refine WL.callW2 (gotH3 _ sb x.id [] B x items hit rfl (by simp)) call126 rfl rfl rfl fun v1_2 Hs1_2 hR1_2 => ?_
 obtain ⟨rfl, rfl⟩ := hR1_2
 refine WL.to2 ?_
 refine WL.q (oq_move rfl) rfl rfl rfl ?_
 refine WL.q (oq_extract rfl rfl) rfl rfl rfl ?_
 refine WL.q (oq_extract rfl rfl) rfl rfl rfl ?_
 refine WL.q (oq_assign rfl) rfl rfl rfl ?_
 refine WL.q (oq_assign rfl) rfl rfl rfl ?_
 refine WL.nil (WE.then_normal (WC.sub (fr' := [(0, _), (1, _), (3, _), (9, _), (10, _)]) ?_ ⟨rfl, rfl, rfl, rfl, rfl, trivial⟩))
 refine WC.seq (WC.seq (WC.region ?_))
 refine WL.q (oq_move rfl) rfl rfl rfl ?_
 refine WL.q (oq_peql Tryz.underlying218 rfl rfl) rfl rfl rfl ?_
 refine WL.nil (WE.then_normal (WC.sub (fr' := [(0, _), (1, _), (3, _), (9, _), (10, _), (19, _)]) ?_ ⟨rfl, rfl, rfl, rfl, rfl, rfl, trivial⟩))
 refine WC.cond rfl (fun q2 => ?_) (fun q2 => ?_)
 ·
  try simp only [Z1, Z2, Z3, Z4, Z5, Z6, Z7, Z8, Z9, Z0] at q2
  first | (simp at q2; done) | (simp at q4; done) | (simp at q5; done) | (simp [nextOf, nilI] at q8; done) | (exfalso; omega)
 ·
  try simp only [Z1, Z2, Z3, Z4, Z5, Z6, Z7, Z8, Z9, Z0] at q2
  refine WC.skip (WE.then_normal (WC.sub (fr' := [(0, _), (1, _), (3, _), (9, _), (10, _)]) ?_ ⟨rfl, rfl, rfl, rfl, rfl, trivial⟩))
  refine WC.seq (WC.seq (WC.region ?_))
  refine WL.q (oq_move rfl) rfl rfl rfl ?_
  refine WL.q (oq_eql rfl rfl) rfl rfl rfl ?_
  refine WL.nil (WE.then_normal (WC.sub (fr' := [(0, _), (1, _), (9, _), (10, _), (22, _)]) ?_ ⟨rfl, rfl, rfl, rfl, rfl, trivial⟩))
  refine WC.cond rfl (fun q4 => ?_) (fun q4 => ?_)
  ·
   try simp only [Z1, Z2, Z3, Z4, Z5, Z6, Z7, Z8, Z9, Z0] at q4
   refine WC.seq (WC.region ?_)
   refine WL.q (oq_move rfl) rfl rfl rfl ?_
   refine WL.q (oq_peql Tryz.underlying218 rfl rfl) rfl rfl rfl ?_
   refine WL.nil (WE.then_normal (WC.sub (fr' := [(0, _), (1, _), (9, _), (10, _), (24, _)]) ?_ ⟨rfl, rfl, rfl, rfl, rfl, trivial⟩))
   refine WC.cond rfl (fun q5 => ?_) (fun q5 => ?_)
   ·
    try simp only [Z1, Z2, Z3, Z4, Z5, Z6, Z7, Z8, Z9, Z0] at q5
    have hd0 : hdp items = Pt x.b 0 := by rw [hit]; rfl
    rw [hd0]
    refine WC.region ?_
    refine WL.q (oq_move rfl) rfl rfl rfl ?_
    refine WL.q (oq_move rfl) rfl rfl rfl ?_
    refine WL.q (oq_nilCheck rfl) rfl rfl rfl ?_
    refine WL.q (oq_fieldAddr fld220_0 rfl) rfl rfl rfl ?_
    refine WL.q (oq_load flat218 rfl (.head _) (List.mem_singleton.2 rfl) rfl) rfl rfl rfl ?_
    refine WL.q (oq_makeI conc218 rfl) rfl rfl rfl ?_
    refine WL.q (oq_move rfl) rfl rfl rfl ?_
    refine WL.q (oq_build #[_, _] str222 ty222 rfl rfl) rfl rfl rfl ?_
    refine WL.box rfl rfl rfl fun e he => ?_
    refine WL.q (oq_nilCheck rfl) rfl rfl rfl ?_
    refine WL.q (oq_fieldAddr fld220_0 rfl) rfl rfl rfl ?_
    refine WL.f1 ?_
    refine WL.store1 #[_, _] ty218 rfl rfl (by first | rfl | exact OwS.one one_) (Nat.lt_of_lt_of_le (Nat.lt_succ_self _) (Nat.le_of_ble_eq_true rfl)) rfl rfl ?_
    refine WL.nil (WE.then_normal (WC.sub (fr' := []) ?_ trivial))
    refine WC.seq (WC.region ?_)
    refine WL.q (oq_assign rfl) rfl rfl rfl ?_
    refine WL.nil (WE.then_normal (WC.sub (fr' := [(8, _)]) ?_ ⟨rfl, trivial⟩))
    refine WC.ret ?_
    refine WE.endW3 (.inl rfl) (res1 Tryz.results100 rfl) ?_
    exact ⟨rfl, e, he, perm2 (by rw [lastp_ne _ _ (by rw [hit]; simp)]; rfl) (by simp only [List.flatten_cons, List.flatten_nil, List.append_nil]; exact .of_eq (ch_front hit (Nd.mk e id fv)))⟩
   ·
    try simp only [Z1, Z2, Z3, Z4, Z5, Z6, Z7, Z8, Z9, Z0] at q5
    first | (simp at q2; done) | (simp at q4; done) | (simp at q5; done) | (simp [nextOf, nilI] at q8; done) | (exfalso; omega)
  ·
   try simp only [Z1, Z2, Z3, Z4, Z5, Z6, Z7, Z8, Z9, Z0] at q4
   first | (simp at q2; done) | (simp at q4; done) | (simp at q5; done) | (simp [nextOf, nilI] at q8; done) | (exfalso; omega)
theorem insM3 (base sb : Nat) (x : Nd) (items : List Nd) (id : List UInt8) (fv : Value) (A2 B : List Nd) (p : Nd) (hit : items = (A2 ++ [p]) ++ x :: B) (hA : ∀ y ∈ A2 ++ [p], y.id ≠ x.id) : FnW Tryz.prog 100 [Pt sb 0, .iface 243 (.agg #[S id, fv]), S x.id, I 1] base [[(sb, .cells #[(hdp (items)), (lastp (items))] 220 (0, 0))], ch 218 222 243 items .nilIface] (fun v Hs => v = .nilIface ∧ ∃ e, base ≤ e ∧ Hs.flatten.Perm ([[(sb, .cells #[(hdp (A2 ++ p :: Nd.mk e id fv :: x :: B)), (lastp (A2 ++ p :: Nd.mk e id fv :: x :: B))] 220 (0, 0))], ch 218 222 243 (A2 ++ p :: Nd.mk e id fv :: x :: B) .nilIface] : List Hp).flatten) := by
 have hit2 : items = A2 ++ p :: x :: B := by rw [hit]; simp
 refine FnW.enter (n := 76) Tryz.func100 rfl rfl fun w0 R0 hbase => ?_
 subst hbase
 show WC _ _ _ _ _ _ _ ([[(sb, .cells #[(hdp (items)), (lastp (items))] 220 (0, 0))], ch 218 222 243 items .nilIface, R0])
 refine WC.sub (fr' := [(0, _), (1, _), (2, _), (3, _)]) ?_ ⟨rfl, rfl, rfl, rfl, trivial⟩
 refine WC.seq (WC.region ?_)
 refine WL.q (oq_assign rfl) rfl rfl rfl ?_
 refine WL.nil (WE.then_normal (WC.sub (fr' := [(0, _), (1, _), (2, _), (3, _)]) ?_ ⟨rfl, rfl, rfl, rfl, trivial⟩))
 refine WC.seq (WC.region ?_)
 refine WL.q (oq_move rfl) rfl rfl rfl ?_
 refine WL.q (oq_move rfl) rfl rfl rfl ?_
 refine WL.f1 ?_
 refine WL.f1 ?_
 refine WL.callW2 (gotH3 _ sb x.id (A2 ++ [p]) B x items hit rfl hA) call126 rfl rfl rfl fun v1_2 Hs1_2 hR1_2 => ?_
 obtain ⟨rfl, rfl⟩ := hR1_2
 rw [lastp_snoc]
 refine WL.to2 ?_
 refine WL.q (oq_move rfl) rfl rfl rfl ?_
 refine WL.q (oq_extract rfl rfl) rfl rfl rfl ?_
 refine WL.q (oq_extract rfl rfl) rfl rfl rfl ?_
 refine WL.q (oq_assign rfl) rfl rfl rfl ?_
 refine WL.q (oq_assign rfl) rfl rfl rfl ?_
 refine WL.nil (WE.then_normal (WC.sub (fr' := [(0, _), (1, _), (3, _), (9, _), (10, _)]) ?_ ⟨rfl, rfl, rfl, rfl, rfl, trivial⟩))
 refine WC.seq (WC.seq (WC.region ?_))
 refine WL.q (oq_move rfl) rfl rfl rfl ?_
 refine WL.q (oq_peql Tryz.underlying218 rfl rfl) rfl rfl rfl ?_
 refine WL.nil (WE.then_normal (WC.sub (fr' := [(0, _), (1, _), (3, _), (9, _), (10, _), (19, _)]) ?_ ⟨rfl, rfl, rfl, rfl, rfl, rfl, trivial⟩))
 refine WC.cond rfl (fun q2 => ?_) (fun q2 => ?_)
 ·
  try simp only [Z1, Z2, Z3, Z4, Z5, Z6, Z7, Z8, Z9, Z0] at q2
  first | (simp at q2; done) | (simp at q4; done) | (simp at q5; done) | (simp [nextOf, nilI] at q8; done) | (exfalso; omega)
 ·
  try simp only [Z1, Z2, Z3, Z4, Z5, Z6, Z7, Z8, Z9, Z0] at q2
  refine WC.skip (WE.then_normal (WC.sub (fr' := [(0, _), (1, _), (3, _), (9, _), (10, _)]) ?_ ⟨rfl, rfl, rfl, rfl, rfl, trivial⟩))
  refine WC.seq (WC.seq (WC.region ?_))
  refine WL.q (oq_move rfl) rfl rfl rfl ?_
  refine WL.q (oq_eql rfl rfl) rfl rfl rfl ?_
  refine WL.nil (WE.then_normal (WC.sub (fr' := [(0, _), (1, _), (9, _), (10, _), (22, _)]) ?_ ⟨rfl, rfl, rfl, rfl, rfl, trivial⟩))
  refine WC.cond rfl (fun q4 => ?_) (fun q4 => ?_)
  ·
   try simp only [Z1, Z2, Z3, Z4, Z5, Z6, Z7, Z8, Z9, Z0] at q4
   refine WC.seq (WC.region ?_)
   refine WL.q (oq_move rfl) rfl rfl rfl ?_
   refine WL.q (oq_peql Tryz.underlying218 rfl rfl) rfl rfl rfl ?_
   refine WL.nil (WE.then_normal (WC.sub (fr' := [(0, _), (1, _), (9, _), (10, _), (24, _)]) ?_ ⟨rfl, rfl, rfl, rfl, rfl, trivial⟩))
   refine WC.cond rfl (fun q5 => ?_) (fun q5 => ?_)
   ·
    try simp only [Z1, Z2, Z3, Z4, Z5, Z6, Z7, Z8, Z9, Z0] at q5
    first | (simp at q2; done) | (simp at q4; done) | (simp at q5; done) | (simp [nextOf, nilI] at q8; done) | (exfalso; omega)
   ·
    try simp only [Z1, Z2, Z3, Z4, Z5, Z6, Z7, Z8, Z9, Z0] at q5
    refine WC.region ?_
    refine WL.f1 ?_
    refine WL.reg (reg_out (show (ch 218 222 243 (items) .nilIface).Perm ([(p.b, .cells #[nextOf 218 (x :: B) .nilIface, wv 243 p] 222 (0, 0))] ++ (ch 218 222 243 (A2) (.iface 218 (Pt p.b 0)) ++ ch 218 222 243 (x :: B) .nilIface)) from by rw [hit2]; exact ch_out _ _ _ _)) ?_
    refine WL.q (oq_move rfl) rfl rfl rfl ?_
    refine WL.q (oq_move rfl) rfl rfl rfl ?_
    refine WL.q (oq_makeI conc218 rfl) rfl rfl rfl ?_
    refine WL.q (oq_move rfl) rfl rfl rfl ?_
    refine WL.q (oq_build #[_, _] str222 ty222 rfl rfl) rfl rfl rfl ?_
    refine WL.box rfl rfl rfl fun e he => ?_
    refine WL.q (oq_makeI conc218 rfl) rfl rfl rfl ?_
    refine WL.q (oq_nilCheck rfl) rfl rfl rfl ?_
    refine WL.q (oq_fieldAddr fld222_0 rfl) rfl rfl rfl ?_
    refine WL.f1 ?_
    refine WL.store1 #[_, _] ty163 rfl rfl (by first | rfl | exact OwS.one one_) (Nat.lt_of_lt_of_le (Nat.lt_succ_self _) (Nat.le_of_ble_eq_true rfl)) rfl rfl ?_
    refine WL.nil (WE.then_normal (WC.sub (fr' := []) ?_ trivial))
    refine WC.seq (WC.region ?_)
    refine WL.q (oq_assign rfl) rfl rfl rfl ?_
    refine WL.nil (WE.then_normal (WC.sub (fr' := [(8, _)]) ?_ ⟨rfl, trivial⟩))
    refine WC.ret ?_
    refine WE.f4 ?_
    refine WE.f3 ?_
    refine WE.f3 ?_
    refine WE.f3 ?_
    refine WE.f4 ?_
    refine WE.endW4 (.inl rfl) (res1 Tryz.results100 rfl) ?_
    exact ⟨rfl, e, he, perm2 (by rw [hit2, hdp_cons A2 p (x :: B) (Nd.mk e id fv :: x :: B), lastp_cons, lastp_cons]; rfl) (by simp only [List.flatten_cons, List.flatten_nil, List.append_nil]; exact ch_ins A2 p (Nd.mk e id fv) (x :: B) _)⟩
  ·
   try simp only [Z1, Z2, Z3, Z4, Z5, Z6, Z7, Z8, Z9, Z0] at q4
   first | (simp at q2; done) | (simp at q4; done) | (simp at q5; done) | (simp [nextOf, nilI] at q8; done) | (exfalso; omega)
theorem insE3 (base sb : Nat) (x : Nd) (items : List Nd) (id : List UInt8) (fv : Value) (A : List Nd) (hit : items = A ++ x :: []) (hA : ∀ y ∈ A, y.id ≠ x.id) : FnW Tryz.prog 100 [Pt sb 0, .iface 243 (.agg #[S id, fv]), S x.id, I 0] base [[(sb, .cells #[(hdp (items)), (lastp (items))] 220 (0, 0))], ch 218 222 243 items .nilIface] (fun v Hs => v = .nilIface ∧ ∃ e, base ≤ e ∧ Hs.flatten.Perm ([[(sb, .cells #[(hdp (A ++ x :: Nd.mk e id fv :: [])), (lastp (A ++ x :: Nd.mk e id fv :: []))] 220 (0, 0))], ch 218 222 243 (A ++ x :: Nd.mk e id fv :: []) .nilIface] : List Hp).flatten) := by
 refine FnW.enter (n := 76) Tryz.func100 rfl rfl fun w0 R0 hbase => ?_
 subst hbase
 show WC _ _ _ _ _ _ _ ([[(sb, .cells #[(hdp (items)), (lastp (items))] 220 (0, 0))], ch 218 222 243 items .nilIface, R0])
 refine WC.sub (fr' := [(0, _), (1, _), (2, _), (3, _)]) ?_ ⟨rfl, rfl, rfl, rfl, trivial⟩
 refine WC.seq (WC.region ?_)
 refine WL.q (oq_assign rfl) rfl rfl rfl ?_
 refine WL.nil (WE.then_normal (WC.sub (fr' := [(0, _), (1, _), (2, _), (3, _)]) ?_ ⟨rfl, rfl, rfl, rfl, trivial⟩))
 refine WC.seq (WC.region ?_)
 refine WL.q (oq_move rfl) rfl rfl rfl ?_
 refine WL.q (oq_move rfl) rfl rfl rfl ?_
 refine WL.f1 ?_
 refine WL.f1 ?_
 refine WL.callW2 (gotH3 _ sb x.id A [] x items hit rfl hA) call126 rfl rfl rfl fun v1_2 Hs1_2 hR1_2 => ?_
 obtain ⟨rfl, rfl⟩ := hR1_2
 refine WL.to2 ?_
 refine WL.q (oq_move rfl) rfl rfl rfl ?_
 refine WL.q (oq_extract rfl rfl) rfl rfl rfl ?_
 refine WL.q (oq_extract rfl rfl) rfl rfl rfl ?_
 refine WL.q (oq_assign rfl) rfl rfl rfl ?_
 refine WL.q (oq_assign rfl) rfl rfl rfl ?_
 refine WL.nil (WE.then_normal (WC.sub (fr' := [(0, _), (1, _), (3, _), (9, _), (10, _)]) ?_ ⟨rfl, rfl, rfl, rfl, rfl, trivial⟩))
 refine WC.seq (WC.seq (WC.region ?_))
 refine WL.q (oq_move rfl) rfl rfl rfl ?_
 refine WL.q (oq_peql Tryz.underlying218 rfl rfl) rfl rfl rfl ?_
 refine WL.nil (WE.then_normal (WC.sub (fr' := [(0, _), (1, _), (3, _), (9, _), (10, _), (19, _)]) ?_ ⟨rfl, rfl, rfl, rfl, rfl, rfl, trivial⟩))
 refine WC.cond rfl (fun q2 => ?_) (fun q2 => ?_)
 ·
  try simp only [Z1, Z2, Z3, Z4, Z5, Z6, Z7, Z8, Z9, Z0] at q2
  first | (simp at q2; done) | (simp at q4; done) | (simp at q5; done) | (simp [nextOf, nilI] at q8; done) | (exfalso; omega)
 ·
  try simp only [Z1, Z2, Z3, Z4, Z5, Z6, Z7, Z8, Z9, Z0] at q2
  refine WC.skip (WE.then_normal (WC.sub (fr' := [(0, _), (1, _), (3, _), (9, _), (10, _)]) ?_ ⟨rfl, rfl, rfl, rfl, rfl, trivial⟩))
  refine WC.seq (WC.seq (WC.region ?_))
  refine WL.q (oq_move rfl) rfl rfl rfl ?_
  refine WL.q (oq_eql rfl rfl) rfl rfl rfl ?_
  refine WL.nil (WE.then_normal (WC.sub (fr' := [(0, _), (1, _), (9, _), (10, _), (22, _)]) ?_ ⟨rfl, rfl, rfl, rfl, rfl, trivial⟩))
  refine WC.cond rfl (fun q4 => ?_) (fun q4 => ?_)
  ·
   try simp only [Z1, Z2, Z3, Z4, Z5, Z6, Z7, Z8, Z9, Z0] at q4
   first | (simp at q2; done) | (simp at q4; done) | (simp at q5; done) | (simp [nextOf, nilI] at q8; done) | (exfalso; omega)
  ·
   try simp only [Z1, Z2, Z3, Z4, Z5, Z6, Z7, Z8, Z9, Z0] at q4
   refine WC.seq (WC.region ?_)
   refine WL.q (oq_move rfl) rfl rfl rfl ?_
   refine WL.q (oq_nilCheck rfl) rfl rfl rfl ?_
   refine WL.q (oq_fieldAddr fld222_0 rfl) rfl rfl rfl ?_
   refine WL.q (oq_load flat163 rfl (.tail _ (.head _)) (mem_of hit) rfl) rfl rfl rfl ?_
   refine WL.q (oq_ieql Tryz.underlying163 rfl (.inl rfl)) rfl rfl rfl ?_
   refine WL.nil (WE.then_normal (WC.sub (fr' := [(0, _), (1, _), (9, _), (49, _)]) ?_ ⟨rfl, rfl, rfl, rfl, trivial⟩))
   refine WC.cond rfl (fun q8 => ?_) (fun q8 => ?_)
   ·
    try simp only [Z1, Z2, Z3, Z4, Z5, Z6, Z7, Z8, Z9, Z0] at q8
    refine WC.seq (WC.region ?_)
    refine WL.q (oq_move rfl) rfl rfl rfl ?_
    refine WL.q (oq_build #[_, _] str222 ty222 rfl rfl) rfl rfl rfl ?_
    refine WL.box rfl rfl rfl fun e he => ?_
    refine WL.q (oq_assign rfl) rfl rfl rfl ?_
    refine WL.nil (WE.then_normal (WC.sub (fr' := [(0, _), (11, _)]) ?_ ⟨rfl, rfl, trivial⟩))
    refine WC.seq ?_
    have hl0 : lastp items = Pt x.b 0 := by rw [hit, lastp_snoc]
    rw [hl0]
    refine WC.region ?_
    refine WL.f2 ?_
    refine WL.reg (reg_out (show (ch 218 222 243 (items) .nilIface).Perm ([(x.b, .cells #[nextOf 218 ([]) .nilIface, wv 243 x] 222 (0, 0))] ++ (ch 218 222 243 (A) (.iface 218 (Pt x.b 0)) ++ ch 218 222 243 ([]) .nilIface)) from by rw [hit]; exact ch_out _ _ _ _)) ?_
    refine WL.q (oq_move rfl) rfl rfl rfl ?_
    refine WL.q (oq_nilCheck rfl) rfl rfl rfl ?_
    refine WL.q (oq_fieldAddr fld220_1 rfl) rfl rfl rfl ?_
    refine WL.q (oq_load flat218 rfl (.tail _ (.tail _ (.tail _ (.head _)))) (List.mem_singleton.2 rfl) rfl) rfl rfl rfl ?_
    refine WL.q (oq_move rfl) rfl rfl rfl ?_
    refine WL.q (oq_makeI conc218 rfl) rfl rfl rfl ?_
    refine WL.q (oq_nilCheck rfl) rfl rfl rfl ?_
    refine WL.q (oq_fieldAddr fld222_0 rfl) rfl rfl rfl ?_
    refine WL.store1 #[_, _] ty163 rfl rfl (by first | rfl | exact OwS.one one_) (Nat.lt_of_lt_of_le (Nat.lt_succ_self _) (Nat.le_of_ble_eq_true rfl)) rfl rfl ?_
    refine WL.nil (WE.then_normal (WC.sub (fr' := [(0, _), (11, _)]) ?_ ⟨rfl, rfl, trivial⟩))
    refine WC.region ?_
    refine WL.q (oq_move rfl) rfl rfl rfl ?_
    refine WL.q (oq_move rfl) rfl rfl rfl ?_
    refine WL.q (oq_nilCheck rfl) rfl rfl rfl ?_
    refine WL.q (oq_fieldAddr fld220_1 rfl) rfl rfl rfl ?_
    refine WL.f3 ?_
    refine WL.store1 #[_, _] ty218 rfl rfl (by first | rfl | exact OwS.one one_) (Nat.lt_of_lt_of_le (Nat.lt_succ_self _) (Nat.le_of_ble_eq_true rfl)) rfl rfl ?_
    refine WL.nil (WE.then_normal (WC.sub (fr' := []) ?_ trivial))
    refine WC.seq (WC.region ?_)
    refine WL.q (oq_assign rfl) rfl rfl rfl ?_
    refine WL.nil (WE.then_normal (WC.sub (fr' := [(8, _)]) ?_ ⟨rfl, trivial⟩))
    refine WC.ret ?_
    refine WE.f4 ?_
    refine WE.f3 ?_
    refine WE.f4 ?_
    refine WE.f4 ?_
    refine WE.f4 ?_
    refine WE.endW4 (.inl rfl) (res1 Tryz.results100 rfl) ?_
    exact ⟨rfl, e, he, perm2 (by rw [hit, hdp_cons A x [] [Nd.mk e id fv], lastp_cons]; rfl) (by simp only [List.flatten_cons, List.flatten_nil, List.append_nil]; exact ch_ins A x (Nd.mk e id fv) [] _)⟩
   ·
    try simp only [Z1, Z2, Z3, Z4, Z5, Z6, Z7, Z8, Z9, Z0] at q8
    first | (simp at q2; done) | (simp at q4; done) | (simp at q5; done) | (simp [nextOf, nilI] at q8; done) | (exfalso; omega)
theorem insA3 (base sb : Nat) (x : Nd) (items : List Nd) (id : List UInt8) (fv : Value) (A B : List Nd) (y : Nd) (hit : items = A ++ x :: (y :: B)) (hA : ∀ y ∈ A, y.id ≠ x.id) : FnW Tryz.prog 100 [Pt sb 0, .iface 243 (.agg #[S id, fv]), S x.id, I 0] base [[(sb, .cells #[(hdp (items)), (lastp (items))] 220 (0, 0))], ch 218 222 243 items .nilIface] (fun v Hs => v = .nilIface ∧ ∃ e, base ≤ e ∧ Hs.flatten.Perm ([[(sb, .cells #[(hdp (A ++ x :: Nd.mk e id fv :: y :: B)), (lastp (A ++ x :: Nd.mk e id fv :: y :: B))] 220 (0, 0))], ch 218 222 243 (A ++ x :: Nd.mk e id fv :: y :: B) .nilIface] : List Hp).flatten) := by
 refine FnW.enter (n := 76) Tryz.func100 rfl rfl fun w0 R0 hbase => ?_
 subst hbase
 show WC _ _ _ _ _ _ _ ([[(sb, .cells #[(hdp (items)), (lastp (items))] 220 (0, 0))], ch 218 222 243 items .nilIface, R0])
 refine WC.sub (fr' := [(0, _), (1, _), (2, _), (3, _)]) ?_ ⟨rfl, rfl, rfl, rfl, trivial⟩
 refine WC.seq (WC.region ?_)
 refine WL.q (oq_assign rfl) rfl rfl rfl ?_
 refine WL.nil (WE.then_normal (WC.sub (fr' := [(0, _), (1, _), (2, _), (3, _)]) ?_ ⟨rfl, rfl, rfl, rfl, trivial⟩))
 refine WC.seq (WC.region ?_)
 refine WL.q (oq_move rfl) rfl rfl rfl ?_
 refine WL.q (oq_move rfl) rfl rfl rfl ?_
 refine WL.f1 ?_
 refine WL.f1 ?_
 refine WL.callW2 (gotH3 _ sb x.id A (y :: B) x items hit rfl hA) call126 rfl rfl rfl fun v1_2 Hs1_2 hR1_2 => ?_
 obtain ⟨rfl, rfl⟩ := hR1_2
 refine WL.to2 ?_
 refine WL.q (oq_move rfl) rfl rfl rfl ?_
 refine WL.q (oq_extract rfl rfl) rfl rfl rfl ?_
 refine WL.q (oq_extract rfl rfl) rfl rfl rfl ?_
 refine WL.q (oq_assign rfl) rfl rfl rfl ?_
 refine WL.q (oq_assign rfl) rfl rfl rfl ?_
 refine WL.nil (WE.then_normal (WC.sub (fr' := [(0, _), (1, _), (3, _), (9, _), (10, _)]) ?_ ⟨rfl, rfl, rfl, rfl, rfl, trivial⟩))
 refine WC.seq (WC.seq (WC.region ?_))
 refine WL.q (oq_move rfl) rfl rfl rfl ?_
 refine WL.q (oq_peql Tryz.underlying218 rfl rfl) rfl rfl rfl ?_
 refine WL.nil (WE.then_normal (WC.sub (fr' := [(0, _), (1, _), (3, _), (9, _), (10, _), (19, _)]) ?_ ⟨rfl, rfl, rfl, rfl, rfl, rfl, trivial⟩))
 refine WC.cond rfl (fun q2 => ?_) (fun q2 => ?_)
 ·
  try simp only [Z1, Z2, Z3, Z4, Z5, Z6, Z7, Z8, Z9, Z0] at q2
  first | (simp at q2; done) | (simp at q4; done) | (simp at q5; done) | (simp [nextOf, nilI] at q8; done) | (exfalso; omega)
 ·
  try simp only [Z1, Z2, Z3, Z4, Z5, Z6, Z7, Z8, Z9, Z0] at q2
  refine WC.skip (WE.then_normal (WC.sub (fr' := [(0, _), (1, _), (3, _), (9, _), (10, _)]) ?_ ⟨rfl, rfl, rfl, rfl, rfl, trivial⟩))
  refine WC.seq (WC.seq (WC.region ?_))
  refine WL.q (oq_move rfl) rfl rfl rfl ?_
  refine WL.q (oq_eql rfl rfl) rfl rfl rfl ?_
  refine WL.nil (WE.then_normal (WC.sub (fr' := [(0, _), (1, _), (9, _), (10, _), (22, _)]) ?_ ⟨rfl, rfl, rfl, rfl, rfl, trivial⟩))
  refine WC.cond rfl (fun q4 => ?_) (fun q4 => ?_)
  ·
   try simp only [Z1, Z2, Z3, Z4, Z5, Z6, Z7, Z8, Z9, Z0] at q4
   first | (simp at q2; done) | (simp at q4; done) | (simp at q5; done) | (simp [nextOf, nilI] at q8; done) | (exfalso; omega)
  ·
   try simp only [Z1, Z2, Z3, Z4, Z5, Z6, Z7, Z8, Z9, Z0] at q4
   refine WC.seq (WC.region ?_)
   refine WL.q (oq_move rfl) rfl rfl rfl ?_
   refine WL.q (oq_nilCheck rfl) rfl rfl rfl ?_
   refine WL.q (oq_fieldAddr fld222_0 rfl) rfl rfl rfl ?_
   refine WL.q (oq_load flat163 rfl (.tail _ (.head _)) (mem_of hit) rfl) rfl rfl rfl ?_
   refine WL.q (oq_ieql Tryz.underlying163 rfl (.inr ⟨_, _, rfl⟩)) rfl rfl rfl ?_
   refine WL.nil (WE.then_normal (WC.sub (fr' := [(0, _), (1, _), (9, _), (49, _)]) ?_ ⟨rfl, rfl, rfl, rfl, trivial⟩))
   refine WC.cond rfl (fun q8 => ?_) (fun q8 => ?_)
   ·
    try simp only [Z1, Z2, Z3, Z4, Z5, Z6, Z7, Z8, Z9, Z0] at q8
    first | (simp at q2; done) | (simp at q4; done) | (simp at q5; done) | (simp [nextOf, nilI] at q8; done) | (exfalso; omega)
   ·
    try simp only [Z1, Z2, Z3, Z4, Z5, Z6, Z7, Z8, Z9, Z0] at q8
    refine WC.region ?_
    refine WL.f1 ?_
    refine WL.reg (reg_out (show (ch 218 222 243 (items) .nilIface).Perm ([(x.b, .cells #[nextOf 218 (y :: B) .nilIface, wv 243 x] 222 (0, 0))] ++ (ch 218 222 243 (A) (.iface 218 (Pt x.b 0)) ++ ch 218 222 243 (y :: B) .nilIface)) from by rw [hit]; exact ch_out _ _ _ _)) ?_
    refine WL.q (oq_move rfl) rfl rfl rfl ?_
    refine WL.q (oq_move rfl) rfl rfl rfl ?_
    refine WL.q (oq_nilCheck rfl) rfl rfl rfl ?_
    refine WL.q (oq_fieldAddr fld222_0 rfl) rfl rfl rfl ?_
    refine WL.q (oq_load flat163 rfl (.head _) (List.mem_singleton.2 rfl) rfl) rfl rfl rfl ?_
    refine WL.q (oq_move rfl) rfl rfl rfl ?_
    refine WL.q (oq_build #[_, _] str222 ty222 rfl rfl) rfl rfl rfl ?_
    refine WL.box rfl rfl rfl fun e he => ?_
    refine WL.q (oq_makeI conc218 rfl) rfl rfl rfl ?_
    refine WL.q (oq_nilCheck rfl) rfl rfl rfl ?_
    refine WL.q (oq_fieldAddr fld222_0 rfl) rfl rfl rfl ?_
    refine WL.f1 ?_
    refine WL.store1 #[_, _] ty163 rfl rfl (by first | rfl | exact OwS.one one_) (Nat.lt_of_lt_of_le (Nat.lt_succ_self _) (Nat.le_of_ble_eq_true rfl)) rfl rfl ?_
    refine WL.nil (WE.then_normal (WC.sub (fr' := []) ?_ trivial))
    refine WC.seq (WC.region ?_)
    refine WL.q (oq_assign rfl) rfl rfl rfl ?_
    refine WL.nil (WE.then_normal (WC.sub (fr' := [(8, _)]) ?_ ⟨rfl, trivial⟩))
    refine WC.ret ?_
    refine WE.f4 ?_
    refine WE.f3 ?_
    refine WE.f3 ?_
    refine WE.f3 ?_
    refine WE.f4 ?_
    refine WE.endW4 (.inl rfl) (res1 Tryz.results100 rfl) ?_
    exact ⟨rfl, e, he, perm2 (by rw [hit, hdp_cons A x (y :: B) (Nd.mk e id fv :: y :: B), lastp_cons, lastp_cons]; rfl) (by simp only [List.flatten_cons, List.flatten_nil, List.append_nil]; exact ch_ins A x (Nd.mk e id fv) (y :: B) _)⟩
theorem insN3 (base sb : Nat) (id by_ : List UInt8) (fv : Value) (items : List Nd) (hn : ∀ y ∈ items, y.id ≠ by_) (pos : Int) : FnW Tryz.prog 100 [Pt sb 0, .iface 243 (.agg #[S id, fv]), S by_, I pos] base [[(sb, .cells #[(hdp (items)), (lastp (items))] 220 (0, 0))], ch 218 222 243 items .nilIface] (fun v Hs => (∃ k u, v = .iface k u) ∧ Hs = [[(sb, .cells #[(hdp (items)), (lastp (items))] 220 (0, 0))], ch 218 222 243 items .nilIface]) := by
 refine FnW.enter (n := 76) Tryz.func100 rfl rfl fun w0 R0 hbase => ?_
 subst hbase
 show WC _ _ _ _ _ _ _ ([[(sb, .cells #[(hdp (items)), (lastp (items))] 220 (0, 0))], ch 218 222 243 items .nilIface, R0])
 refine WC.sub (fr' := [(0, _), (1, _), (2, _), (3, _)]) ?_ ⟨rfl, rfl, rfl, rfl, trivial⟩
 refine WC.seq (WC.region ?_)
 refine WL.q (oq_assign rfl) rfl rfl rfl ?_
 refine WL.nil (WE.then_normal (WC.sub (fr' := [(0, _), (1, _), (2, _), (3, _)]) ?_ ⟨rfl, rfl, rfl, rfl, trivial⟩))
 refine WC.seq (WC.region ?_)
 refine WL.q (oq_move rfl) rfl rfl rfl ?_
 refine WL.q (oq_move rfl) rfl rfl rfl ?_
 refine WL.f1 ?_
 refine WL.f1 ?_
 refine WL.callW2 (gotM3 _ sb by_ items hn) call126 rfl rfl rfl fun v1_2 Hs1_2 hR1_2 => ?_
 obtain ⟨rfl, rfl⟩ := hR1_2
 refine WL.to2 ?_
 refine WL.q (oq_move rfl) rfl rfl rfl ?_
 refine WL.q (oq_extract rfl rfl) rfl rfl rfl ?_
 refine WL.q (oq_extract rfl rfl) rfl rfl rfl ?_
 refine WL.q (oq_assign rfl) rfl rfl rfl ?_
 refine WL.q (oq_assign rfl) rfl rfl rfl ?_
 refine WL.nil (WE.then_normal (WC.sub (fr' := [(0, _), (1, _), (3, _), (9, _), (10, _)]) ?_ ⟨rfl, rfl, rfl, rfl, rfl, trivial⟩))
 refine WC.seq (WC.seq (WC.region ?_))
 refine WL.q (oq_move rfl) rfl rfl rfl ?_
 refine WL.q (oq_peql Tryz.underlying218 rfl rfl) rfl rfl rfl ?_
 refine WL.nil (WE.then_normal (WC.sub (fr' := [(0, _), (1, _), (3, _), (9, _), (10, _), (19, _)]) ?_ ⟨rfl, rfl, rfl, rfl, rfl, rfl, trivial⟩))
 refine WC.cond rfl (fun q2 => ?_) (fun q2 => ?_)
 ·
  try simp only [Z1, Z2, Z3, Z4, Z5, Z6, Z7, Z8, Z9, Z0] at q2
  refine WC.seq (WC.region ?_)
  refine WL.callA0 (errNew _) call122 rfl rfl rfl fun v3_0 N3_0 hR3_0 hN3_0 => ?_
  obtain ⟨ek, eu, rfl⟩ := hR3_0
  refine WL.q (oq_assign rfl) rfl rfl rfl ?_
  refine WL.nil (WE.then_normal (WC.sub (fr' := [(8, _)]) ?_ ⟨rfl, trivial⟩))
  refine WC.ret (WE.then_ret ?_)
  refine WE.forget hN3_0 ?_
  refine WE.endW2 (.inl rfl) (res1 Tryz.results100 rfl) ?_
  exact ⟨⟨_, _, rfl⟩, rfl⟩
 ·
  try simp only [Z1, Z2, Z3, Z4, Z5, Z6, Z7, Z8, Z9, Z0] at q2
  simp at q2
theorem swapH3 (base sb : Nat) (id : List UInt8) (fv : Value) (A B : List Nd) (x : Nd) (items : List Nd) (hit : items = A ++ x :: B) (hA : ∀ y ∈ A, y.id ≠ x.id)  : FnW Tryz.prog 102 [Pt sb 0, S x.id, .iface 243 (.agg #[S id, fv])] base [[(sb, .cells #[(hdp (items)), (lastp (items))] 220 (0, 0))], ch 218 222 243 items .nilIface] (fun v Hs => v = .tuple #[wv 243 x, .nilIface] ∧ Hs.flatten.Perm ([[(sb, .cells #[(hdp (A ++ Nd.mk x.b id fv :: B)), (lastp (A ++ Nd.mk x.b id fv :: B))] 220 (0, 0))], ch 218 222 243 (A ++ Nd.mk x.b id fv :: B) .nilIface] : List Hp).flatten) := by
 refine FnW.enter (n := 29) Tryz.func102 rfl rfl fun w0 R0 hbase => ?_
 subst hbase
 show WC _ _ _ _ _ _ _ ([[(sb, .cells #[(hdp (items)), (lastp (items))] 220 (0, 0))], ch 218 222 243 items .nilIface, R0])
 refine WC.sub (fr' := [(0, _), (1, _), (2, _)]) ?_ ⟨rfl, rfl, rfl, trivial⟩
 refine WC.seq (WC.region ?_)
 refine WL.q (oq_assign rfl) rfl rfl rfl ?_
 refine WL.q (oq_assign rfl) rfl rfl rfl ?_
 refine WL.nil (WE.then_normal (WC.sub (fr' := [(0, _), (1, _), (2, _)]) ?_ ⟨rfl, rfl, rfl, trivial⟩))
 refine WC.seq (WC.region ?_)
 refine WL.q (oq_move rfl) rfl rfl rfl ?_
 refine WL.q (oq_move rfl) rfl rfl rfl ?_
 refine WL.f1 ?_
 refine WL.f1 ?_
 refine WL.callW2 (gotH3 _ sb x.id A B x items hit rfl hA) call126 rfl rfl rfl fun v1_2 Hs1_2 hR1_2 => ?_
 obtain ⟨rfl, rfl⟩ := hR1_2
 refine WL.to2 ?_
 refine WL.q (oq_move rfl) rfl rfl rfl ?_
 refine WL.q (oq_extract rfl rfl) rfl rfl rfl ?_
 refine WL.q (oq_extract rfl rfl) rfl rfl rfl ?_
 refine WL.q (oq_assign rfl) rfl rfl rfl ?_
 refine WL.q (oq_assign rfl) rfl rfl rfl ?_
 refine WL.nil (WE.then_normal (WC.sub (fr' := [(2, _), (8, _)]) ?_ ⟨rfl, rfl, trivial⟩))
 refine WC.seq (WC.seq (WC.region ?_))
 refine WL.q (oq_move rfl) rfl rfl rfl ?_
 refine WL.q (oq_peql Tryz.underlying218 rfl rfl) rfl rfl rfl ?_
 refine WL.nil (WE.then_normal (WC.sub (fr' := [(2, _), (8, _), (18, _)]) ?_ ⟨rfl, rfl, rfl, trivial⟩))
 refine WC.cond rfl (fun q2 => ?_) (fun q2 => ?_)
 ·
  try simp only [Z1, Z2, Z3, Z4, Z5, Z6, Z7, Z8, Z9, Z0] at q2
  simp at q2
 ·
  try simp only [Z1, Z2, Z3, Z4, Z5, Z6, Z7, Z8, Z9, Z0] at q2
  refine WC.skip (WE.then_normal (WC.sub (fr' := [(2, _), (8, _)]) ?_ ⟨rfl, rfl, trivial⟩))
  refine WC.seq (WC.region ?_)
  refine WL.f1 ?_
  refine WL.reg (reg_out (show (ch 218 222 243 (items) .nilIface).Perm ([(x.b, .cells #[nextOf 218 (B) .nilIface, wv 243 x] 222 (0, 0))] ++ (ch 218 222 243 (A) (.iface 218 (Pt x.b 0)) ++ ch 218 222 243 (B) .nilIface)) from by rw [hit]; exact ch_out _ _ _ _)) ?_
  refine WL.q (oq_move rfl) rfl rfl rfl ?_
  refine WL.q (oq_nilCheck rfl) rfl rfl rfl ?_
  refine WL.q (oq_fieldAddr fld222_1 rfl) rfl rfl rfl ?_
  refine WL.q (oq_load flat159 rfl (.head _) (List.mem_singleton.2 rfl) rfl) rfl rfl rfl ?_
  refine WL.q (oq_assign rfl) rfl rfl rfl ?_
  refine WL.nil (WE.then_normal (WC.sub (fr' := [(2, _), (8, _), (10, _)]) ?_ ⟨rfl, rfl, rfl, trivial⟩))
  refine WC.seq (WC.region ?_)
  refine WL.q (oq_move rfl) rfl rfl rfl ?_
  refine WL.q (oq_move rfl) rfl rfl rfl ?_
  refine WL.q (oq_nilCheck rfl) rfl rfl rfl ?_
  refine WL.q (oq_fieldAddr fld222_1 rfl) rfl rfl rfl ?_
  refine WL.store1 #[_, _] ty159 rfl rfl (by first | rfl | exact OwS.one one_) (Nat.lt_of_lt_of_le (Nat.lt_succ_self _) (Nat.le_of_ble_eq_true rfl)) rfl rfl ?_
  refine WL.nil (WE.then_normal (WC.sub (fr' := [(10, _)]) ?_ ⟨rfl, trivial⟩))
  refine WC.seq (WC.region ?_)
  refine WL.q (oq_move rfl) rfl rfl rfl ?_
  refine WL.q (oq_assign rfl) rfl rfl rfl ?_
  refine WL.q (oq_assign rfl) rfl rfl rfl ?_
  refine WL.nil (WE.then_normal (WC.sub (fr' := [(6, _), (7, _)]) ?_ ⟨rfl, rfl, trivial⟩))
  refine WC.ret ?_
  refine WE.f3 ?_
  refine WE.f2 ?_
  refine WE.f2 ?_
  refine WE.f3 ?_
  refine WE.endW3 (.inl rfl) (res2 Tryz.results102 rfl rfl) ?_
  exact ⟨rfl, perm2 (by rw [hit, ← hdp_b A B x id fv, ← lastp_b A B x id fv]) (by simp only [List.flatten_cons, List.flatten_nil, List.append_nil]; exact ch_del A (Nd.mk x.b id fv) B _)⟩
theorem swapN3 (base sb : Nat) (by_ : List UInt8) (m : Value) (items : List Nd) (hn : ∀ y ∈ items, y.id ≠ by_) : FnW Tryz.prog 102 [Pt sb 0, S by_, m] base [[(sb, .cells #[(hdp (items)), (lastp (items))] 220 (0, 0))], ch 218 222 243 items .nilIface] (fun v Hs => (∃ k u, v = .tuple #[.nilIface, .iface k u]) ∧ Hs = [[(sb, .cells #[(hdp (items)), (lastp (items))] 220 (0, 0))], ch 218 222 243 items .nilIface]) := by
 refine FnW.enter (n := 29) Tryz.func102 rfl rfl fun w0 R0 hbase => ?_
 subst hbase
 show WC _ _ _ _ _ _ _ ([[(sb, .cells #[(hdp (items)), (lastp (items))] 220 (0, 0))], ch 218 222 243 items .nilIface, R0])
 refine WC.sub (fr' := [(0, _), (1, _), (2, _)]) ?_ ⟨rfl, rfl, rfl, trivial⟩
 refine WC.seq (WC.region ?_)
 refine WL.q (oq_assign rfl) rfl rfl rfl ?_
 refine WL.q (oq_assign rfl) rfl rfl rfl ?_
 refine WL.nil (WE.then_normal (WC.sub (fr' := [(0, _), (1, _), (2, _)]) ?_ ⟨rfl, rfl, rfl, trivial⟩))
 refine WC.seq (WC.region ?_)
 refine WL.q (oq_move rfl) rfl rfl rfl ?_
 refine WL.q (oq_move rfl) rfl rfl rfl ?_
 refine WL.f1 ?_
 refine WL.f1 ?_
 refine WL.callW2 (gotM3 _ sb by_ items hn) call126 rfl rfl rfl fun v1_2 Hs1_2 hR1_2 => ?_
 obtain ⟨rfl, rfl⟩ := hR1_2
 refine WL.to2 ?_
 refine WL.q (oq_move rfl) rfl rfl rfl ?_
 refine WL.q (oq_extract rfl rfl) rfl rfl rfl ?_
 refine WL.q (oq_extract rfl rfl) rfl rfl rfl ?_
 refine WL.q (oq_assign rfl) rfl rfl rfl ?_
 refine WL.q (oq_assign rfl) rfl rfl rfl ?_
 refine WL.nil (WE.then_normal (WC.sub (fr' := [(2, _), (8, _)]) ?_ ⟨rfl, rfl, trivial⟩))
 refine WC.seq (WC.seq (WC.region ?_))
 refine WL.q (oq_move rfl) rfl rfl rfl ?_
 refine WL.q (oq_peql Tryz.underlying218 rfl rfl) rfl rfl rfl ?_
 refine WL.nil (WE.then_normal (WC.sub (fr' := [(2, _), (8, _), (18, _)]) ?_ ⟨rfl, rfl, rfl, trivial⟩))
 refine WC.cond rfl (fun q2 => ?_) (fun q2 => ?_)
 ·
  try simp only [Z1, Z2, Z3, Z4, Z5, Z6, Z7, Z8, Z9, Z0] at q2
  refine WC.seq (WC.region ?_)
  refine WL.callA0 (errNew _) call122 rfl rfl rfl fun v3_0 N3_0 hR3_0 hN3_0 => ?_
  obtain ⟨ek, eu, rfl⟩ := hR3_0
  refine WL.q (oq_assign rfl) rfl rfl rfl ?_
  refine WL.q (oq_assign rfl) rfl rfl rfl ?_
  refine WL.nil (WE.then_normal (WC.sub (fr' := [(6, _), (7, _)]) ?_ ⟨rfl, rfl, trivial⟩))
  refine WC.ret (WE.then_ret ?_)
  refine WE.forget hN3_0 ?_
  refine WE.endW2 (.inl rfl) (res2 Tryz.results102 rfl rfl) ?_
  exact ⟨⟨_, _, rfl⟩, rfl⟩
 ·
  try simp only [Z1, Z2, Z3, Z4, Z5, Z6, Z7, Z8, Z9, Z0] at q2
  simp at q2
theorem insF4 (base sb : Nat) (x : Nd) (items : List Nd) (id : List UInt8) (fv : Value) (B : List Nd) (hit : items = [] ++ x :: B) : FnW Tryz.prog 114 [Pt sb 0, .iface 247 (.agg #[S id, fv]), S x.id, I 1] base [[(sb, .cells #[(hdp (items)), (lastp (items))] 226 (0, 0))], ch 224 228 247 items .nilIface] (fun v Hs => v = .nilIface ∧ ∃ e, base ≤ e ∧ Hs.flatten.Perm ([[(sb, .cells #[(hdp (Nd.mk e id fv :: items)), (lastp (Nd.mk e id fv :: items))] 226 (0, 0))], ch 224 228 247 (Nd.mk e id fv :: items) .nilIface] : List Hp).flatten) := by
 refine FnW.enter (n := 76) Tryz.func114 rfl rfl fun w0 R0 hbase => ?_
 subst hbase
 show WC _ _ _ _ _ _ _ ([[(sb, .cells #[(hdp (items)), (lastp (items))] 226 (0, 0))], ch 224 228 247 items .nilIface, R0])
 refine WC.sub (fr' := [(0, _), (1, _), (2, _), (3, _)]) ?_ ⟨rfl, rfl, rfl, rfl, trivial⟩
 refine WC.seq (WC.region ?_)
 refine WL.q (oq_assign rfl) rfl rfl rfl ?_
 refine WL.nil (WE.then_normal (WC.sub (fr' := [(0, _), (1, _), (2, _), (3, _)]) ?_ ⟨rfl, rfl, rfl, rfl, trivial⟩))
 refine WC.seq (WC.region ?_)
 refine WL.q (oq_move rfl) rfl rfl rfl ?_
 refine WL.q (oq_move rfl) rfl rfl rfl ?_
 refine WL.f1 ?_
 refine WL.f1 ?_
 refine WL.callW2 (gotH4 _ sb x.id [] B x items hit rfl (by simp)) call127 rfl rfl rfl fun v1_2 Hs1_2 hR1_2 => ?_
 obtain ⟨rfl, rfl⟩ := hR1_2
 refine WL.to2 ?_
 refine WL.q (oq_move rfl) rfl rfl rfl ?_
 refine WL.q (oq_extract rfl rfl) rfl rfl rfl ?_
 refine WL.q (oq_extract rfl rfl) rfl rfl rfl ?_
 refine WL.q (oq_assign rfl) rfl rfl rfl ?_
 refine WL.q (oq_assign rfl) rfl rfl rfl ?_
 refine WL.nil (WE.then_normal (WC.sub (fr' := [(0, _), (1, _), (3, _), (9, _), (10, _)]) ?_ ⟨rfl, rfl, rfl, rfl, rfl, trivial⟩))
 refine WC.seq (WC.seq (WC.region ?_))
 refine WL.q (oq_move rfl) rfl rfl rfl ?_
 refine WL.q (oq_peql Tryz.underlying224 rfl rfl) rfl rfl rfl ?_
 refine WL.nil (WE.then_normal (WC.sub (fr' := [(0, _), (1, _), (3, _), (9, _), (10, _), (19, _)]) ?_ ⟨rfl, rfl, rfl, rfl, rfl, rfl, trivial⟩))
 refine WC.cond rfl (fun q2 => ?_) (fun q2 => ?_)
 ·
  try simp only [Z1, Z2, Z3, Z4, Z5, Z6, Z7, Z8, Z9, Z0] at q2
  first | (simp at q2; done) | (simp at q4; done) | (simp at q5; done) | (simp [nextOf, nilI] at q8; done) | (exfalso; omega)
 ·
  try simp only [Z1, Z2, Z3, Z4, Z5, Z6, Z7, Z8, Z9, Z0] at q2
  refine WC.skip (WE.then_normal (WC.sub (fr' := [(0, _), (1, _), (3, _), (9, _), (10, _)]) ?_ ⟨rfl, rfl, rfl, rfl, rfl, trivial⟩))
  refine WC.seq (WC.seq (WC.region ?_))
  refine WL.q (oq_move rfl) rfl rfl rfl ?_
  refine WL.q (oq_eql rfl rfl) rfl rfl rfl ?_
  refine WL.nil (WE.then_normal (WC.sub (fr' := [(0, _), (1, _), (9, _), (10, _), (22, _)]) ?_ ⟨rfl, rfl, rfl, rfl, rfl, trivial⟩))
  refine WC.cond rfl (fun q4 => ?_) (fun q4 => ?_)
  ·
   try simp only [Z1, Z2, Z3, Z4, Z5, Z6, Z7, Z8, Z9, Z0] at q4
   refine WC.seq (WC.region ?_)
   refine WL.q (oq_move rfl) rfl rfl rfl ?_
   refine WL.q (oq_peql Tryz.underlying224 rfl rfl) rfl rfl rfl ?_
   refine WL.nil (WE.then_normal (WC.sub (fr' := [(0, _), (1, _), (9, _), (10, _), (24, _)]) ?_ ⟨rfl, rfl, rfl, rfl, rfl, trivial⟩))
   refine WC.cond rfl (fun q5 => ?_) (fun q5 => ?_)
   ·
    try simp only [Z1, Z2, Z3, Z4, Z5, Z6, Z7, Z8, Z9, Z0] at q5
    have hd0 : hdp items = Pt x.b 0 := by rw [hit]; rfl
    rw [hd0]
    refine WC.region ?_
    refine WL.q (oq_move rfl) rfl rfl rfl ?_
    refine WL.q (oq_move rfl) rfl rfl rfl ?_
    refine WL.q (oq_nilCheck rfl) rfl rfl rfl ?_
    refine WL.q (oq_fieldAddr fld226_0 rfl) rfl rfl rfl ?_
    refine WL.q (oq_load flat224 rfl (.head _) (List.mem_singleton.2 rfl) rfl) rfl rfl rfl ?_
    refine WL.q (oq_makeI conc224 rfl) rfl rfl rfl ?_
    refine WL.q (oq_move rfl) rfl rfl rfl ?_
    refine WL.q (oq_build #[_, _] str228 ty228 rfl rfl) rfl rfl rfl ?_
    refine WL.box rfl rfl rfl fun e he => ?_
    refine WL.q (oq_nilCheck rfl) rfl rfl rfl ?_
    refine WL.q (oq_fieldAddr fld226_0 rfl) rfl rfl rfl ?_
    refine WL.f1 ?_
    refine WL.store1 #[_, _] ty224 rfl rfl (by first | rfl | exact OwS.one one_) (Nat.lt_of_lt_of_le (Nat.lt_succ_self _) (Nat.le_of_ble_eq_true rfl)) rfl rfl ?_
    refine WL.nil (WE.then_normal (WC.sub (fr' := []) ?_ trivial))
    refine WC.seq (WC.region ?_)
    refine WL.q (oq_assign rfl) rfl rfl rfl ?_
    refine WL.nil (WE.then_normal (WC.sub (fr' := [(8, _)]) ?_ ⟨rfl, trivial⟩))
    refine WC.ret ?_
    refine WE.endW3 (.inl rfl) (res1 Tryz.results114 rfl) ?_
    exact ⟨rfl, e, he, perm2 (by rw [lastp_ne _ _ (by rw [hit]; simp)]; rfl) (by simp only [List.flatten_cons, List.flatten_nil, List.append_nil]; exact .of_eq (ch_front hit (Nd.mk e id fv)))⟩
   ·
    try simp only [Z1, Z2, Z3, Z4, Z5, Z6, Z7, Z8, Z9, Z0] at q5
    first | (simp at q2; done) | (simp at q4; done) | (simp at q5; done) | (simp [nextOf, nilI] at q8; done) | (exfalso; omega)
  ·
   try simp only [Z1, Z2, Z3, Z4, Z5, Z6, Z7, Z8, Z9, Z0] at q4
   first | (simp at q2; done) | (simp at q4; done) | (simp at q5; done) | (simp [nextOf, nilI] at q8; done) | (exfalso; omega)
theorem insM4 (base sb : Nat) (x : Nd) (items : List Nd) (id : List UInt8) (fv : Value) (A2 B : List Nd) (p : Nd) (hit : items = (A2 ++ [p]) ++ x :: B) (hA : ∀ y ∈ A2 ++ [p], y.id ≠ x.id) : FnW Tryz.prog 114 [Pt sb 0, .iface 247 (.agg #[S id, fv]), S x.id, I 1] base [[(sb, .cells #[(hdp (items)), (lastp (items))] 226 (0, 0))], ch 224 228 247 items .nilIface] (fun v Hs => v = .nilIface ∧ ∃ e, base ≤ e ∧ Hs.flatten.Perm ([[(sb, .cells #[(hdp (A2 ++ p :: Nd.mk e id fv :: x :: B)), (lastp (A2 ++ p :: Nd.mk e id fv :: x :: B))] 226 (0, 0))], ch 224 228 247 (A2 ++ p :: Nd.mk e id fv :: x :: B) .nilIface] : List Hp).flatten) := by
 have hit2 : items = A2 ++ p :: x :: B := by rw [hit]; simp
 refine FnW.enter (n := 76) Tryz.func114 rfl rfl fun w0 R0 hbase => ?_
 subst hbase
 show WC _ _ _ _ _ _ _ ([[(sb, .cells #[(hdp (items)), (lastp (items))] 226 (0, 0))], ch 224 228 247 items .nilIface, R0])
 refine WC.sub (fr' := [(0, _), (1, _), (2, _), (3, _)]) ?_ ⟨rfl, rfl, rfl, rfl, trivial⟩
 refine WC.seq (WC.region ?_)
 refine WL.q (oq_assign rfl) rfl rfl rfl ?_
 refine WL.nil (WE.then_normal (WC.sub (fr' := [(0, _), (1, _), (2, _), (3, _)]) ?_ ⟨rfl, rfl, rfl, rfl, trivial⟩))
 refine WC.seq (WC.region ?_)
 refine WL.q (oq_move rfl) rfl rfl rfl ?_
 refine WL.q (oq_move rfl) rfl rfl rfl ?_
 refine WL.f1 ?_
 refine WL.f1 ?_
 refine WL.callW2 (gotH4 _ sb x.id (A2 ++ [p]) B x items hit rfl hA) call127 rfl rfl rfl fun v1_2 Hs1_2 hR1_2 => ?_
 obtain ⟨rfl, rfl⟩ := hR1_2
 rw [lastp_snoc]
 refine WL.to2 ?_
 refine WL.q (oq_move rfl) rfl rfl rfl ?_
 refine WL.q (oq_extract rfl rfl) rfl rfl rfl ?_
 refine WL.q (oq_extract rfl rfl) rfl rfl rfl ?_
 refine WL.q (oq_assign rfl) rfl rfl rfl ?_
 refine WL.q (oq_assign rfl) rfl rfl rfl ?_
 refine WL.nil (WE.then_normal (WC.sub (fr' := [(0, _), (1, _), (3, _), (9, _), (10, _)]) ?_ ⟨rfl, rfl, rfl, rfl, rfl, trivial⟩))
 refine WC.seq (WC.seq (WC.region ?_))
 refine WL.q (oq_move rfl) rfl rfl rfl ?_
 refine WL.q (oq_peql Tryz.underlying224 rfl rfl) rfl rfl rfl ?_
 refine WL.nil (WE.then_normal (WC.sub (fr' := [(0, _), (1, _), (3, _), (9, _), (10, _), (19, _)]) ?_ ⟨rfl, rfl, rfl, rfl, rfl, rfl, trivial⟩))
 refine WC.cond rfl (fun q2 => ?_) (fun q2 => ?_)
 ·
  try simp only [Z1, Z2, Z3, Z4, Z5, Z6, Z7, Z8, Z9, Z0] at q2
  first | (simp at q2; done) | (simp at q4; done) | (simp at q5; done) | (simp [nextOf, nilI] at q8; done) | (exfalso; omega)
 ·
  try simp only [Z1, Z2, Z3, Z4, Z5, Z6, Z7, Z8, Z9, Z0] at q2
  refine WC.skip (WE.then_normal (WC.sub (fr' := [(0, _), (1, _), (3, _), (9, _), (10, _)]) ?_ ⟨rfl, rfl, rfl, rfl, rfl, trivial⟩))
  refine WC.seq (WC.seq (WC.region ?_))
  refine WL.q (oq_move rfl) rfl rfl rfl ?_
  refine WL.q (oq_eql rfl rfl) rfl rfl rfl ?_
  refine WL.nil (WE.then_normal (WC.sub (fr' := [(0, _), (1, _), (9, _), (10, _), (22, _)]) ?_ ⟨rfl, rfl, rfl, rfl, rfl, trivial⟩))
  refine WC.cond rfl (fun q4 => ?_) (fun q4 => ?_)
  ·
   try simp only [Z1, Z2, Z3, Z4, Z5, Z6, Z7, Z8, Z9, Z0] at q4
   refine WC.seq (WC.region ?_)
   refine WL.q (oq_move rfl) rfl rfl rfl ?_
   refine WL.q (oq_peql Tryz.underlying224 rfl rfl) rfl rfl rfl ?_
   refine WL.nil (WE.then_normal (WC.sub (fr' := [(0, _), (1, _), (9, _), (10, _), (24, _)]) ?_ ⟨rfl, rfl, rfl, rfl, rfl, trivial⟩))
   refine WC.cond rfl (fun q5 => ?_) (fun q5 => ?_)
   ·
    try simp only [Z1, Z2, Z3, Z4, Z5, Z6, Z7, Z8, Z9, Z0] at q5
    first | (simp at q2; done) | (simp at q4; done) | (simp at q5; done) | (simp [nextOf, nilI] at q8; done) | (exfalso; omega)
   ·
    try simp only [Z1, Z2, Z3, Z4, Z5, Z6, Z7, Z8, Z9, Z0] at q5
    refine WC.region ?_
    refine WL.f1 ?_
    refine WL.reg (reg_out (show (ch 224 228 247 (items) .nilIface).Perm ([(p.b, .cells #[nextOf 224 (x :: B) .nilIface, wv 247 p] 228 (0, 0))] ++ (ch 224 228 247 (A2) (.iface 224 (Pt p.b 0)) ++ ch 224 228 247 (x :: B) .nilIface)) from by rw [hit2]; exact ch_out _ _ _ _)) ?_
    refine WL.q (oq_move rfl) rfl rfl rfl ?_
    refine WL.q (oq_move rfl) rfl rfl rfl ?_
    refine WL.q (oq_makeI conc224 rfl) rfl rfl rfl ?_
    refine WL.q (oq_move rfl) rfl rfl rfl ?_
    refine WL.q (oq_build #[_, _] str228 ty228 rfl rfl) rfl rfl rfl ?_
    refine WL.box rfl rfl rfl fun e he => ?_
    refine WL.q (oq_makeI conc224 rfl) rfl rfl rfl ?_
    refine WL.q (oq_nilCheck rfl) rfl rfl rfl ?_
    refine WL.q (oq_fieldAddr fld228_0 rfl) rfl rfl rfl ?_
    refine WL.f1 ?_
    refine WL.store1 #[_, _] ty181 rfl rfl (by first | rfl | exact OwS.one one_) (Nat.lt_of_lt_of_le (Nat.lt_succ_self _) (Nat.le_of_ble_eq_true rfl)) rfl rfl ?_
    refine WL.nil (WE.then_normal (WC.sub (fr' := []) ?_ trivial))
    refine WC.seq (WC.region ?_)
    refine WL.q (oq_assign rfl) rfl rfl rfl ?_
    refine WL.nil (WE.then_normal (WC.sub (fr' := [(8, _)]) ?_ ⟨rfl, trivial⟩))
    refine WC.ret ?_
    refine WE.f4 ?_
    refine WE.f3 ?_
    refine WE.f3 ?_
    refine WE.f3 ?_
    refine WE.f4 ?_
    refine WE.endW4 (.inl rfl) (res1 Tryz.results114 rfl) ?_
    exact ⟨rfl, e, he, perm2 (by rw [hit2, hdp_cons A2 p (x :: B) (Nd.mk e id fv :: x :: B), lastp_cons, lastp_cons]; rfl) (by simp only [List.flatten_cons, List.flatten_nil, List.append_nil]; exact ch_ins A2 p (Nd.mk e id fv) (x :: B) _)⟩
  ·
   try simp only [Z1, Z2, Z3, Z4, Z5, Z6, Z7, Z8, Z9, Z0] at q4
   first | (simp at q2; done) | (simp at q4; done) | (simp at q5; done) | (simp [nextOf, nilI] at q8; done) | (exfalso; omega)
theorem insE4 (base sb : Nat) (x : Nd) (items : List Nd) (id : List UInt8) (fv : Value) (A : List Nd) (hit : items = A ++ x :: []) (hA : ∀ y ∈ A, y.id ≠ x.id) : FnW Tryz.prog 114 [Pt sb 0, .iface 247 (.agg #[S id, fv]), S x.id, I 0] base [[(sb, .cells #[(hdp (items)), (lastp (items))] 226 (0, 0))], ch 224 228 247 items .nilIface] (fun v Hs => v = .nilIface ∧ ∃ e, base ≤ e ∧ Hs.flatten.Perm ([[(sb, .cells #[(hdp (A ++ x :: Nd.mk e id fv :: [])), (lastp (A ++ x :: Nd.mk e id fv :: []))] 226 (0, 0))], ch 224 228 247 (A ++ x :: Nd.mk e id fv :: []) .nilIface] : List Hp).flatten) := by
 refine FnW.enter (n := 76) Tryz.func114 rfl rfl fun w0 R0 hbase => ?_
 subst hbase
 show WC _ _ _ _ _ _ _ ([[(sb, .cells #[(hdp (items)), (lastp (items))] 226 (0, 0))], ch 224 228 247 items .nilIface, R0])
 refine WC.sub (fr' := [(0, _), (1, _), (2, _), (3, _)]) ?_ ⟨rfl, rfl, rfl, rfl, trivial⟩
 refine WC.seq (WC.region ?_)
 refine WL.q (oq_assign rfl) rfl rfl rfl ?_
 refine WL.nil (WE.then_normal (WC.sub (fr' := [(0, _), (1, _), (2, _), (3, _)]) ?_ ⟨rfl, rfl, rfl, rfl, trivial⟩))
 refine WC.seq (WC.region ?_)
 refine WL.q (oq_move rfl) rfl rfl rfl ?_
 refine WL.q (oq_move rfl) rfl rfl rfl ?_
 refine WL.f1 ?_
 refine WL.f1 ?_
 refine WL.callW2 (gotH4 _ sb x.id A [] x items hit rfl hA) call127 rfl rfl rfl fun v1_2 Hs1_2 hR1_2 => ?_
 obtain ⟨rfl, rfl⟩ := hR1_2
 refine WL.to2 ?_
 refine WL.q (oq_move rfl) rfl rfl rfl ?_
 refine WL.q (oq_extract rfl rfl) rfl rfl rfl ?_
 refine WL.q (oq_extract rfl rfl) rfl rfl rfl ?_
 refine WL.q (oq_assign rfl) rfl rfl rfl ?_
 refine WL.q (oq_assign rfl) rfl rfl rfl ?_
 refine WL.nil (WE.then_normal (WC.sub (fr' := [(0, _), (1, _), (3, _), (9, _), (10, _)]) ?_ ⟨rfl, rfl, rfl, rfl, rfl, trivial⟩))
 refine WC.seq (WC.seq (WC.region ?_))
 refine WL.q (oq_move rfl) rfl rfl rfl ?_
 refine WL.q (oq_peql Tryz.underlying224 rfl rfl) rfl rfl rfl ?_
 refine WL.nil (WE.then_normal (WC.sub (fr' := [(0, _), (1, _), (3, _), (9, _), (10, _), (19, _)]) ?_ ⟨rfl, rfl, rfl, rfl, rfl, rfl, trivial⟩))
 refine WC.cond rfl (fun q2 => ?_) (fun q2 => ?_)
 ·
  try simp only [Z1, Z2, Z3, Z4, Z5, Z6, Z7, Z8, Z9, Z0] at q2
  first | (simp at q2; done) | (simp at q4; done) | (simp at q5; done) | (simp [nextOf, nilI] at q8; done) | (exfalso; omega)
 ·
  try simp only [Z1, Z2, Z3, Z4, Z5, Z6, Z7, Z8, Z9, Z0] at q2
  refine WC.skip (WE.then_normal (WC.sub (fr' := [(0, _), (1, _), (3, _), (9, _), (10, _)]) ?_ ⟨rfl, rfl, rfl, rfl, rfl, trivial⟩))
  refine WC.seq (WC.seq (WC.region ?_))
  refine WL.q (oq_move rfl) rfl rfl rfl ?_
  refine WL.q (oq_eql rfl rfl) rfl rfl rfl ?_
  refine WL.nil (WE.then_normal (WC.sub (fr' := [(0, _), (1, _), (9, _), (10, _), (22, _)]) ?_ ⟨rfl, rfl, rfl, rfl, rfl, trivial⟩))
  refine WC.cond rfl (fun q4 => ?_) (fun q4 => ?_)
  ·
   try simp only [Z1, Z2, Z3, Z4, Z5, Z6, Z7, Z8, Z9, Z0] at q4
   first | (simp at q2; done) | (simp at q4; done) | (simp at q5; done) | (simp [nextOf, nilI] at q8; done) | (exfalso; omega)
  ·
   try simp only [Z1, Z2, Z3, Z4, Z5, Z6, Z7, Z8, Z9, Z0] at q4
   refine WC.seq (WC.region ?_)
   refine WL.q (oq_move rfl) rfl rfl rfl ?_
   refine WL.q (oq_nilCheck rfl) rfl rfl rfl ?_
   refine WL.q (oq_fieldAddr fld228_0 rfl) rfl rfl rfl ?_
   refine WL.q (oq_load flat181 rfl (.tail _ (.head _)) (mem_of hit) rfl) rfl rfl rfl ?_
   refine WL.q (oq_ieql Tryz.underlying181 rfl (.inl rfl)) rfl rfl rfl ?_
   refine WL.nil (WE.then_normal (WC.sub (fr' := [(0, _), (1, _), (9, _), (49, _)]) ?_ ⟨rfl, rfl, rfl, rfl, trivial⟩))
   refine WC.cond rfl (fun q8 => ?_) (fun q8 => ?_)
   ·
    try simp only [Z1, Z2, Z3, Z4, Z5, Z6, Z7, Z8, Z9, Z0] at q8
    refine WC.seq (WC.region ?_)
    refine WL.q (oq_move rfl) rfl rfl rfl ?_
    refine WL.q (oq_build #[_, _] str228 ty228 rfl rfl) rfl rfl rfl ?_
    refine WL.box rfl rfl rfl fun e he => ?_
    refine WL.q (oq_assign rfl) rfl rfl rfl ?_
    refine WL.nil (WE.then_normal (WC.sub (fr' := [(0, _), (11, _)]) ?_ ⟨rfl, rfl, trivial⟩))
    refine WC.seq ?_
    have hl0 : lastp items = Pt x.b 0 := by rw [hit, lastp_snoc]
    rw [hl0]
    refine WC.region ?_
    refine WL.f2 ?_
    refine WL.reg (reg_out (show (ch 224 228 247 (items) .nilIface).Perm ([(x.b, .cells #[nextOf 224 ([]) .nilIface, wv 247 x] 228 (0, 0))] ++ (ch 224 228 247 (A) (.iface 224 (Pt x.b 0)) ++ ch 224 228 247 ([]) .nilIface)) from by rw [hit]; exact ch_out _ _ _ _)) ?_
    refine WL.q (oq_move rfl) rfl rfl rfl ?_
    refine WL.q (oq_nilCheck rfl) rfl rfl rfl ?_
    refine WL.q (oq_fieldAddr fld226_1 rfl) rfl rfl rfl ?_
    refine WL.q (oq_load flat224 rfl (.tail _ (.tail _ (.tail _ (.head _)))) (List.mem_singleton.2 rfl) rfl) rfl rfl rfl ?_
    refine WL.q (oq_move rfl) rfl rfl rfl ?_
    refine WL.q (oq_makeI conc224 rfl) rfl rfl rfl ?_
    refine WL.q (oq_nilCheck rfl) rfl rfl rfl ?_
    refine WL.q (oq_fieldAddr fld228_0 rfl) rfl rfl rfl ?_
    refine WL.store1 #[_, _] ty181 rfl rfl (by first | rfl | exact OwS.one one_) (Nat.lt_of_lt_of_le (Nat.lt_succ_self _) (Nat.le_of_ble_eq_true rfl)) rfl rfl ?_
    refine WL.nil (WE.then_normal (WC.sub (fr' := [(0, _), (11, _)]) ?_ ⟨rfl, rfl, trivial⟩))
    refine WC.region ?_
    refine WL.q (oq_move rfl) rfl rfl rfl ?_
    refine WL.q (oq_move rfl) rfl rfl rfl ?_
    refine WL.q (oq_nilCheck rfl) rfl rfl rfl ?_
    refine WL.q (oq_fieldAddr fld226_1 rfl) rfl rfl rfl ?_
    refine WL.f3 ?_
    refine WL.store1 #[_, _] ty224 rfl rfl (by first | rfl | exact OwS.one one_) (Nat.lt_of_lt_of_le (Nat.lt_succ_self _) (Nat.le_of_ble_eq_true rfl)) rfl rfl ?_
    refine WL.nil (WE.then_normal (WC.sub (fr' := []) ?_ trivial))
    refine WC.seq (WC.region ?_)
    refine WL.q (oq_assign rfl) rfl rfl rfl ?_
    refine WL.nil (WE.then_normal (WC.sub (fr' := [(8, _)]) ?_ ⟨rfl, trivial⟩))
    refine WC.ret ?_
    refine WE.f4 ?_
    refine WE.f3 ?_
    refine WE.f4 ?_
    refine WE.f4 ?_
    refine WE.f4 ?_
    refine WE.endW4 (.inl rfl) (res1 Tryz.results114 rfl) ?_
    exact ⟨rfl, e, he, perm2 (by rw [hit, hdp_cons A x [] [Nd.mk e id fv], lastp_cons]; rfl) (by simp only [List.flatten_cons, List.flatten_nil, List.append_nil]; exact ch_ins A x (Nd.mk e id fv) [] _)⟩
   ·
    try simp only [Z1, Z2, Z3, Z4, Z5, Z6, Z7, Z8, Z9, Z0] at q8
    first | (simp at q2; done) | (simp at q4; done) | (simp at q5; done) | (simp [nextOf, nilI] at q8; done) | (exfalso; omega)
theorem insA4 (base sb : Nat) (x : Nd) (items : List Nd) (id : List UInt8) (fv : Value) (A B : List Nd) (y : Nd) (hit : items = A ++ x :: (y :: B)) (hA : ∀ y ∈ A, y.id ≠ x.id) : FnW Tryz.prog 114 [Pt sb 0, .iface 247 (.agg #[S id, fv]), S x.id, I 0] base [[(sb, .cells #[(hdp (items)), (lastp (items))] 226 (0, 0))], ch 224 228 247 items .nilIface] (fun v Hs => v = .nilIface ∧ ∃ e, base ≤ e ∧ Hs.flatten.Perm ([[(sb, .cells #[(hdp (A ++ x :: Nd.mk e id fv :: y :: B)), (lastp (A ++ x :: Nd.mk e id fv :: y :: B))] 226 (0, 0))], ch 224 228 247 (A ++ x :: Nd.mk e id fv :: y :: B) .nilIface] : List Hp).flatten) := by
 refine FnW.enter (n := 76) Tryz.func114 rfl rfl fun w0 R0 hbase => ?_
 subst hbase
 show WC _ _ _ _ _ _ _ ([[(sb, .cells #[(hdp (items)), (lastp (items))] 226 (0, 0))], ch 224 228 247 items .nilIface, R0])
 refine WC.sub (fr' := [(0, _), (1, _), (2, _), (3, _)]) ?_ ⟨rfl, rfl, rfl, rfl, trivial⟩
 refine WC.seq (WC.region ?_)
 refine WL.q (oq_assign rfl) rfl rfl rfl ?_
 refine WL.nil (WE.then_normal (WC.sub (fr' := [(0, _), (1, _), (2, _), (3, _)]) ?_ ⟨rfl, rfl, rfl, rfl, trivial⟩))
 refine WC.seq (WC.region ?_)
 refine WL.q (oq_move rfl) rfl rfl rfl ?_
 refine WL.q (oq_move rfl) rfl rfl rfl ?_
 refine WL.f1 ?_
 refine WL.f1 ?_
 refine WL.callW2 (gotH4 _ sb x.id A (y :: B) x items hit rfl hA) call127 rfl rfl rfl fun v1_2 Hs1_2 hR1_2 => ?_
 obtain ⟨rfl, rfl⟩ := hR1_2
 refine WL.to2 ?_
 refine WL.q (oq_move rfl) rfl rfl rfl ?_
 refine WL.q (oq_extract rfl rfl) rfl rfl rfl ?_
 refine WL.q (oq_extract rfl rfl) rfl rfl rfl ?_
 refine WL.q (oq_assign rfl) rfl rfl rfl ?_
 refine WL.q (oq_assign rfl) rfl rfl rfl ?_
 refine WL.nil (WE.then_normal (WC.sub (fr' := [(0, _), (1, _), (3, _), (9, _), (10, _)]) ?_ ⟨rfl, rfl, rfl, rfl, rfl, trivial⟩))
 refine WC.seq (WC.seq (WC.region ?_))
 refine WL.q (oq_move rfl) rfl rfl rfl ?_
 refine WL.q (oq_peql Tryz.underlying224 rfl rfl) rfl rfl rfl ?_
 refine WL.nil (WE.then_normal (WC.sub (fr' := [(0, _), (1, _), (3, _), (9, _), (10, _), (19, _)]) ?_ ⟨rfl, rfl, rfl, rfl, rfl, rfl, trivial⟩))
 refine WC.cond rfl (fun q2 => ?_) (fun q2 => ?_)
 ·
  try simp only [Z1, Z2, Z3, Z4, Z5, Z6, Z7, Z8, Z9, Z0] at q2
  first | (simp at q2; done) | (simp at q4; done) | (simp at q5; done) | (simp [nextOf, nilI] at q8; done) | (exfalso; omega)
 ·
  try simp only [Z1, Z2, Z3, Z4, Z5, Z6, Z7, Z8, Z9, Z0] at q2
  refine WC.skip (WE.then_normal (WC.sub (fr' := [(0, _), (1, _), (3, _), (9, _), (10, _)]) ?_ ⟨rfl, rfl, rfl, rfl, rfl, trivial⟩))
  refine WC.seq (WC.seq (WC.region ?_))
  refine WL.q (oq_move rfl) rfl rfl rfl ?_
  refine WL.q (oq_eql rfl rfl) rfl rfl rfl ?_
  refine WL.nil (WE.then_normal (WC.sub (fr' := [(0, _), (1, _), (9, _), (10, _), (22, _)]) ?_ ⟨rfl, rfl, rfl, rfl, rfl, trivial⟩))
  refine WC.cond rfl (fun q4 => ?_) (fun q4 => ?_)
  ·
   try simp only [Z1, Z2, Z3, Z4, Z5, Z6, Z7, Z8, Z9, Z0] at q4
   first | (simp at q2; done) | (simp at q4; done) | (simp at q5; done) | (simp [nextOf, nilI] at q8; done) | (exfalso; omega)
  ·
   try simp only [Z1, Z2, Z3, Z4, Z5, Z6, Z7, Z8, Z9, Z0] at q4
   refine WC.seq (WC.region ?_)
   refine WL.q (oq_move rfl) rfl rfl rfl ?_
   refine WL.q (oq_nilCheck rfl) rfl rfl rfl ?_
   refine WL.q (oq_fieldAddr fld228_0 rfl) rfl rfl rfl ?_
   refine WL.q (oq_load flat181 rfl (.tail _ (.head _)) (mem_of hit) rfl) rfl rfl rfl ?_
   refine WL.q (oq_ieql Tryz.underlying181 rfl (.inr ⟨_, _, rfl⟩)) rfl rfl rfl ?_
   refine WL.nil (WE.then_normal (WC.sub (fr' := [(0, _), (1, _), (9, _), (49, _)]) ?_ ⟨rfl, rfl, rfl, rfl, trivial⟩))
   refine WC.cond rfl (fun q8 => ?_) (fun q8 => ?_)
   ·
    try simp only [Z1, Z2, Z3, Z4, Z5, Z6, Z7, Z8, Z9, Z0] at q8
    first | (simp at q2; done) | (simp at q4; done) | (simp at q5; done) | (simp [nextOf, nilI] at q8; done) | (exfalso; omega)
   ·
    try simp only [Z1, Z2, Z3, Z4, Z5, Z6, Z7, Z8, Z9, Z0] at q8
    refine WC.region ?_
    refine WL.f1 ?_
    refine WL.reg (reg_out (show (ch 224 228 247 (items) .nilIface).Perm ([(x.b, .cells #[nextOf 224 (y :: B) .nilIface, wv 247 x] 228 (0, 0))] ++ (ch 224 228 247 (A) (.iface 224 (Pt x.b 0)) ++ ch 224 228 247 (y :: B) .nilIface)) from by rw [hit]; exact ch_out _ _ _ _)) ?_
    refine WL.q (oq_move rfl) rfl rfl rfl ?_
    refine WL.q (oq_move rfl) rfl rfl rfl ?_
    refine WL.q (oq_nilCheck rfl) rfl rfl rfl ?_
    refine WL.q (oq_fieldAddr fld228_0 rfl) rfl rfl rfl ?_
    refine WL.q (oq_load flat181 rfl (.head _) (List.mem_singleton.2 rfl) rfl) rfl rfl rfl ?_
    refine WL.q (oq_move rfl) rfl rfl rfl ?_
    refine WL.q (oq_build #[_, _] str228 ty228 rfl rfl) rfl rfl rfl ?_
    refine WL.box rfl rfl rfl fun e he => ?_
    refine WL.q (oq_makeI conc224 rfl) rfl rfl rfl ?_
    refine WL.q (oq_nilCheck rfl) rfl rfl rfl ?_
    refine WL.q (oq_fieldAddr fld228_0 rfl) rfl rfl rfl ?_
    refine WL.f1 ?_
    refine WL.store1 #[_, _] ty181 rfl rfl (by first | rfl | exact OwS.one one_) (Nat.lt_of_lt_of_le (Nat.lt_succ_self _) (Nat.le_of_ble_eq_true rfl)) rfl rfl ?_
    refine WL.nil (WE.then_normal (WC.sub (fr' := []) ?_ trivial))
    refine WC.seq (WC.region ?_)
    refine WL.q (oq_assign rfl) rfl rfl rfl ?_
    refine WL.nil (WE.then_normal (WC.sub (fr' := [(8, _)]) ?_ ⟨rfl, trivial⟩))
    refine WC.ret ?_
    refine WE.f4 ?_
    refine WE.f3 ?_
    refine WE.f3 ?_
    refine WE.f3 ?_
    refine WE.f4 ?_
    refine WE.endW4 (.inl rfl) (res1 Tryz.results114 rfl) ?_
    exact ⟨rfl, e, he, perm2 (by rw [hit, hdp_cons A x (y :: B) (Nd.mk e id fv :: y :: B), lastp_cons, lastp_cons]; rfl) (by simp only [List.flatten_cons, List.flatten_nil, List.append_nil]; exact ch_ins A x (Nd.mk e id fv) (y :: B) _)⟩
theorem insN4 (base sb : Nat) (id by_ : List UInt8) (fv : Value) (items : List Nd) (hn : ∀ y ∈ items, y.id ≠ by_) (pos : Int) : FnW Tryz.prog 114 [Pt sb 0, .iface 247 (.agg #[S id, fv]), S by_, I pos] base [[(sb, .cells #[(hdp (items)), (lastp (items))] 226 (0, 0))], ch 224 228 247 items .nilIface] (fun v Hs => (∃ k u, v = .iface k u) ∧ Hs = [[(sb, .cells #[(hdp (items)), (lastp (items))] 226 (0, 0))], ch 224 228 247 items .nilIface]) := by
 refine FnW.enter (n := 76) Tryz.func114 rfl rfl fun w0 R0 hbase => ?_
 subst hbase
 show WC _ _ _ _ _ _ _ ([[(sb, .cells #[(hdp (items)), (lastp (items))] 226 (0, 0))], ch 224 228 247 items .nilIface, R0])
 refine WC.sub (fr' := [(0, _), (1, _), (2, _), (3, _)]) ?_ ⟨rfl, rfl, rfl, rfl, trivial⟩
 refine WC.seq (WC.region ?_)
 refine WL.q (oq_assign rfl) rfl rfl rfl ?_
 refine WL.nil (WE.then_normal (WC.sub (fr' := [(0, _), (1, _), (2, _), (3, _)]) ?_ ⟨rfl, rfl, rfl, rfl, trivial⟩))
 refine WC.seq (WC.region ?_)
 refine WL.q (oq_move rfl) rfl rfl rfl ?_
 refine WL.q (oq_move rfl) rfl rfl rfl ?_
 refine WL.f1 ?_
 refine WL.f1 ?_
 refine WL.callW2 (gotM4 _ sb by_ items hn) call127 rfl rfl rfl fun v1_2 Hs1_2 hR1_2 => ?_
 obtain ⟨rfl, rfl⟩ := hR1_2
 refine WL.to2 ?_
 refine WL.q (oq_move rfl) rfl rfl rfl ?_
 refine WL.q (oq_extract rfl rfl) rfl rfl rfl ?_
 refine WL.q (oq_extract rfl rfl) rfl rfl rfl ?_
 refine WL.q (oq_assign rfl) rfl rfl rfl ?_
 refine WL.q (oq_assign rfl) rfl rfl rfl ?_
 refine WL.nil (WE.then_normal (WC.sub (fr' := [(0, _), (1, _), (3, _), (9, _), (10, _)]) ?_ ⟨rfl, rfl, rfl, rfl, rfl, trivial⟩))
 refine WC.seq (WC.seq (WC.region ?_))
 refine WL.q (oq_move rfl) rfl rfl rfl ?_
 refine WL.q (oq_peql Tryz.underlying224 rfl rfl) rfl rfl rfl ?_
 refine WL.nil (WE.then_normal (WC.sub (fr' := [(0, _), (1, _), (3, _), (9, _), (10, _), (19, _)]) ?_ ⟨rfl, rfl, rfl, rfl, rfl, rfl, trivial⟩))
 refine WC.cond rfl (fun q2 => ?_) (fun q2 => ?_)
 ·
  try simp only [Z1, Z2, Z3, Z4, Z5, Z6, Z7, Z8, Z9, Z0] at q2
  refine WC.seq (WC.region ?_)
  refine WL.callA0 (errNew _) call122 rfl rfl rfl fun v3_0 N3_0 hR3_0 hN3_0 => ?_
  obtain ⟨ek, eu, rfl⟩ := hR3_0
  refine WL.q (oq_assign rfl) rfl rfl rfl ?_
  refine WL.nil (WE.then_normal (WC.sub (fr' := [(8, _)]) ?_ ⟨rfl, trivial⟩))
  refine WC.ret (WE.then_ret ?_)
  refine WE.forget hN3_0 ?_
  refine WE.endW2 (.inl rfl) (res1 Tryz.results114 rfl) ?_
  exact ⟨⟨_, _, rfl⟩, rfl⟩
 ·
  try simp only [Z1, Z2, Z3, Z4, Z5, Z6, Z7, Z8, Z9, Z0] at q2
  simp at q2
theorem swapH4 (base sb : Nat) (id : List UInt8) (fv : Value) (A B : List Nd) (x : Nd) (items : List Nd) (hit : items = A ++ x :: B) (hA : ∀ y ∈ A, y.id ≠ x.id)  : FnW Tryz.prog 116 [Pt sb 0, S x.id, .iface 247 (.agg #[S id, fv])] base [[(sb, .cells #[(hdp (items)), (lastp (items))] 226 (0, 0))], ch 224 228 247 items .nilIface] (fun v Hs => v = .tuple #[wv 247 x, .nilIface] ∧ Hs.flatten.Perm ([[(sb, .cells #[(hdp (A ++ Nd.mk x.b id fv :: B)), (lastp (A ++ Nd.mk x.b id fv :: B))] 226 (0, 0))], ch 224 228 247 (A ++ Nd.mk x.b id fv :: B) .nilIface] : List Hp).flatten) := by
 refine FnW.enter (n := 29) Tryz.func116 rfl rfl fun w0 R0 hbase => ?_
 subst hbase
 show WC _ _ _ _ _ _ _ ([[(sb, .cells #[(hdp (items)), (lastp (items))] 226 (0, 0))], ch 224 228 247 items .nilIface, R0])
 refine WC.sub (fr' := [(0, _), (1, _), (2, _)]) ?_ ⟨rfl, rfl, rfl, trivial⟩
 refine WC.seq (WC.region ?_)
 refine WL.q (oq_assign rfl) rfl rfl rfl ?_
 refine WL.q (oq_assign rfl) rfl rfl rfl ?_
 refine WL.nil (WE.then_normal (WC.sub (fr' := [(0, _), (1, _), (2, _)]) ?_ ⟨rfl, rfl, rfl, trivial⟩))
 refine WC.seq (WC.region ?_)
 refine WL.q (oq_move rfl) rfl rfl rfl ?_
 refine WL.q (oq_move rfl) rfl rfl rfl ?_
 refine WL.f1 ?_
 refine WL.f1 ?_
 refine WL.callW2 (gotH4 _ sb x.id A B x items hit rfl hA) call127 rfl rfl rfl fun v1_2 Hs1_2 hR1_2 => ?_
 obtain ⟨rfl, rfl⟩ := hR1_2
 refine WL.to2 ?_
 refine WL.q (oq_move rfl) rfl rfl rfl ?_
 refine WL.q (oq_extract rfl rfl) rfl rfl rfl ?_
 refine WL.q (oq_extract rfl rfl) rfl rfl rfl ?_
 refine WL.q (oq_assign rfl) rfl rfl rfl ?_
 refine WL.q (oq_assign rfl) rfl rfl rfl ?_
 refine WL.nil (WE.then_normal (WC.sub (fr' := [(2, _), (8, _)]) ?_ ⟨rfl, rfl, trivial⟩))
 refine WC.seq (WC.seq (WC.region ?_))
 refine WL.q (oq_move rfl) rfl rfl rfl ?_
 refine WL.q (oq_peql Tryz.underlying224 rfl rfl) rfl rfl rfl ?_
 refine WL.nil (WE.then_normal (WC.sub (fr' := [(2, _), (8, _), (18, _)]) ?_ ⟨rfl, rfl, rfl, trivial⟩))
 refine WC.cond rfl (fun q2 => ?_) (fun q2 => ?_)
 ·
  try simp only [Z1, Z2, Z3, Z4, Z5, Z6, Z7, Z8, Z9, Z0] at q2
  simp at q2
 ·
  try simp only [Z1, Z2, Z3, Z4, Z5, Z6, Z7, Z8, Z9, Z0] at q2
  refine WC.skip (WE.then_normal (WC.sub (fr' := [(2, _), (8, _)]) ?_ ⟨rfl, rfl, trivial⟩))
  refine WC.seq (WC.region ?_)
  refine WL.f1 ?_
  refine WL.reg (reg_out (show (ch 224 228 247 (items) .nilIface).Perm ([(x.b, .cells #[nextOf 224 (B) .nilIface, wv 247 x] 228 (0, 0))] ++ (ch 224 228 247 (A) (.iface 224 (Pt x.b 0)) ++ ch 224 228 247 (B) .nilIface)) from by rw [hit]; exact ch_out _ _ _ _)) ?_
  refine WL.q (oq_move rfl) rfl rfl rfl ?_
  refine WL.q (oq_nilCheck rfl) rfl rfl rfl ?_
  refine WL.q (oq_fieldAddr fld228_1 rfl) rfl rfl rfl ?_
  refine WL.q (oq_load flat177 rfl (.head _) (List.mem_singleton.2 rfl) rfl) rfl rfl rfl ?_
  refine WL.q (oq_assign rfl) rfl rfl rfl ?_
  refine WL.nil (WE.then_normal (WC.sub (fr' := [(2, _), (8, _), (10, _)]) ?_ ⟨rfl, rfl, rfl, trivial⟩))
  refine WC.seq (WC.region ?_)
  refine WL.q (oq_move rfl) rfl rfl rfl ?_
  refine WL.q (oq_move rfl) rfl rfl rfl ?_
  refine WL.q (oq_nilCheck rfl) rfl rfl rfl ?_
  refine WL.q (oq_fieldAddr fld228_1 rfl) rfl rfl rfl ?_
  refine WL.store1 #[_, _] ty177 rfl rfl (by first | rfl | exact OwS.one one_) (Nat.lt_of_lt_of_le (Nat.lt_succ_self _) (Nat.le_of_ble_eq_true rfl)) rfl rfl ?_
  refine WL.nil (WE.then_normal (WC.sub (fr' := [(10, _)]) ?_ ⟨rfl, trivial⟩))
  refine WC.seq (WC.region ?_)
  refine WL.q (oq_move rfl) rfl rfl rfl ?_
  refine WL.q (oq_assign rfl) rfl rfl rfl ?_
  refine WL.q (oq_assign rfl) rfl rfl rfl ?_
  refine WL.nil (WE.then_normal (WC.sub (fr' := [(6, _), (7, _)]) ?_ ⟨rfl, rfl, trivial⟩))
  refine WC.ret ?_
  refine WE.f3 ?_
  refine WE.f2 ?_
  refine WE.f2 ?_
  refine WE.f3 ?_
  refine WE.endW3 (.inl rfl) (res2 Tryz.results116 rfl rfl) ?_
  exact ⟨rfl, perm2 (by rw [hit, ← hdp_b A B x id fv, ← lastp_b A B x id fv]) (by simp only [List.flatten_cons, List.flatten_nil, List.append_nil]; exact ch_del A (Nd.mk x.b id fv) B _)⟩
theorem swapN4 (base sb : Nat) (by_ : List UInt8) (m : Value) (items : List Nd) (hn : ∀ y ∈ items, y.id ≠ by_) : FnW Tryz.prog 116 [Pt sb 0, S by_, m] base [[(sb, .cells #[(hdp (items)), (lastp (items))] 226 (0, 0))], ch 224 228 247 items .nilIface] (fun v Hs => (∃ k u, v = .tuple #[.nilIface, .iface k u]) ∧ Hs = [[(sb, .cells #[(hdp (items)), (lastp (items))] 226 (0, 0))], ch 224 228 247 items .nilIface]) := by
 refine FnW.enter (n := 29) Tryz.func116 rfl rfl fun w0 R0 hbase => ?_
 subst hbase
 show WC _ _ _ _ _ _ _ ([[(sb, .cells #[(hdp (items)), (lastp (items))] 226 (0, 0))], ch 224 228 247 items .nilIface, R0])
 refine WC.sub (fr' := [(0, _), (1, _), (2, _)]) ?_ ⟨rfl, rfl, rfl, trivial⟩
 refine WC.seq (WC.region ?_)
 refine WL.q (oq_assign rfl) rfl rfl rfl ?_
 refine WL.q (oq_assign rfl) rfl rfl rfl ?_
 refine WL.nil (WE.then_normal (WC.sub (fr' := [(0, _), (1, _), (2, _)]) ?_ ⟨rfl, rfl, rfl, trivial⟩))
 refine WC.seq (WC.region ?_)
 refine WL.q (oq_move rfl) rfl rfl rfl ?_
 refine WL.q (oq_move rfl) rfl rfl rfl ?_
 refine WL.f1 ?_
 refine WL.f1 ?_
 refine WL.callW2 (gotM4 _ sb by_ items hn) call127 rfl rfl rfl fun v1_2 Hs1_2 hR1_2 => ?_
 obtain ⟨rfl, rfl⟩ := hR1_2
 refine WL.to2 ?_
 refine WL.q (oq_move rfl) rfl rfl rfl ?_
 refine WL.q (oq_extract rfl rfl) rfl rfl rfl ?_
 refine WL.q (oq_extract rfl rfl) rfl rfl rfl ?_
 refine WL.q (oq_assign rfl) rfl rfl rfl ?_
 refine WL.q (oq_assign rfl) rfl rfl rfl ?_
 refine WL.nil (WE.then_normal (WC.sub (fr' := [(2, _), (8, _)]) ?_ ⟨rfl, rfl, trivial⟩))
 refine WC.seq (WC.seq (WC.region ?_))
 refine WL.q (oq_move rfl) rfl rfl rfl ?_
 refine WL.q (oq_peql Tryz.underlying224 rfl rfl) rfl rfl rfl ?_
 refine WL.nil (WE.then_normal (WC.sub (fr' := [(2, _), (8, _), (18, _)]) ?_ ⟨rfl, rfl, rfl, trivial⟩))
 refine WC.cond rfl (fun q2 => ?_) (fun q2 => ?_)
 ·
  try simp only [Z1, Z2, Z3, Z4, Z5, Z6, Z7, Z8, Z9, Z0] at q2
  refine WC.seq (WC.region ?_)
  refine WL.callA0 (errNew _) call122 rfl rfl rfl fun v3_0 N3_0 hR3_0 hN3_0 => ?_
  obtain ⟨ek, eu, rfl⟩ := hR3_0
  refine WL.q (oq_assign rfl) rfl rfl rfl ?_
  refine WL.q (oq_assign rfl) rfl rfl rfl ?_
  refine WL.nil (WE.then_normal (WC.sub (fr' := [(6, _), (7, _)]) ?_ ⟨rfl, rfl, trivial⟩))
  refine WC.ret (WE.then_ret ?_)
  refine WE.forget hN3_0 ?_
  refine WE.endW2 (.inl rfl) (res2 Tryz.results116 rfl rfl) ?_
  exact ⟨⟨_, _, rfl⟩, rfl⟩
 ·
  try simp only [Z1, Z2, Z3, Z4, Z5, Z6, Z7, Z8, Z9, Z0] at q2
  simp at q2
end S2
end Go.Proofs.YtiegaefkahnfjaaGreat
