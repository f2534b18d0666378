/- Walks of a step: what is put beside a name, and in its place. -/
import Derived.Test.YtclafiglpcjhdaaGreatS1
namespace Go.Proofs.YtclafiglpcjhdaaGreat
open Go Go.RowKit V S0 S1
set_option linter.unusedSimpArgs false
set_option linter.unusedVariables false
set_option maxRecDepth 10000
namespace S2
theorem call113 : Callable Tryz.prog 113 := ⟨_, Tryz.func113, rfl, by kernel_rfl⟩
theorem call114 : Callable Tryz.prog 114 := ⟨_, Tryz.func114, rfl, by kernel_rfl⟩
theorem call115 : Callable Tryz.prog 115 := ⟨_, Tryz.func115, rfl, by kernel_rfl⟩
theorem call116 : Callable Tryz.prog 116 := ⟨_, Tryz.func116, rfl, by kernel_rfl⟩
theorem call117 : Callable Tryz.prog 117 := ⟨_, Tryz.func117, rfl, by kernel_rfl⟩
theorem call118 : Callable Tryz.prog 118 := ⟨_, Tryz.func118, rfl, by kernel_rfl⟩
theorem flat104 : Flat Tryz.prog 104 := ⟨_, Tryz.underlying104, by simp⟩
theorem flat109 : Flat Tryz.prog 109 := ⟨_, Tryz.underlying109, by simp⟩
theorem flat127 : Flat Tryz.prog 127 := ⟨_, Tryz.underlying127, by simp⟩
theorem flat132 : Flat Tryz.prog 132 := ⟨_, Tryz.underlying132, by simp⟩
theorem flat146 : Flat Tryz.prog 146 := ⟨_, Tryz.underlying146, by simp⟩
theorem flat151 : Flat Tryz.prog 151 := ⟨_, Tryz.underlying151, by simp⟩
theorem flat165 : Flat Tryz.prog 165 := ⟨_, Tryz.underlying165, by simp⟩
theorem flat169 : Flat Tryz.prog 169 := ⟨_, Tryz.underlying169, by simp⟩
theorem flat183 : Flat Tryz.prog 183 := ⟨_, Tryz.underlying183, by simp⟩
theorem flat187 : Flat Tryz.prog 187 := ⟨_, Tryz.underlying187, by simp⟩
theorem flat201 : Flat Tryz.prog 201 := ⟨_, Tryz.underlying201, by simp⟩
theorem flat204 : Flat Tryz.prog 204 := ⟨_, Tryz.underlying204, by simp⟩
theorem flat207 : Flat Tryz.prog 207 := ⟨_, Tryz.underlying207, by simp⟩
theorem flat210 : Flat Tryz.prog 210 := ⟨_, Tryz.underlying210, by simp⟩
theorem flat213 : Flat Tryz.prog 213 := ⟨_, Tryz.underlying213, by simp⟩
theorem ty104 : Ty Tryz.prog 104 .nilIface 1 16 := ty_of (by kernel_rfl)
theorem ty109 : Ty Tryz.prog 109 .nilIface 1 16 := ty_of (by kernel_rfl)
theorem ty127 : Ty Tryz.prog 127 .nilIface 1 16 := ty_of (by kernel_rfl)
theorem ty132 : Ty Tryz.prog 132 .nilIface 1 16 := ty_of (by kernel_rfl)
theorem ty146 : Ty Tryz.prog 146 .nilIface 1 16 := ty_of (by kernel_rfl)
theorem ty151 : Ty Tryz.prog 151 .nilIface 1 16 := ty_of (by kernel_rfl)
theorem ty165 : Ty Tryz.prog 165 .nilIface 1 16 := ty_of (by kernel_rfl)
theorem ty169 : Ty Tryz.prog 169 .nilIface 1 16 := ty_of (by kernel_rfl)
theorem ty183 : Ty Tryz.prog 183 .nilIface 1 16 := ty_of (by kernel_rfl)
theorem ty187 : Ty Tryz.prog 187 .nilIface 1 16 := ty_of (by kernel_rfl)
theorem ty201 : Ty Tryz.prog 201 (.pointer none) 1 8 := ty_of (by kernel_rfl)
theorem ty204 : Ty Tryz.prog 204 (.pointer none) 1 8 := ty_of (by kernel_rfl)
theorem ty207 : Ty Tryz.prog 207 (.pointer none) 1 8 := ty_of (by kernel_rfl)
theorem ty210 : Ty Tryz.prog 210 (.pointer none) 1 8 := ty_of (by kernel_rfl)
theorem ty213 : Ty Tryz.prog 213 (.pointer none) 1 8 := ty_of (by kernel_rfl)
theorem ty219 : Ty Tryz.prog 219 (.agg #[.nilIface, .nilIface]) 2 32 := ty_of (by kernel_rfl)
theorem ty227 : Ty Tryz.prog 227 (.agg #[.nilIface, .nilIface]) 2 32 := ty_of (by kernel_rfl)
theorem ty234 : Ty Tryz.prog 234 (.agg #[.nilIface, .nilIface]) 2 32 := ty_of (by kernel_rfl)
theorem ty241 : Ty Tryz.prog 241 (.agg #[.nilIface, .nilIface]) 2 32 := ty_of (by kernel_rfl)
theorem ty248 : Ty Tryz.prog 248 (.agg #[.nilIface, .nilIface]) 2 32 := ty_of (by kernel_rfl)
theorem conc201 : Conc Tryz.prog 201 := ⟨_, Tryz.underlying201, by simp⟩
theorem conc204 : Conc Tryz.prog 204 := ⟨_, Tryz.underlying204, by simp⟩
theorem conc207 : Conc Tryz.prog 207 := ⟨_, Tryz.underlying207, by simp⟩
theorem conc210 : Conc Tryz.prog 210 := ⟨_, Tryz.underlying210, by simp⟩
theorem conc213 : Conc Tryz.prog 213 := ⟨_, Tryz.underlying213, by simp⟩
theorem str219 : Str Tryz.prog 219 #[(0, 1), (1, 1)] := ⟨_, Tryz.underlying219, fun w => by kernel_rfl⟩
theorem str227 : Str Tryz.prog 227 #[(0, 1), (1, 1)] := ⟨_, Tryz.underlying227, fun w => by kernel_rfl⟩
theorem str234 : Str Tryz.prog 234 #[(0, 1), (1, 1)] := ⟨_, Tryz.underlying234, fun w => by kernel_rfl⟩
theorem str241 : Str Tryz.prog 241 #[(0, 1), (1, 1)] := ⟨_, Tryz.underlying241, fun w => by kernel_rfl⟩
theorem str248 : Str Tryz.prog 248 #[(0, 1), (1, 1)] := ⟨_, Tryz.underlying248, fun w => by kernel_rfl⟩
theorem fld203_0 : Fld Tryz.prog 203 0 0 201 := fld_of Tryz.underlying203 rfl rfl rfl ty201 (by decide)
theorem fld203_1 : Fld Tryz.prog 203 1 1 201 := fld_of Tryz.underlying203 rfl rfl rfl ty201 (by decide)
theorem fld206_0 : Fld Tryz.prog 206 0 0 204 := fld_of Tryz.underlying206 rfl rfl rfl ty204 (by decide)
theorem fld206_1 : Fld Tryz.prog 206 1 1 204 := fld_of Tryz.underlying206 rfl rfl rfl ty204 (by decide)
theorem fld209_0 : Fld Tryz.prog 209 0 0 207 := fld_of Tryz.underlying209 rfl rfl rfl ty207 (by decide)
theorem fld209_1 : Fld Tryz.prog 209 1 1 207 := fld_of Tryz.underlying209 rfl rfl rfl ty207 (by decide)
theorem fld212_0 : Fld Tryz.prog 212 0 0 210 := fld_of Tryz.underlying212 rfl rfl rfl ty210 (by decide)
theorem fld212_1 : Fld Tryz.prog 212 1 1 210 := fld_of Tryz.underlying212 rfl rfl rfl ty210 (by decide)
theorem fld215_0 : Fld Tryz.prog 215 0 0 213 := fld_of Tryz.underlying215 rfl rfl rfl ty213 (by decide)
theorem fld215_1 : Fld Tryz.prog 215 1 1 213 := fld_of Tryz.underlying215 rfl rfl rfl ty213 (by decide)
theorem fld219_0 : Fld Tryz.prog 219 0 0 109 := fld_of Tryz.underlying219 rfl rfl rfl ty109 (by decide)
theorem fld219_1 : Fld Tryz.prog 219 1 1 104 := fld_of Tryz.underlying219 rfl rfl rfl ty104 (by decide)
theorem fld227_0 : Fld Tryz.prog 227 0 0 132 := fld_of Tryz.underlying227 rfl rfl rfl ty132 (by decide)
theorem fld227_1 : Fld Tryz.prog 227 1 1 127 := fld_of Tryz.underlying227 rfl rfl rfl ty127 (by decide)
theorem fld234_0 : Fld Tryz.prog 234 0 0 151 := fld_of Tryz.underlying234 rfl rfl rfl ty151 (by decide)
theorem fld234_1 : Fld Tryz.prog 234 1 1 146 := fld_of Tryz.underlying234 rfl rfl rfl ty146 (by decide)
theorem fld241_0 : Fld Tryz.prog 241 0 0 169 := fld_of Tryz.underlying241 rfl rfl rfl ty169 (by decide)
theorem fld241_1 : Fld Tryz.prog 241 1 1 165 := fld_of Tryz.underlying241 rfl rfl rfl ty165 (by decide)
theorem fld248_0 : Fld Tryz.prog 248 0 0 187 := fld_of Tryz.underlying248 rfl rfl rfl ty187 (by decide)
theorem fld248_1 : Fld Tryz.prog 248 1 1 183 := fld_of Tryz.underlying248 rfl rfl rfl ty183 (by decide)

theorem perm2 {S1 S2 C2 : Hp} {X : List Hp} (hs : S1 = S2) (hp : X.flatten.Perm C2) : (S1 :: X).flatten.Perm ([S2, C2] : List Hp).flatten := by
  subst hs
  simp only [List.flatten_cons, List.flatten_nil, List.append_nil]
  exact hp.append_left _
theorem ch_front {PD tD MF : TypeId} {items B : List Nd} {x : Nd} (h : items = [] ++ x :: B) (y : Nd) : ((y.b, Obj.cells #[.iface PD (Pt x.b 0), wv MF y] tD (0, 0)) :: ch PD tD MF items .nilIface) = ch PD tD MF (y :: items) .nilIface := by subst h; rfl
theorem nd_ne {A B : List Nd} {x y : Nd} {items : List Nd} (hn : (items.map Nd.b).Nodup) (he : items = A ++ x :: B) (hy : y ∈ A ∨ y ∈ B) : y.b ≠ x.b := by
  rw [he, List.map_append, List.map_cons, List.nodup_append] at hn
  obtain ⟨h1, h2, h3⟩ := hn
  rw [List.nodup_cons] at h2
  rcases hy with h | h
  · exact h3 y.b (List.mem_map.2 ⟨y, h, rfl⟩) x.b List.mem_cons_self
  · exact fun e => h2.1 (by rw [← e]; exact List.mem_map.2 ⟨y, h, rfl⟩)
theorem nd_of {PD tD MF : TypeId} {S : Hp} {items : List Nd} {e : Value} {H : List Hp} (h : ((S :: ch PD tD MF items e :: H).flatten.map Prod.fst).Nodup) : (items.map Nd.b).Nodup := by
  simp only [List.flatten_cons, List.map_append, ch_ids] at h
  exact (List.nodup_append.1 (List.nodup_append.1 h).2.1).1
theorem lastp_ne (x : Nd) (l : List Nd) (h : l ≠ []) : lastp (x :: l) = lastp l := by
  cases l with
  | nil => exact absurd rfl h
  | cons y r => rfl
theorem hdp_b (A B : List Nd) (x : Nd) (i : List UInt8) (f : Value) : hdp (A ++ Nd.mk x.b i f :: B) = hdp (A ++ x :: B) := by cases A <;> rfl
theorem lastp_b (A B : List Nd) (x : Nd) (i : List UInt8) (f : Value) : lastp (A ++ Nd.mk x.b i f :: B) = lastp (A ++ x :: B) := by
  rw [lastp_app, lastp_app]; cases B <;> rfl
theorem mem_of {PD tD MF : TypeId} {items A B : List Nd} {x : Nd} {e : Value} (h : items = A ++ x :: B) : (x.b, Obj.cells #[nextOf PD B e, wv MF x] tD (0, 0)) ∈ ch PD tD MF items e := by rw [h]; exact ch_mem _ _ _ _
/-- (*given.example/pub-tinwright/pub/smithy/middleware.InitializeStep).Insert -/
theorem insF0 (base sb : Nat) (x : Nd) (items : List Nd) (id : List UInt8) (fv : Value) (B : List Nd) (hit : items = [] ++ x :: B) : FnW Tryz.prog 44 [Pt sb 0, .iface 217 (.agg #[S id, fv]), S x.id, I 1] base [[(sb, .cells #[(hdp (items)), (lastp (items))] 203 (0, 0))], ch 201 219 217 items .nilIface] (fun v Hs => v = .nilIface ∧ ∃ e, base ≤ e ∧ Hs.flatten.Perm ([[(sb, .cells #[(hdp (Nd.mk e id fv :: items)), (lastp (Nd.mk e id fv :: items))] 203 (0, 0))], ch 201 219 217 (Nd.mk e id fv :: items) .nilIface] : List Hp).flatten) := by
  refine FnW.enter (n := 76) Tryz.func44 rfl rfl fun w0 R0 hbase => ?_
  subst hbase
  show WC _ _ _ _ _ _ _ ([[(sb, .cells #[(hdp (items)), (lastp (items))] 203 (0, 0))], ch 201 219 217 items .nilIface, R0])
  refine WC.sub (fr' := [(0, _), (1, _), (2, _), (3, _)]) ?_ ⟨rfl, rfl, rfl, rfl, trivial⟩
  refine WC.seq (WC.region ?_)
  refine WL.q (oq_assign rfl) rfl rfl rfl ?_
  refine WL.nil (WE.then_normal (WC.sub (fr' := [(0, _), (1, _), (2, _), (3, _)]) ?_ ⟨rfl, rfl, rfl, rfl, trivial⟩))
  refine WC.seq (WC.region ?_)
  refine WL.q (oq_move rfl) rfl rfl rfl ?_
  refine WL.q (oq_move rfl) rfl rfl rfl ?_
  refine WL.f1 ?_
  refine WL.f1 ?_
  refine WL.callW2 (gotH0 _ sb x.id [] B x items hit rfl (by simp)) call114 rfl rfl rfl fun v1_2 Hs1_2 hR1_2 => ?_
  obtain ⟨rfl, rfl⟩ := hR1_2
  refine WL.to2 ?_
  refine WL.q (oq_move rfl) rfl rfl rfl ?_
  refine WL.q (oq_extract rfl rfl) rfl rfl rfl ?_
  refine WL.q (oq_extract rfl rfl) rfl rfl rfl ?_
  refine WL.q (oq_assign rfl) rfl rfl rfl ?_
  refine WL.q (oq_assign rfl) rfl rfl rfl ?_
  refine WL.nil (WE.then_normal (WC.sub (fr' := [(0, _), (1, _), (3, _), (9, _), (10, _)]) ?_ ⟨rfl, rfl, rfl, rfl, rfl, trivial⟩))
  refine WC.seq (WC.seq (WC.region ?_))
  refine WL.q (oq_move rfl) rfl rfl rfl ?_
  refine WL.q (oq_peql Tryz.underlying201 rfl rfl) rfl rfl rfl ?_
  refine WL.nil (WE.then_normal (WC.sub (fr' := [(0, _), (1, _), (3, _), (9, _), (10, _), (19, _)]) ?_ ⟨rfl, rfl, rfl, rfl, rfl, rfl, trivial⟩))
  refine WC.cond rfl (fun q2 => ?_) (fun q2 => ?_)
  ·
    try simp only [Z1, Z2, Z3, Z4, Z5, Z6, Z7, Z8, Z9, Z0] at q2
    first | (simp at q2; done) | (simp at q4; done) | (simp at q5; done) | (simp [nextOf, nilI] at q8; done) | (exfalso; omega)
  ·
    try simp only [Z1, Z2, Z3, Z4, Z5, Z6, Z7, Z8, Z9, Z0] at q2
    refine WC.skip (WE.then_normal (WC.sub (fr' := [(0, _), (1, _), (3, _), (9, _), (10, _)]) ?_ ⟨rfl, rfl, rfl, rfl, rfl, trivial⟩))
    refine WC.seq (WC.seq (WC.region ?_))
    refine WL.q (oq_move rfl) rfl rfl rfl ?_
    refine WL.q (oq_eql rfl rfl) rfl rfl rfl ?_
    refine WL.nil (WE.then_normal (WC.sub (fr' := [(0, _), (1, _), (9, _), (10, _), (22, _)]) ?_ ⟨rfl, rfl, rfl, rfl, rfl, trivial⟩))
    refine WC.cond rfl (fun q4 => ?_) (fun q4 => ?_)
    ·
      try simp only [Z1, Z2, Z3, Z4, Z5, Z6, Z7, Z8, Z9, Z0] at q4
      refine WC.seq (WC.region ?_)
      refine WL.q (oq_move rfl) rfl rfl rfl ?_
      refine WL.q (oq_peql Tryz.underlying201 rfl rfl) rfl rfl rfl ?_
      refine WL.nil (WE.then_normal (WC.sub (fr' := [(0, _), (1, _), (9, _), (10, _), (24, _)]) ?_ ⟨rfl, rfl, rfl, rfl, rfl, trivial⟩))
      refine WC.cond rfl (fun q5 => ?_) (fun q5 => ?_)
      ·
        try simp only [Z1, Z2, Z3, Z4, Z5, Z6, Z7, Z8, Z9, Z0] at q5
        have hd0 : hdp items = Pt x.b 0 := by rw [hit]; rfl
        rw [hd0]
        refine WC.region ?_
        refine WL.q (oq_move rfl) rfl rfl rfl ?_
        refine WL.q (oq_move rfl) rfl rfl rfl ?_
        refine WL.q (oq_nilCheck rfl) rfl rfl rfl ?_
        refine WL.q (oq_fieldAddr fld203_0 rfl) rfl rfl rfl ?_
        refine WL.q (oq_load flat201 rfl (.head _) (List.mem_singleton.2 rfl) rfl) rfl rfl rfl ?_
        refine WL.q (oq_makeI conc201 rfl) rfl rfl rfl ?_
        refine WL.q (oq_move rfl) rfl rfl rfl ?_
        refine WL.q (oq_build #[_, _] str219 ty219 rfl rfl) rfl rfl rfl ?_
        refine WL.box rfl rfl rfl fun e he => ?_
        refine WL.q (oq_nilCheck rfl) rfl rfl rfl ?_
        refine WL.q (oq_fieldAddr fld203_0 rfl) rfl rfl rfl ?_
        refine WL.f1 ?_
        refine WL.store1 #[_, _] ty201 rfl rfl (by first | rfl | exact OwS.one one_) (Nat.lt_of_lt_of_le (Nat.lt_succ_self _) (Nat.le_of_ble_eq_true rfl)) rfl rfl ?_
        refine WL.nil (WE.then_normal (WC.sub (fr' := []) ?_ trivial))
        refine WC.seq (WC.region ?_)
        refine WL.q (oq_assign rfl) rfl rfl rfl ?_
        refine WL.nil (WE.then_normal (WC.sub (fr' := [(8, _)]) ?_ ⟨rfl, trivial⟩))
        refine WC.ret ?_
        refine WE.endW3 (.inl rfl) (res1 Tryz.results44 rfl) ?_
        -- end 0
        exact ⟨rfl, e, he, perm2 (by rw [lastp_ne _ _ (by rw [hit]; simp)]; rfl) (by simp only [List.flatten_cons, List.flatten_nil, List.append_nil]; exact .of_eq (ch_front hit (Nd.mk e id fv)))⟩
      ·
        try simp only [Z1, Z2, Z3, Z4, Z5, Z6, Z7, Z8, Z9, Z0] at q5
        first | (simp at q2; done) | (simp at q4; done) | (simp at q5; done) | (simp [nextOf, nilI] at q8; done) | (exfalso; omega)
    ·
      try simp only [Z1, Z2, Z3, Z4, Z5, Z6, Z7, Z8, Z9, Z0] at q4
      first | (simp at q2; done) | (simp at q4; done) | (simp at q5; done) | (simp [nextOf, nilI] at q8; done) | (exfalso; omega)

/-- (*given.example/pub-tinwright/pub/smithy/middleware.InitializeStep).Insert -/
theorem insM0 (base sb : Nat) (x : Nd) (items : List Nd) (id : List UInt8) (fv : Value) (A2 B : List Nd) (p : Nd) (hit : items = (A2 ++ [p]) ++ x :: B) (hA : ∀ y ∈ A2 ++ [p], y.id ≠ x.id) : FnW Tryz.prog 44 [Pt sb 0, .iface 217 (.agg #[S id, fv]), S x.id, I 1] base [[(sb, .cells #[(hdp (items)), (lastp (items))] 203 (0, 0))], ch 201 219 217 items .nilIface] (fun v Hs => v = .nilIface ∧ ∃ e, base ≤ e ∧ Hs.flatten.Perm ([[(sb, .cells #[(hdp (A2 ++ p :: Nd.mk e id fv :: x :: B)), (lastp (A2 ++ p :: Nd.mk e id fv :: x :: B))] 203 (0, 0))], ch 201 219 217 (A2 ++ p :: Nd.mk e id fv :: x :: B) .nilIface] : List Hp).flatten) := by
  have hit2 : items = A2 ++ p :: x :: B := by rw [hit]; simp
  refine FnW.enter (n := 76) Tryz.func44 rfl rfl fun w0 R0 hbase => ?_
  subst hbase
  show WC _ _ _ _ _ _ _ ([[(sb, .cells #[(hdp (items)), (lastp (items))] 203 (0, 0))], ch 201 219 217 items .nilIface, R0])
  refine WC.sub (fr' := [(0, _), (1, _), (2, _), (3, _)]) ?_ ⟨rfl, rfl, rfl, rfl, trivial⟩
  refine WC.seq (WC.region ?_)
  refine WL.q (oq_assign rfl) rfl rfl rfl ?_
  refine WL.nil (WE.then_normal (WC.sub (fr' := [(0, _), (1, _), (2, _), (3, _)]) ?_ ⟨rfl, rfl, rfl, rfl, trivial⟩))
  refine WC.seq (WC.region ?_)
  refine WL.q (oq_move rfl) rfl rfl rfl ?_
  refine WL.q (oq_move rfl) rfl rfl rfl ?_
  refine WL.f1 ?_
  refine WL.f1 ?_
  refine WL.callW2 (gotH0 _ sb x.id (A2 ++ [p]) B x items hit rfl hA) call114 rfl rfl rfl fun v1_2 Hs1_2 hR1_2 => ?_
  obtain ⟨rfl, rfl⟩ := hR1_2
  rw [lastp_snoc]
  refine WL.to2 ?_
  refine WL.q (oq_move rfl) rfl rfl rfl ?_
  refine WL.q (oq_extract rfl rfl) rfl rfl rfl ?_
  refine WL.q (oq_extract rfl rfl) rfl rfl rfl ?_
  refine WL.q (oq_assign rfl) rfl rfl rfl ?_
  refine WL.q (oq_assign rfl) rfl rfl rfl ?_
  refine WL.nil (WE.then_normal (WC.sub (fr' := [(0, _), (1, _), (3, _), (9, _), (10, _)]) ?_ ⟨rfl, rfl, rfl, rfl, rfl, trivial⟩))
  refine WC.seq (WC.seq (WC.region ?_))
  refine WL.q (oq_move rfl) rfl rfl rfl ?_
  refine WL.q (oq_peql Tryz.underlying201 rfl rfl) rfl rfl rfl ?_
  refine WL.nil (WE.then_normal (WC.sub (fr' := [(0, _), (1, _), (3, _), (9, _), (10, _), (19, _)]) ?_ ⟨rfl, rfl, rfl, rfl, rfl, rfl, trivial⟩))
  refine WC.cond rfl (fun q2 => ?_) (fun q2 => ?_)
  ·
    try simp only [Z1, Z2, Z3, Z4, Z5, Z6, Z7, Z8, Z9, Z0] at q2
    first | (simp at q2; done) | (simp at q4; done) | (simp at q5; done) | (simp [nextOf, nilI] at q8; done) | (exfalso; omega)
  ·
    try simp only [Z1, Z2, Z3, Z4, Z5, Z6, Z7, Z8, Z9, Z0] at q2
    refine WC.skip (WE.then_normal (WC.sub (fr' := [(0, _), (1, _), (3, _), (9, _), (10, _)]) ?_ ⟨rfl, rfl, rfl, rfl, rfl, trivial⟩))
    refine WC.seq (WC.seq (WC.region ?_))
    refine WL.q (oq_move rfl) rfl rfl rfl ?_
    refine WL.q (oq_eql rfl rfl) rfl rfl rfl ?_
    refine WL.nil (WE.then_normal (WC.sub (fr' := [(0, _), (1, _), (9, _), (10, _), (22, _)]) ?_ ⟨rfl, rfl, rfl, rfl, rfl, trivial⟩))
    refine WC.cond rfl (fun q4 => ?_) (fun q4 => ?_)
    ·
      try simp only [Z1, Z2, Z3, Z4, Z5, Z6, Z7, Z8, Z9, Z0] at q4
      refine WC.seq (WC.region ?_)
      refine WL.q (oq_move rfl) rfl rfl rfl ?_
      refine WL.q (oq_peql Tryz.underlying201 rfl rfl) rfl rfl rfl ?_
      refine WL.nil (WE.then_normal (WC.sub (fr' := [(0, _), (1, _), (9, _), (10, _), (24, _)]) ?_ ⟨rfl, rfl, rfl, rfl, rfl, trivial⟩))
      refine WC.cond rfl (fun q5 => ?_) (fun q5 => ?_)
      ·
        try simp only [Z1, Z2, Z3, Z4, Z5, Z6, Z7, Z8, Z9, Z0] at q5
        first | (simp at q2; done) | (simp at q4; done) | (simp at q5; done) | (simp [nextOf, nilI] at q8; done) | (exfalso; omega)
      ·
        try simp only [Z1, Z2, Z3, Z4, Z5, Z6, Z7, Z8, Z9, Z0] at q5
        refine WC.region ?_
        refine WL.f1 ?_
        refine WL.reg (reg_out (show (ch 201 219 217 (items) .nilIface).Perm ([(p.b, .cells #[nextOf 201 (x :: B) .nilIface, wv 217 p] 219 (0, 0))] ++ (ch 201 219 217 (A2) (.iface 201 (Pt p.b 0)) ++ ch 201 219 217 (x :: B) .nilIface)) from by rw [hit2]; exact ch_out _ _ _ _)) ?_
        refine WL.q (oq_move rfl) rfl rfl rfl ?_
        refine WL.q (oq_move rfl) rfl rfl rfl ?_
        refine WL.q (oq_makeI conc201 rfl) rfl rfl rfl ?_
        refine WL.q (oq_move rfl) rfl rfl rfl ?_
        refine WL.q (oq_build #[_, _] str219 ty219 rfl rfl) rfl rfl rfl ?_
        refine WL.box rfl rfl rfl fun e he => ?_
        refine WL.q (oq_makeI conc201 rfl) rfl rfl rfl ?_
        refine WL.q (oq_nilCheck rfl) rfl rfl rfl ?_
        refine WL.q (oq_fieldAddr fld219_0 rfl) rfl rfl rfl ?_
        refine WL.f1 ?_
        refine WL.store1 #[_, _] ty109 rfl rfl (by first | rfl | exact OwS.one one_) (Nat.lt_of_lt_of_le (Nat.lt_succ_self _) (Nat.le_of_ble_eq_true rfl)) rfl rfl ?_
        refine WL.nil (WE.then_normal (WC.sub (fr' := []) ?_ trivial))
        refine WC.seq (WC.region ?_)
        refine WL.q (oq_assign rfl) rfl rfl rfl ?_
        refine WL.nil (WE.then_normal (WC.sub (fr' := [(8, _)]) ?_ ⟨rfl, trivial⟩))
        refine WC.ret ?_
        refine WE.f4 ?_
        refine WE.f3 ?_
        refine WE.f3 ?_
        refine WE.f3 ?_
        refine WE.f4 ?_
        refine WE.endW4 (.inl rfl) (res1 Tryz.results44 rfl) ?_
        -- end 0
        exact ⟨rfl, e, he, perm2 (by rw [hit2, hdp_cons A2 p (x :: B) (Nd.mk e id fv :: x :: B), lastp_cons, lastp_cons]; rfl) (by simp only [List.flatten_cons, List.flatten_nil, List.append_nil]; exact ch_ins A2 p (Nd.mk e id fv) (x :: B) _)⟩
    ·
      try simp only [Z1, Z2, Z3, Z4, Z5, Z6, Z7, Z8, Z9, Z0] at q4
      first | (simp at q2; done) | (simp at q4; done) | (simp at q5; done) | (simp [nextOf, nilI] at q8; done) | (exfalso; omega)

/-- (*given.example/pub-tinwright/pub/smithy/middleware.InitializeStep).Insert -/
theorem insE0 (base sb : Nat) (x : Nd) (items : List Nd) (id : List UInt8) (fv : Value) (A : List Nd) (hit : items = A ++ x :: []) (hA : ∀ y ∈ A, y.id ≠ x.id) : FnW Tryz.prog 44 [Pt sb 0, .iface 217 (.agg #[S id, fv]), S x.id, I 0] base [[(sb, .cells #[(hdp (items)), (lastp (items))] 203 (0, 0))], ch 201 219 217 items .nilIface] (fun v Hs => v = .nilIface ∧ ∃ e, base ≤ e ∧ Hs.flatten.Perm ([[(sb, .cells #[(hdp (A ++ x :: Nd.mk e id fv :: [])), (lastp (A ++ x :: Nd.mk e id fv :: []))] 203 (0, 0))], ch 201 219 217 (A ++ x :: Nd.mk e id fv :: []) .nilIface] : List Hp).flatten) := by
  refine FnW.enter (n := 76) Tryz.func44 rfl rfl fun w0 R0 hbase => ?_
  subst hbase
  show WC _ _ _ _ _ _ _ ([[(sb, .cells #[(hdp (items)), (lastp (items))] 203 (0, 0))], ch 201 219 217 items .nilIface, R0])
  refine WC.sub (fr' := [(0, _), (1, _), (2, _), (3, _)]) ?_ ⟨rfl, rfl, rfl, rfl, trivial⟩
  refine WC.seq (WC.region ?_)
  refine WL.q (oq_assign rfl) rfl rfl rfl ?_
  refine WL.nil (WE.then_normal (WC.sub (fr' := [(0, _), (1, _), (2, _), (3, _)]) ?_ ⟨rfl, rfl, rfl, rfl, trivial⟩))
  refine WC.seq (WC.region ?_)
  refine WL.q (oq_move rfl) rfl rfl rfl ?_
  refine WL.q (oq_move rfl) rfl rfl rfl ?_
  refine WL.f1 ?_
  refine WL.f1 ?_
  refine WL.callW2 (gotH0 _ sb x.id A [] x items hit rfl hA) call114 rfl rfl rfl fun v1_2 Hs1_2 hR1_2 => ?_
  obtain ⟨rfl, rfl⟩ := hR1_2
  refine WL.to2 ?_
  refine WL.q (oq_move rfl) rfl rfl rfl ?_
  refine WL.q (oq_extract rfl rfl) rfl rfl rfl ?_
  refine WL.q (oq_extract rfl rfl) rfl rfl rfl ?_
  refine WL.q (oq_assign rfl) rfl rfl rfl ?_
  refine WL.q (oq_assign rfl) rfl rfl rfl ?_
  refine WL.nil (WE.then_normal (WC.sub (fr' := [(0, _), (1, _), (3, _), (9, _), (10, _)]) ?_ ⟨rfl, rfl, rfl, rfl, rfl, trivial⟩))
  refine WC.seq (WC.seq (WC.region ?_))
  refine WL.q (oq_move rfl) rfl rfl rfl ?_
  refine WL.q (oq_peql Tryz.underlying201 rfl rfl) rfl rfl rfl ?_
  refine WL.nil (WE.then_normal (WC.sub (fr' := [(0, _), (1, _), (3, _), (9, _), (10, _), (19, _)]) ?_ ⟨rfl, rfl, rfl, rfl, rfl, rfl, trivial⟩))
  refine WC.cond rfl (fun q2 => ?_) (fun q2 => ?_)
  ·
    try simp only [Z1, Z2, Z3, Z4, Z5, Z6, Z7, Z8, Z9, Z0] at q2
    first | (simp at q2; done) | (simp at q4; done) | (simp at q5; done) | (simp [nextOf, nilI] at q8; done) | (exfalso; omega)
  ·
    try simp only [Z1, Z2, Z3, Z4, Z5, Z6, Z7, Z8, Z9, Z0] at q2
    refine WC.skip (WE.then_normal (WC.sub (fr' := [(0, _), (1, _), (3, _), (9, _), (10, _)]) ?_ ⟨rfl, rfl, rfl, rfl, rfl, trivial⟩))
    refine WC.seq (WC.seq (WC.region ?_))
    refine WL.q (oq_move rfl) rfl rfl rfl ?_
    refine WL.q (oq_eql rfl rfl) rfl rfl rfl ?_
    refine WL.nil (WE.then_normal (WC.sub (fr' := [(0, _), (1, _), (9, _), (10, _), (22, _)]) ?_ ⟨rfl, rfl, rfl, rfl, rfl, trivial⟩))
    refine WC.cond rfl (fun q4 => ?_) (fun q4 => ?_)
    ·
      try simp only [Z1, Z2, Z3, Z4, Z5, Z6, Z7, Z8, Z9, Z0] at q4
      first | (simp at q2; done) | (simp at q4; done) | (simp at q5; done) | (simp [nextOf, nilI] at q8; done) | (exfalso; omega)
    ·
      try simp only [Z1, Z2, Z3, Z4, Z5, Z6, Z7, Z8, Z9, Z0] at q4
      refine WC.seq (WC.region ?_)
      refine WL.q (oq_move rfl) rfl rfl rfl ?_
      refine WL.q (oq_nilCheck rfl) rfl rfl rfl ?_
      refine WL.q (oq_fieldAddr fld219_0 rfl) rfl rfl rfl ?_
      refine WL.q (oq_load flat109 rfl (.tail _ (.head _)) (mem_of hit) rfl) rfl rfl rfl ?_
      refine WL.q (oq_ieql Tryz.underlying109 rfl (.inl rfl)) rfl rfl rfl ?_
      refine WL.nil (WE.then_normal (WC.sub (fr' := [(0, _), (1, _), (9, _), (49, _)]) ?_ ⟨rfl, rfl, rfl, rfl, trivial⟩))
      refine WC.cond rfl (fun q8 => ?_) (fun q8 => ?_)
      ·
        try simp only [Z1, Z2, Z3, Z4, Z5, Z6, Z7, Z8, Z9, Z0] at q8
        refine WC.seq (WC.region ?_)
        refine WL.q (oq_move rfl) rfl rfl rfl ?_
        refine WL.q (oq_build #[_, _] str219 ty219 rfl rfl) rfl rfl rfl ?_
        refine WL.box rfl rfl rfl fun e he => ?_
        refine WL.q (oq_assign rfl) rfl rfl rfl ?_
        refine WL.nil (WE.then_normal (WC.sub (fr' := [(0, _), (11, _)]) ?_ ⟨rfl, rfl, trivial⟩))
        refine WC.seq ?_
        have hl0 : lastp items = Pt x.b 0 := by rw [hit, lastp_snoc]
        rw [hl0]
        refine WC.region ?_
        refine WL.f2 ?_
        refine WL.reg (reg_out (show (ch 201 219 217 (items) .nilIface).Perm ([(x.b, .cells #[nextOf 201 ([]) .nilIface, wv 217 x] 219 (0, 0))] ++ (ch 201 219 217 (A) (.iface 201 (Pt x.b 0)) ++ ch 201 219 217 ([]) .nilIface)) from by rw [hit]; exact ch_out _ _ _ _)) ?_
        refine WL.q (oq_move rfl) rfl rfl rfl ?_
        refine WL.q (oq_nilCheck rfl) rfl rfl rfl ?_
        refine WL.q (oq_fieldAddr fld203_1 rfl) rfl rfl rfl ?_
        refine WL.q (oq_load flat201 rfl (.tail _ (.tail _ (.tail _ (.head _)))) (List.mem_singleton.2 rfl) rfl) rfl rfl rfl ?_
        refine WL.q (oq_move rfl) rfl rfl rfl ?_
        refine WL.q (oq_makeI conc201 rfl) rfl rfl rfl ?_
        refine WL.q (oq_nilCheck rfl) rfl rfl rfl ?_
        refine WL.q (oq_fieldAddr fld219_0 rfl) rfl rfl rfl ?_
        refine WL.store1 #[_, _] ty109 rfl rfl (by first | rfl | exact OwS.one one_) (Nat.lt_of_lt_of_le (Nat.lt_succ_self _) (Nat.le_of_ble_eq_true rfl)) rfl rfl ?_
        refine WL.nil (WE.then_normal (WC.sub (fr' := [(0, _), (11, _)]) ?_ ⟨rfl, rfl, trivial⟩))
        refine WC.region ?_
        refine WL.q (oq_move rfl) rfl rfl rfl ?_
        refine WL.q (oq_move rfl) rfl rfl rfl ?_
        refine WL.q (oq_nilCheck rfl) rfl rfl rfl ?_
        refine WL.q (oq_fieldAddr fld203_1 rfl) rfl rfl rfl ?_
        refine WL.f3 ?_
        refine WL.store1 #[_, _] ty201 rfl rfl (by first | rfl | exact OwS.one one_) (Nat.lt_of_lt_of_le (Nat.lt_succ_self _) (Nat.le_of_ble_eq_true rfl)) rfl rfl ?_
        refine WL.nil (WE.then_normal (WC.sub (fr' := []) ?_ trivial))
        refine WC.seq (WC.region ?_)
        refine WL.q (oq_assign rfl) rfl rfl rfl ?_
        refine WL.nil (WE.then_normal (WC.sub (fr' := [(8, _)]) ?_ ⟨rfl, trivial⟩))
        refine WC.ret ?_
        refine WE.f4 ?_
        refine WE.f3 ?_
        refine WE.f4 ?_
        refine WE.f4 ?_
        refine WE.f4 ?_
        refine WE.endW4 (.inl rfl) (res1 Tryz.results44 rfl) ?_
        -- end 0
        exact ⟨rfl, e, he, perm2 (by rw [hit, hdp_cons A x [] [Nd.mk e id fv], lastp_cons]; rfl) (by simp only [List.flatten_cons, List.flatten_nil, List.append_nil]; exact ch_ins A x (Nd.mk e id fv) [] _)⟩
      ·
        try simp only [Z1, Z2, Z3, Z4, Z5, Z6, Z7, Z8, Z9, Z0] at q8
        first | (simp at q2; done) | (simp at q4; done) | (simp at q5; done) | (simp [nextOf, nilI] at q8; done) | (exfalso; omega)

/-- (*given.example/pub-tinwright/pub/smithy/middleware.InitializeStep).Insert -/
theorem insA0 (base sb : Nat) (x : Nd) (items : List Nd) (id : List UInt8) (fv : Value) (A B : List Nd) (y : Nd) (hit : items = A ++ x :: (y :: B)) (hA : ∀ y ∈ A, y.id ≠ x.id) : FnW Tryz.prog 44 [Pt sb 0, .iface 217 (.agg #[S id, fv]), S x.id, I 0] base [[(sb, .cells #[(hdp (items)), (lastp (items))] 203 (0, 0))], ch 201 219 217 items .nilIface] (fun v Hs => v = .nilIface ∧ ∃ e, base ≤ e ∧ Hs.flatten.Perm ([[(sb, .cells #[(hdp (A ++ x :: Nd.mk e id fv :: y :: B)), (lastp (A ++ x :: Nd.mk e id fv :: y :: B))] 203 (0, 0))], ch 201 219 217 (A ++ x :: Nd.mk e id fv :: y :: B) .nilIface] : List Hp).flatten) := by
  refine FnW.enter (n := 76) Tryz.func44 rfl rfl fun w0 R0 hbase => ?_
  subst hbase
  show WC _ _ _ _ _ _ _ ([[(sb, .cells #[(hdp (items)), (lastp (items))] 203 (0, 0))], ch 201 219 217 items .nilIface, R0])
  refine WC.sub (fr' := [(0, _), (1, _), (2, _), (3, _)]) ?_ ⟨rfl, rfl, rfl, rfl, trivial⟩
  refine WC.seq (WC.region ?_)
  refine WL.q (oq_assign rfl) rfl rfl rfl ?_
  refine WL.nil (WE.then_normal (WC.sub (fr' := [(0, _), (1, _), (2, _), (3, _)]) ?_ ⟨rfl, rfl, rfl, rfl, trivial⟩))
  refine WC.seq (WC.region ?_)
  refine WL.q (oq_move rfl) rfl rfl rfl ?_
  refine WL.q (oq_move rfl) rfl rfl rfl ?_
  refine WL.f1 ?_
  refine WL.f1 ?_
  refine WL.callW2 (gotH0 _ sb x.id A (y :: B) x items hit rfl hA) call114 rfl rfl rfl fun v1_2 Hs1_2 hR1_2 => ?_
  obtain ⟨rfl, rfl⟩ := hR1_2
  refine WL.to2 ?_
  refine WL.q (oq_move rfl) rfl rfl rfl ?_
  refine WL.q (oq_extract rfl rfl) rfl rfl rfl ?_
  refine WL.q (oq_extract rfl rfl) rfl rfl rfl ?_
  refine WL.q (oq_assign rfl) rfl rfl rfl ?_
  refine WL.q (oq_assign rfl) rfl rfl rfl ?_
  refine WL.nil (WE.then_normal (WC.sub (fr' := [(0, _), (1, _), (3, _), (9, _), (10, _)]) ?_ ⟨rfl, rfl, rfl, rfl, rfl, trivial⟩))
  refine WC.seq (WC.seq (WC.region ?_))
  refine WL.q (oq_move rfl) rfl rfl rfl ?_
  refine WL.q (oq_peql Tryz.underlying201 rfl rfl) rfl rfl rfl ?_
  refine WL.nil (WE.then_normal (WC.sub (fr' := [(0, _), (1, _), (3, _), (9, _), (10, _), (19, _)]) ?_ ⟨rfl, rfl, rfl, rfl, rfl, rfl, trivial⟩))
  refine WC.cond rfl (fun q2 => ?_) (fun q2 => ?_)
  ·
    try simp only [Z1, Z2, Z3, Z4, Z5, Z6, Z7, Z8, Z9, Z0] at q2
    first | (simp at q2; done) | (simp at q4; done) | (simp at q5; done) | (simp [nextOf, nilI] at q8; done) | (exfalso; omega)
  ·
    try simp only [Z1, Z2, Z3, Z4, Z5, Z6, Z7, Z8, Z9, Z0] at q2
    refine WC.skip (WE.then_normal (WC.sub (fr' := [(0, _), (1, _), (3, _), (9, _), (10, _)]) ?_ ⟨rfl, rfl, rfl, rfl, rfl, trivial⟩))
    refine WC.seq (WC.seq (WC.region ?_))
    refine WL.q (oq_move rfl) rfl rfl rfl ?_
    refine WL.q (oq_eql rfl rfl) rfl rfl rfl ?_
    refine WL.nil (WE.then_normal (WC.sub (fr' := [(0, _), (1, _), (9, _), (10, _), (22, _)]) ?_ ⟨rfl, rfl, rfl, rfl, rfl, trivial⟩))
    refine WC.cond rfl (fun q4 => ?_) (fun q4 => ?_)
    ·
      try simp only [Z1, Z2, Z3, Z4, Z5, Z6, Z7, Z8, Z9, Z0] at q4
      first | (simp at q2; done) | (simp at q4; done) | (simp at q5; done) | (simp [nextOf, nilI] at q8; done) | (exfalso; omega)
    ·
      try simp only [Z1, Z2, Z3, Z4, Z5, Z6, Z7, Z8, Z9, Z0] at q4
      refine WC.seq (WC.region ?_)
      refine WL.q (oq_move rfl) rfl rfl rfl ?_
      refine WL.q (oq_nilCheck rfl) rfl rfl rfl ?_
      refine WL.q (oq_fieldAddr fld219_0 rfl) rfl rfl rfl ?_
      refine WL.q (oq_load flat109 rfl (.tail _ (.head _)) (mem_of hit) rfl) rfl rfl rfl ?_
      refine WL.q (oq_ieql Tryz.underlying109 rfl (.inr ⟨_, _, rfl⟩)) rfl rfl rfl ?_
      refine WL.nil (WE.then_normal (WC.sub (fr' := [(0, _), (1, _), (9, _), (49, _)]) ?_ ⟨rfl, rfl, rfl, rfl, trivial⟩))
      refine WC.cond rfl (fun q8 => ?_) (fun q8 => ?_)
      ·
        try simp only [Z1, Z2, Z3, Z4, Z5, Z6, Z7, Z8, Z9, Z0] at q8
        first | (simp at q2; done) | (simp at q4; done) | (simp at q5; done) | (simp [nextOf, nilI] at q8; done) | (exfalso; omega)
      ·
        try simp only [Z1, Z2, Z3, Z4, Z5, Z6, Z7, Z8, Z9, Z0] at q8
        refine WC.region ?_
        refine WL.f1 ?_
        refine WL.reg (reg_out (show (ch 201 219 217 (items) .nilIface).Perm ([(x.b, .cells #[nextOf 201 (y :: B) .nilIface, wv 217 x] 219 (0, 0))] ++ (ch 201 219 217 (A) (.iface 201 (Pt x.b 0)) ++ ch 201 219 217 (y :: B) .nilIface)) from by rw [hit]; exact ch_out _ _ _ _)) ?_
        refine WL.q (oq_move rfl) rfl rfl rfl ?_
        refine WL.q (oq_move rfl) rfl rfl rfl ?_
        refine WL.q (oq_nilCheck rfl) rfl rfl rfl ?_
        refine WL.q (oq_fieldAddr fld219_0 rfl) rfl rfl rfl ?_
        refine WL.q (oq_load flat109 rfl (.head _) (List.mem_singleton.2 rfl) rfl) rfl rfl rfl ?_
        refine WL.q (oq_move rfl) rfl rfl rfl ?_
        refine WL.q (oq_build #[_, _] str219 ty219 rfl rfl) rfl rfl rfl ?_
        refine WL.box rfl rfl rfl fun e he => ?_
        refine WL.q (oq_makeI conc201 rfl) rfl rfl rfl ?_
        refine WL.q (oq_nilCheck rfl) rfl rfl rfl ?_
        refine WL.q (oq_fieldAddr fld219_0 rfl) rfl rfl rfl ?_
        refine WL.f1 ?_
        refine WL.store1 #[_, _] ty109 rfl rfl (by first | rfl | exact OwS.one one_) (Nat.lt_of_lt_of_le (Nat.lt_succ_self _) (Nat.le_of_ble_eq_true rfl)) rfl rfl ?_
        refine WL.nil (WE.then_normal (WC.sub (fr' := []) ?_ trivial))
        refine WC.seq (WC.region ?_)
        refine WL.q (oq_assign rfl) rfl rfl rfl ?_
        refine WL.nil (WE.then_normal (WC.sub (fr' := [(8, _)]) ?_ ⟨rfl, trivial⟩))
        refine WC.ret ?_
        refine WE.f4 ?_
        refine WE.f3 ?_
        refine WE.f3 ?_
        refine WE.f3 ?_
        refine WE.f4 ?_
        refine WE.endW4 (.inl rfl) (res1 Tryz.results44 rfl) ?_
        -- end 0
        exact ⟨rfl, e, he, perm2 (by rw [hit, hdp_cons A x (y :: B) (Nd.mk e id fv :: y :: B), lastp_cons, lastp_cons]; rfl) (by simp only [List.flatten_cons, List.flatten_nil, List.append_nil]; exact ch_ins A x (Nd.mk e id fv) (y :: B) _)⟩

/-- (*given.example/pub-tinwright/pub/smithy/middleware.InitializeStep).Insert -/
theorem insN0 (base sb : Nat) (id by_ : List UInt8) (fv : Value) (items : List Nd) (hn : ∀ y ∈ items, y.id ≠ by_) (pos : Int) : FnW Tryz.prog 44 [Pt sb 0, .iface 217 (.agg #[S id, fv]), S by_, I pos] base [[(sb, .cells #[(hdp (items)), (lastp (items))] 203 (0, 0))], ch 201 219 217 items .nilIface] (fun v Hs => (∃ k u, v = .iface k u) ∧ Hs = [[(sb, .cells #[(hdp (items)), (lastp (items))] 203 (0, 0))], ch 201 219 217 items .nilIface]) := by
  refine FnW.enter (n := 76) Tryz.func44 rfl rfl fun w0 R0 hbase => ?_
  subst hbase
  show WC _ _ _ _ _ _ _ ([[(sb, .cells #[(hdp (items)), (lastp (items))] 203 (0, 0))], ch 201 219 217 items .nilIface, R0])
  refine WC.sub (fr' := [(0, _), (1, _), (2, _), (3, _)]) ?_ ⟨rfl, rfl, rfl, rfl, trivial⟩
  refine WC.seq (WC.region ?_)
  refine WL.q (oq_assign rfl) rfl rfl rfl ?_
  refine WL.nil (WE.then_normal (WC.sub (fr' := [(0, _), (1, _), (2, _), (3, _)]) ?_ ⟨rfl, rfl, rfl, rfl, trivial⟩))
  refine WC.seq (WC.region ?_)
  refine WL.q (oq_move rfl) rfl rfl rfl ?_
  refine WL.q (oq_move rfl) rfl rfl rfl ?_
  refine WL.f1 ?_
  refine WL.f1 ?_
  refine WL.callW2 (gotM0 _ sb by_ items hn) call114 rfl rfl rfl fun v1_2 Hs1_2 hR1_2 => ?_
  obtain ⟨rfl, rfl⟩ := hR1_2
  refine WL.to2 ?_
  refine WL.q (oq_move rfl) rfl rfl rfl ?_
  refine WL.q (oq_extract rfl rfl) rfl rfl rfl ?_
  refine WL.q (oq_extract rfl rfl) rfl rfl rfl ?_
  refine WL.q (oq_assign rfl) rfl rfl rfl ?_
  refine WL.q (oq_assign rfl) rfl rfl rfl ?_
  refine WL.nil (WE.then_normal (WC.sub (fr' := [(0, _), (1, _), (3, _), (9, _), (10, _)]) ?_ ⟨rfl, rfl, rfl, rfl, rfl, trivial⟩))
  refine WC.seq (WC.seq (WC.region ?_))
  refine WL.q (oq_move rfl) rfl rfl rfl ?_
  refine WL.q (oq_peql Tryz.underlying201 rfl rfl) rfl rfl rfl ?_
  refine WL.nil (WE.then_normal (WC.sub (fr' := [(0, _), (1, _), (3, _), (9, _), (10, _), (19, _)]) ?_ ⟨rfl, rfl, rfl, rfl, rfl, rfl, trivial⟩))
  refine WC.cond rfl (fun q2 => ?_) (fun q2 => ?_)
  ·
    try simp only [Z1, Z2, Z3, Z4, Z5, Z6, Z7, Z8, Z9, Z0] at q2
    refine WC.seq (WC.region ?_)
    refine WL.callA0 (errNew _) call113 rfl rfl rfl fun v3_0 N3_0 hR3_0 hN3_0 => ?_
    obtain ⟨ek, eu, rfl⟩ := hR3_0
    refine WL.q (oq_assign rfl) rfl rfl rfl ?_
    refine WL.nil (WE.then_normal (WC.sub (fr' := [(8, _)]) ?_ ⟨rfl, trivial⟩))
    refine WC.ret (WE.then_ret ?_)
    refine WE.forget hN3_0 ?_
    refine WE.endW2 (.inl rfl) (res1 Tryz.results44 rfl) ?_
    -- end 0
    exact ⟨⟨_, _, rfl⟩, rfl⟩
  ·
    try simp only [Z1, Z2, Z3, Z4, Z5, Z6, Z7, Z8, Z9, Z0] at q2
    simp at q2

/-- (*given.example/pub-tinwright/pub/smithy/middleware.InitializeStep).Swap -/
theorem swapH0 (base sb : Nat) (id : List UInt8) (fv : Value) (A B : List Nd) (x : Nd) (items : List Nd) (hit : items = A ++ x :: B) (hA : ∀ y ∈ A, y.id ≠ x.id)  : FnW Tryz.prog 46 [Pt sb 0, S x.id, .iface 217 (.agg #[S id, fv])] base [[(sb, .cells #[(hdp (items)), (lastp (items))] 203 (0, 0))], ch 201 219 217 items .nilIface] (fun v Hs => v = .tuple #[wv 217 x, .nilIface] ∧ Hs.flatten.Perm ([[(sb, .cells #[(hdp (A ++ Nd.mk x.b id fv :: B)), (lastp (A ++ Nd.mk x.b id fv :: B))] 203 (0, 0))], ch 201 219 217 (A ++ Nd.mk x.b id fv :: B) .nilIface] : List Hp).flatten) := by
  refine FnW.enter (n := 29) Tryz.func46 rfl rfl fun w0 R0 hbase => ?_
  subst hbase
  show WC _ _ _ _ _ _ _ ([[(sb, .cells #[(hdp (items)), (lastp (items))] 203 (0, 0))], ch 201 219 217 items .nilIface, R0])
  refine WC.sub (fr' := [(0, _), (1, _), (2, _)]) ?_ ⟨rfl, rfl, rfl, trivial⟩
  refine WC.seq (WC.region ?_)
  refine WL.q (oq_assign rfl) rfl rfl rfl ?_
  refine WL.q (oq_assign rfl) rfl rfl rfl ?_
  refine WL.nil (WE.then_normal (WC.sub (fr' := [(0, _), (1, _), (2, _)]) ?_ ⟨rfl, rfl, rfl, trivial⟩))
  refine WC.seq (WC.region ?_)
  refine WL.q (oq_move rfl) rfl rfl rfl ?_
  refine WL.q (oq_move rfl) rfl rfl rfl ?_
  refine WL.f1 ?_
  refine WL.f1 ?_
  refine WL.callW2 (gotH0 _ sb x.id A B x items hit rfl hA) call114 rfl rfl rfl fun v1_2 Hs1_2 hR1_2 => ?_
  obtain ⟨rfl, rfl⟩ := hR1_2
  refine WL.to2 ?_
  refine WL.q (oq_move rfl) rfl rfl rfl ?_
  refine WL.q (oq_extract rfl rfl) rfl rfl rfl ?_
  refine WL.q (oq_extract rfl rfl) rfl rfl rfl ?_
  refine WL.q (oq_assign rfl) rfl rfl rfl ?_
  refine WL.q (oq_assign rfl) rfl rfl rfl ?_
  refine WL.nil (WE.then_normal (WC.sub (fr' := [(2, _), (8, _)]) ?_ ⟨rfl, rfl, trivial⟩))
  refine WC.seq (WC.seq (WC.region ?_))
  refine WL.q (oq_move rfl) rfl rfl rfl ?_
  refine WL.q (oq_peql Tryz.underlying201 rfl rfl) rfl rfl rfl ?_
  refine WL.nil (WE.then_normal (WC.sub (fr' := [(2, _), (8, _), (18, _)]) ?_ ⟨rfl, rfl, rfl, trivial⟩))
  refine WC.cond rfl (fun q2 => ?_) (fun q2 => ?_)
  ·
    try simp only [Z1, Z2, Z3, Z4, Z5, Z6, Z7, Z8, Z9, Z0] at q2
    simp at q2
  ·
    try simp only [Z1, Z2, Z3, Z4, Z5, Z6, Z7, Z8, Z9, Z0] at q2
    refine WC.skip (WE.then_normal (WC.sub (fr' := [(2, _), (8, _)]) ?_ ⟨rfl, rfl, trivial⟩))
    refine WC.seq (WC.region ?_)
    refine WL.f1 ?_
    refine WL.reg (reg_out (show (ch 201 219 217 (items) .nilIface).Perm ([(x.b, .cells #[nextOf 201 (B) .nilIface, wv 217 x] 219 (0, 0))] ++ (ch 201 219 217 (A) (.iface 201 (Pt x.b 0)) ++ ch 201 219 217 (B) .nilIface)) from by rw [hit]; exact ch_out _ _ _ _)) ?_
    refine WL.q (oq_move rfl) rfl rfl rfl ?_
    refine WL.q (oq_nilCheck rfl) rfl rfl rfl ?_
    refine WL.q (oq_fieldAddr fld219_1 rfl) rfl rfl rfl ?_
    refine WL.q (oq_load flat104 rfl (.head _) (List.mem_singleton.2 rfl) rfl) rfl rfl rfl ?_
    refine WL.q (oq_assign rfl) rfl rfl rfl ?_
    refine WL.nil (WE.then_normal (WC.sub (fr' := [(2, _), (8, _), (10, _)]) ?_ ⟨rfl, rfl, rfl, trivial⟩))
    refine WC.seq (WC.region ?_)
    refine WL.q (oq_move rfl) rfl rfl rfl ?_
    refine WL.q (oq_move rfl) rfl rfl rfl ?_
    refine WL.q (oq_nilCheck rfl) rfl rfl rfl ?_
    refine WL.q (oq_fieldAddr fld219_1 rfl) rfl rfl rfl ?_
    refine WL.store1 #[_, _] ty104 rfl rfl (by first | rfl | exact OwS.one one_) (Nat.lt_of_lt_of_le (Nat.lt_succ_self _) (Nat.le_of_ble_eq_true rfl)) rfl rfl ?_
    refine WL.nil (WE.then_normal (WC.sub (fr' := [(10, _)]) ?_ ⟨rfl, trivial⟩))
    refine WC.seq (WC.region ?_)
    refine WL.q (oq_move rfl) rfl rfl rfl ?_
    refine WL.q (oq_assign rfl) rfl rfl rfl ?_
    refine WL.q (oq_assign rfl) rfl rfl rfl ?_
    refine WL.nil (WE.then_normal (WC.sub (fr' := [(6, _), (7, _)]) ?_ ⟨rfl, rfl, trivial⟩))
    refine WC.ret ?_
    refine WE.f3 ?_
    refine WE.f2 ?_
    refine WE.f2 ?_
    refine WE.f3 ?_
    refine WE.endW3 (.inl rfl) (res2 Tryz.results46 rfl rfl) ?_
    -- end 0
    exact ⟨rfl, perm2 (by rw [hit, ← hdp_b A B x id fv, ← lastp_b A B x id fv]) (by simp only [List.flatten_cons, List.flatten_nil, List.append_nil]; exact ch_del A (Nd.mk x.b id fv) B _)⟩

/-- (*given.example/pub-tinwright/pub/smithy/middleware.InitializeStep).Swap -/
theorem swapN0 (base sb : Nat) (by_ : List UInt8) (m : Value) (items : List Nd) (hn : ∀ y ∈ items, y.id ≠ by_) : FnW Tryz.prog 46 [Pt sb 0, S by_, m] base [[(sb, .cells #[(hdp (items)), (lastp (items))] 203 (0, 0))], ch 201 219 217 items .nilIface] (fun v Hs => (∃ k u, v = .tuple #[.nilIface, .iface k u]) ∧ Hs = [[(sb, .cells #[(hdp (items)), (lastp (items))] 203 (0, 0))], ch 201 219 217 items .nilIface]) := by
  refine FnW.enter (n := 29) Tryz.func46 rfl rfl fun w0 R0 hbase => ?_
  subst hbase
  show WC _ _ _ _ _ _ _ ([[(sb, .cells #[(hdp (items)), (lastp (items))] 203 (0, 0))], ch 201 219 217 items .nilIface, R0])
  refine WC.sub (fr' := [(0, _), (1, _), (2, _)]) ?_ ⟨rfl, rfl, rfl, trivial⟩
  refine WC.seq (WC.region ?_)
  refine WL.q (oq_assign rfl) rfl rfl rfl ?_
  refine WL.q (oq_assign rfl) rfl rfl rfl ?_
  refine WL.nil (WE.then_normal (WC.sub (fr' := [(0, _), (1, _), (2, _)]) ?_ ⟨rfl, rfl, rfl, trivial⟩))
  refine WC.seq (WC.region ?_)
  refine WL.q (oq_move rfl) rfl rfl rfl ?_
  refine WL.q (oq_move rfl) rfl rfl rfl ?_
  refine WL.f1 ?_
  refine WL.f1 ?_
  refine WL.callW2 (gotM0 _ sb by_ items hn) call114 rfl rfl rfl fun v1_2 Hs1_2 hR1_2 => ?_
  obtain ⟨rfl, rfl⟩ := hR1_2
  refine WL.to2 ?_
  refine WL.q (oq_move rfl) rfl rfl rfl ?_
  refine WL.q (oq_extract rfl rfl) rfl rfl rfl ?_
  refine WL.q (oq_extract rfl rfl) rfl rfl rfl ?_
  refine WL.q (oq_assign rfl) rfl rfl rfl ?_
  refine WL.q (oq_assign rfl) rfl rfl rfl ?_
  refine WL.nil (WE.then_normal (WC.sub (fr' := [(2, _), (8, _)]) ?_ ⟨rfl, rfl, trivial⟩))
  refine WC.seq (WC.seq (WC.region ?_))
  refine WL.q (oq_move rfl) rfl rfl rfl ?_
  refine WL.q (oq_peql Tryz.underlying201 rfl rfl) rfl rfl rfl ?_
  refine WL.nil (WE.then_normal (WC.sub (fr' := [(2, _), (8, _), (18, _)]) ?_ ⟨rfl, rfl, rfl, trivial⟩))
  refine WC.cond rfl (fun q2 => ?_) (fun q2 => ?_)
  ·
    try simp only [Z1, Z2, Z3, Z4, Z5, Z6, Z7, Z8, Z9, Z0] at q2
    refine WC.seq (WC.region ?_)
    refine WL.callA0 (errNew _) call113 rfl rfl rfl fun v3_0 N3_0 hR3_0 hN3_0 => ?_
    obtain ⟨ek, eu, rfl⟩ := hR3_0
    refine WL.q (oq_assign rfl) rfl rfl rfl ?_
    refine WL.q (oq_assign rfl) rfl rfl rfl ?_
    refine WL.nil (WE.then_normal (WC.sub (fr' := [(6, _), (7, _)]) ?_ ⟨rfl, rfl, trivial⟩))
    refine WC.ret (WE.then_ret ?_)
    refine WE.forget hN3_0 ?_
    refine WE.endW2 (.inl rfl) (res2 Tryz.results46 rfl rfl) ?_
    -- end 0
    exact ⟨⟨_, _, rfl⟩, rfl⟩
  ·
    try simp only [Z1, Z2, Z3, Z4, Z5, Z6, Z7, Z8, Z9, Z0] at q2
    simp at q2

/-- (*given.example/pub-tinwright/pub/smithy/middleware.SerializeStep).Insert -/
theorem insF1 (base sb : Nat) (nr : Value) (x : Nd) (items : List Nd) (id : List UInt8) (fv : Value) (B : List Nd) (hit : items = [] ++ x :: B) : FnW Tryz.prog 59 [Pt sb 0, .iface 225 (.agg #[S id, fv]), S x.id, I 1] base [[(sb, .cells #[(hdp (items)), (lastp (items)), nr] 206 (0, 0))], ch 204 227 225 items .nilIface] (fun v Hs => v = .nilIface ∧ ∃ e, base ≤ e ∧ Hs.flatten.Perm ([[(sb, .cells #[(hdp (Nd.mk e id fv :: items)), (lastp (Nd.mk e id fv :: items)), nr] 206 (0, 0))], ch 204 227 225 (Nd.mk e id fv :: items) .nilIface] : List Hp).flatten) := by
  refine FnW.enter (n := 76) Tryz.func59 rfl rfl fun w0 R0 hbase => ?_
  subst hbase
  show WC _ _ _ _ _ _ _ ([[(sb, .cells #[(hdp (items)), (lastp (items)), nr] 206 (0, 0))], ch 204 227 225 items .nilIface, R0])
  refine WC.sub (fr' := [(0, _), (1, _), (2, _), (3, _)]) ?_ ⟨rfl, rfl, rfl, rfl, trivial⟩
  refine WC.seq (WC.region ?_)
  refine WL.q (oq_assign rfl) rfl rfl rfl ?_
  refine WL.nil (WE.then_normal (WC.sub (fr' := [(0, _), (1, _), (2, _), (3, _)]) ?_ ⟨rfl, rfl, rfl, rfl, trivial⟩))
  refine WC.seq (WC.region ?_)
  refine WL.q (oq_move rfl) rfl rfl rfl ?_
  refine WL.q (oq_move rfl) rfl rfl rfl ?_
  refine WL.f1 ?_
  refine WL.f1 ?_
  refine WL.callW2 (gotH1 _ sb nr x.id [] B x items hit rfl (by simp)) call115 rfl rfl rfl fun v1_2 Hs1_2 hR1_2 => ?_
  obtain ⟨rfl, rfl⟩ := hR1_2
  refine WL.to2 ?_
  refine WL.q (oq_move rfl) rfl rfl rfl ?_
  refine WL.q (oq_extract rfl rfl) rfl rfl rfl ?_
  refine WL.q (oq_extract rfl rfl) rfl rfl rfl ?_
  refine WL.q (oq_assign rfl) rfl rfl rfl ?_
  refine WL.q (oq_assign rfl) rfl rfl rfl ?_
  refine WL.nil (WE.then_normal (WC.sub (fr' := [(0, _), (1, _), (3, _), (9, _), (10, _)]) ?_ ⟨rfl, rfl, rfl, rfl, rfl, trivial⟩))
  refine WC.seq (WC.seq (WC.region ?_))
  refine WL.q (oq_move rfl) rfl rfl rfl ?_
  refine WL.q (oq_peql Tryz.underlying204 rfl rfl) rfl rfl rfl ?_
  refine WL.nil (WE.then_normal (WC.sub (fr' := [(0, _), (1, _), (3, _), (9, _), (10, _), (19, _)]) ?_ ⟨rfl, rfl, rfl, rfl, rfl, rfl, trivial⟩))
  refine WC.cond rfl (fun q2 => ?_) (fun q2 => ?_)
  ·
    try simp only [Z1, Z2, Z3, Z4, Z5, Z6, Z7, Z8, Z9, Z0] at q2
    first | (simp at q2; done) | (simp at q4; done) | (simp at q5; done) | (simp [nextOf, nilI] at q8; done) | (exfalso; omega)
  ·
    try simp only [Z1, Z2, Z3, Z4, Z5, Z6, Z7, Z8, Z9, Z0] at q2
    refine WC.skip (WE.then_normal (WC.sub (fr' := [(0, _), (1, _), (3, _), (9, _), (10, _)]) ?_ ⟨rfl, rfl, rfl, rfl, rfl, trivial⟩))
    refine WC.seq (WC.seq (WC.region ?_))
    refine WL.q (oq_move rfl) rfl rfl rfl ?_
    refine WL.q (oq_eql rfl rfl) rfl rfl rfl ?_
    refine WL.nil (WE.then_normal (WC.sub (fr' := [(0, _), (1, _), (9, _), (10, _), (22, _)]) ?_ ⟨rfl, rfl, rfl, rfl, rfl, trivial⟩))
    refine WC.cond rfl (fun q4 => ?_) (fun q4 => ?_)
    ·
      try simp only [Z1, Z2, Z3, Z4, Z5, Z6, Z7, Z8, Z9, Z0] at q4
      refine WC.seq (WC.region ?_)
      refine WL.q (oq_move rfl) rfl rfl rfl ?_
      refine WL.q (oq_peql Tryz.underlying204 rfl rfl) rfl rfl rfl ?_
      refine WL.nil (WE.then_normal (WC.sub (fr' := [(0, _), (1, _), (9, _), (10, _), (24, _)]) ?_ ⟨rfl, rfl, rfl, rfl, rfl, trivial⟩))
      refine WC.cond rfl (fun q5 => ?_) (fun q5 => ?_)
      ·
        try simp only [Z1, Z2, Z3, Z4, Z5, Z6, Z7, Z8, Z9, Z0] at q5
        have hd0 : hdp items = Pt x.b 0 := by rw [hit]; rfl
        rw [hd0]
        refine WC.region ?_
        refine WL.q (oq_move rfl) rfl rfl rfl ?_
        refine WL.q (oq_move rfl) rfl rfl rfl ?_
        refine WL.q (oq_nilCheck rfl) rfl rfl rfl ?_
        refine WL.q (oq_fieldAddr fld206_0 rfl) rfl rfl rfl ?_
        refine WL.q (oq_load flat204 rfl (.head _) (List.mem_singleton.2 rfl) rfl) rfl rfl rfl ?_
        refine WL.q (oq_makeI conc204 rfl) rfl rfl rfl ?_
        refine WL.q (oq_move rfl) rfl rfl rfl ?_
        refine WL.q (oq_build #[_, _] str227 ty227 rfl rfl) rfl rfl rfl ?_
        refine WL.box rfl rfl rfl fun e he => ?_
        refine WL.q (oq_nilCheck rfl) rfl rfl rfl ?_
        refine WL.q (oq_fieldAddr fld206_0 rfl) rfl rfl rfl ?_
        refine WL.f1 ?_
        refine WL.store1 #[_, _, _] ty204 rfl rfl (by first | rfl | exact OwS.one one_) (Nat.lt_of_lt_of_le (Nat.lt_succ_self _) (Nat.le_of_ble_eq_true rfl)) rfl rfl ?_
        refine WL.nil (WE.then_normal (WC.sub (fr' := []) ?_ trivial))
        refine WC.seq (WC.region ?_)
        refine WL.q (oq_assign rfl) rfl rfl rfl ?_
        refine WL.nil (WE.then_normal (WC.sub (fr' := [(8, _)]) ?_ ⟨rfl, trivial⟩))
        refine WC.ret ?_
        refine WE.endW3 (.inl rfl) (res1 Tryz.results59 rfl) ?_
        -- end 0
        exact ⟨rfl, e, he, perm2 (by rw [lastp_ne _ _ (by rw [hit]; simp)]; rfl) (by simp only [List.flatten_cons, List.flatten_nil, List.append_nil]; exact .of_eq (ch_front hit (Nd.mk e id fv)))⟩
      ·
        try simp only [Z1, Z2, Z3, Z4, Z5, Z6, Z7, Z8, Z9, Z0] at q5
        first | (simp at q2; done) | (simp at q4; done) | (simp at q5; done) | (simp [nextOf, nilI] at q8; done) | (exfalso; omega)
    ·
      try simp only [Z1, Z2, Z3, Z4, Z5, Z6, Z7, Z8, Z9, Z0] at q4
      first | (simp at q2; done) | (simp at q4; done) | (simp at q5; done) | (simp [nextOf, nilI] at q8; done) | (exfalso; omega)

/-- (*given.example/pub-tinwright/pub/smithy/middleware.SerializeStep).Insert -/
theorem insM1 (base sb : Nat) (nr : Value) (x : Nd) (items : List Nd) (id : List UInt8) (fv : Value) (A2 B : List Nd) (p : Nd) (hit : items = (A2 ++ [p]) ++ x :: B) (hA : ∀ y ∈ A2 ++ [p], y.id ≠ x.id) : FnW Tryz.prog 59 [Pt sb 0, .iface 225 (.agg #[S id, fv]), S x.id, I 1] base [[(sb, .cells #[(hdp (items)), (lastp (items)), nr] 206 (0, 0))], ch 204 227 225 items .nilIface] (fun v Hs => v = .nilIface ∧ ∃ e, base ≤ e ∧ Hs.flatten.Perm ([[(sb, .cells #[(hdp (A2 ++ p :: Nd.mk e id fv :: x :: B)), (lastp (A2 ++ p :: Nd.mk e id fv :: x :: B)), nr] 206 (0, 0))], ch 204 227 225 (A2 ++ p :: Nd.mk e id fv :: x :: B) .nilIface] : List Hp).flatten) := by
  have hit2 : items = A2 ++ p :: x :: B := by rw [hit]; simp
  refine FnW.enter (n := 76) Tryz.func59 rfl rfl fun w0 R0 hbase => ?_
  subst hbase
  show WC _ _ _ _ _ _ _ ([[(sb, .cells #[(hdp (items)), (lastp (items)), nr] 206 (0, 0))], ch 204 227 225 items .nilIface, R0])
  refine WC.sub (fr' := [(0, _), (1, _), (2, _), (3, _)]) ?_ ⟨rfl, rfl, rfl, rfl, trivial⟩
  refine WC.seq (WC.region ?_)
  refine WL.q (oq_assign rfl) rfl rfl rfl ?_
  refine WL.nil (WE.then_normal (WC.sub (fr' := [(0, _), (1, _), (2, _), (3, _)]) ?_ ⟨rfl, rfl, rfl, rfl, trivial⟩))
  refine WC.seq (WC.region ?_)
  refine WL.q (oq_move rfl) rfl rfl rfl ?_
  refine WL.q (oq_move rfl) rfl rfl rfl ?_
  refine WL.f1 ?_
  refine WL.f1 ?_
  refine WL.callW2 (gotH1 _ sb nr x.id (A2 ++ [p]) B x items hit rfl hA) call115 rfl rfl rfl fun v1_2 Hs1_2 hR1_2 => ?_
  obtain ⟨rfl, rfl⟩ := hR1_2
  rw [lastp_snoc]
  refine WL.to2 ?_
  refine WL.q (oq_move rfl) rfl rfl rfl ?_
  refine WL.q (oq_extract rfl rfl) rfl rfl rfl ?_
  refine WL.q (oq_extract rfl rfl) rfl rfl rfl ?_
  refine WL.q (oq_assign rfl) rfl rfl rfl ?_
  refine WL.q (oq_assign rfl) rfl rfl rfl ?_
  refine WL.nil (WE.then_normal (WC.sub (fr' := [(0, _), (1, _), (3, _), (9, _), (10, _)]) ?_ ⟨rfl, rfl, rfl, rfl, rfl, trivial⟩))
  refine WC.seq (WC.seq (WC.region ?_))
  refine WL.q (oq_move rfl) rfl rfl rfl ?_
  refine WL.q (oq_peql Tryz.underlying204 rfl rfl) rfl rfl rfl ?_
  refine WL.nil (WE.then_normal (WC.sub (fr' := [(0, _), (1, _), (3, _), (9, _), (10, _), (19, _)]) ?_ ⟨rfl, rfl, rfl, rfl, rfl, rfl, trivial⟩))
  refine WC.cond rfl (fun q2 => ?_) (fun q2 => ?_)
  ·
    try simp only [Z1, Z2, Z3, Z4, Z5, Z6, Z7, Z8, Z9, Z0] at q2
    first | (simp at q2; done) | (simp at q4; done) | (simp at q5; done) | (simp [nextOf, nilI] at q8; done) | (exfalso; omega)
  ·
    try simp only [Z1, Z2, Z3, Z4, Z5, Z6, Z7, Z8, Z9, Z0] at q2
    refine WC.skip (WE.then_normal (WC.sub (fr' := [(0, _), (1, _), (3, _), (9, _), (10, _)]) ?_ ⟨rfl, rfl, rfl, rfl, rfl, trivial⟩))
    refine WC.seq (WC.seq (WC.region ?_))
    refine WL.q (oq_move rfl) rfl rfl rfl ?_
    refine WL.q (oq_eql rfl rfl) rfl rfl rfl ?_
    refine WL.nil (WE.then_normal (WC.sub (fr' := [(0, _), (1, _), (9, _), (10, _), (22, _)]) ?_ ⟨rfl, rfl, rfl, rfl, rfl, trivial⟩))
    refine WC.cond rfl (fun q4 => ?_) (fun q4 => ?_)
    ·
      try simp only [Z1, Z2, Z3, Z4, Z5, Z6, Z7, Z8, Z9, Z0] at q4
      refine WC.seq (WC.region ?_)
      refine WL.q (oq_move rfl) rfl rfl rfl ?_
      refine WL.q (oq_peql Tryz.underlying204 rfl rfl) rfl rfl rfl ?_
      refine WL.nil (WE.then_normal (WC.sub (fr' := [(0, _), (1, _), (9, _), (10, _), (24, _)]) ?_ ⟨rfl, rfl, rfl, rfl, rfl, trivial⟩))
      refine WC.cond rfl (fun q5 => ?_) (fun q5 => ?_)
      ·
        try simp only [Z1, Z2, Z3, Z4, Z5, Z6, Z7, Z8, Z9, Z0] at q5
        first | (simp at q2; done) | (simp at q4; done) | (simp at q5; done) | (simp [nextOf, nilI] at q8; done) | (exfalso; omega)
      ·
        try simp only [Z1, Z2, Z3, Z4, Z5, Z6, Z7, Z8, Z9, Z0] at q5
        refine WC.region ?_
        refine WL.f1 ?_
        refine WL.reg (reg_out (show (ch 204 227 225 (items) .nilIface).Perm ([(p.b, .cells #[nextOf 204 (x :: B) .nilIface, wv 225 p] 227 (0, 0))] ++ (ch 204 227 225 (A2) (.iface 204 (Pt p.b 0)) ++ ch 204 227 225 (x :: B) .nilIface)) from by rw [hit2]; exact ch_out _ _ _ _)) ?_
        refine WL.q (oq_move rfl) rfl rfl rfl ?_
        refine WL.q (oq_move rfl) rfl rfl rfl ?_
        refine WL.q (oq_makeI conc204 rfl) rfl rfl rfl ?_
        refine WL.q (oq_move rfl) rfl rfl rfl ?_
        refine WL.q (oq_build #[_, _] str227 ty227 rfl rfl) rfl rfl rfl ?_
        refine WL.box rfl rfl rfl fun e he => ?_
        refine WL.q (oq_makeI conc204 rfl) rfl rfl rfl ?_
        refine WL.q (oq_nilCheck rfl) rfl rfl rfl ?_
        refine WL.q (oq_fieldAddr fld227_0 rfl) rfl rfl rfl ?_
        refine WL.f1 ?_
        refine WL.store1 #[_, _] ty132 rfl rfl (by first | rfl | exact OwS.one one_) (Nat.lt_of_lt_of_le (Nat.lt_succ_self _) (Nat.le_of_ble_eq_true rfl)) rfl rfl ?_
        refine WL.nil (WE.then_normal (WC.sub (fr' := []) ?_ trivial))
        refine WC.seq (WC.region ?_)
        refine WL.q (oq_assign rfl) rfl rfl rfl ?_
        refine WL.nil (WE.then_normal (WC.sub (fr' := [(8, _)]) ?_ ⟨rfl, trivial⟩))
        refine WC.ret ?_
        refine WE.f4 ?_
        refine WE.f3 ?_
        refine WE.f3 ?_
        refine WE.f3 ?_
        refine WE.f4 ?_
        refine WE.endW4 (.inl rfl) (res1 Tryz.results59 rfl) ?_
        -- end 0
        exact ⟨rfl, e, he, perm2 (by rw [hit2, hdp_cons A2 p (x :: B) (Nd.mk e id fv :: x :: B), lastp_cons, lastp_cons]; rfl) (by simp only [List.flatten_cons, List.flatten_nil, List.append_nil]; exact ch_ins A2 p (Nd.mk e id fv) (x :: B) _)⟩
    ·
      try simp only [Z1, Z2, Z3, Z4, Z5, Z6, Z7, Z8, Z9, Z0] at q4
      first | (simp at q2; done) | (simp at q4; done) | (simp at q5; done) | (simp [nextOf, nilI] at q8; done) | (exfalso; omega)

/-- (*given.example/pub-tinwright/pub/smithy/middleware.SerializeStep).Insert -/
theorem insE1 (base sb : Nat) (nr : Value) (x : Nd) (items : List Nd) (id : List UInt8) (fv : Value) (A : List Nd) (hit : items = A ++ x :: []) (hA : ∀ y ∈ A, y.id ≠ x.id) : FnW Tryz.prog 59 [Pt sb 0, .iface 225 (.agg #[S id, fv]), S x.id, I 0] base [[(sb, .cells #[(hdp (items)), (lastp (items)), nr] 206 (0, 0))], ch 204 227 225 items .nilIface] (fun v Hs => v = .nilIface ∧ ∃ e, base ≤ e ∧ Hs.flatten.Perm ([[(sb, .cells #[(hdp (A ++ x :: Nd.mk e id fv :: [])), (lastp (A ++ x :: Nd.mk e id fv :: [])), nr] 206 (0, 0))], ch 204 227 225 (A ++ x :: Nd.mk e id fv :: []) .nilIface] : List Hp).flatten) := by
  refine FnW.enter (n := 76) Tryz.func59 rfl rfl fun w0 R0 hbase => ?_
  subst hbase
  show WC _ _ _ _ _ _ _ ([[(sb, .cells #[(hdp (items)), (lastp (items)), nr] 206 (0, 0))], ch 204 227 225 items .nilIface, R0])
  refine WC.sub (fr' := [(0, _), (1, _), (2, _), (3, _)]) ?_ ⟨rfl, rfl, rfl, rfl, trivial⟩
  refine WC.seq (WC.region ?_)
  refine WL.q (oq_assign rfl) rfl rfl rfl ?_
  refine WL.nil (WE.then_normal (WC.sub (fr' := [(0, _), (1, _), (2, _), (3, _)]) ?_ ⟨rfl, rfl, rfl, rfl, trivial⟩))
  refine WC.seq (WC.region ?_)
  refine WL.q (oq_move rfl) rfl rfl rfl ?_
  refine WL.q (oq_move rfl) rfl rfl rfl ?_
  refine WL.f1 ?_
  refine WL.f1 ?_
  refine WL.callW2 (gotH1 _ sb nr x.id A [] x items hit rfl hA) call115 rfl rfl rfl fun v1_2 Hs1_2 hR1_2 => ?_
  obtain ⟨rfl, rfl⟩ := hR1_2
  refine WL.to2 ?_
  refine WL.q (oq_move rfl) rfl rfl rfl ?_
  refine WL.q (oq_extract rfl rfl) rfl rfl rfl ?_
  refine WL.q (oq_extract rfl rfl) rfl rfl rfl ?_
  refine WL.q (oq_assign rfl) rfl rfl rfl ?_
  refine WL.q (oq_assign rfl) rfl rfl rfl ?_
  refine WL.nil (WE.then_normal (WC.sub (fr' := [(0, _), (1, _), (3, _), (9, _), (10, _)]) ?_ ⟨rfl, rfl, rfl, rfl, rfl, trivial⟩))
  refine WC.seq (WC.seq (WC.region ?_))
  refine WL.q (oq_move rfl) rfl rfl rfl ?_
  refine WL.q (oq_peql Tryz.underlying204 rfl rfl) rfl rfl rfl ?_
  refine WL.nil (WE.then_normal (WC.sub (fr' := [(0, _), (1, _), (3, _), (9, _), (10, _), (19, _)]) ?_ ⟨rfl, rfl, rfl, rfl, rfl, rfl, trivial⟩))
  refine WC.cond rfl (fun q2 => ?_) (fun q2 => ?_)
  ·
    try simp only [Z1, Z2, Z3, Z4, Z5, Z6, Z7, Z8, Z9, Z0] at q2
    first | (simp at q2; done) | (simp at q4; done) | (simp at q5; done) | (simp [nextOf, nilI] at q8; done) | (exfalso; omega)
  ·
    try simp only [Z1, Z2, Z3, Z4, Z5, Z6, Z7, Z8, Z9, Z0] at q2
    refine WC.skip (WE.then_normal (WC.sub (fr' := [(0, _), (1, _), (3, _), (9, _), (10, _)]) ?_ ⟨rfl, rfl, rfl, rfl, rfl, trivial⟩))
    refine WC.seq (WC.seq (WC.region ?_))
    refine WL.q (oq_move rfl) rfl rfl rfl ?_
    refine WL.q (oq_eql rfl rfl) rfl rfl rfl ?_
    refine WL.nil (WE.then_normal (WC.sub (fr' := [(0, _), (1, _), (9, _), (10, _), (22, _)]) ?_ ⟨rfl, rfl, rfl, rfl, rfl, trivial⟩))
    refine WC.cond rfl (fun q4 => ?_) (fun q4 => ?_)
    ·
      try simp only [Z1, Z2, Z3, Z4, Z5, Z6, Z7, Z8, Z9, Z0] at q4
      first | (simp at q2; done) | (simp at q4; done) | (simp at q5; done) | (simp [nextOf, nilI] at q8; done) | (exfalso; omega)
    ·
      try simp only [Z1, Z2, Z3, Z4, Z5, Z6, Z7, Z8, Z9, Z0] at q4
      refine WC.seq (WC.region ?_)
      refine WL.q (oq_move rfl) rfl rfl rfl ?_
      refine WL.q (oq_nilCheck rfl) rfl rfl rfl ?_
      refine WL.q (oq_fieldAddr fld227_0 rfl) rfl rfl rfl ?_
      refine WL.q (oq_load flat132 rfl (.tail _ (.head _)) (mem_of hit) rfl) rfl rfl rfl ?_
      refine WL.q (oq_ieql Tryz.underlying132 rfl (.inl rfl)) rfl rfl rfl ?_
      refine WL.nil (WE.then_normal (WC.sub (fr' := [(0, _), (1, _), (9, _), (49, _)]) ?_ ⟨rfl, rfl, rfl, rfl, trivial⟩))
      refine WC.cond rfl (fun q8 => ?_) (fun q8 => ?_)
      ·
        try simp only [Z1, Z2, Z3, Z4, Z5, Z6, Z7, Z8, Z9, Z0] at q8
        refine WC.seq (WC.region ?_)
        refine WL.q (oq_move rfl) rfl rfl rfl ?_
        refine WL.q (oq_build #[_, _] str227 ty227 rfl rfl) rfl rfl rfl ?_
        refine WL.box rfl rfl rfl fun e he => ?_
        refine WL.q (oq_assign rfl) rfl rfl rfl ?_
        refine WL.nil (WE.then_normal (WC.sub (fr' := [(0, _), (11, _)]) ?_ ⟨rfl, rfl, trivial⟩))
        refine WC.seq ?_
        have hl0 : lastp items = Pt x.b 0 := by rw [hit, lastp_snoc]
        rw [hl0]
        refine WC.region ?_
        refine WL.f2 ?_
        refine WL.reg (reg_out (show (ch 204 227 225 (items) .nilIface).Perm ([(x.b, .cells #[nextOf 204 ([]) .nilIface, wv 225 x] 227 (0, 0))] ++ (ch 204 227 225 (A) (.iface 204 (Pt x.b 0)) ++ ch 204 227 225 ([]) .nilIface)) from by rw [hit]; exact ch_out _ _ _ _)) ?_
        refine WL.q (oq_move rfl) rfl rfl rfl ?_
        refine WL.q (oq_nilCheck rfl) rfl rfl rfl ?_
        refine WL.q (oq_fieldAddr fld206_1 rfl) rfl rfl rfl ?_
        refine WL.q (oq_load flat204 rfl (.tail _ (.tail _ (.tail _ (.head _)))) (List.mem_singleton.2 rfl) rfl) rfl rfl rfl ?_
        refine WL.q (oq_move rfl) rfl rfl rfl ?_
        refine WL.q (oq_makeI conc204 rfl) rfl rfl rfl ?_
        refine WL.q (oq_nilCheck rfl) rfl rfl rfl ?_
        refine WL.q (oq_fieldAddr fld227_0 rfl) rfl rfl rfl ?_
        refine WL.store1 #[_, _] ty132 rfl rfl (by first | rfl | exact OwS.one one_) (Nat.lt_of_lt_of_le (Nat.lt_succ_self _) (Nat.le_of_ble_eq_true rfl)) rfl rfl ?_
        refine WL.nil (WE.then_normal (WC.sub (fr' := [(0, _), (11, _)]) ?_ ⟨rfl, rfl, trivial⟩))
        refine WC.region ?_
        refine WL.q (oq_move rfl) rfl rfl rfl ?_
        refine WL.q (oq_move rfl) rfl rfl rfl ?_
        refine WL.q (oq_nilCheck rfl) rfl rfl rfl ?_
        refine WL.q (oq_fieldAddr fld206_1 rfl) rfl rfl rfl ?_
        refine WL.f3 ?_
        refine WL.store1 #[_, _, _] ty204 rfl rfl (by first | rfl | exact OwS.one one_) (Nat.lt_of_lt_of_le (Nat.lt_succ_self _) (Nat.le_of_ble_eq_true rfl)) rfl rfl ?_
        refine WL.nil (WE.then_normal (WC.sub (fr' := []) ?_ trivial))
        refine WC.seq (WC.region ?_)
        refine WL.q (oq_assign rfl) rfl rfl rfl ?_
        refine WL.nil (WE.then_normal (WC.sub (fr' := [(8, _)]) ?_ ⟨rfl, trivial⟩))
        refine WC.ret ?_
        refine WE.f4 ?_
        refine WE.f3 ?_
        refine WE.f4 ?_
        refine WE.f4 ?_
        refine WE.f4 ?_
        refine WE.endW4 (.inl rfl) (res1 Tryz.results59 rfl) ?_
        -- end 0
        exact ⟨rfl, e, he, perm2 (by rw [hit, hdp_cons A x [] [Nd.mk e id fv], lastp_cons]; rfl) (by simp only [List.flatten_cons, List.flatten_nil, List.append_nil]; exact ch_ins A x (Nd.mk e id fv) [] _)⟩
      ·
        try simp only [Z1, Z2, Z3, Z4, Z5, Z6, Z7, Z8, Z9, Z0] at q8
        first | (simp at q2; done) | (simp at q4; done) | (simp at q5; done) | (simp [nextOf, nilI] at q8; done) | (exfalso; omega)

/-- (*given.example/pub-tinwright/pub/smithy/middleware.SerializeStep).Insert -/
theorem insA1 (base sb : Nat) (nr : Value) (x : Nd) (items : List Nd) (id : List UInt8) (fv : Value) (A B : List Nd) (y : Nd) (hit : items = A ++ x :: (y :: B)) (hA : ∀ y ∈ A, y.id ≠ x.id) : FnW Tryz.prog 59 [Pt sb 0, .iface 225 (.agg #[S id, fv]), S x.id, I 0] base [[(sb, .cells #[(hdp (items)), (lastp (items)), nr] 206 (0, 0))], ch 204 227 225 items .nilIface] (fun v Hs => v = .nilIface ∧ ∃ e, base ≤ e ∧ Hs.flatten.Perm ([[(sb, .cells #[(hdp (A ++ x :: Nd.mk e id fv :: y :: B)), (lastp (A ++ x :: Nd.mk e id fv :: y :: B)), nr] 206 (0, 0))], ch 204 227 225 (A ++ x :: Nd.mk e id fv :: y :: B) .nilIface] : List Hp).flatten) := by
  refine FnW.enter (n := 76) Tryz.func59 rfl rfl fun w0 R0 hbase => ?_
  subst hbase
  show WC _ _ _ _ _ _ _ ([[(sb, .cells #[(hdp (items)), (lastp (items)), nr] 206 (0, 0))], ch 204 227 225 items .nilIface, R0])
  refine WC.sub (fr' := [(0, _), (1, _), (2, _), (3, _)]) ?_ ⟨rfl, rfl, rfl, rfl, trivial⟩
  refine WC.seq (WC.region ?_)
  refine WL.q (oq_assign rfl) rfl rfl rfl ?_
  refine WL.nil (WE.then_normal (WC.sub (fr' := [(0, _), (1, _), (2, _), (3, _)]) ?_ ⟨rfl, rfl, rfl, rfl, trivial⟩))
  refine WC.seq (WC.region ?_)
  refine WL.q (oq_move rfl) rfl rfl rfl ?_
  refine WL.q (oq_move rfl) rfl rfl rfl ?_
  refine WL.f1 ?_
  refine WL.f1 ?_
  refine WL.callW2 (gotH1 _ sb nr x.id A (y :: B) x items hit rfl hA) call115 rfl rfl rfl fun v1_2 Hs1_2 hR1_2 => ?_
  obtain ⟨rfl, rfl⟩ := hR1_2
  refine WL.to2 ?_
  refine WL.q (oq_move rfl) rfl rfl rfl ?_
  refine WL.q (oq_extract rfl rfl) rfl rfl rfl ?_
  refine WL.q (oq_extract rfl rfl) rfl rfl rfl ?_
  refine WL.q (oq_assign rfl) rfl rfl rfl ?_
  refine WL.q (oq_assign rfl) rfl rfl rfl ?_
  refine WL.nil (WE.then_normal (WC.sub (fr' := [(0, _), (1, _), (3, _), (9, _), (10, _)]) ?_ ⟨rfl, rfl, rfl, rfl, rfl, trivial⟩))
  refine WC.seq (WC.seq (WC.region ?_))
  refine WL.q (oq_move rfl) rfl rfl rfl ?_
  refine WL.q (oq_peql Tryz.underlying204 rfl rfl) rfl rfl rfl ?_
  refine WL.nil (WE.then_normal (WC.sub (fr' := [(0, _), (1, _), (3, _), (9, _), (10, _), (19, _)]) ?_ ⟨rfl, rfl, rfl, rfl, rfl, rfl, trivial⟩))
  refine WC.cond rfl (fun q2 => ?_) (fun q2 => ?_)
  ·
    try simp only [Z1, Z2, Z3, Z4, Z5, Z6, Z7, Z8, Z9, Z0] at q2
    first | (simp at q2; done) | (simp at q4; done) | (simp at q5; done) | (simp [nextOf, nilI] at q8; done) | (exfalso; omega)
  ·
    try simp only [Z1, Z2, Z3, Z4, Z5, Z6, Z7, Z8, Z9, Z0] at q2
    refine WC.skip (WE.then_normal (WC.sub (fr' := [(0, _), (1, _), (3, _), (9, _), (10, _)]) ?_ ⟨rfl, rfl, rfl, rfl, rfl, trivial⟩))
    refine WC.seq (WC.seq (WC.region ?_))
    refine WL.q (oq_move rfl) rfl rfl rfl ?_
    refine WL.q (oq_eql rfl rfl) rfl rfl rfl ?_
    refine WL.nil (WE.then_normal (WC.sub (fr' := [(0, _), (1, _), (9, _), (10, _), (22, _)]) ?_ ⟨rfl, rfl, rfl, rfl, rfl, trivial⟩))
    refine WC.cond rfl (fun q4 => ?_) (fun q4 => ?_)
    ·
      try simp only [Z1, Z2, Z3, Z4, Z5, Z6, Z7, Z8, Z9, Z0] at q4
      first | (simp at q2; done) | (simp at q4; done) | (simp at q5; done) | (simp [nextOf, nilI] at q8; done) | (exfalso; omega)
    ·
      try simp only [Z1, Z2, Z3, Z4, Z5, Z6, Z7, Z8, Z9, Z0] at q4
      refine WC.seq (WC.region ?_)
      refine WL.q (oq_move rfl) rfl rfl rfl ?_
      refine WL.q (oq_nilCheck rfl) rfl rfl rfl ?_
      refine WL.q (oq_fieldAddr fld227_0 rfl) rfl rfl rfl ?_
      refine WL.q (oq_load flat132 rfl (.tail _ (.head _)) (mem_of hit) rfl) rfl rfl rfl ?_
      refine WL.q (oq_ieql Tryz.underlying132 rfl (.inr ⟨_, _, rfl⟩)) rfl rfl rfl ?_
      refine WL.nil (WE.then_normal (WC.sub (fr' := [(0, _), (1, _), (9, _), (49, _)]) ?_ ⟨rfl, rfl, rfl, rfl, trivial⟩))
      refine WC.cond rfl (fun q8 => ?_) (fun q8 => ?_)
      ·
        try simp only [Z1, Z2, Z3, Z4, Z5, Z6, Z7, Z8, Z9, Z0] at q8
        first | (simp at q2; done) | (simp at q4; done) | (simp at q5; done) | (simp [nextOf, nilI] at q8; done) | (exfalso; omega)
      ·
        try simp only [Z1, Z2, Z3, Z4, Z5, Z6, Z7, Z8, Z9, Z0] at q8
        refine WC.region ?_
        refine WL.f1 ?_
        refine WL.reg (reg_out (show (ch 204 227 225 (items) .nilIface).Perm ([(x.b, .cells #[nextOf 204 (y :: B) .nilIface, wv 225 x] 227 (0, 0))] ++ (ch 204 227 225 (A) (.iface 204 (Pt x.b 0)) ++ ch 204 227 225 (y :: B) .nilIface)) from by rw [hit]; exact ch_out _ _ _ _)) ?_
        refine WL.q (oq_move rfl) rfl rfl rfl ?_
        refine WL.q (oq_move rfl) rfl rfl rfl ?_
        refine WL.q (oq_nilCheck rfl) rfl rfl rfl ?_
        refine WL.q (oq_fieldAddr fld227_0 rfl) rfl rfl rfl ?_
        refine WL.q (oq_load flat132 rfl (.head _) (List.mem_singleton.2 rfl) rfl) rfl rfl rfl ?_
        refine WL.q (oq_move rfl) rfl rfl rfl ?_
        refine WL.q (oq_build #[_, _] str227 ty227 rfl rfl) rfl rfl rfl ?_
        refine WL.box rfl rfl rfl fun e he => ?_
        refine WL.q (oq_makeI conc204 rfl) rfl rfl rfl ?_
        refine WL.q (oq_nilCheck rfl) rfl rfl rfl ?_
        refine WL.q (oq_fieldAddr fld227_0 rfl) rfl rfl rfl ?_
        refine WL.f1 ?_
        refine WL.store1 #[_, _] ty132 rfl rfl (by first | rfl | exact OwS.one one_) (Nat.lt_of_lt_of_le (Nat.lt_succ_self _) (Nat.le_of_ble_eq_true rfl)) rfl rfl ?_
        refine WL.nil (WE.then_normal (WC.sub (fr' := []) ?_ trivial))
        refine WC.seq (WC.region ?_)
        refine WL.q (oq_assign rfl) rfl rfl rfl ?_
        refine WL.nil (WE.then_normal (WC.sub (fr' := [(8, _)]) ?_ ⟨rfl, trivial⟩))
        refine WC.ret ?_
        refine WE.f4 ?_
        refine WE.f3 ?_
        refine WE.f3 ?_
        refine WE.f3 ?_
        refine WE.f4 ?_
        refine WE.endW4 (.inl rfl) (res1 Tryz.results59 rfl) ?_
        -- end 0
        exact ⟨rfl, e, he, perm2 (by rw [hit, hdp_cons A x (y :: B) (Nd.mk e id fv :: y :: B), lastp_cons, lastp_cons]; rfl) (by simp only [List.flatten_cons, List.flatten_nil, List.append_nil]; exact ch_ins A x (Nd.mk e id fv) (y :: B) _)⟩

/-- (*given.example/pub-tinwright/pub/smithy/middleware.SerializeStep).Insert -/
theorem insN1 (base sb : Nat) (nr : Value) (id by_ : List UInt8) (fv : Value) (items : List Nd) (hn : ∀ y ∈ items, y.id ≠ by_) (pos : Int) : FnW Tryz.prog 59 [Pt sb 0, .iface 225 (.agg #[S id, fv]), S by_, I pos] base [[(sb, .cells #[(hdp (items)), (lastp (items)), nr] 206 (0, 0))], ch 204 227 225 items .nilIface] (fun v Hs => (∃ k u, v = .iface k u) ∧ Hs = [[(sb, .cells #[(hdp (items)), (lastp (items)), nr] 206 (0, 0))], ch 204 227 225 items .nilIface]) := by
  refine FnW.enter (n := 76) Tryz.func59 rfl rfl fun w0 R0 hbase => ?_
  subst hbase
  show WC _ _ _ _ _ _ _ ([[(sb, .cells #[(hdp (items)), (lastp (items)), nr] 206 (0, 0))], ch 204 227 225 items .nilIface, R0])
  refine WC.sub (fr' := [(0, _), (1, _), (2, _), (3, _)]) ?_ ⟨rfl, rfl, rfl, rfl, trivial⟩
  refine WC.seq (WC.region ?_)
  refine WL.q (oq_assign rfl) rfl rfl rfl ?_
  refine WL.nil (WE.then_normal (WC.sub (fr' := [(0, _), (1, _), (2, _), (3, _)]) ?_ ⟨rfl, rfl, rfl, rfl, trivial⟩))
  refine WC.seq (WC.region ?_)
  refine WL.q (oq_move rfl) rfl rfl rfl ?_
  refine WL.q (oq_move rfl) rfl rfl rfl ?_
  refine WL.f1 ?_
  refine WL.f1 ?_
  refine WL.callW2 (gotM1 _ sb nr by_ items hn) call115 rfl rfl rfl fun v1_2 Hs1_2 hR1_2 => ?_
  obtain ⟨rfl, rfl⟩ := hR1_2
  refine WL.to2 ?_
  refine WL.q (oq_move rfl) rfl rfl rfl ?_
  refine WL.q (oq_extract rfl rfl) rfl rfl rfl ?_
  refine WL.q (oq_extract rfl rfl) rfl rfl rfl ?_
  refine WL.q (oq_assign rfl) rfl rfl rfl ?_
  refine WL.q (oq_assign rfl) rfl rfl rfl ?_
  refine WL.nil (WE.then_normal (WC.sub (fr' := [(0, _), (1, _), (3, _), (9, _), (10, _)]) ?_ ⟨rfl, rfl, rfl, rfl, rfl, trivial⟩))
  refine WC.seq (WC.seq (WC.region ?_))
  refine WL.q (oq_move rfl) rfl rfl rfl ?_
  refine WL.q (oq_peql Tryz.underlying204 rfl rfl) rfl rfl rfl ?_
  refine WL.nil (WE.then_normal (WC.sub (fr' := [(0, _), (1, _), (3, _), (9, _), (10, _), (19, _)]) ?_ ⟨rfl, rfl, rfl, rfl, rfl, rfl, trivial⟩))
  refine WC.cond rfl (fun q2 => ?_) (fun q2 => ?_)
  ·
    try simp only [Z1, Z2, Z3, Z4, Z5, Z6, Z7, Z8, Z9, Z0] at q2
    refine WC.seq (WC.region ?_)
    refine WL.callA0 (errNew _) call113 rfl rfl rfl fun v3_0 N3_0 hR3_0 hN3_0 => ?_
    obtain ⟨ek, eu, rfl⟩ := hR3_0
    refine WL.q (oq_assign rfl) rfl rfl rfl ?_
    refine WL.nil (WE.then_normal (WC.sub (fr' := [(8, _)]) ?_ ⟨rfl, trivial⟩))
    refine WC.ret (WE.then_ret ?_)
    refine WE.forget hN3_0 ?_
    refine WE.endW2 (.inl rfl) (res1 Tryz.results59 rfl) ?_
    -- end 0
    exact ⟨⟨_, _, rfl⟩, rfl⟩
  ·
    try simp only [Z1, Z2, Z3, Z4, Z5, Z6, Z7, Z8, Z9, Z0] at q2
    simp at q2

/-- (*given.example/pub-tinwright/pub/smithy/middleware.SerializeStep).Swap -/
theorem swapH1 (base sb : Nat) (nr : Value) (id : List UInt8) (fv : Value) (A B : List Nd) (x : Nd) (items : List Nd) (hit : items = A ++ x :: B) (hA : ∀ y ∈ A, y.id ≠ x.id)  : FnW Tryz.prog 61 [Pt sb 0, S x.id, .iface 225 (.agg #[S id, fv])] base [[(sb, .cells #[(hdp (items)), (lastp (items)), nr] 206 (0, 0))], ch 204 227 225 items .nilIface] (fun v Hs => v = .tuple #[wv 225 x, .nilIface] ∧ Hs.flatten.Perm ([[(sb, .cells #[(hdp (A ++ Nd.mk x.b id fv :: B)), (lastp (A ++ Nd.mk x.b id fv :: B)), nr] 206 (0, 0))], ch 204 227 225 (A ++ Nd.mk x.b id fv :: B) .nilIface] : List Hp).flatten) := by
  refine FnW.enter (n := 29) Tryz.func61 rfl rfl fun w0 R0 hbase => ?_
  subst hbase
  show WC _ _ _ _ _ _ _ ([[(sb, .cells #[(hdp (items)), (lastp (items)), nr] 206 (0, 0))], ch 204 227 225 items .nilIface, R0])
  refine WC.sub (fr' := [(0, _), (1, _), (2, _)]) ?_ ⟨rfl, rfl, rfl, trivial⟩
  refine WC.seq (WC.region ?_)
  refine WL.q (oq_assign rfl) rfl rfl rfl ?_
  refine WL.q (oq_assign rfl) rfl rfl rfl ?_
  refine WL.nil (WE.then_normal (WC.sub (fr' := [(0, _), (1, _), (2, _)]) ?_ ⟨rfl, rfl, rfl, trivial⟩))
  refine WC.seq (WC.region ?_)
  refine WL.q (oq_move rfl) rfl rfl rfl ?_
  refine WL.q (oq_move rfl) rfl rfl rfl ?_
  refine WL.f1 ?_
  refine WL.f1 ?_
  refine WL.callW2 (gotH1 _ sb nr x.id A B x items hit rfl hA) call115 rfl rfl rfl fun v1_2 Hs1_2 hR1_2 => ?_
  obtain ⟨rfl, rfl⟩ := hR1_2
  refine WL.to2 ?_
  refine WL.q (oq_move rfl) rfl rfl rfl ?_
  refine WL.q (oq_extract rfl rfl) rfl rfl rfl ?_
  refine WL.q (oq_extract rfl rfl) rfl rfl rfl ?_
  refine WL.q (oq_assign rfl) rfl rfl rfl ?_
  refine WL.q (oq_assign rfl) rfl rfl rfl ?_
  refine WL.nil (WE.then_normal (WC.sub (fr' := [(2, _), (8, _)]) ?_ ⟨rfl, rfl, trivial⟩))
  refine WC.seq (WC.seq (WC.region ?_))
  refine WL.q (oq_move rfl) rfl rfl rfl ?_
  refine WL.q (oq_peql Tryz.underlying204 rfl rfl) rfl rfl rfl ?_
  refine WL.nil (WE.then_normal (WC.sub (fr' := [(2, _), (8, _), (18, _)]) ?_ ⟨rfl, rfl, rfl, trivial⟩))
  refine WC.cond rfl (fun q2 => ?_) (fun q2 => ?_)
  ·
    try simp only [Z1, Z2, Z3, Z4, Z5, Z6, Z7, Z8, Z9, Z0] at q2
    simp at q2
  ·
    try simp only [Z1, Z2, Z3, Z4, Z5, Z6, Z7, Z8, Z9, Z0] at q2
    refine WC.skip (WE.then_normal (WC.sub (fr' := [(2, _), (8, _)]) ?_ ⟨rfl, rfl, trivial⟩))
    refine WC.seq (WC.region ?_)
    refine WL.f1 ?_
    refine WL.reg (reg_out (show (ch 204 227 225 (items) .nilIface).Perm ([(x.b, .cells #[nextOf 204 (B) .nilIface, wv 225 x] 227 (0, 0))] ++ (ch 204 227 225 (A) (.iface 204 (Pt x.b 0)) ++ ch 204 227 225 (B) .nilIface)) from by rw [hit]; exact ch_out _ _ _ _)) ?_
    refine WL.q (oq_move rfl) rfl rfl rfl ?_
    refine WL.q (oq_nilCheck rfl) rfl rfl rfl ?_
    refine WL.q (oq_fieldAddr fld227_1 rfl) rfl rfl rfl ?_
    refine WL.q (oq_load flat127 rfl (.head _) (List.mem_singleton.2 rfl) rfl) rfl rfl rfl ?_
    refine WL.q (oq_assign rfl) rfl rfl rfl ?_
    refine WL.nil (WE.then_normal (WC.sub (fr' := [(2, _), (8, _), (10, _)]) ?_ ⟨rfl, rfl, rfl, trivial⟩))
    refine WC.seq (WC.region ?_)
    refine WL.q (oq_move rfl) rfl rfl rfl ?_
    refine WL.q (oq_move rfl) rfl rfl rfl ?_
    refine WL.q (oq_nilCheck rfl) rfl rfl rfl ?_
    refine WL.q (oq_fieldAddr fld227_1 rfl) rfl rfl rfl ?_
    refine WL.store1 #[_, _] ty127 rfl rfl (by first | rfl | exact OwS.one one_) (Nat.lt_of_lt_of_le (Nat.lt_succ_self _) (Nat.le_of_ble_eq_true rfl)) rfl rfl ?_
    refine WL.nil (WE.then_normal (WC.sub (fr' := [(10, _)]) ?_ ⟨rfl, trivial⟩))
    refine WC.seq (WC.region ?_)
    refine WL.q (oq_move rfl) rfl rfl rfl ?_
    refine WL.q (oq_assign rfl) rfl rfl rfl ?_
    refine WL.q (oq_assign rfl) rfl rfl rfl ?_
    refine WL.nil (WE.then_normal (WC.sub (fr' := [(6, _), (7, _)]) ?_ ⟨rfl, rfl, trivial⟩))
    refine WC.ret ?_
    refine WE.f3 ?_
    refine WE.f2 ?_
    refine WE.f2 ?_
    refine WE.f3 ?_
    refine WE.endW3 (.inl rfl) (res2 Tryz.results61 rfl rfl) ?_
    -- end 0
    exact ⟨rfl, perm2 (by rw [hit, ← hdp_b A B x id fv, ← lastp_b A B x id fv]) (by simp only [List.flatten_cons, List.flatten_nil, List.append_nil]; exact ch_del A (Nd.mk x.b id fv) B _)⟩

/-- (*given.example/pub-tinwright/pub/smithy/middleware.SerializeStep).Swap -/
theorem swapN1 (base sb : Nat) (nr : Value) (by_ : List UInt8) (m : Value) (items : List Nd) (hn : ∀ y ∈ items, y.id ≠ by_) : FnW Tryz.prog 61 [Pt sb 0, S by_, m] base [[(sb, .cells #[(hdp (items)), (lastp (items)), nr] 206 (0, 0))], ch 204 227 225 items .nilIface] (fun v Hs => (∃ k u, v = .tuple #[.nilIface, .iface k u]) ∧ Hs = [[(sb, .cells #[(hdp (items)), (lastp (items)), nr] 206 (0, 0))], ch 204 227 225 items .nilIface]) := by
  refine FnW.enter (n := 29) Tryz.func61 rfl rfl fun w0 R0 hbase => ?_
  subst hbase
  show WC _ _ _ _ _ _ _ ([[(sb, .cells #[(hdp (items)), (lastp (items)), nr] 206 (0, 0))], ch 204 227 225 items .nilIface, R0])
  refine WC.sub (fr' := [(0, _), (1, _), (2, _)]) ?_ ⟨rfl, rfl, rfl, trivial⟩
  refine WC.seq (WC.region ?_)
  refine WL.q (oq_assign rfl) rfl rfl rfl ?_
  refine WL.q (oq_assign rfl) rfl rfl rfl ?_
  refine WL.nil (WE.then_normal (WC.sub (fr' := [(0, _), (1, _), (2, _)]) ?_ ⟨rfl, rfl, rfl, trivial⟩))
  refine WC.seq (WC.region ?_)
  refine WL.q (oq_move rfl) rfl rfl rfl ?_
  refine WL.q (oq_move rfl) rfl rfl rfl ?_
  refine WL.f1 ?_
  refine WL.f1 ?_
  refine WL.callW2 (gotM1 _ sb nr by_ items hn) call115 rfl rfl rfl fun v1_2 Hs1_2 hR1_2 => ?_
  obtain ⟨rfl, rfl⟩ := hR1_2
  refine WL.to2 ?_
  refine WL.q (oq_move rfl) rfl rfl rfl ?_
  refine WL.q (oq_extract rfl rfl) rfl rfl rfl ?_
  refine WL.q (oq_extract rfl rfl) rfl rfl rfl ?_
  refine WL.q (oq_assign rfl) rfl rfl rfl ?_
  refine WL.q (oq_assign rfl) rfl rfl rfl ?_
  refine WL.nil (WE.then_normal (WC.sub (fr' := [(2, _), (8, _)]) ?_ ⟨rfl, rfl, trivial⟩))
  refine WC.seq (WC.seq (WC.region ?_))
  refine WL.q (oq_move rfl) rfl rfl rfl ?_
  refine WL.q (oq_peql Tryz.underlying204 rfl rfl) rfl rfl rfl ?_
  refine WL.nil (WE.then_normal (WC.sub (fr' := [(2, _), (8, _), (18, _)]) ?_ ⟨rfl, rfl, rfl, trivial⟩))
  refine WC.cond rfl (fun q2 => ?_) (fun q2 => ?_)
  ·
    try simp only [Z1, Z2, Z3, Z4, Z5, Z6, Z7, Z8, Z9, Z0] at q2
    refine WC.seq (WC.region ?_)
    refine WL.callA0 (errNew _) call113 rfl rfl rfl fun v3_0 N3_0 hR3_0 hN3_0 => ?_
    obtain ⟨ek, eu, rfl⟩ := hR3_0
    refine WL.q (oq_assign rfl) rfl rfl rfl ?_
    refine WL.q (oq_assign rfl) rfl rfl rfl ?_
    refine WL.nil (WE.then_normal (WC.sub (fr' := [(6, _), (7, _)]) ?_ ⟨rfl, rfl, trivial⟩))
    refine WC.ret (WE.then_ret ?_)
    refine WE.forget hN3_0 ?_
    refine WE.endW2 (.inl rfl) (res2 Tryz.results61 rfl rfl) ?_
    -- end 0
    exact ⟨⟨_, _, rfl⟩, rfl⟩
  ·
    try simp only [Z1, Z2, Z3, Z4, Z5, Z6, Z7, Z8, Z9, Z0] at q2
    simp at q2

/-- (*given.example/pub-tinwright/pub/smithy/middleware.BuildStep).Insert -/
theorem insF2 (base sb : Nat) (x : Nd) (items : List Nd) (id : List UInt8) (fv : Value) (B : List Nd) (hit : items = [] ++ x :: B) : FnW Tryz.prog 74 [Pt sb 0, .iface 232 (.agg #[S id, fv]), S x.id, I 1] base [[(sb, .cells #[(hdp (items)), (lastp (items))] 209 (0, 0))], ch 207 234 232 items .nilIface] (fun v Hs => v = .nilIface ∧ ∃ e, base ≤ e ∧ Hs.flatten.Perm ([[(sb, .cells #[(hdp (Nd.mk e id fv :: items)), (lastp (Nd.mk e id fv :: items))] 209 (0, 0))], ch 207 234 232 (Nd.mk e id fv :: items) .nilIface] : List Hp).flatten) := by
  refine FnW.enter (n := 76) Tryz.func74 rfl rfl fun w0 R0 hbase => ?_
  subst hbase
  show WC _ _ _ _ _ _ _ ([[(sb, .cells #[(hdp (items)), (lastp (items))] 209 (0, 0))], ch 207 234 232 items .nilIface, R0])
  refine WC.sub (fr' := [(0, _), (1, _), (2, _), (3, _)]) ?_ ⟨rfl, rfl, rfl, rfl, trivial⟩
  refine WC.seq (WC.region ?_)
  refine WL.q (oq_assign rfl) rfl rfl rfl ?_
  refine WL.nil (WE.then_normal (WC.sub (fr' := [(0, _), (1, _), (2, _), (3, _)]) ?_ ⟨rfl, rfl, rfl, rfl, trivial⟩))
  refine WC.seq (WC.region ?_)
  refine WL.q (oq_move rfl) rfl rfl rfl ?_
  refine WL.q (oq_move rfl) rfl rfl rfl ?_
  refine WL.f1 ?_
  refine WL.f1 ?_
  refine WL.callW2 (gotH2 _ sb x.id [] B x items hit rfl (by simp)) call116 rfl rfl rfl fun v1_2 Hs1_2 hR1_2 => ?_
  obtain ⟨rfl, rfl⟩ := hR1_2
  refine WL.to2 ?_
  refine WL.q (oq_move rfl) rfl rfl rfl ?_
  refine WL.q (oq_extract rfl rfl) rfl rfl rfl ?_
  refine WL.q (oq_extract rfl rfl) rfl rfl rfl ?_
  refine WL.q (oq_assign rfl) rfl rfl rfl ?_
  refine WL.q (oq_assign rfl) rfl rfl rfl ?_
  refine WL.nil (WE.then_normal (WC.sub (fr' := [(0, _), (1, _), (3, _), (9, _), (10, _)]) ?_ ⟨rfl, rfl, rfl, rfl, rfl, trivial⟩))
  refine WC.seq (WC.seq (WC.region ?_))
  refine WL.q (oq_move rfl) rfl rfl rfl ?_
  refine WL.q (oq_peql Tryz.underlying207 rfl rfl) rfl rfl rfl ?_
  refine WL.nil (WE.then_normal (WC.sub (fr' := [(0, _), (1, _), (3, _), (9, _), (10, _), (19, _)]) ?_ ⟨rfl, rfl, rfl, rfl, rfl, rfl, trivial⟩))
  refine WC.cond rfl (fun q2 => ?_) (fun q2 => ?_)
  ·
    try simp only [Z1, Z2, Z3, Z4, Z5, Z6, Z7, Z8, Z9, Z0] at q2
    first | (simp at q2; done) | (simp at q4; done) | (simp at q5; done) | (simp [nextOf, nilI] at q8; done) | (exfalso; omega)
  ·
    try simp only [Z1, Z2, Z3, Z4, Z5, Z6, Z7, Z8, Z9, Z0] at q2
    refine WC.skip (WE.then_normal (WC.sub (fr' := [(0, _), (1, _), (3, _), (9, _), (10, _)]) ?_ ⟨rfl, rfl, rfl, rfl, rfl, trivial⟩))
    refine WC.seq (WC.seq (WC.region ?_))
    refine WL.q (oq_move rfl) rfl rfl rfl ?_
    refine WL.q (oq_eql rfl rfl) rfl rfl rfl ?_
    refine WL.nil (WE.then_normal (WC.sub (fr' := [(0, _), (1, _), (9, _), (10, _), (22, _)]) ?_ ⟨rfl, rfl, rfl, rfl, rfl, trivial⟩))
    refine WC.cond rfl (fun q4 => ?_) (fun q4 => ?_)
    ·
      try simp only [Z1, Z2, Z3, Z4, Z5, Z6, Z7, Z8, Z9, Z0] at q4
      refine WC.seq (WC.region ?_)
      refine WL.q (oq_move rfl) rfl rfl rfl ?_
      refine WL.q (oq_peql Tryz.underlying207 rfl rfl) rfl rfl rfl ?_
      refine WL.nil (WE.then_normal (WC.sub (fr' := [(0, _), (1, _), (9, _), (10, _), (24, _)]) ?_ ⟨rfl, rfl, rfl, rfl, rfl, trivial⟩))
      refine WC.cond rfl (fun q5 => ?_) (fun q5 => ?_)
      ·
        try simp only [Z1, Z2, Z3, Z4, Z5, Z6, Z7, Z8, Z9, Z0] at q5
        have hd0 : hdp items = Pt x.b 0 := by rw [hit]; rfl
        rw [hd0]
        refine WC.region ?_
        refine WL.q (oq_move rfl) rfl rfl rfl ?_
        refine WL.q (oq_move rfl) rfl rfl rfl ?_
        refine WL.q (oq_nilCheck rfl) rfl rfl rfl ?_
        refine WL.q (oq_fieldAddr fld209_0 rfl) rfl rfl rfl ?_
        refine WL.q (oq_load flat207 rfl (.head _) (List.mem_singleton.2 rfl) rfl) rfl rfl rfl ?_
        refine WL.q (oq_makeI conc207 rfl) rfl rfl rfl ?_
        refine WL.q (oq_move rfl) rfl rfl rfl ?_
        refine WL.q (oq_build #[_, _] str234 ty234 rfl rfl) rfl rfl rfl ?_
        refine WL.box rfl rfl rfl fun e he => ?_
        refine WL.q (oq_nilCheck rfl) rfl rfl rfl ?_
        refine WL.q (oq_fieldAddr fld209_0 rfl) rfl rfl rfl ?_
        refine WL.f1 ?_
        refine WL.store1 #[_, _] ty207 rfl rfl (by first | rfl | exact OwS.one one_) (Nat.lt_of_lt_of_le (Nat.lt_succ_self _) (Nat.le_of_ble_eq_true rfl)) rfl rfl ?_
        refine WL.nil (WE.then_normal (WC.sub (fr' := []) ?_ trivial))
        refine WC.seq (WC.region ?_)
        refine WL.q (oq_assign rfl) rfl rfl rfl ?_
        refine WL.nil (WE.then_normal (WC.sub (fr' := [(8, _)]) ?_ ⟨rfl, trivial⟩))
        refine WC.ret ?_
        refine WE.endW3 (.inl rfl) (res1 Tryz.results74 rfl) ?_
        -- end 0
        exact ⟨rfl, e, he, perm2 (by rw [lastp_ne _ _ (by rw [hit]; simp)]; rfl) (by simp only [List.flatten_cons, List.flatten_nil, List.append_nil]; exact .of_eq (ch_front hit (Nd.mk e id fv)))⟩
      ·
        try simp only [Z1, Z2, Z3, Z4, Z5, Z6, Z7, Z8, Z9, Z0] at q5
        first | (simp at q2; done) | (simp at q4; done) | (simp at q5; done) | (simp [nextOf, nilI] at q8; done) | (exfalso; omega)
    ·
      try simp only [Z1, Z2, Z3, Z4, Z5, Z6, Z7, Z8, Z9, Z0] at q4
      first | (simp at q2; done) | (simp at q4; done) | (simp at q5; done) | (simp [nextOf, nilI] at q8; done) | (exfalso; omega)

/-- (*given.example/pub-tinwright/pub/smithy/middleware.BuildStep).Insert -/
theorem insM2 (base sb : Nat) (x : Nd) (items : List Nd) (id : List UInt8) (fv : Value) (A2 B : List Nd) (p : Nd) (hit : items = (A2 ++ [p]) ++ x :: B) (hA : ∀ y ∈ A2 ++ [p], y.id ≠ x.id) : FnW Tryz.prog 74 [Pt sb 0, .iface 232 (.agg #[S id, fv]), S x.id, I 1] base [[(sb, .cells #[(hdp (items)), (lastp (items))] 209 (0, 0))], ch 207 234 232 items .nilIface] (fun v Hs => v = .nilIface ∧ ∃ e, base ≤ e ∧ Hs.flatten.Perm ([[(sb, .cells #[(hdp (A2 ++ p :: Nd.mk e id fv :: x :: B)), (lastp (A2 ++ p :: Nd.mk e id fv :: x :: B))] 209 (0, 0))], ch 207 234 232 (A2 ++ p :: Nd.mk e id fv :: x :: B) .nilIface] : List Hp).flatten) := by
  have hit2 : items = A2 ++ p :: x :: B := by rw [hit]; simp
  refine FnW.enter (n := 76) Tryz.func74 rfl rfl fun w0 R0 hbase => ?_
  subst hbase
  show WC _ _ _ _ _ _ _ ([[(sb, .cells #[(hdp (items)), (lastp (items))] 209 (0, 0))], ch 207 234 232 items .nilIface, R0])
  refine WC.sub (fr' := [(0, _), (1, _), (2, _), (3, _)]) ?_ ⟨rfl, rfl, rfl, rfl, trivial⟩
  refine WC.seq (WC.region ?_)
  refine WL.q (oq_assign rfl) rfl rfl rfl ?_
  refine WL.nil (WE.then_normal (WC.sub (fr' := [(0, _), (1, _), (2, _), (3, _)]) ?_ ⟨rfl, rfl, rfl, rfl, trivial⟩))
  refine WC.seq (WC.region ?_)
  refine WL.q (oq_move rfl) rfl rfl rfl ?_
  refine WL.q (oq_move rfl) rfl rfl rfl ?_
  refine WL.f1 ?_
  refine WL.f1 ?_
  refine WL.callW2 (gotH2 _ sb x.id (A2 ++ [p]) B x items hit rfl hA) call116 rfl rfl rfl fun v1_2 Hs1_2 hR1_2 => ?_
  obtain ⟨rfl, rfl⟩ := hR1_2
  rw [lastp_snoc]
  refine WL.to2 ?_
  refine WL.q (oq_move rfl) rfl rfl rfl ?_
  refine WL.q (oq_extract rfl rfl) rfl rfl rfl ?_
  refine WL.q (oq_extract rfl rfl) rfl rfl rfl ?_
  refine WL.q (oq_assign rfl) rfl rfl rfl ?_
  refine WL.q (oq_assign rfl) rfl rfl rfl ?_
  refine WL.nil (WE.then_normal (WC.sub (fr' := [(0, _), (1, _), (3, _), (9, _), (10, _)]) ?_ ⟨rfl, rfl, rfl, rfl, rfl, trivial⟩))
  refine WC.seq (WC.seq (WC.region ?_))
  refine WL.q (oq_move rfl) rfl rfl rfl ?_
  refine WL.q (oq_peql Tryz.underlying207 rfl rfl) rfl rfl rfl ?_
  refine WL.nil (WE.then_normal (WC.sub (fr' := [(0, _), (1, _), (3, _), (9, _), (10, _), (19, _)]) ?_ ⟨rfl, rfl, rfl, rfl, rfl, rfl, trivial⟩))
  refine WC.cond rfl (fun q2 => ?_) (fun q2 => ?_)
  ·
    try simp only [Z1, Z2, Z3, Z4, Z5, Z6, Z7, Z8, Z9, Z0] at q2
    first | (simp at q2; done) | (simp at q4; done) | (simp at q5; done) | (simp [nextOf, nilI] at q8; done) | (exfalso; omega)
  ·
    try simp only [Z1, Z2, Z3, Z4, Z5, Z6, Z7, Z8, Z9, Z0] at q2
    refine WC.skip (WE.then_normal (WC.sub (fr' := [(0, _), (1, _), (3, _), (9, _), (10, _)]) ?_ ⟨rfl, rfl, rfl, rfl, rfl, trivial⟩))
    refine WC.seq (WC.seq (WC.region ?_))
    refine WL.q (oq_move rfl) rfl rfl rfl ?_
    refine WL.q (oq_eql rfl rfl) rfl rfl rfl ?_
    refine WL.nil (WE.then_normal (WC.sub (fr' := [(0, _), (1, _), (9, _), (10, _), (22, _)]) ?_ ⟨rfl, rfl, rfl, rfl, rfl, trivial⟩))
    refine WC.cond rfl (fun q4 => ?_) (fun q4 => ?_)
    ·
      try simp only [Z1, Z2, Z3, Z4, Z5, Z6, Z7, Z8, Z9, Z0] at q4
      refine WC.seq (WC.region ?_)
      refine WL.q (oq_move rfl) rfl rfl rfl ?_
      refine WL.q (oq_peql Tryz.underlying207 rfl rfl) rfl rfl rfl ?_
      refine WL.nil (WE.then_normal (WC.sub (fr' := [(0, _), (1, _), (9, _), (10, _), (24, _)]) ?_ ⟨rfl, rfl, rfl, rfl, rfl, trivial⟩))
      refine WC.cond rfl (fun q5 => ?_) (fun q5 => ?_)
      ·
        try simp only [Z1, Z2, Z3, Z4, Z5, Z6, Z7, Z8, Z9, Z0] at q5
        first | (simp at q2; done) | (simp at q4; done) | (simp at q5; done) | (simp [nextOf, nilI] at q8; done) | (exfalso; omega)
      ·
        try simp only [Z1, Z2, Z3, Z4, Z5, Z6, Z7, Z8, Z9, Z0] at q5
        refine WC.region ?_
        refine WL.f1 ?_
        refine WL.reg (reg_out (show (ch 207 234 232 (items) .nilIface).Perm ([(p.b, .cells #[nextOf 207 (x :: B) .nilIface, wv 232 p] 234 (0, 0))] ++ (ch 207 234 232 (A2) (.iface 207 (Pt p.b 0)) ++ ch 207 234 232 (x :: B) .nilIface)) from by rw [hit2]; exact ch_out _ _ _ _)) ?_
        refine WL.q (oq_move rfl) rfl rfl rfl ?_
        refine WL.q (oq_move rfl) rfl rfl rfl ?_
        refine WL.q (oq_makeI conc207 rfl) rfl rfl rfl ?_
        refine WL.q (oq_move rfl) rfl rfl rfl ?_
        refine WL.q (oq_build #[_, _] str234 ty234 rfl rfl) rfl rfl rfl ?_
        refine WL.box rfl rfl rfl fun e he => ?_
        refine WL.q (oq_makeI conc207 rfl) rfl rfl rfl ?_
        refine WL.q (oq_nilCheck rfl) rfl rfl rfl ?_
        refine WL.q (oq_fieldAddr fld234_0 rfl) rfl rfl rfl ?_
        refine WL.f1 ?_
        refine WL.store1 #[_, _] ty151 rfl rfl (by first | rfl | exact OwS.one one_) (Nat.lt_of_lt_of_le (Nat.lt_succ_self _) (Nat.le_of_ble_eq_true rfl)) rfl rfl ?_
        refine WL.nil (WE.then_normal (WC.sub (fr' := []) ?_ trivial))
        refine WC.seq (WC.region ?_)
        refine WL.q (oq_assign rfl) rfl rfl rfl ?_
        refine WL.nil (WE.then_normal (WC.sub (fr' := [(8, _)]) ?_ ⟨rfl, trivial⟩))
        refine WC.ret ?_
        refine WE.f4 ?_
        refine WE.f3 ?_
        refine WE.f3 ?_
        refine WE.f3 ?_
        refine WE.f4 ?_
        refine WE.endW4 (.inl rfl) (res1 Tryz.results74 rfl) ?_
        -- end 0
        exact ⟨rfl, e, he, perm2 (by rw [hit2, hdp_cons A2 p (x :: B) (Nd.mk e id fv :: x :: B), lastp_cons, lastp_cons]; rfl) (by simp only [List.flatten_cons, List.flatten_nil, List.append_nil]; exact ch_ins A2 p (Nd.mk e id fv) (x :: B) _)⟩
    ·
      try simp only [Z1, Z2, Z3, Z4, Z5, Z6, Z7, Z8, Z9, Z0] at q4
      first | (simp at q2; done) | (simp at q4; done) | (simp at q5; done) | (simp [nextOf, nilI] at q8; done) | (exfalso; omega)

/-- (*given.example/pub-tinwright/pub/smithy/middleware.BuildStep).Insert -/
theorem insE2 (base sb : Nat) (x : Nd) (items : List Nd) (id : List UInt8) (fv : Value) (A : List Nd) (hit : items = A ++ x :: []) (hA : ∀ y ∈ A, y.id ≠ x.id) : FnW Tryz.prog 74 [Pt sb 0, .iface 232 (.agg #[S id, fv]), S x.id, I 0] base [[(sb, .cells #[(hdp (items)), (lastp (items))] 209 (0, 0))], ch 207 234 232 items .nilIface] (fun v Hs => v = .nilIface ∧ ∃ e, base ≤ e ∧ Hs.flatten.Perm ([[(sb, .cells #[(hdp (A ++ x :: Nd.mk e id fv :: [])), (lastp (A ++ x :: Nd.mk e id fv :: []))] 209 (0, 0))], ch 207 234 232 (A ++ x :: Nd.mk e id fv :: []) .nilIface] : List Hp).flatten) := by
  refine FnW.enter (n := 76) Tryz.func74 rfl rfl fun w0 R0 hbase => ?_
  subst hbase
  show WC _ _ _ _ _ _ _ ([[(sb, .cells #[(hdp (items)), (lastp (items))] 209 (0, 0))], ch 207 234 232 items .nilIface, R0])
  refine WC.sub (fr' := [(0, _), (1, _), (2, _), (3, _)]) ?_ ⟨rfl, rfl, rfl, rfl, trivial⟩
  refine WC.seq (WC.region ?_)
  refine WL.q (oq_assign rfl) rfl rfl rfl ?_
  refine WL.nil (WE.then_normal (WC.sub (fr' := [(0, _), (1, _), (2, _), (3, _)]) ?_ ⟨rfl, rfl, rfl, rfl, trivial⟩))
  refine WC.seq (WC.region ?_)
  refine WL.q (oq_move rfl) rfl rfl rfl ?_
  refine WL.q (oq_move rfl) rfl rfl rfl ?_
  refine WL.f1 ?_
  refine WL.f1 ?_
  refine WL.callW2 (gotH2 _ sb x.id A [] x items hit rfl hA) call116 rfl rfl rfl fun v1_2 Hs1_2 hR1_2 => ?_
  obtain ⟨rfl, rfl⟩ := hR1_2
  refine WL.to2 ?_
  refine WL.q (oq_move rfl) rfl rfl rfl ?_
  refine WL.q (oq_extract rfl rfl) rfl rfl rfl ?_
  refine WL.q (oq_extract rfl rfl) rfl rfl rfl ?_
  refine WL.q (oq_assign rfl) rfl rfl rfl ?_
  refine WL.q (oq_assign rfl) rfl rfl rfl ?_
  refine WL.nil (WE.then_normal (WC.sub (fr' := [(0, _), (1, _), (3, _), (9, _), (10, _)]) ?_ ⟨rfl, rfl, rfl, rfl, rfl, trivial⟩))
  refine WC.seq (WC.seq (WC.region ?_))
  refine WL.q (oq_move rfl) rfl rfl rfl ?_
  refine WL.q (oq_peql Tryz.underlying207 rfl rfl) rfl rfl rfl ?_
  refine WL.nil (WE.then_normal (WC.sub (fr' := [(0, _), (1, _), (3, _), (9, _), (10, _), (19, _)]) ?_ ⟨rfl, rfl, rfl, rfl, rfl, rfl, trivial⟩))
  refine WC.cond rfl (fun q2 => ?_) (fun q2 => ?_)
  ·
    try simp only [Z1, Z2, Z3, Z4, Z5, Z6, Z7, Z8, Z9, Z0] at q2
    first | (simp at q2; done) | (simp at q4; done) | (simp at q5; done) | (simp [nextOf, nilI] at q8; done) | (exfalso; omega)
  ·
    try simp only [Z1, Z2, Z3, Z4, Z5, Z6, Z7, Z8, Z9, Z0] at q2
    refine WC.skip (WE.then_normal (WC.sub (fr' := [(0, _), (1, _), (3, _), (9, _), (10, _)]) ?_ ⟨rfl, rfl, rfl, rfl, rfl, trivial⟩))
    refine WC.seq (WC.seq (WC.region ?_))
    refine WL.q (oq_move rfl) rfl rfl rfl ?_
    refine WL.q (oq_eql rfl rfl) rfl rfl rfl ?_
    refine WL.nil (WE.then_normal (WC.sub (fr' := [(0, _), (1, _), (9, _), (10, _), (22, _)]) ?_ ⟨rfl, rfl, rfl, rfl, rfl, trivial⟩))
    refine WC.cond rfl (fun q4 => ?_) (fun q4 => ?_)
    ·
      try simp only [Z1, Z2, Z3, Z4, Z5, Z6, Z7, Z8, Z9, Z0] at q4
      first | (simp at q2; done) | (simp at q4; done) | (simp at q5; done) | (simp [nextOf, nilI] at q8; done) | (exfalso; omega)
    ·
      try simp only [Z1, Z2, Z3, Z4, Z5, Z6, Z7, Z8, Z9, Z0] at q4
      refine WC.seq (WC.region ?_)
      refine WL.q (oq_move rfl) rfl rfl rfl ?_
      refine WL.q (oq_nilCheck rfl) rfl rfl rfl ?_
      refine WL.q (oq_fieldAddr fld234_0 rfl) rfl rfl rfl ?_
      refine WL.q (oq_load flat151 rfl (.tail _ (.head _)) (mem_of hit) rfl) rfl rfl rfl ?_
      refine WL.q (oq_ieql Tryz.underlying151 rfl (.inl rfl)) rfl rfl rfl ?_
      refine WL.nil (WE.then_normal (WC.sub (fr' := [(0, _), (1, _), (9, _), (49, _)]) ?_ ⟨rfl, rfl, rfl, rfl, trivial⟩))
      refine WC.cond rfl (fun q8 => ?_) (fun q8 => ?_)
      ·
        try simp only [Z1, Z2, Z3, Z4, Z5, Z6, Z7, Z8, Z9, Z0] at q8
        refine WC.seq (WC.region ?_)
        refine WL.q (oq_move rfl) rfl rfl rfl ?_
        refine WL.q (oq_build #[_, _] str234 ty234 rfl rfl) rfl rfl rfl ?_
        refine WL.box rfl rfl rfl fun e he => ?_
        refine WL.q (oq_assign rfl) rfl rfl rfl ?_
        refine WL.nil (WE.then_normal (WC.sub (fr' := [(0, _), (11, _)]) ?_ ⟨rfl, rfl, trivial⟩))
        refine WC.seq ?_
        have hl0 : lastp items = Pt x.b 0 := by rw [hit, lastp_snoc]
        rw [hl0]
        refine WC.region ?_
        refine WL.f2 ?_
        refine WL.reg (reg_out (show (ch 207 234 232 (items) .nilIface).Perm ([(x.b, .cells #[nextOf 207 ([]) .nilIface, wv 232 x] 234 (0, 0))] ++ (ch 207 234 232 (A) (.iface 207 (Pt x.b 0)) ++ ch 207 234 232 ([]) .nilIface)) from by rw [hit]; exact ch_out _ _ _ _)) ?_
        refine WL.q (oq_move rfl) rfl rfl rfl ?_
        refine WL.q (oq_nilCheck rfl) rfl rfl rfl ?_
        refine WL.q (oq_fieldAddr fld209_1 rfl) rfl rfl rfl ?_
        refine WL.q (oq_load flat207 rfl (.tail _ (.tail _ (.tail _ (.head _)))) (List.mem_singleton.2 rfl) rfl) rfl rfl rfl ?_
        refine WL.q (oq_move rfl) rfl rfl rfl ?_
        refine WL.q (oq_makeI conc207 rfl) rfl rfl rfl ?_
        refine WL.q (oq_nilCheck rfl) rfl rfl rfl ?_
        refine WL.q (oq_fieldAddr fld234_0 rfl) rfl rfl rfl ?_
        refine WL.store1 #[_, _] ty151 rfl rfl (by first | rfl | exact OwS.one one_) (Nat.lt_of_lt_of_le (Nat.lt_succ_self _) (Nat.le_of_ble_eq_true rfl)) rfl rfl ?_
        refine WL.nil (WE.then_normal (WC.sub (fr' := [(0, _), (11, _)]) ?_ ⟨rfl, rfl, trivial⟩))
        refine WC.region ?_
        refine WL.q (oq_move rfl) rfl rfl rfl ?_
        refine WL.q (oq_move rfl) rfl rfl rfl ?_
        refine WL.q (oq_nilCheck rfl) rfl rfl rfl ?_
        refine WL.q (oq_fieldAddr fld209_1 rfl) rfl rfl rfl ?_
        refine WL.f3 ?_
        refine WL.store1 #[_, _] ty207 rfl rfl (by first | rfl | exact OwS.one one_) (Nat.lt_of_lt_of_le (Nat.lt_succ_self _) (Nat.le_of_ble_eq_true rfl)) rfl rfl ?_
        refine WL.nil (WE.then_normal (WC.sub (fr' := []) ?_ trivial))
        refine WC.seq (WC.region ?_)
        refine WL.q (oq_assign rfl) rfl rfl rfl ?_
        refine WL.nil (WE.then_normal (WC.sub (fr' := [(8, _)]) ?_ ⟨rfl, trivial⟩))
        refine WC.ret ?_
        refine WE.f4 ?_
        refine WE.f3 ?_
        refine WE.f4 ?_
        refine WE.f4 ?_
        refine WE.f4 ?_
        refine WE.endW4 (.inl rfl) (res1 Tryz.results74 rfl) ?_
        -- end 0
        exact ⟨rfl, e, he, perm2 (by rw [hit, hdp_cons A x [] [Nd.mk e id fv], lastp_cons]; rfl) (by simp only [List.flatten_cons, List.flatten_nil, List.append_nil]; exact ch_ins A x (Nd.mk e id fv) [] _)⟩
      ·
        try simp only [Z1, Z2, Z3, Z4, Z5, Z6, Z7, Z8, Z9, Z0] at q8
        first | (simp at q2; done) | (simp at q4; done) | (simp at q5; done) | (simp [nextOf, nilI] at q8; done) | (exfalso; omega)

/-- (*given.example/pub-tinwright/pub/smithy/middleware.BuildStep).Insert -/
theorem insA2 (base sb : Nat) (x : Nd) (items : List Nd) (id : List UInt8) (fv : Value) (A B : List Nd) (y : Nd) (hit : items = A ++ x :: (y :: B)) (hA : ∀ y ∈ A, y.id ≠ x.id) : FnW Tryz.prog 74 [Pt sb 0, .iface 232 (.agg #[S id, fv]), S x.id, I 0] base [[(sb, .cells #[(hdp (items)), (lastp (items))] 209 (0, 0))], ch 207 234 232 items .nilIface] (fun v Hs => v = .nilIface ∧ ∃ e, base ≤ e ∧ Hs.flatten.Perm ([[(sb, .cells #[(hdp (A ++ x :: Nd.mk e id fv :: y :: B)), (lastp (A ++ x :: Nd.mk e id fv :: y :: B))] 209 (0, 0))], ch 207 234 232 (A ++ x :: Nd.mk e id fv :: y :: B) .nilIface] : List Hp).flatten) := by
  refine FnW.enter (n := 76) Tryz.func74 rfl rfl fun w0 R0 hbase => ?_
  subst hbase
  show WC _ _ _ _ _ _ _ ([[(sb, .cells #[(hdp (items)), (lastp (items))] 209 (0, 0))], ch 207 234 232 items .nilIface, R0])
  refine WC.sub (fr' := [(0, _), (1, _), (2, _), (3, _)]) ?_ ⟨rfl, rfl, rfl, rfl, trivial⟩
  refine WC.seq (WC.region ?_)
  refine WL.q (oq_assign rfl) rfl rfl rfl ?_
  refine WL.nil (WE.then_normal (WC.sub (fr' := [(0, _), (1, _), (2, _), (3, _)]) ?_ ⟨rfl, rfl, rfl, rfl, trivial⟩))
  refine WC.seq (WC.region ?_)
  refine WL.q (oq_move rfl) rfl rfl rfl ?_
  refine WL.q (oq_move rfl) rfl rfl rfl ?_
  refine WL.f1 ?_
  refine WL.f1 ?_
  refine WL.callW2 (gotH2 _ sb x.id A (y :: B) x items hit rfl hA) call116 rfl rfl rfl fun v1_2 Hs1_2 hR1_2 => ?_
  obtain ⟨rfl, rfl⟩ := hR1_2
  refine WL.to2 ?_
  refine WL.q (oq_move rfl) rfl rfl rfl ?_
  refine WL.q (oq_extract rfl rfl) rfl rfl rfl ?_
  refine WL.q (oq_extract rfl rfl) rfl rfl rfl ?_
  refine WL.q (oq_assign rfl) rfl rfl rfl ?_
  refine WL.q (oq_assign rfl) rfl rfl rfl ?_
  refine WL.nil (WE.then_normal (WC.sub (fr' := [(0, _), (1, _), (3, _), (9, _), (10, _)]) ?_ ⟨rfl, rfl, rfl, rfl, rfl, trivial⟩))
  refine WC.seq (WC.seq (WC.region ?_))
  refine WL.q (oq_move rfl) rfl rfl rfl ?_
  refine WL.q (oq_peql Tryz.underlying207 rfl rfl) rfl rfl rfl ?_
  refine WL.nil (WE.then_normal (WC.sub (fr' := [(0, _), (1, _), (3, _), (9, _), (10, _), (19, _)]) ?_ ⟨rfl, rfl, rfl, rfl, rfl, rfl, trivial⟩))
  refine WC.cond rfl (fun q2 => ?_) (fun q2 => ?_)
  ·
    try simp only [Z1, Z2, Z3, Z4, Z5, Z6, Z7, Z8, Z9, Z0] at q2
    first | (simp at q2; done) | (simp at q4; done) | (simp at q5; done) | (simp [nextOf, nilI] at q8; done) | (exfalso; omega)
  ·
    try simp only [Z1, Z2, Z3, Z4, Z5, Z6, Z7, Z8, Z9, Z0] at q2
    refine WC.skip (WE.then_normal (WC.sub (fr' := [(0, _), (1, _), (3, _), (9, _), (10, _)]) ?_ ⟨rfl, rfl, rfl, rfl, rfl, trivial⟩))
    refine WC.seq (WC.seq (WC.region ?_))
    refine WL.q (oq_move rfl) rfl rfl rfl ?_
    refine WL.q (oq_eql rfl rfl) rfl rfl rfl ?_
    refine WL.nil (WE.then_normal (WC.sub (fr' := [(0, _), (1, _), (9, _), (10, _), (22, _)]) ?_ ⟨rfl, rfl, rfl, rfl, rfl, trivial⟩))
    refine WC.cond rfl (fun q4 => ?_) (fun q4 => ?_)
    ·
      try simp only [Z1, Z2, Z3, Z4, Z5, Z6, Z7, Z8, Z9, Z0] at q4
      first | (simp at q2; done) | (simp at q4; done) | (simp at q5; done) | (simp [nextOf, nilI] at q8; done) | (exfalso; omega)
    ·
      try simp only [Z1, Z2, Z3, Z4, Z5, Z6, Z7, Z8, Z9, Z0] at q4
      refine WC.seq (WC.region ?_)
      refine WL.q (oq_move rfl) rfl rfl rfl ?_
      refine WL.q (oq_nilCheck rfl) rfl rfl rfl ?_
      refine WL.q (oq_fieldAddr fld234_0 rfl) rfl rfl rfl ?_
      refine WL.q (oq_load flat151 rfl (.tail _ (.head _)) (mem_of hit) rfl) rfl rfl rfl ?_
      refine WL.q (oq_ieql Tryz.underlying151 rfl (.inr ⟨_, _, rfl⟩)) rfl rfl rfl ?_
      refine WL.nil (WE.then_normal (WC.sub (fr' := [(0, _), (1, _), (9, _), (49, _)]) ?_ ⟨rfl, rfl, rfl, rfl, trivial⟩))
      refine WC.cond rfl (fun q8 => ?_) (fun q8 => ?_)
      ·
        try simp only [Z1, Z2, Z3, Z4, Z5, Z6, Z7, Z8, Z9, Z0] at q8
        first | (simp at q2; done) | (simp at q4; done) | (simp at q5; done) | (simp [nextOf, nilI] at q8; done) | (exfalso; omega)
      ·
        try simp only [Z1, Z2, Z3, Z4, Z5, Z6, Z7, Z8, Z9, Z0] at q8
        refine WC.region ?_
        refine WL.f1 ?_
        refine WL.reg (reg_out (show (ch 207 234 232 (items) .nilIface).Perm ([(x.b, .cells #[nextOf 207 (y :: B) .nilIface, wv 232 x] 234 (0, 0))] ++ (ch 207 234 232 (A) (.iface 207 (Pt x.b 0)) ++ ch 207 234 232 (y :: B) .nilIface)) from by rw [hit]; exact ch_out _ _ _ _)) ?_
        refine WL.q (oq_move rfl) rfl rfl rfl ?_
        refine WL.q (oq_move rfl) rfl rfl rfl ?_
        refine WL.q (oq_nilCheck rfl) rfl rfl rfl ?_
        refine WL.q (oq_fieldAddr fld234_0 rfl) rfl rfl rfl ?_
        refine WL.q (oq_load flat151 rfl (.head _) (List.mem_singleton.2 rfl) rfl) rfl rfl rfl ?_
        refine WL.q (oq_move rfl) rfl rfl rfl ?_
        refine WL.q (oq_build #[_, _] str234 ty234 rfl rfl) rfl rfl rfl ?_
        refine WL.box rfl rfl rfl fun e he => ?_
        refine WL.q (oq_makeI conc207 rfl) rfl rfl rfl ?_
        refine WL.q (oq_nilCheck rfl) rfl rfl rfl ?_
        refine WL.q (oq_fieldAddr fld234_0 rfl) rfl rfl rfl ?_
        refine WL.f1 ?_
        refine WL.store1 #[_, _] ty151 rfl rfl (by first | rfl | exact OwS.one one_) (Nat.lt_of_lt_of_le (Nat.lt_succ_self _) (Nat.le_of_ble_eq_true rfl)) rfl rfl ?_
        refine WL.nil (WE.then_normal (WC.sub (fr' := []) ?_ trivial))
        refine WC.seq (WC.region ?_)
        refine WL.q (oq_assign rfl) rfl rfl rfl ?_
        refine WL.nil (WE.then_normal (WC.sub (fr' := [(8, _)]) ?_ ⟨rfl, trivial⟩))
        refine WC.ret ?_
        refine WE.f4 ?_
        refine WE.f3 ?_
        refine WE.f3 ?_
        refine WE.f3 ?_
        refine WE.f4 ?_
        refine WE.endW4 (.inl rfl) (res1 Tryz.results74 rfl) ?_
        -- end 0
        exact ⟨rfl, e, he, perm2 (by rw [hit, hdp_cons A x (y :: B) (Nd.mk e id fv :: y :: B), lastp_cons, lastp_cons]; rfl) (by simp only [List.flatten_cons, List.flatten_nil, List.append_nil]; exact ch_ins A x (Nd.mk e id fv) (y :: B) _)⟩

/-- (*given.example/pub-tinwright/pub/smithy/middleware.BuildStep).Insert -/
theorem insN2 (base sb : Nat) (id by_ : List UInt8) (fv : Value) (items : List Nd) (hn : ∀ y ∈ items, y.id ≠ by_) (pos : Int) : FnW Tryz.prog 74 [Pt sb 0, .iface 232 (.agg #[S id, fv]), S by_, I pos] base [[(sb, .cells #[(hdp (items)), (lastp (items))] 209 (0, 0))], ch 207 234 232 items .nilIface] (fun v Hs => (∃ k u, v = .iface k u) ∧ Hs = [[(sb, .cells #[(hdp (items)), (lastp (items))] 209 (0, 0))], ch 207 234 232 items .nilIface]) := by
  refine FnW.enter (n := 76) Tryz.func74 rfl rfl fun w0 R0 hbase => ?_
  subst hbase
  show WC _ _ _ _ _ _ _ ([[(sb, .cells #[(hdp (items)), (lastp (items))] 209 (0, 0))], ch 207 234 232 items .nilIface, R0])
  refine WC.sub (fr' := [(0, _), (1, _), (2, _), (3, _)]) ?_ ⟨rfl, rfl, rfl, rfl, trivial⟩
  refine WC.seq (WC.region ?_)
  refine WL.q (oq_assign rfl) rfl rfl rfl ?_
  refine WL.nil (WE.then_normal (WC.sub (fr' := [(0, _), (1, _), (2, _), (3, _)]) ?_ ⟨rfl, rfl, rfl, rfl, trivial⟩))
  refine WC.seq (WC.region ?_)
  refine WL.q (oq_move rfl) rfl rfl rfl ?_
  refine WL.q (oq_move rfl) rfl rfl rfl ?_
  refine WL.f1 ?_
  refine WL.f1 ?_
  refine WL.callW2 (gotM2 _ sb by_ items hn) call116 rfl rfl rfl fun v1_2 Hs1_2 hR1_2 => ?_
  obtain ⟨rfl, rfl⟩ := hR1_2
  refine WL.to2 ?_
  refine WL.q (oq_move rfl) rfl rfl rfl ?_
  refine WL.q (oq_extract rfl rfl) rfl rfl rfl ?_
  refine WL.q (oq_extract rfl rfl) rfl rfl rfl ?_
  refine WL.q (oq_assign rfl) rfl rfl rfl ?_
  refine WL.q (oq_assign rfl) rfl rfl rfl ?_
  refine WL.nil (WE.then_normal (WC.sub (fr' := [(0, _), (1, _), (3, _), (9, _), (10, _)]) ?_ ⟨rfl, rfl, rfl, rfl, rfl, trivial⟩))
  refine WC.seq (WC.seq (WC.region ?_))
  refine WL.q (oq_move rfl) rfl rfl rfl ?_
  refine WL.q (oq_peql Tryz.underlying207 rfl rfl) rfl rfl rfl ?_
  refine WL.nil (WE.then_normal (WC.sub (fr' := [(0, _), (1, _), (3, _), (9, _), (10, _), (19, _)]) ?_ ⟨rfl, rfl, rfl, rfl, rfl, rfl, trivial⟩))
  refine WC.cond rfl (fun q2 => ?_) (fun q2 => ?_)
  ·
    try simp only [Z1, Z2, Z3, Z4, Z5, Z6, Z7, Z8, Z9, Z0] at q2
    refine WC.seq (WC.region ?_)
    refine WL.callA0 (errNew _) call113 rfl rfl rfl fun v3_0 N3_0 hR3_0 hN3_0 => ?_
    obtain ⟨ek, eu, rfl⟩ := hR3_0
    refine WL.q (oq_assign rfl) rfl rfl rfl ?_
    refine WL.nil (WE.then_normal (WC.sub (fr' := [(8, _)]) ?_ ⟨rfl, trivial⟩))
    refine WC.ret (WE.then_ret ?_)
    refine WE.forget hN3_0 ?_
    refine WE.endW2 (.inl rfl) (res1 Tryz.results74 rfl) ?_
    -- end 0
    exact ⟨⟨_, _, rfl⟩, rfl⟩
  ·
    try simp only [Z1, Z2, Z3, Z4, Z5, Z6, Z7, Z8, Z9, Z0] at q2
    simp at q2

/-- (*given.example/pub-tinwright/pub/smithy/middleware.BuildStep).Swap -/
theorem swapH2 (base sb : Nat) (id : List UInt8) (fv : Value) (A B : List Nd) (x : Nd) (items : List Nd) (hit : items = A ++ x :: B) (hA : ∀ y ∈ A, y.id ≠ x.id)  : FnW Tryz.prog 76 [Pt sb 0, S x.id, .iface 232 (.agg #[S id, fv])] base [[(sb, .cells #[(hdp (items)), (lastp (items))] 209 (0, 0))], ch 207 234 232 items .nilIface] (fun v Hs => v = .tuple #[wv 232 x, .nilIface] ∧ Hs.flatten.Perm ([[(sb, .cells #[(hdp (A ++ Nd.mk x.b id fv :: B)), (lastp (A ++ Nd.mk x.b id fv :: B))] 209 (0, 0))], ch 207 234 232 (A ++ Nd.mk x.b id fv :: B) .nilIface] : List Hp).flatten) := by
  refine FnW.enter (n := 29) Tryz.func76 rfl rfl fun w0 R0 hbase => ?_
  subst hbase
  show WC _ _ _ _ _ _ _ ([[(sb, .cells #[(hdp (items)), (lastp (items))] 209 (0, 0))], ch 207 234 232 items .nilIface, R0])
  refine WC.sub (fr' := [(0, _), (1, _), (2, _)]) ?_ ⟨rfl, rfl, rfl, trivial⟩
  refine WC.seq (WC.region ?_)
  refine WL.q (oq_assign rfl) rfl rfl rfl ?_
  refine WL.q (oq_assign rfl) rfl rfl rfl ?_
  refine WL.nil (WE.then_normal (WC.sub (fr' := [(0, _), (1, _), (2, _)]) ?_ ⟨rfl, rfl, rfl, trivial⟩))
  refine WC.seq (WC.region ?_)
  refine WL.q (oq_move rfl) rfl rfl rfl ?_
  refine WL.q (oq_move rfl) rfl rfl rfl ?_
  refine WL.f1 ?_
  refine WL.f1 ?_
  refine WL.callW2 (gotH2 _ sb x.id A B x items hit rfl hA) call116 rfl rfl rfl fun v1_2 Hs1_2 hR1_2 => ?_
  obtain ⟨rfl, rfl⟩ := hR1_2
  refine WL.to2 ?_
  refine WL.q (oq_move rfl) rfl rfl rfl ?_
  refine WL.q (oq_extract rfl rfl) rfl rfl rfl ?_
  refine WL.q (oq_extract rfl rfl) rfl rfl rfl ?_
  refine WL.q (oq_assign rfl) rfl rfl rfl ?_
  refine WL.q (oq_assign rfl) rfl rfl rfl ?_
  refine WL.nil (WE.then_normal (WC.sub (fr' := [(2, _), (8, _)]) ?_ ⟨rfl, rfl, trivial⟩))
  refine WC.seq (WC.seq (WC.region ?_))
  refine WL.q (oq_move rfl) rfl rfl rfl ?_
  refine WL.q (oq_peql Tryz.underlying207 rfl rfl) rfl rfl rfl ?_
  refine WL.nil (WE.then_normal (WC.sub (fr' := [(2, _), (8, _), (18, _)]) ?_ ⟨rfl, rfl, rfl, trivial⟩))
  refine WC.cond rfl (fun q2 => ?_) (fun q2 => ?_)
  ·
    try simp only [Z1, Z2, Z3, Z4, Z5, Z6, Z7, Z8, Z9, Z0] at q2
    simp at q2
  ·
    try simp only [Z1, Z2, Z3, Z4, Z5, Z6, Z7, Z8, Z9, Z0] at q2
    refine WC.skip (WE.then_normal (WC.sub (fr' := [(2, _), (8, _)]) ?_ ⟨rfl, rfl, trivial⟩))
    refine WC.seq (WC.region ?_)
    refine WL.f1 ?_
    refine WL.reg (reg_out (show (ch 207 234 232 (items) .nilIface).Perm ([(x.b, .cells #[nextOf 207 (B) .nilIface, wv 232 x] 234 (0, 0))] ++ (ch 207 234 232 (A) (.iface 207 (Pt x.b 0)) ++ ch 207 234 232 (B) .nilIface)) from by rw [hit]; exact ch_out _ _ _ _)) ?_
    refine WL.q (oq_move rfl) rfl rfl rfl ?_
    refine WL.q (oq_nilCheck rfl) rfl rfl rfl ?_
    refine WL.q (oq_fieldAddr fld234_1 rfl) rfl rfl rfl ?_
    refine WL.q (oq_load flat146 rfl (.head _) (List.mem_singleton.2 rfl) rfl) rfl rfl rfl ?_
    refine WL.q (oq_assign rfl) rfl rfl rfl ?_
    refine WL.nil (WE.then_normal (WC.sub (fr' := [(2, _), (8, _), (10, _)]) ?_ ⟨rfl, rfl, rfl, trivial⟩))
    refine WC.seq (WC.region ?_)
    refine WL.q (oq_move rfl) rfl rfl rfl ?_
    refine WL.q (oq_move rfl) rfl rfl rfl ?_
    refine WL.q (oq_nilCheck rfl) rfl rfl rfl ?_
    refine WL.q (oq_fieldAddr fld234_1 rfl) rfl rfl rfl ?_
    refine WL.store1 #[_, _] ty146 rfl rfl (by first | rfl | exact OwS.one one_) (Nat.lt_of_lt_of_le (Nat.lt_succ_self _) (Nat.le_of_ble_eq_true rfl)) rfl rfl ?_
    refine WL.nil (WE.then_normal (WC.sub (fr' := [(10, _)]) ?_ ⟨rfl, trivial⟩))
    refine WC.seq (WC.region ?_)
    refine WL.q (oq_move rfl) rfl rfl rfl ?_
    refine WL.q (oq_assign rfl) rfl rfl rfl ?_
    refine WL.q (oq_assign rfl) rfl rfl rfl ?_
    refine WL.nil (WE.then_normal (WC.sub (fr' := [(6, _), (7, _)]) ?_ ⟨rfl, rfl, trivial⟩))
    refine WC.ret ?_
    refine WE.f3 ?_
    refine WE.f2 ?_
    refine WE.f2 ?_
    refine WE.f3 ?_
    refine WE.endW3 (.inl rfl) (res2 Tryz.results76 rfl rfl) ?_
    -- end 0
    exact ⟨rfl, perm2 (by rw [hit, ← hdp_b A B x id fv, ← lastp_b A B x id fv]) (by simp only [List.flatten_cons, List.flatten_nil, List.append_nil]; exact ch_del A (Nd.mk x.b id fv) B _)⟩

/-- (*given.example/pub-tinwright/pub/smithy/middleware.BuildStep).Swap -/
theorem swapN2 (base sb : Nat) (by_ : List UInt8) (m : Value) (items : List Nd) (hn : ∀ y ∈ items, y.id ≠ by_) : FnW Tryz.prog 76 [Pt sb 0, S by_, m] base [[(sb, .cells #[(hdp (items)), (lastp (items))] 209 (0, 0))], ch 207 234 232 items .nilIface] (fun v Hs => (∃ k u, v = .tuple #[.nilIface, .iface k u]) ∧ Hs = [[(sb, .cells #[(hdp (items)), (lastp (items))] 209 (0, 0))], ch 207 234 232 items .nilIface]) := by
  refine FnW.enter (n := 29) Tryz.func76 rfl rfl fun w0 R0 hbase => ?_
  subst hbase
  show WC _ _ _ _ _ _ _ ([[(sb, .cells #[(hdp (items)), (lastp (items))] 209 (0, 0))], ch 207 234 232 items .nilIface, R0])
  refine WC.sub (fr' := [(0, _), (1, _), (2, _)]) ?_ ⟨rfl, rfl, rfl, trivial⟩
  refine WC.seq (WC.region ?_)
  refine WL.q (oq_assign rfl) rfl rfl rfl ?_
  refine WL.q (oq_assign rfl) rfl rfl rfl ?_
  refine WL.nil (WE.then_normal (WC.sub (fr' := [(0, _), (1, _), (2, _)]) ?_ ⟨rfl, rfl, rfl, trivial⟩))
  refine WC.seq (WC.region ?_)
  refine WL.q (oq_move rfl) rfl rfl rfl ?_
  refine WL.q (oq_move rfl) rfl rfl rfl ?_
  refine WL.f1 ?_
  refine WL.f1 ?_
  refine WL.callW2 (gotM2 _ sb by_ items hn) call116 rfl rfl rfl fun v1_2 Hs1_2 hR1_2 => ?_
  obtain ⟨rfl, rfl⟩ := hR1_2
  refine WL.to2 ?_
  refine WL.q (oq_move rfl) rfl rfl rfl ?_
  refine WL.q (oq_extract rfl rfl) rfl rfl rfl ?_
  refine WL.q (oq_extract rfl rfl) rfl rfl rfl ?_
  refine WL.q (oq_assign rfl) rfl rfl rfl ?_
  refine WL.q (oq_assign rfl) rfl rfl rfl ?_
  refine WL.nil (WE.then_normal (WC.sub (fr' := [(2, _), (8, _)]) ?_ ⟨rfl, rfl, trivial⟩))
  refine WC.seq (WC.seq (WC.region ?_))
  refine WL.q (oq_move rfl) rfl rfl rfl ?_
  refine WL.q (oq_peql Tryz.underlying207 rfl rfl) rfl rfl rfl ?_
  refine WL.nil (WE.then_normal (WC.sub (fr' := [(2, _), (8, _), (18, _)]) ?_ ⟨rfl, rfl, rfl, trivial⟩))
  refine WC.cond rfl (fun q2 => ?_) (fun q2 => ?_)
  ·
    try simp only [Z1, Z2, Z3, Z4, Z5, Z6, Z7, Z8, Z9, Z0] at q2
    refine WC.seq (WC.region ?_)
    refine WL.callA0 (errNew _) call113 rfl rfl rfl fun v3_0 N3_0 hR3_0 hN3_0 => ?_
    obtain ⟨ek, eu, rfl⟩ := hR3_0
    refine WL.q (oq_assign rfl) rfl rfl rfl ?_
    refine WL.q (oq_assign rfl) rfl rfl rfl ?_
    refine WL.nil (WE.then_normal (WC.sub (fr' := [(6, _), (7, _)]) ?_ ⟨rfl, rfl, trivial⟩))
    refine WC.ret (WE.then_ret ?_)
    refine WE.forget hN3_0 ?_
    refine WE.endW2 (.inl rfl) (res2 Tryz.results76 rfl rfl) ?_
    -- end 0
    exact ⟨⟨_, _, rfl⟩, rfl⟩
  ·
    try simp only [Z1, Z2, Z3, Z4, Z5, Z6, Z7, Z8, Z9, Z0] at q2
    simp at q2

/-- (*given.example/pub-tinwright/pub/smithy/middleware.FinalizeStep).Insert -/
theorem insF3 (base sb : Nat) (x : Nd) (items : List Nd) (id : List UInt8) (fv : Value) (B : List Nd) (hit : items = [] ++ x :: B) : FnW Tryz.prog 89 [Pt sb 0, .iface 239 (.agg #[S id, fv]), S x.id, I 1] base [[(sb, .cells #[(hdp (items)), (lastp (items))] 212 (0, 0))], ch 210 241 239 items .nilIface] (fun v Hs => v = .nilIface ∧ ∃ e, base ≤ e ∧ Hs.flatten.Perm ([[(sb, .cells #[(hdp (Nd.mk e id fv :: items)), (lastp (Nd.mk e id fv :: items))] 212 (0, 0))], ch 210 241 239 (Nd.mk e id fv :: items) .nilIface] : List Hp).flatten) := by
  refine FnW.enter (n := 76) Tryz.func89 rfl rfl fun w0 R0 hbase => ?_
  subst hbase
  show WC _ _ _ _ _ _ _ ([[(sb, .cells #[(hdp (items)), (lastp (items))] 212 (0, 0))], ch 210 241 239 items .nilIface, R0])
  refine WC.sub (fr' := [(0, _), (1, _), (2, _), (3, _)]) ?_ ⟨rfl, rfl, rfl, rfl, trivial⟩
  refine WC.seq (WC.region ?_)
  refine WL.q (oq_assign rfl) rfl rfl rfl ?_
  refine WL.nil (WE.then_normal (WC.sub (fr' := [(0, _), (1, _), (2, _), (3, _)]) ?_ ⟨rfl, rfl, rfl, rfl, trivial⟩))
  refine WC.seq (WC.region ?_)
  refine WL.q (oq_move rfl) rfl rfl rfl ?_
  refine WL.q (oq_move rfl) rfl rfl rfl ?_
  refine WL.f1 ?_
  refine WL.f1 ?_
  refine WL.callW2 (gotH3 _ sb x.id [] B x items hit rfl (by simp)) call117 rfl rfl rfl fun v1_2 Hs1_2 hR1_2 => ?_
  obtain ⟨rfl, rfl⟩ := hR1_2
  refine WL.to2 ?_
  refine WL.q (oq_move rfl) rfl rfl rfl ?_
  refine WL.q (oq_extract rfl rfl) rfl rfl rfl ?_
  refine WL.q (oq_extract rfl rfl) rfl rfl rfl ?_
  refine WL.q (oq_assign rfl) rfl rfl rfl ?_
  refine WL.q (oq_assign rfl) rfl rfl rfl ?_
  refine WL.nil (WE.then_normal (WC.sub (fr' := [(0, _), (1, _), (3, _), (9, _), (10, _)]) ?_ ⟨rfl, rfl, rfl, rfl, rfl, trivial⟩))
  refine WC.seq (WC.seq (WC.region ?_))
  refine WL.q (oq_move rfl) rfl rfl rfl ?_
  refine WL.q (oq_peql Tryz.underlying210 rfl rfl) rfl rfl rfl ?_
  refine WL.nil (WE.then_normal (WC.sub (fr' := [(0, _), (1, _), (3, _), (9, _), (10, _), (19, _)]) ?_ ⟨rfl, rfl, rfl, rfl, rfl, rfl, trivial⟩))
  refine WC.cond rfl (fun q2 => ?_) (fun q2 => ?_)
  ·
    try simp only [Z1, Z2, Z3, Z4, Z5, Z6, Z7, Z8, Z9, Z0] at q2
    first | (simp at q2; done) | (simp at q4; done) | (simp at q5; done) | (simp [nextOf, nilI] at q8; done) | (exfalso; omega)
  ·
    try simp only [Z1, Z2, Z3, Z4, Z5, Z6, Z7, Z8, Z9, Z0] at q2
    refine WC.skip (WE.then_normal (WC.sub (fr' := [(0, _), (1, _), (3, _), (9, _), (10, _)]) ?_ ⟨rfl, rfl, rfl, rfl, rfl, trivial⟩))
    refine WC.seq (WC.seq (WC.region ?_))
    refine WL.q (oq_move rfl) rfl rfl rfl ?_
    refine WL.q (oq_eql rfl rfl) rfl rfl rfl ?_
    refine WL.nil (WE.then_normal (WC.sub (fr' := [(0, _), (1, _), (9, _), (10, _), (22, _)]) ?_ ⟨rfl, rfl, rfl, rfl, rfl, trivial⟩))
    refine WC.cond rfl (fun q4 => ?_) (fun q4 => ?_)
    ·
      try simp only [Z1, Z2, Z3, Z4, Z5, Z6, Z7, Z8, Z9, Z0] at q4
      refine WC.seq (WC.region ?_)
      refine WL.q (oq_move rfl) rfl rfl rfl ?_
      refine WL.q (oq_peql Tryz.underlying210 rfl rfl) rfl rfl rfl ?_
      refine WL.nil (WE.then_normal (WC.sub (fr' := [(0, _), (1, _), (9, _), (10, _), (24, _)]) ?_ ⟨rfl, rfl, rfl, rfl, rfl, trivial⟩))
      refine WC.cond rfl (fun q5 => ?_) (fun q5 => ?_)
      ·
        try simp only [Z1, Z2, Z3, Z4, Z5, Z6, Z7, Z8, Z9, Z0] at q5
        have hd0 : hdp items = Pt x.b 0 := by rw [hit]; rfl
        rw [hd0]
        refine WC.region ?_
        refine WL.q (oq_move rfl) rfl rfl rfl ?_
        refine WL.q (oq_move rfl) rfl rfl rfl ?_
        refine WL.q (oq_nilCheck rfl) rfl rfl rfl ?_
        refine WL.q (oq_fieldAddr fld212_0 rfl) rfl rfl rfl ?_
        refine WL.q (oq_load flat210 rfl (.head _) (List.mem_singleton.2 rfl) rfl) rfl rfl rfl ?_
        refine WL.q (oq_makeI conc210 rfl) rfl rfl rfl ?_
        refine WL.q (oq_move rfl) rfl rfl rfl ?_
        refine WL.q (oq_build #[_, _] str241 ty241 rfl rfl) rfl rfl rfl ?_
        refine WL.box rfl rfl rfl fun e he => ?_
        refine WL.q (oq_nilCheck rfl) rfl rfl rfl ?_
        refine WL.q (oq_fieldAddr fld212_0 rfl) rfl rfl rfl ?_
        refine WL.f1 ?_
        refine WL.store1 #[_, _] ty210 rfl rfl (by first | rfl | exact OwS.one one_) (Nat.lt_of_lt_of_le (Nat.lt_succ_self _) (Nat.le_of_ble_eq_true rfl)) rfl rfl ?_
        refine WL.nil (WE.then_normal (WC.sub (fr' := []) ?_ trivial))
        refine WC.seq (WC.region ?_)
        refine WL.q (oq_assign rfl) rfl rfl rfl ?_
        refine WL.nil (WE.then_normal (WC.sub (fr' := [(8, _)]) ?_ ⟨rfl, trivial⟩))
        refine WC.ret ?_
        refine WE.endW3 (.inl rfl) (res1 Tryz.results89 rfl) ?_
        -- end 0
        exact ⟨rfl, e, he, perm2 (by rw [lastp_ne _ _ (by rw [hit]; simp)]; rfl) (by simp only [List.flatten_cons, List.flatten_nil, List.append_nil]; exact .of_eq (ch_front hit (Nd.mk e id fv)))⟩
      ·
        try simp only [Z1, Z2, Z3, Z4, Z5, Z6, Z7, Z8, Z9, Z0] at q5
        first | (simp at q2; done) | (simp at q4; done) | (simp at q5; done) | (simp [nextOf, nilI] at q8; done) | (exfalso; omega)
    ·
      try simp only [Z1, Z2, Z3, Z4, Z5, Z6, Z7, Z8, Z9, Z0] at q4
      first | (simp at q2; done) | (simp at q4; done) | (simp at q5; done) | (simp [nextOf, nilI] at q8; done) | (exfalso; omega)

/-- (*given.example/pub-tinwright/pub/smithy/middleware.FinalizeStep).Insert -/
theorem insM3 (base sb : Nat) (x : Nd) (items : List Nd) (id : List UInt8) (fv : Value) (A2 B : List Nd) (p : Nd) (hit : items = (A2 ++ [p]) ++ x :: B) (hA : ∀ y ∈ A2 ++ [p], y.id ≠ x.id) : FnW Tryz.prog 89 [Pt sb 0, .iface 239 (.agg #[S id, fv]), S x.id, I 1] base [[(sb, .cells #[(hdp (items)), (lastp (items))] 212 (0, 0))], ch 210 241 239 items .nilIface] (fun v Hs => v = .nilIface ∧ ∃ e, base ≤ e ∧ Hs.flatten.Perm ([[(sb, .cells #[(hdp (A2 ++ p :: Nd.mk e id fv :: x :: B)), (lastp (A2 ++ p :: Nd.mk e id fv :: x :: B))] 212 (0, 0))], ch 210 241 239 (A2 ++ p :: Nd.mk e id fv :: x :: B) .nilIface] : List Hp).flatten) := by
  have hit2 : items = A2 ++ p :: x :: B := by rw [hit]; simp
  refine FnW.enter (n := 76) Tryz.func89 rfl rfl fun w0 R0 hbase => ?_
  subst hbase
  show WC _ _ _ _ _ _ _ ([[(sb, .cells #[(hdp (items)), (lastp (items))] 212 (0, 0))], ch 210 241 239 items .nilIface, R0])
  refine WC.sub (fr' := [(0, _), (1, _), (2, _), (3, _)]) ?_ ⟨rfl, rfl, rfl, rfl, trivial⟩
  refine WC.seq (WC.region ?_)
  refine WL.q (oq_assign rfl) rfl rfl rfl ?_
  refine WL.nil (WE.then_normal (WC.sub (fr' := [(0, _), (1, _), (2, _), (3, _)]) ?_ ⟨rfl, rfl, rfl, rfl, trivial⟩))
  refine WC.seq (WC.region ?_)
  refine WL.q (oq_move rfl) rfl rfl rfl ?_
  refine WL.q (oq_move rfl) rfl rfl rfl ?_
  refine WL.f1 ?_
  refine WL.f1 ?_
  refine WL.callW2 (gotH3 _ sb x.id (A2 ++ [p]) B x items hit rfl hA) call117 rfl rfl rfl fun v1_2 Hs1_2 hR1_2 => ?_
  obtain ⟨rfl, rfl⟩ := hR1_2
  rw [lastp_snoc]
  refine WL.to2 ?_
  refine WL.q (oq_move rfl) rfl rfl rfl ?_
  refine WL.q (oq_extract rfl rfl) rfl rfl rfl ?_
  refine WL.q (oq_extract rfl rfl) rfl rfl rfl ?_
  refine WL.q (oq_assign rfl) rfl rfl rfl ?_
  refine WL.q (oq_assign rfl) rfl rfl rfl ?_
  refine WL.nil (WE.then_normal (WC.sub (fr' := [(0, _), (1, _), (3, _), (9, _), (10, _)]) ?_ ⟨rfl, rfl, rfl, rfl, rfl, trivial⟩))
  refine WC.seq (WC.seq (WC.region ?_))
  refine WL.q (oq_move rfl) rfl rfl rfl ?_
  refine WL.q (oq_peql Tryz.underlying210 rfl rfl) rfl rfl rfl ?_
  refine WL.nil (WE.then_normal (WC.sub (fr' := [(0, _), (1, _), (3, _), (9, _), (10, _), (19, _)]) ?_ ⟨rfl, rfl, rfl, rfl, rfl, rfl, trivial⟩))
  refine WC.cond rfl (fun q2 => ?_) (fun q2 => ?_)
  ·
    try simp only [Z1, Z2, Z3, Z4, Z5, Z6, Z7, Z8, Z9, Z0] at q2
    first | (simp at q2; done) | (simp at q4; done) | (simp at q5; done) | (simp [nextOf, nilI] at q8; done) | (exfalso; omega)
  ·
    try simp only [Z1, Z2, Z3, Z4, Z5, Z6, Z7, Z8, Z9, Z0] at q2
    refine WC.skip (WE.then_normal (WC.sub (fr' := [(0, _), (1, _), (3, _), (9, _), (10, _)]) ?_ ⟨rfl, rfl, rfl, rfl, rfl, trivial⟩))
    refine WC.seq (WC.seq (WC.region ?_))
    refine WL.q (oq_move rfl) rfl rfl rfl ?_
    refine WL.q (oq_eql rfl rfl) rfl rfl rfl ?_
    refine WL.nil (WE.then_normal (WC.sub (fr' := [(0, _), (1, _), (9, _), (10, _), (22, _)]) ?_ ⟨rfl, rfl, rfl, rfl, rfl, trivial⟩))
    refine WC.cond rfl (fun q4 => ?_) (fun q4 => ?_)
    ·
      try simp only [Z1, Z2, Z3, Z4, Z5, Z6, Z7, Z8, Z9, Z0] at q4
      refine WC.seq (WC.region ?_)
      refine WL.q (oq_move rfl) rfl rfl rfl ?_
      refine WL.q (oq_peql Tryz.underlying210 rfl rfl) rfl rfl rfl ?_
      refine WL.nil (WE.then_normal (WC.sub (fr' := [(0, _), (1, _), (9, _), (10, _), (24, _)]) ?_ ⟨rfl, rfl, rfl, rfl, rfl, trivial⟩))
      refine WC.cond rfl (fun q5 => ?_) (fun q5 => ?_)
      ·
        try simp only [Z1, Z2, Z3, Z4, Z5, Z6, Z7, Z8, Z9, Z0] at q5
        first | (simp at q2; done) | (simp at q4; done) | (simp at q5; done) | (simp [nextOf, nilI] at q8; done) | (exfalso; omega)
      ·
        try simp only [Z1, Z2, Z3, Z4, Z5, Z6, Z7, Z8, Z9, Z0] at q5
        refine WC.region ?_
        refine WL.f1 ?_
        refine WL.reg (reg_out (show (ch 210 241 239 (items) .nilIface).Perm ([(p.b, .cells #[nextOf 210 (x :: B) .nilIface, wv 239 p] 241 (0, 0))] ++ (ch 210 241 239 (A2) (.iface 210 (Pt p.b 0)) ++ ch 210 241 239 (x :: B) .nilIface)) from by rw [hit2]; exact ch_out _ _ _ _)) ?_
        refine WL.q (oq_move rfl) rfl rfl rfl ?_
        refine WL.q (oq_move rfl) rfl rfl rfl ?_
        refine WL.q (oq_makeI conc210 rfl) rfl rfl rfl ?_
        refine WL.q (oq_move rfl) rfl rfl rfl ?_
        refine WL.q (oq_build #[_, _] str241 ty241 rfl rfl) rfl rfl rfl ?_
        refine WL.box rfl rfl rfl fun e he => ?_
        refine WL.q (oq_makeI conc210 rfl) rfl rfl rfl ?_
        refine WL.q (oq_nilCheck rfl) rfl rfl rfl ?_
        refine WL.q (oq_fieldAddr fld241_0 rfl) rfl rfl rfl ?_
        refine WL.f1 ?_
        refine WL.store1 #[_, _] ty169 rfl rfl (by first | rfl | exact OwS.one one_) (Nat.lt_of_lt_of_le (Nat.lt_succ_self _) (Nat.le_of_ble_eq_true rfl)) rfl rfl ?_
        refine WL.nil (WE.then_normal (WC.sub (fr' := []) ?_ trivial))
        refine WC.seq (WC.region ?_)
        refine WL.q (oq_assign rfl) rfl rfl rfl ?_
        refine WL.nil (WE.then_normal (WC.sub (fr' := [(8, _)]) ?_ ⟨rfl, trivial⟩))
        refine WC.ret ?_
        refine WE.f4 ?_
        refine WE.f3 ?_
        refine WE.f3 ?_
        refine WE.f3 ?_
        refine WE.f4 ?_
        refine WE.endW4 (.inl rfl) (res1 Tryz.results89 rfl) ?_
        -- end 0
        exact ⟨rfl, e, he, perm2 (by rw [hit2, hdp_cons A2 p (x :: B) (Nd.mk e id fv :: x :: B), lastp_cons, lastp_cons]; rfl) (by simp only [List.flatten_cons, List.flatten_nil, List.append_nil]; exact ch_ins A2 p (Nd.mk e id fv) (x :: B) _)⟩
    ·
      try simp only [Z1, Z2, Z3, Z4, Z5, Z6, Z7, Z8, Z9, Z0] at q4
      first | (simp at q2; done) | (simp at q4; done) | (simp at q5; done) | (simp [nextOf, nilI] at q8; done) | (exfalso; omega)

/-- (*given.example/pub-tinwright/pub/smithy/middleware.FinalizeStep).Insert -/
theorem insE3 (base sb : Nat) (x : Nd) (items : List Nd) (id : List UInt8) (fv : Value) (A : List Nd) (hit : items = A ++ x :: []) (hA : ∀ y ∈ A, y.id ≠ x.id) : FnW Tryz.prog 89 [Pt sb 0, .iface 239 (.agg #[S id, fv]), S x.id, I 0] base [[(sb, .cells #[(hdp (items)), (lastp (items))] 212 (0, 0))], ch 210 241 239 items .nilIface] (fun v Hs => v = .nilIface ∧ ∃ e, base ≤ e ∧ Hs.flatten.Perm ([[(sb, .cells #[(hdp (A ++ x :: Nd.mk e id fv :: [])), (lastp (A ++ x :: Nd.mk e id fv :: []))] 212 (0, 0))], ch 210 241 239 (A ++ x :: Nd.mk e id fv :: []) .nilIface] : List Hp).flatten) := by
  refine FnW.enter (n := 76) Tryz.func89 rfl rfl fun w0 R0 hbase => ?_
  subst hbase
  show WC _ _ _ _ _ _ _ ([[(sb, .cells #[(hdp (items)), (lastp (items))] 212 (0, 0))], ch 210 241 239 items .nilIface, R0])
  refine WC.sub (fr' := [(0, _), (1, _), (2, _), (3, _)]) ?_ ⟨rfl, rfl, rfl, rfl, trivial⟩
  refine WC.seq (WC.region ?_)
  refine WL.q (oq_assign rfl) rfl rfl rfl ?_
  refine WL.nil (WE.then_normal (WC.sub (fr' := [(0, _), (1, _), (2, _), (3, _)]) ?_ ⟨rfl, rfl, rfl, rfl, trivial⟩))
  refine WC.seq (WC.region ?_)
  refine WL.q (oq_move rfl) rfl rfl rfl ?_
  refine WL.q (oq_move rfl) rfl rfl rfl ?_
  refine WL.f1 ?_
  refine WL.f1 ?_
  refine WL.callW2 (gotH3 _ sb x.id A [] x items hit rfl hA) call117 rfl rfl rfl fun v1_2 Hs1_2 hR1_2 => ?_
  obtain ⟨rfl, rfl⟩ := hR1_2
  refine WL.to2 ?_
  refine WL.q (oq_move rfl) rfl rfl rfl ?_
  refine WL.q (oq_extract rfl rfl) rfl rfl rfl ?_
  refine WL.q (oq_extract rfl rfl) rfl rfl rfl ?_
  refine WL.q (oq_assign rfl) rfl rfl rfl ?_
  refine WL.q (oq_assign rfl) rfl rfl rfl ?_
  refine WL.nil (WE.then_normal (WC.sub (fr' := [(0, _), (1, _), (3, _), (9, _), (10, _)]) ?_ ⟨rfl, rfl, rfl, rfl, rfl, trivial⟩))
  refine WC.seq (WC.seq (WC.region ?_))
  refine WL.q (oq_move rfl) rfl rfl rfl ?_
  refine WL.q (oq_peql Tryz.underlying210 rfl rfl) rfl rfl rfl ?_
  refine WL.nil (WE.then_normal (WC.sub (fr' := [(0, _), (1, _), (3, _), (9, _), (10, _), (19, _)]) ?_ ⟨rfl, rfl, rfl, rfl, rfl, rfl, trivial⟩))
  refine WC.cond rfl (fun q2 => ?_) (fun q2 => ?_)
  ·
    try simp only [Z1, Z2, Z3, Z4, Z5, Z6, Z7, Z8, Z9, Z0] at q2
    first | (simp at q2; done) | (simp at q4; done) | (simp at q5; done) | (simp [nextOf, nilI] at q8; done) | (exfalso; omega)
  ·
    try simp only [Z1, Z2, Z3, Z4, Z5, Z6, Z7, Z8, Z9, Z0] at q2
    refine WC.skip (WE.then_normal (WC.sub (fr' := [(0, _), (1, _), (3, _), (9, _), (10, _)]) ?_ ⟨rfl, rfl, rfl, rfl, rfl, trivial⟩))
    refine WC.seq (WC.seq (WC.region ?_))
    refine WL.q (oq_move rfl) rfl rfl rfl ?_
    refine WL.q (oq_eql rfl rfl) rfl rfl rfl ?_
    refine WL.nil (WE.then_normal (WC.sub (fr' := [(0, _), (1, _), (9, _), (10, _), (22, _)]) ?_ ⟨rfl, rfl, rfl, rfl, rfl, trivial⟩))
    refine WC.cond rfl (fun q4 => ?_) (fun q4 => ?_)
    ·
      try simp only [Z1, Z2, Z3, Z4, Z5, Z6, Z7, Z8, Z9, Z0] at q4
      first | (simp at q2; done) | (simp at q4; done) | (simp at q5; done) | (simp [nextOf, nilI] at q8; done) | (exfalso; omega)
    ·
      try simp only [Z1, Z2, Z3, Z4, Z5, Z6, Z7, Z8, Z9, Z0] at q4
      refine WC.seq (WC.region ?_)
      refine WL.q (oq_move rfl) rfl rfl rfl ?_
      refine WL.q (oq_nilCheck rfl) rfl rfl rfl ?_
      refine WL.q (oq_fieldAddr fld241_0 rfl) rfl rfl rfl ?_
      refine WL.q (oq_load flat169 rfl (.tail _ (.head _)) (mem_of hit) rfl) rfl rfl rfl ?_
      refine WL.q (oq_ieql Tryz.underlying169 rfl (.inl rfl)) rfl rfl rfl ?_
      refine WL.nil (WE.then_normal (WC.sub (fr' := [(0, _), (1, _), (9, _), (49, _)]) ?_ ⟨rfl, rfl, rfl, rfl, trivial⟩))
      refine WC.cond rfl (fun q8 => ?_) (fun q8 => ?_)
      ·
        try simp only [Z1, Z2, Z3, Z4, Z5, Z6, Z7, Z8, Z9, Z0] at q8
        refine WC.seq (WC.region ?_)
        refine WL.q (oq_move rfl) rfl rfl rfl ?_
        refine WL.q (oq_build #[_, _] str241 ty241 rfl rfl) rfl rfl rfl ?_
        refine WL.box rfl rfl rfl fun e he => ?_
        refine WL.q (oq_assign rfl) rfl rfl rfl ?_
        refine WL.nil (WE.then_normal (WC.sub (fr' := [(0, _), (11, _)]) ?_ ⟨rfl, rfl, trivial⟩))
        refine WC.seq ?_
        have hl0 : lastp items = Pt x.b 0 := by rw [hit, lastp_snoc]
        rw [hl0]
        refine WC.region ?_
        refine WL.f2 ?_
        refine WL.reg (reg_out (show (ch 210 241 239 (items) .nilIface).Perm ([(x.b, .cells #[nextOf 210 ([]) .nilIface, wv 239 x] 241 (0, 0))] ++ (ch 210 241 239 (A) (.iface 210 (Pt x.b 0)) ++ ch 210 241 239 ([]) .nilIface)) from by rw [hit]; exact ch_out _ _ _ _)) ?_
        refine WL.q (oq_move rfl) rfl rfl rfl ?_
        refine WL.q (oq_nilCheck rfl) rfl rfl rfl ?_
        refine WL.q (oq_fieldAddr fld212_1 rfl) rfl rfl rfl ?_
        refine WL.q (oq_load flat210 rfl (.tail _ (.tail _ (.tail _ (.head _)))) (List.mem_singleton.2 rfl) rfl) rfl rfl rfl ?_
        refine WL.q (oq_move rfl) rfl rfl rfl ?_
        refine WL.q (oq_makeI conc210 rfl) rfl rfl rfl ?_
        refine WL.q (oq_nilCheck rfl) rfl rfl rfl ?_
        refine WL.q (oq_fieldAddr fld241_0 rfl) rfl rfl rfl ?_
        refine WL.store1 #[_, _] ty169 rfl rfl (by first | rfl | exact OwS.one one_) (Nat.lt_of_lt_of_le (Nat.lt_succ_self _) (Nat.le_of_ble_eq_true rfl)) rfl rfl ?_
        refine WL.nil (WE.then_normal (WC.sub (fr' := [(0, _), (11, _)]) ?_ ⟨rfl, rfl, trivial⟩))
        refine WC.region ?_
        refine WL.q (oq_move rfl) rfl rfl rfl ?_
        refine WL.q (oq_move rfl) rfl rfl rfl ?_
        refine WL.q (oq_nilCheck rfl) rfl rfl rfl ?_
        refine WL.q (oq_fieldAddr fld212_1 rfl) rfl rfl rfl ?_
        refine WL.f3 ?_
        refine WL.store1 #[_, _] ty210 rfl rfl (by first | rfl | exact OwS.one one_) (Nat.lt_of_lt_of_le (Nat.lt_succ_self _) (Nat.le_of_ble_eq_true rfl)) rfl rfl ?_
        refine WL.nil (WE.then_normal (WC.sub (fr' := []) ?_ trivial))
        refine WC.seq (WC.region ?_)
        refine WL.q (oq_assign rfl) rfl rfl rfl ?_
        refine WL.nil (WE.then_normal (WC.sub (fr' := [(8, _)]) ?_ ⟨rfl, trivial⟩))
        refine WC.ret ?_
        refine WE.f4 ?_
        refine WE.f3 ?_
        refine WE.f4 ?_
        refine WE.f4 ?_
        refine WE.f4 ?_
        refine WE.endW4 (.inl rfl) (res1 Tryz.results89 rfl) ?_
        -- end 0
        exact ⟨rfl, e, he, perm2 (by rw [hit, hdp_cons A x [] [Nd.mk e id fv], lastp_cons]; rfl) (by simp only [List.flatten_cons, List.flatten_nil, List.append_nil]; exact ch_ins A x (Nd.mk e id fv) [] _)⟩
      ·
        try simp only [Z1, Z2, Z3, Z4, Z5, Z6, Z7, Z8, Z9, Z0] at q8
        first | (simp at q2; done) | (simp at q4; done) | (simp at q5; done) | (simp [nextOf, nilI] at q8; done) | (exfalso; omega)

/-- (*given.example/pub-tinwright/pub/smithy/middleware.FinalizeStep).Insert -/
theorem insA3 (base sb : Nat) (x : Nd) (items : List Nd) (id : List UInt8) (fv : Value) (A B : List Nd) (y : Nd) (hit : items = A ++ x :: (y :: B)) (hA : ∀ y ∈ A, y.id ≠ x.id) : FnW Tryz.prog 89 [Pt sb 0, .iface 239 (.agg #[S id, fv]), S x.id, I 0] base [[(sb, .cells #[(hdp (items)), (lastp (items))] 212 (0, 0))], ch 210 241 239 items .nilIface] (fun v Hs => v = .nilIface ∧ ∃ e, base ≤ e ∧ Hs.flatten.Perm ([[(sb, .cells #[(hdp (A ++ x :: Nd.mk e id fv :: y :: B)), (lastp (A ++ x :: Nd.mk e id fv :: y :: B))] 212 (0, 0))], ch 210 241 239 (A ++ x :: Nd.mk e id fv :: y :: B) .nilIface] : List Hp).flatten) := by
  refine FnW.enter (n := 76) Tryz.func89 rfl rfl fun w0 R0 hbase => ?_
  subst hbase
  show WC _ _ _ _ _ _ _ ([[(sb, .cells #[(hdp (items)), (lastp (items))] 212 (0, 0))], ch 210 241 239 items .nilIface, R0])
  refine WC.sub (fr' := [(0, _), (1, _), (2, _), (3, _)]) ?_ ⟨rfl, rfl, rfl, rfl, trivial⟩
  refine WC.seq (WC.region ?_)
  refine WL.q (oq_assign rfl) rfl rfl rfl ?_
  refine WL.nil (WE.then_normal (WC.sub (fr' := [(0, _), (1, _), (2, _), (3, _)]) ?_ ⟨rfl, rfl, rfl, rfl, trivial⟩))
  refine WC.seq (WC.region ?_)
  refine WL.q (oq_move rfl) rfl rfl rfl ?_
  refine WL.q (oq_move rfl) rfl rfl rfl ?_
  refine WL.f1 ?_
  refine WL.f1 ?_
  refine WL.callW2 (gotH3 _ sb x.id A (y :: B) x items hit rfl hA) call117 rfl rfl rfl fun v1_2 Hs1_2 hR1_2 => ?_
  obtain ⟨rfl, rfl⟩ := hR1_2
  refine WL.to2 ?_
  refine WL.q (oq_move rfl) rfl rfl rfl ?_
  refine WL.q (oq_extract rfl rfl) rfl rfl rfl ?_
  refine WL.q (oq_extract rfl rfl) rfl rfl rfl ?_
  refine WL.q (oq_assign rfl) rfl rfl rfl ?_
  refine WL.q (oq_assign rfl) rfl rfl rfl ?_
  refine WL.nil (WE.then_normal (WC.sub (fr' := [(0, _), (1, _), (3, _), (9, _), (10, _)]) ?_ ⟨rfl, rfl, rfl, rfl, rfl, trivial⟩))
  refine WC.seq (WC.seq (WC.region ?_))
  refine WL.q (oq_move rfl) rfl rfl rfl ?_
  refine WL.q (oq_peql Tryz.underlying210 rfl rfl) rfl rfl rfl ?_
  refine WL.nil (WE.then_normal (WC.sub (fr' := [(0, _), (1, _), (3, _), (9, _), (10, _), (19, _)]) ?_ ⟨rfl, rfl, rfl, rfl, rfl, rfl, trivial⟩))
  refine WC.cond rfl (fun q2 => ?_) (fun q2 => ?_)
  ·
    try simp only [Z1, Z2, Z3, Z4, Z5, Z6, Z7, Z8, Z9, Z0] at q2
    first | (simp at q2; done) | (simp at q4; done) | (simp at q5; done) | (simp [nextOf, nilI] at q8; done) | (exfalso; omega)
  ·
    try simp only [Z1, Z2, Z3, Z4, Z5, Z6, Z7, Z8, Z9, Z0] at q2
    refine WC.skip (WE.then_normal (WC.sub (fr' := [(0, _), (1, _), (3, _), (9, _), (10, _)]) ?_ ⟨rfl, rfl, rfl, rfl, rfl, trivial⟩))
    refine WC.seq (WC.seq (WC.region ?_))
    refine WL.q (oq_move rfl) rfl rfl rfl ?_
    refine WL.q (oq_eql rfl rfl) rfl rfl rfl ?_
    refine WL.nil (WE.then_normal (WC.sub (fr' := [(0, _), (1, _), (9, _), (10, _), (22, _)]) ?_ ⟨rfl, rfl, rfl, rfl, rfl, trivial⟩))
    refine WC.cond rfl (fun q4 => ?_) (fun q4 => ?_)
    ·
      try simp only [Z1, Z2, Z3, Z4, Z5, Z6, Z7, Z8, Z9, Z0] at q4
      first | (simp at q2; done) | (simp at q4; done) | (simp at q5; done) | (simp [nextOf, nilI] at q8; done) | (exfalso; omega)
    ·
      try simp only [Z1, Z2, Z3, Z4, Z5, Z6, Z7, Z8, Z9, Z0] at q4
      refine WC.seq (WC.region ?_)
      refine WL.q (oq_move rfl) rfl rfl rfl ?_
      refine WL.q (oq_nilCheck rfl) rfl rfl rfl ?_
      refine WL.q (oq_fieldAddr fld241_0 rfl) rfl rfl rfl ?_
      refine WL.q (oq_load flat169 rfl (.tail _ (.head _)) (mem_of hit) rfl) rfl rfl rfl ?_
      refine WL.q (oq_ieql Tryz.underlying169 rfl (.inr ⟨_, _, rfl⟩)) rfl rfl rfl ?_
      refine WL.nil (WE.then_normal (WC.sub (fr' := [(0, _), (1, _), (9, _), (49, _)]) ?_ ⟨rfl, rfl, rfl, rfl, trivial⟩))
      refine WC.cond rfl (fun q8 => ?_) (fun q8 => ?_)
      ·
        try simp only [Z1, Z2, Z3, Z4, Z5, Z6, Z7, Z8, Z9, Z0] at q8
        first | (simp at q2; done) | (simp at q4; done) | (simp at q5; done) | (simp [nextOf, nilI] at q8; done) | (exfalso; omega)
      ·
        try simp only [Z1, Z2, Z3, Z4, Z5, Z6, Z7, Z8, Z9, Z0] at q8
        refine WC.region ?_
        refine WL.f1 ?_
        refine WL.reg (reg_out (show (ch 210 241 239 (items) .nilIface).Perm ([(x.b, .cells #[nextOf 210 (y :: B) .nilIface, wv 239 x] 241 (0, 0))] ++ (ch 210 241 239 (A) (.iface 210 (Pt x.b 0)) ++ ch 210 241 239 (y :: B) .nilIface)) from by rw [hit]; exact ch_out _ _ _ _)) ?_
        refine WL.q (oq_move rfl) rfl rfl rfl ?_
        refine WL.q (oq_move rfl) rfl rfl rfl ?_
        refine WL.q (oq_nilCheck rfl) rfl rfl rfl ?_
        refine WL.q (oq_fieldAddr fld241_0 rfl) rfl rfl rfl ?_
        refine WL.q (oq_load flat169 rfl (.head _) (List.mem_singleton.2 rfl) rfl) rfl rfl rfl ?_
        refine WL.q (oq_move rfl) rfl rfl rfl ?_
        refine WL.q (oq_build #[_, _] str241 ty241 rfl rfl) rfl rfl rfl ?_
        refine WL.box rfl rfl rfl fun e he => ?_
        refine WL.q (oq_makeI conc210 rfl) rfl rfl rfl ?_
        refine WL.q (oq_nilCheck rfl) rfl rfl rfl ?_
        refine WL.q (oq_fieldAddr fld241_0 rfl) rfl rfl rfl ?_
        refine WL.f1 ?_
        refine WL.store1 #[_, _] ty169 rfl rfl (by first | rfl | exact OwS.one one_) (Nat.lt_of_lt_of_le (Nat.lt_succ_self _) (Nat.le_of_ble_eq_true rfl)) rfl rfl ?_
        refine WL.nil (WE.then_normal (WC.sub (fr' := []) ?_ trivial))
        refine WC.seq (WC.region ?_)
        refine WL.q (oq_assign rfl) rfl rfl rfl ?_
        refine WL.nil (WE.then_normal (WC.sub (fr' := [(8, _)]) ?_ ⟨rfl, trivial⟩))
        refine WC.ret ?_
        refine WE.f4 ?_
        refine WE.f3 ?_
        refine WE.f3 ?_
        refine WE.f3 ?_
        refine WE.f4 ?_
        refine WE.endW4 (.inl rfl) (res1 Tryz.results89 rfl) ?_
        -- end 0
        exact ⟨rfl, e, he, perm2 (by rw [hit, hdp_cons A x (y :: B) (Nd.mk e id fv :: y :: B), lastp_cons, lastp_cons]; rfl) (by simp only [List.flatten_cons, List.flatten_nil, List.append_nil]; exact ch_ins A x (Nd.mk e id fv) (y :: B) _)⟩

/-- (*given.example/pub-tinwright/pub/smithy/middleware.FinalizeStep).Insert -/
theorem insN3 (base sb : Nat) (id by_ : List UInt8) (fv : Value) (items : List Nd) (hn : ∀ y ∈ items, y.id ≠ by_) (pos : Int) : FnW Tryz.prog 89 [Pt sb 0, .iface 239 (.agg #[S id, fv]), S by_, I pos] base [[(sb, .cells #[(hdp (items)), (lastp (items))] 212 (0, 0))], ch 210 241 239 items .nilIface] (fun v Hs => (∃ k u, v = .iface k u) ∧ Hs = [[(sb, .cells #[(hdp (items)), (lastp (items))] 212 (0, 0))], ch 210 241 239 items .nilIface]) := by
  refine FnW.enter (n := 76) Tryz.func89 rfl rfl fun w0 R0 hbase => ?_
  subst hbase
  show WC _ _ _ _ _ _ _ ([[(sb, .cells #[(hdp (items)), (lastp (items))] 212 (0, 0))], ch 210 241 239 items .nilIface, R0])
  refine WC.sub (fr' := [(0, _), (1, _), (2, _), (3, _)]) ?_ ⟨rfl, rfl, rfl, rfl, trivial⟩
  refine WC.seq (WC.region ?_)
  refine WL.q (oq_assign rfl) rfl rfl rfl ?_
  refine WL.nil (WE.then_normal (WC.sub (fr' := [(0, _), (1, _), (2, _), (3, _)]) ?_ ⟨rfl, rfl, rfl, rfl, trivial⟩))
  refine WC.seq (WC.region ?_)
  refine WL.q (oq_move rfl) rfl rfl rfl ?_
  refine WL.q (oq_move rfl) rfl rfl rfl ?_
  refine WL.f1 ?_
  refine WL.f1 ?_
  refine WL.callW2 (gotM3 _ sb by_ items hn) call117 rfl rfl rfl fun v1_2 Hs1_2 hR1_2 => ?_
  obtain ⟨rfl, rfl⟩ := hR1_2
  refine WL.to2 ?_
  refine WL.q (oq_move rfl) rfl rfl rfl ?_
  refine WL.q (oq_extract rfl rfl) rfl rfl rfl ?_
  refine WL.q (oq_extract rfl rfl) rfl rfl rfl ?_
  refine WL.q (oq_assign rfl) rfl rfl rfl ?_
  refine WL.q (oq_assign rfl) rfl rfl rfl ?_
  refine WL.nil (WE.then_normal (WC.sub (fr' := [(0, _), (1, _), (3, _), (9, _), (10, _)]) ?_ ⟨rfl, rfl, rfl, rfl, rfl, trivial⟩))
  refine WC.seq (WC.seq (WC.region ?_))
  refine WL.q (oq_move rfl) rfl rfl rfl ?_
  refine WL.q (oq_peql Tryz.underlying210 rfl rfl) rfl rfl rfl ?_
  refine WL.nil (WE.then_normal (WC.sub (fr' := [(0, _), (1, _), (3, _), (9, _), (10, _), (19, _)]) ?_ ⟨rfl, rfl, rfl, rfl, rfl, rfl, trivial⟩))
  refine WC.cond rfl (fun q2 => ?_) (fun q2 => ?_)
  ·
    try simp only [Z1, Z2, Z3, Z4, Z5, Z6, Z7, Z8, Z9, Z0] at q2
    refine WC.seq (WC.region ?_)
    refine WL.callA0 (errNew _) call113 rfl rfl rfl fun v3_0 N3_0 hR3_0 hN3_0 => ?_
    obtain ⟨ek, eu, rfl⟩ := hR3_0
    refine WL.q (oq_assign rfl) rfl rfl rfl ?_
    refine WL.nil (WE.then_normal (WC.sub (fr' := [(8, _)]) ?_ ⟨rfl, trivial⟩))
    refine WC.ret (WE.then_ret ?_)
    refine WE.forget hN3_0 ?_
    refine WE.endW2 (.inl rfl) (res1 Tryz.results89 rfl) ?_
    -- end 0
    exact ⟨⟨_, _, rfl⟩, rfl⟩
  ·
    try simp only [Z1, Z2, Z3, Z4, Z5, Z6, Z7, Z8, Z9, Z0] at q2
    simp at q2

/-- (*given.example/pub-tinwright/pub/smithy/middleware.FinalizeStep).Swap -/
theorem swapH3 (base sb : Nat) (id : List UInt8) (fv : Value) (A B : List Nd) (x : Nd) (items : List Nd) (hit : items = A ++ x :: B) (hA : ∀ y ∈ A, y.id ≠ x.id)  : FnW Tryz.prog 91 [Pt sb 0, S x.id, .iface 239 (.agg #[S id, fv])] base [[(sb, .cells #[(hdp (items)), (lastp (items))] 212 (0, 0))], ch 210 241 239 items .nilIface] (fun v Hs => v = .tuple #[wv 239 x, .nilIface] ∧ Hs.flatten.Perm ([[(sb, .cells #[(hdp (A ++ Nd.mk x.b id fv :: B)), (lastp (A ++ Nd.mk x.b id fv :: B))] 212 (0, 0))], ch 210 241 239 (A ++ Nd.mk x.b id fv :: B) .nilIface] : List Hp).flatten) := by
  refine FnW.enter (n := 29) Tryz.func91 rfl rfl fun w0 R0 hbase => ?_
  subst hbase
  show WC _ _ _ _ _ _ _ ([[(sb, .cells #[(hdp (items)), (lastp (items))] 212 (0, 0))], ch 210 241 239 items .nilIface, R0])
  refine WC.sub (fr' := [(0, _), (1, _), (2, _)]) ?_ ⟨rfl, rfl, rfl, trivial⟩
  refine WC.seq (WC.region ?_)
  refine WL.q (oq_assign rfl) rfl rfl rfl ?_
  refine WL.q (oq_assign rfl) rfl rfl rfl ?_
  refine WL.nil (WE.then_normal (WC.sub (fr' := [(0, _), (1, _), (2, _)]) ?_ ⟨rfl, rfl, rfl, trivial⟩))
  refine WC.seq (WC.region ?_)
  refine WL.q (oq_move rfl) rfl rfl rfl ?_
  refine WL.q (oq_move rfl) rfl rfl rfl ?_
  refine WL.f1 ?_
  refine WL.f1 ?_
  refine WL.callW2 (gotH3 _ sb x.id A B x items hit rfl hA) call117 rfl rfl rfl fun v1_2 Hs1_2 hR1_2 => ?_
  obtain ⟨rfl, rfl⟩ := hR1_2
  refine WL.to2 ?_
  refine WL.q (oq_move rfl) rfl rfl rfl ?_
  refine WL.q (oq_extract rfl rfl) rfl rfl rfl ?_
  refine WL.q (oq_extract rfl rfl) rfl rfl rfl ?_
  refine WL.q (oq_assign rfl) rfl rfl rfl ?_
  refine WL.q (oq_assign rfl) rfl rfl rfl ?_
  refine WL.nil (WE.then_normal (WC.sub (fr' := [(2, _), (8, _)]) ?_ ⟨rfl, rfl, trivial⟩))
  refine WC.seq (WC.seq (WC.region ?_))
  refine WL.q (oq_move rfl) rfl rfl rfl ?_
  refine WL.q (oq_peql Tryz.underlying210 rfl rfl) rfl rfl rfl ?_
  refine WL.nil (WE.then_normal (WC.sub (fr' := [(2, _), (8, _), (18, _)]) ?_ ⟨rfl, rfl, rfl, trivial⟩))
  refine WC.cond rfl (fun q2 => ?_) (fun q2 => ?_)
  ·
    try simp only [Z1, Z2, Z3, Z4, Z5, Z6, Z7, Z8, Z9, Z0] at q2
    simp at q2
  ·
    try simp only [Z1, Z2, Z3, Z4, Z5, Z6, Z7, Z8, Z9, Z0] at q2
    refine WC.skip (WE.then_normal (WC.sub (fr' := [(2, _), (8, _)]) ?_ ⟨rfl, rfl, trivial⟩))
    refine WC.seq (WC.region ?_)
    refine WL.f1 ?_
    refine WL.reg (reg_out (show (ch 210 241 239 (items) .nilIface).Perm ([(x.b, .cells #[nextOf 210 (B) .nilIface, wv 239 x] 241 (0, 0))] ++ (ch 210 241 239 (A) (.iface 210 (Pt x.b 0)) ++ ch 210 241 239 (B) .nilIface)) from by rw [hit]; exact ch_out _ _ _ _)) ?_
    refine WL.q (oq_move rfl) rfl rfl rfl ?_
    refine WL.q (oq_nilCheck rfl) rfl rfl rfl ?_
    refine WL.q (oq_fieldAddr fld241_1 rfl) rfl rfl rfl ?_
    refine WL.q (oq_load flat165 rfl (.head _) (List.mem_singleton.2 rfl) rfl) rfl rfl rfl ?_
    refine WL.q (oq_assign rfl) rfl rfl rfl ?_
    refine WL.nil (WE.then_normal (WC.sub (fr' := [(2, _), (8, _), (10, _)]) ?_ ⟨rfl, rfl, rfl, trivial⟩))
    refine WC.seq (WC.region ?_)
    refine WL.q (oq_move rfl) rfl rfl rfl ?_
    refine WL.q (oq_move rfl) rfl rfl rfl ?_
    refine WL.q (oq_nilCheck rfl) rfl rfl rfl ?_
    refine WL.q (oq_fieldAddr fld241_1 rfl) rfl rfl rfl ?_
    refine WL.store1 #[_, _] ty165 rfl rfl (by first | rfl | exact OwS.one one_) (Nat.lt_of_lt_of_le (Nat.lt_succ_self _) (Nat.le_of_ble_eq_true rfl)) rfl rfl ?_
    refine WL.nil (WE.then_normal (WC.sub (fr' := [(10, _)]) ?_ ⟨rfl, trivial⟩))
    refine WC.seq (WC.region ?_)
    refine WL.q (oq_move rfl) rfl rfl rfl ?_
    refine WL.q (oq_assign rfl) rfl rfl rfl ?_
    refine WL.q (oq_assign rfl) rfl rfl rfl ?_
    refine WL.nil (WE.then_normal (WC.sub (fr' := [(6, _), (7, _)]) ?_ ⟨rfl, rfl, trivial⟩))
    refine WC.ret ?_
    refine WE.f3 ?_
    refine WE.f2 ?_
    refine WE.f2 ?_
    refine WE.f3 ?_
    refine WE.endW3 (.inl rfl) (res2 Tryz.results91 rfl rfl) ?_
    -- end 0
    exact ⟨rfl, perm2 (by rw [hit, ← hdp_b A B x id fv, ← lastp_b A B x id fv]) (by simp only [List.flatten_cons, List.flatten_nil, List.append_nil]; exact ch_del A (Nd.mk x.b id fv) B _)⟩

/-- (*given.example/pub-tinwright/pub/smithy/middleware.FinalizeStep).Swap -/
theorem swapN3 (base sb : Nat) (by_ : List UInt8) (m : Value) (items : List Nd) (hn : ∀ y ∈ items, y.id ≠ by_) : FnW Tryz.prog 91 [Pt sb 0, S by_, m] base [[(sb, .cells #[(hdp (items)), (lastp (items))] 212 (0, 0))], ch 210 241 239 items .nilIface] (fun v Hs => (∃ k u, v = .tuple #[.nilIface, .iface k u]) ∧ Hs = [[(sb, .cells #[(hdp (items)), (lastp (items))] 212 (0, 0))], ch 210 241 239 items .nilIface]) := by
  refine FnW.enter (n := 29) Tryz.func91 rfl rfl fun w0 R0 hbase => ?_
  subst hbase
  show WC _ _ _ _ _ _ _ ([[(sb, .cells #[(hdp (items)), (lastp (items))] 212 (0, 0))], ch 210 241 239 items .nilIface, R0])
  refine WC.sub (fr' := [(0, _), (1, _), (2, _)]) ?_ ⟨rfl, rfl, rfl, trivial⟩
  refine WC.seq (WC.region ?_)
  refine WL.q (oq_assign rfl) rfl rfl rfl ?_
  refine WL.q (oq_assign rfl) rfl rfl rfl ?_
  refine WL.nil (WE.then_normal (WC.sub (fr' := [(0, _), (1, _), (2, _)]) ?_ ⟨rfl, rfl, rfl, trivial⟩))
  refine WC.seq (WC.region ?_)
  refine WL.q (oq_move rfl) rfl rfl rfl ?_
  refine WL.q (oq_move rfl) rfl rfl rfl ?_
  refine WL.f1 ?_
  refine WL.f1 ?_
  refine WL.callW2 (gotM3 _ sb by_ items hn) call117 rfl rfl rfl fun v1_2 Hs1_2 hR1_2 => ?_
  obtain ⟨rfl, rfl⟩ := hR1_2
  refine WL.to2 ?_
  refine WL.q (oq_move rfl) rfl rfl rfl ?_
  refine WL.q (oq_extract rfl rfl) rfl rfl rfl ?_
  refine WL.q (oq_extract rfl rfl) rfl rfl rfl ?_
  refine WL.q (oq_assign rfl) rfl rfl rfl ?_
  refine WL.q (oq_assign rfl) rfl rfl rfl ?_
  refine WL.nil (WE.then_normal (WC.sub (fr' := [(2, _), (8, _)]) ?_ ⟨rfl, rfl, trivial⟩))
  refine WC.seq (WC.seq (WC.region ?_))
  refine WL.q (oq_move rfl) rfl rfl rfl ?_
  refine WL.q (oq_peql Tryz.underlying210 rfl rfl) rfl rfl rfl ?_
  refine WL.nil (WE.then_normal (WC.sub (fr' := [(2, _), (8, _), (18, _)]) ?_ ⟨rfl, rfl, rfl, trivial⟩))
  refine WC.cond rfl (fun q2 => ?_) (fun q2 => ?_)
  ·
    try simp only [Z1, Z2, Z3, Z4, Z5, Z6, Z7, Z8, Z9, Z0] at q2
    refine WC.seq (WC.region ?_)
    refine WL.callA0 (errNew _) call113 rfl rfl rfl fun v3_0 N3_0 hR3_0 hN3_0 => ?_
    obtain ⟨ek, eu, rfl⟩ := hR3_0
    refine WL.q (oq_assign rfl) rfl rfl rfl ?_
    refine WL.q (oq_assign rfl) rfl rfl rfl ?_
    refine WL.nil (WE.then_normal (WC.sub (fr' := [(6, _), (7, _)]) ?_ ⟨rfl, rfl, trivial⟩))
    refine WC.ret (WE.then_ret ?_)
    refine WE.forget hN3_0 ?_
    refine WE.endW2 (.inl rfl) (res2 Tryz.results91 rfl rfl) ?_
    -- end 0
    exact ⟨⟨_, _, rfl⟩, rfl⟩
  ·
    try simp only [Z1, Z2, Z3, Z4, Z5, Z6, Z7, Z8, Z9, Z0] at q2
    simp at q2

/-- (*given.example/pub-tinwright/pub/smithy/middleware.DeserializeStep).Insert -/
theorem insF4 (base sb : Nat) (x : Nd) (items : List Nd) (id : List UInt8) (fv : Value) (B : List Nd) (hit : items = [] ++ x :: B) : FnW Tryz.prog 104 [Pt sb 0, .iface 246 (.agg #[S id, fv]), S x.id, I 1] base [[(sb, .cells #[(hdp (items)), (lastp (items))] 215 (0, 0))], ch 213 248 246 items .nilIface] (fun v Hs => v = .nilIface ∧ ∃ e, base ≤ e ∧ Hs.flatten.Perm ([[(sb, .cells #[(hdp (Nd.mk e id fv :: items)), (lastp (Nd.mk e id fv :: items))] 215 (0, 0))], ch 213 248 246 (Nd.mk e id fv :: items) .nilIface] : List Hp).flatten) := by
  refine FnW.enter (n := 76) Tryz.func104 rfl rfl fun w0 R0 hbase => ?_
  subst hbase
  show WC _ _ _ _ _ _ _ ([[(sb, .cells #[(hdp (items)), (lastp (items))] 215 (0, 0))], ch 213 248 246 items .nilIface, R0])
  refine WC.sub (fr' := [(0, _), (1, _), (2, _), (3, _)]) ?_ ⟨rfl, rfl, rfl, rfl, trivial⟩
  refine WC.seq (WC.region ?_)
  refine WL.q (oq_assign rfl) rfl rfl rfl ?_
  refine WL.nil (WE.then_normal (WC.sub (fr' := [(0, _), (1, _), (2, _), (3, _)]) ?_ ⟨rfl, rfl, rfl, rfl, trivial⟩))
  refine WC.seq (WC.region ?_)
  refine WL.q (oq_move rfl) rfl rfl rfl ?_
  refine WL.q (oq_move rfl) rfl rfl rfl ?_
  refine WL.f1 ?_
  refine WL.f1 ?_
  refine WL.callW2 (gotH4 _ sb x.id [] B x items hit rfl (by simp)) call118 rfl rfl rfl fun v1_2 Hs1_2 hR1_2 => ?_
  obtain ⟨rfl, rfl⟩ := hR1_2
  refine WL.to2 ?_
  refine WL.q (oq_move rfl) rfl rfl rfl ?_
  refine WL.q (oq_extract rfl rfl) rfl rfl rfl ?_
  refine WL.q (oq_extract rfl rfl) rfl rfl rfl ?_
  refine WL.q (oq_assign rfl) rfl rfl rfl ?_
  refine WL.q (oq_assign rfl) rfl rfl rfl ?_
  refine WL.nil (WE.then_normal (WC.sub (fr' := [(0, _), (1, _), (3, _), (9, _), (10, _)]) ?_ ⟨rfl, rfl, rfl, rfl, rfl, trivial⟩))
  refine WC.seq (WC.seq (WC.region ?_))
  refine WL.q (oq_move rfl) rfl rfl rfl ?_
  refine WL.q (oq_peql Tryz.underlying213 rfl rfl) rfl rfl rfl ?_
  refine WL.nil (WE.then_normal (WC.sub (fr' := [(0, _), (1, _), (3, _), (9, _), (10, _), (19, _)]) ?_ ⟨rfl, rfl, rfl, rfl, rfl, rfl, trivial⟩))
  refine WC.cond rfl (fun q2 => ?_) (fun q2 => ?_)
  ·
    try simp only [Z1, Z2, Z3, Z4, Z5, Z6, Z7, Z8, Z9, Z0] at q2
    first | (simp at q2; done) | (simp at q4; done) | (simp at q5; done) | (simp [nextOf, nilI] at q8; done) | (exfalso; omega)
  ·
    try simp only [Z1, Z2, Z3, Z4, Z5, Z6, Z7, Z8, Z9, Z0] at q2
    refine WC.skip (WE.then_normal (WC.sub (fr' := [(0, _), (1, _), (3, _), (9, _), (10, _)]) ?_ ⟨rfl, rfl, rfl, rfl, rfl, trivial⟩))
    refine WC.seq (WC.seq (WC.region ?_))
    refine WL.q (oq_move rfl) rfl rfl rfl ?_
    refine WL.q (oq_eql rfl rfl) rfl rfl rfl ?_
    refine WL.nil (WE.then_normal (WC.sub (fr' := [(0, _), (1, _), (9, _), (10, _), (22, _)]) ?_ ⟨rfl, rfl, rfl, rfl, rfl, trivial⟩))
    refine WC.cond rfl (fun q4 => ?_) (fun q4 => ?_)
    ·
      try simp only [Z1, Z2, Z3, Z4, Z5, Z6, Z7, Z8, Z9, Z0] at q4
      refine WC.seq (WC.region ?_)
      refine WL.q (oq_move rfl) rfl rfl rfl ?_
      refine WL.q (oq_peql Tryz.underlying213 rfl rfl) rfl rfl rfl ?_
      refine WL.nil (WE.then_normal (WC.sub (fr' := [(0, _), (1, _), (9, _), (10, _), (24, _)]) ?_ ⟨rfl, rfl, rfl, rfl, rfl, trivial⟩))
      refine WC.cond rfl (fun q5 => ?_) (fun q5 => ?_)
      ·
        try simp only [Z1, Z2, Z3, Z4, Z5, Z6, Z7, Z8, Z9, Z0] at q5
        have hd0 : hdp items = Pt x.b 0 := by rw [hit]; rfl
        rw [hd0]
        refine WC.region ?_
        refine WL.q (oq_move rfl) rfl rfl rfl ?_
        refine WL.q (oq_move rfl) rfl rfl rfl ?_
        refine WL.q (oq_nilCheck rfl) rfl rfl rfl ?_
        refine WL.q (oq_fieldAddr fld215_0 rfl) rfl rfl rfl ?_
        refine WL.q (oq_load flat213 rfl (.head _) (List.mem_singleton.2 rfl) rfl) rfl rfl rfl ?_
        refine WL.q (oq_makeI conc213 rfl) rfl rfl rfl ?_
        refine WL.q (oq_move rfl) rfl rfl rfl ?_
        refine WL.q (oq_build #[_, _] str248 ty248 rfl rfl) rfl rfl rfl ?_
        refine WL.box rfl rfl rfl fun e he => ?_
        refine WL.q (oq_nilCheck rfl) rfl rfl rfl ?_
        refine WL.q (oq_fieldAddr fld215_0 rfl) rfl rfl rfl ?_
        refine WL.f1 ?_
        refine WL.store1 #[_, _] ty213 rfl rfl (by first | rfl | exact OwS.one one_) (Nat.lt_of_lt_of_le (Nat.lt_succ_self _) (Nat.le_of_ble_eq_true rfl)) rfl rfl ?_
        refine WL.nil (WE.then_normal (WC.sub (fr' := []) ?_ trivial))
        refine WC.seq (WC.region ?_)
        refine WL.q (oq_assign rfl) rfl rfl rfl ?_
        refine WL.nil (WE.then_normal (WC.sub (fr' := [(8, _)]) ?_ ⟨rfl, trivial⟩))
        refine WC.ret ?_
        refine WE.endW3 (.inl rfl) (res1 Tryz.results104 rfl) ?_
        -- end 0
        exact ⟨rfl, e, he, perm2 (by rw [lastp_ne _ _ (by rw [hit]; simp)]; rfl) (by simp only [List.flatten_cons, List.flatten_nil, List.append_nil]; exact .of_eq (ch_front hit (Nd.mk e id fv)))⟩
      ·
        try simp only [Z1, Z2, Z3, Z4, Z5, Z6, Z7, Z8, Z9, Z0] at q5
        first | (simp at q2; done) | (simp at q4; done) | (simp at q5; done) | (simp [nextOf, nilI] at q8; done) | (exfalso; omega)
    ·
      try simp only [Z1, Z2, Z3, Z4, Z5, Z6, Z7, Z8, Z9, Z0] at q4
      first | (simp at q2; done) | (simp at q4; done) | (simp at q5; done) | (simp [nextOf, nilI] at q8; done) | (exfalso; omega)

/-- (*given.example/pub-tinwright/pub/smithy/middleware.DeserializeStep).Insert -/
theorem insM4 (base sb : Nat) (x : Nd) (items : List Nd) (id : List UInt8) (fv : Value) (A2 B : List Nd) (p : Nd) (hit : items = (A2 ++ [p]) ++ x :: B) (hA : ∀ y ∈ A2 ++ [p], y.id ≠ x.id) : FnW Tryz.prog 104 [Pt sb 0, .iface 246 (.agg #[S id, fv]), S x.id, I 1] base [[(sb, .cells #[(hdp (items)), (lastp (items))] 215 (0, 0))], ch 213 248 246 items .nilIface] (fun v Hs => v = .nilIface ∧ ∃ e, base ≤ e ∧ Hs.flatten.Perm ([[(sb, .cells #[(hdp (A2 ++ p :: Nd.mk e id fv :: x :: B)), (lastp (A2 ++ p :: Nd.mk e id fv :: x :: B))] 215 (0, 0))], ch 213 248 246 (A2 ++ p :: Nd.mk e id fv :: x :: B) .nilIface] : List Hp).flatten) := by
  have hit2 : items = A2 ++ p :: x :: B := by rw [hit]; simp
  refine FnW.enter (n := 76) Tryz.func104 rfl rfl fun w0 R0 hbase => ?_
  subst hbase
  show WC _ _ _ _ _ _ _ ([[(sb, .cells #[(hdp (items)), (lastp (items))] 215 (0, 0))], ch 213 248 246 items .nilIface, R0])
  refine WC.sub (fr' := [(0, _), (1, _), (2, _), (3, _)]) ?_ ⟨rfl, rfl, rfl, rfl, trivial⟩
  refine WC.seq (WC.region ?_)
  refine WL.q (oq_assign rfl) rfl rfl rfl ?_
  refine WL.nil (WE.then_normal (WC.sub (fr' := [(0, _), (1, _), (2, _), (3, _)]) ?_ ⟨rfl, rfl, rfl, rfl, trivial⟩))
  refine WC.seq (WC.region ?_)
  refine WL.q (oq_move rfl) rfl rfl rfl ?_
  refine WL.q (oq_move rfl) rfl rfl rfl ?_
  refine WL.f1 ?_
  refine WL.f1 ?_
  refine WL.callW2 (gotH4 _ sb x.id (A2 ++ [p]) B x items hit rfl hA) call118 rfl rfl rfl fun v1_2 Hs1_2 hR1_2 => ?_
  obtain ⟨rfl, rfl⟩ := hR1_2
  rw [lastp_snoc]
  refine WL.to2 ?_
  refine WL.q (oq_move rfl) rfl rfl rfl ?_
  refine WL.q (oq_extract rfl rfl) rfl rfl rfl ?_
  refine WL.q (oq_extract rfl rfl) rfl rfl rfl ?_
  refine WL.q (oq_assign rfl) rfl rfl rfl ?_
  refine WL.q (oq_assign rfl) rfl rfl rfl ?_
  refine WL.nil (WE.then_normal (WC.sub (fr' := [(0, _), (1, _), (3, _), (9, _), (10, _)]) ?_ ⟨rfl, rfl, rfl, rfl, rfl, trivial⟩))
  refine WC.seq (WC.seq (WC.region ?_))
  refine WL.q (oq_move rfl) rfl rfl rfl ?_
  refine WL.q (oq_peql Tryz.underlying213 rfl rfl) rfl rfl rfl ?_
  refine WL.nil (WE.then_normal (WC.sub (fr' := [(0, _), (1, _), (3, _), (9, _), (10, _), (19, _)]) ?_ ⟨rfl, rfl, rfl, rfl, rfl, rfl, trivial⟩))
  refine WC.cond rfl (fun q2 => ?_) (fun q2 => ?_)
  ·
    try simp only [Z1, Z2, Z3, Z4, Z5, Z6, Z7, Z8, Z9, Z0] at q2
    first | (simp at q2; done) | (simp at q4; done) | (simp at q5; done) | (simp [nextOf, nilI] at q8; done) | (exfalso; omega)
  ·
    try simp only [Z1, Z2, Z3, Z4, Z5, Z6, Z7, Z8, Z9, Z0] at q2
    refine WC.skip (WE.then_normal (WC.sub (fr' := [(0, _), (1, _), (3, _), (9, _), (10, _)]) ?_ ⟨rfl, rfl, rfl, rfl, rfl, trivial⟩))
    refine WC.seq (WC.seq (WC.region ?_))
    refine WL.q (oq_move rfl) rfl rfl rfl ?_
    refine WL.q (oq_eql rfl rfl) rfl rfl rfl ?_
    refine WL.nil (WE.then_normal (WC.sub (fr' := [(0, _), (1, _), (9, _), (10, _), (22, _)]) ?_ ⟨rfl, rfl, rfl, rfl, rfl, trivial⟩))
    refine WC.cond rfl (fun q4 => ?_) (fun q4 => ?_)
    ·
      try simp only [Z1, Z2, Z3, Z4, Z5, Z6, Z7, Z8, Z9, Z0] at q4
      refine WC.seq (WC.region ?_)
      refine WL.q (oq_move rfl) rfl rfl rfl ?_
      refine WL.q (oq_peql Tryz.underlying213 rfl rfl) rfl rfl rfl ?_
      refine WL.nil (WE.then_normal (WC.sub (fr' := [(0, _), (1, _), (9, _), (10, _), (24, _)]) ?_ ⟨rfl, rfl, rfl, rfl, rfl, trivial⟩))
      refine WC.cond rfl (fun q5 => ?_) (fun q5 => ?_)
      ·
        try simp only [Z1, Z2, Z3, Z4, Z5, Z6, Z7, Z8, Z9, Z0] at q5
        first | (simp at q2; done) | (simp at q4; done) | (simp at q5; done) | (simp [nextOf, nilI] at q8; done) | (exfalso; omega)
      ·
        try simp only [Z1, Z2, Z3, Z4, Z5, Z6, Z7, Z8, Z9, Z0] at q5
        refine WC.region ?_
        refine WL.f1 ?_
        refine WL.reg (reg_out (show (ch 213 248 246 (items) .nilIface).Perm ([(p.b, .cells #[nextOf 213 (x :: B) .nilIface, wv 246 p] 248 (0, 0))] ++ (ch 213 248 246 (A2) (.iface 213 (Pt p.b 0)) ++ ch 213 248 246 (x :: B) .nilIface)) from by rw [hit2]; exact ch_out _ _ _ _)) ?_
        refine WL.q (oq_move rfl) rfl rfl rfl ?_
        refine WL.q (oq_move rfl) rfl rfl rfl ?_
        refine WL.q (oq_makeI conc213 rfl) rfl rfl rfl ?_
        refine WL.q (oq_move rfl) rfl rfl rfl ?_
        refine WL.q (oq_build #[_, _] str248 ty248 rfl rfl) rfl rfl rfl ?_
        refine WL.box rfl rfl rfl fun e he => ?_
        refine WL.q (oq_makeI conc213 rfl) rfl rfl rfl ?_
        refine WL.q (oq_nilCheck rfl) rfl rfl rfl ?_
        refine WL.q (oq_fieldAddr fld248_0 rfl) rfl rfl rfl ?_
        refine WL.f1 ?_
        refine WL.store1 #[_, _] ty187 rfl rfl (by first | rfl | exact OwS.one one_) (Nat.lt_of_lt_of_le (Nat.lt_succ_self _) (Nat.le_of_ble_eq_true rfl)) rfl rfl ?_
        refine WL.nil (WE.then_normal (WC.sub (fr' := []) ?_ trivial))
        refine WC.seq (WC.region ?_)
        refine WL.q (oq_assign rfl) rfl rfl rfl ?_
        refine WL.nil (WE.then_normal (WC.sub (fr' := [(8, _)]) ?_ ⟨rfl, trivial⟩))
        refine WC.ret ?_
        refine WE.f4 ?_
        refine WE.f3 ?_
        refine WE.f3 ?_
        refine WE.f3 ?_
        refine WE.f4 ?_
        refine WE.endW4 (.inl rfl) (res1 Tryz.results104 rfl) ?_
        -- end 0
        exact ⟨rfl, e, he, perm2 (by rw [hit2, hdp_cons A2 p (x :: B) (Nd.mk e id fv :: x :: B), lastp_cons, lastp_cons]; rfl) (by simp only [List.flatten_cons, List.flatten_nil, List.append_nil]; exact ch_ins A2 p (Nd.mk e id fv) (x :: B) _)⟩
    ·
      try simp only [Z1, Z2, Z3, Z4, Z5, Z6, Z7, Z8, Z9, Z0] at q4
      first | (simp at q2; done) | (simp at q4; done) | (simp at q5; done) | (simp [nextOf, nilI] at q8; done) | (exfalso; omega)

/-- (*given.example/pub-tinwright/pub/smithy/middleware.DeserializeStep).Insert -/
theorem insE4 (base sb : Nat) (x : Nd) (items : List Nd) (id : List UInt8) (fv : Value) (A : List Nd) (hit : items = A ++ x :: []) (hA : ∀ y ∈ A, y.id ≠ x.id) : FnW Tryz.prog 104 [Pt sb 0, .iface 246 (.agg #[S id, fv]), S x.id, I 0] base [[(sb, .cells #[(hdp (items)), (lastp (items))] 215 (0, 0))], ch 213 248 246 items .nilIface] (fun v Hs => v = .nilIface ∧ ∃ e, base ≤ e ∧ Hs.flatten.Perm ([[(sb, .cells #[(hdp (A ++ x :: Nd.mk e id fv :: [])), (lastp (A ++ x :: Nd.mk e id fv :: []))] 215 (0, 0))], ch 213 248 246 (A ++ x :: Nd.mk e id fv :: []) .nilIface] : List Hp).flatten) := by
  refine FnW.enter (n := 76) Tryz.func104 rfl rfl fun w0 R0 hbase => ?_
  subst hbase
  show WC _ _ _ _ _ _ _ ([[(sb, .cells #[(hdp (items)), (lastp (items))] 215 (0, 0))], ch 213 248 246 items .nilIface, R0])
  refine WC.sub (fr' := [(0, _), (1, _), (2, _), (3, _)]) ?_ ⟨rfl, rfl, rfl, rfl, trivial⟩
  refine WC.seq (WC.region ?_)
  refine WL.q (oq_assign rfl) rfl rfl rfl ?_
  refine WL.nil (WE.then_normal (WC.sub (fr' := [(0, _), (1, _), (2, _), (3, _)]) ?_ ⟨rfl, rfl, rfl, rfl, trivial⟩))
  refine WC.seq (WC.region ?_)
  refine WL.q (oq_move rfl) rfl rfl rfl ?_
  refine WL.q (oq_move rfl) rfl rfl rfl ?_
  refine WL.f1 ?_
  refine WL.f1 ?_
  refine WL.callW2 (gotH4 _ sb x.id A [] x items hit rfl hA) call118 rfl rfl rfl fun v1_2 Hs1_2 hR1_2 => ?_
  obtain ⟨rfl, rfl⟩ := hR1_2
  refine WL.to2 ?_
  refine WL.q (oq_move rfl) rfl rfl rfl ?_
  refine WL.q (oq_extract rfl rfl) rfl rfl rfl ?_
  refine WL.q (oq_extract rfl rfl) rfl rfl rfl ?_
  refine WL.q (oq_assign rfl) rfl rfl rfl ?_
  refine WL.q (oq_assign rfl) rfl rfl rfl ?_
  refine WL.nil (WE.then_normal (WC.sub (fr' := [(0, _), (1, _), (3, _), (9, _), (10, _)]) ?_ ⟨rfl, rfl, rfl, rfl, rfl, trivial⟩))
  refine WC.seq (WC.seq (WC.region ?_))
  refine WL.q (oq_move rfl) rfl rfl rfl ?_
  refine WL.q (oq_peql Tryz.underlying213 rfl rfl) rfl rfl rfl ?_
  refine WL.nil (WE.then_normal (WC.sub (fr' := [(0, _), (1, _), (3, _), (9, _), (10, _), (19, _)]) ?_ ⟨rfl, rfl, rfl, rfl, rfl, rfl, trivial⟩))
  refine WC.cond rfl (fun q2 => ?_) (fun q2 => ?_)
  ·
    try simp only [Z1, Z2, Z3, Z4, Z5, Z6, Z7, Z8, Z9, Z0] at q2
    first | (simp at q2; done) | (simp at q4; done) | (simp at q5; done) | (simp [nextOf, nilI] at q8; done) | (exfalso; omega)
  ·
    try simp only [Z1, Z2, Z3, Z4, Z5, Z6, Z7, Z8, Z9, Z0] at q2
    refine WC.skip (WE.then_normal (WC.sub (fr' := [(0, _), (1, _), (3, _), (9, _), (10, _)]) ?_ ⟨rfl, rfl, rfl, rfl, rfl, trivial⟩))
    refine WC.seq (WC.seq (WC.region ?_))
    refine WL.q (oq_move rfl) rfl rfl rfl ?_
    refine WL.q (oq_eql rfl rfl) rfl rfl rfl ?_
    refine WL.nil (WE.then_normal (WC.sub (fr' := [(0, _), (1, _), (9, _), (10, _), (22, _)]) ?_ ⟨rfl, rfl, rfl, rfl, rfl, trivial⟩))
    refine WC.cond rfl (fun q4 => ?_) (fun q4 => ?_)
    ·
      try simp only [Z1, Z2, Z3, Z4, Z5, Z6, Z7, Z8, Z9, Z0] at q4
      first | (simp at q2; done) | (simp at q4; done) | (simp at q5; done) | (simp [nextOf, nilI] at q8; done) | (exfalso; omega)
    ·
      try simp only [Z1, Z2, Z3, Z4, Z5, Z6, Z7, Z8, Z9, Z0] at q4
      refine WC.seq (WC.region ?_)
      refine WL.q (oq_move rfl) rfl rfl rfl ?_
      refine WL.q (oq_nilCheck rfl) rfl rfl rfl ?_
      refine WL.q (oq_fieldAddr fld248_0 rfl) rfl rfl rfl ?_
      refine WL.q (oq_load flat187 rfl (.tail _ (.head _)) (mem_of hit) rfl) rfl rfl rfl ?_
      refine WL.q (oq_ieql Tryz.underlying187 rfl (.inl rfl)) rfl rfl rfl ?_
      refine WL.nil (WE.then_normal (WC.sub (fr' := [(0, _), (1, _), (9, _), (49, _)]) ?_ ⟨rfl, rfl, rfl, rfl, trivial⟩))
      refine WC.cond rfl (fun q8 => ?_) (fun q8 => ?_)
      ·
        try simp only [Z1, Z2, Z3, Z4, Z5, Z6, Z7, Z8, Z9, Z0] at q8
        refine WC.seq (WC.region ?_)
        refine WL.q (oq_move rfl) rfl rfl rfl ?_
        refine WL.q (oq_build #[_, _] str248 ty248 rfl rfl) rfl rfl rfl ?_
        refine WL.box rfl rfl rfl fun e he => ?_
        refine WL.q (oq_assign rfl) rfl rfl rfl ?_
        refine WL.nil (WE.then_normal (WC.sub (fr' := [(0, _), (11, _)]) ?_ ⟨rfl, rfl, trivial⟩))
        refine WC.seq ?_
        have hl0 : lastp items = Pt x.b 0 := by rw [hit, lastp_snoc]
        rw [hl0]
        refine WC.region ?_
        refine WL.f2 ?_
        refine WL.reg (reg_out (show (ch 213 248 246 (items) .nilIface).Perm ([(x.b, .cells #[nextOf 213 ([]) .nilIface, wv 246 x] 248 (0, 0))] ++ (ch 213 248 246 (A) (.iface 213 (Pt x.b 0)) ++ ch 213 248 246 ([]) .nilIface)) from by rw [hit]; exact ch_out _ _ _ _)) ?_
        refine WL.q (oq_move rfl) rfl rfl rfl ?_
        refine WL.q (oq_nilCheck rfl) rfl rfl rfl ?_
        refine WL.q (oq_fieldAddr fld215_1 rfl) rfl rfl rfl ?_
        refine WL.q (oq_load flat213 rfl (.tail _ (.tail _ (.tail _ (.head _)))) (List.mem_singleton.2 rfl) rfl) rfl rfl rfl ?_
        refine WL.q (oq_move rfl) rfl rfl rfl ?_
        refine WL.q (oq_makeI conc213 rfl) rfl rfl rfl ?_
        refine WL.q (oq_nilCheck rfl) rfl rfl rfl ?_
        refine WL.q (oq_fieldAddr fld248_0 rfl) rfl rfl rfl ?_
        refine WL.store1 #[_, _] ty187 rfl rfl (by first | rfl | exact OwS.one one_) (Nat.lt_of_lt_of_le (Nat.lt_succ_self _) (Nat.le_of_ble_eq_true rfl)) rfl rfl ?_
        refine WL.nil (WE.then_normal (WC.sub (fr' := [(0, _), (11, _)]) ?_ ⟨rfl, rfl, trivial⟩))
        refine WC.region ?_
        refine WL.q (oq_move rfl) rfl rfl rfl ?_
        refine WL.q (oq_move rfl) rfl rfl rfl ?_
        refine WL.q (oq_nilCheck rfl) rfl rfl rfl ?_
        refine WL.q (oq_fieldAddr fld215_1 rfl) rfl rfl rfl ?_
        refine WL.f3 ?_
        refine WL.store1 #[_, _] ty213 rfl rfl (by first | rfl | exact OwS.one one_) (Nat.lt_of_lt_of_le (Nat.lt_succ_self _) (Nat.le_of_ble_eq_true rfl)) rfl rfl ?_
        refine WL.nil (WE.then_normal (WC.sub (fr' := []) ?_ trivial))
        refine WC.seq (WC.region ?_)
        refine WL.q (oq_assign rfl) rfl rfl rfl ?_
        refine WL.nil (WE.then_normal (WC.sub (fr' := [(8, _)]) ?_ ⟨rfl, trivial⟩))
        refine WC.ret ?_
        refine WE.f4 ?_
        refine WE.f3 ?_
        refine WE.f4 ?_
        refine WE.f4 ?_
        refine WE.f4 ?_
        refine WE.endW4 (.inl rfl) (res1 Tryz.results104 rfl) ?_
        -- end 0
        exact ⟨rfl, e, he, perm2 (by rw [hit, hdp_cons A x [] [Nd.mk e id fv], lastp_cons]; rfl) (by simp only [List.flatten_cons, List.flatten_nil, List.append_nil]; exact ch_ins A x (Nd.mk e id fv) [] _)⟩
      ·
        try simp only [Z1, Z2, Z3, Z4, Z5, Z6, Z7, Z8, Z9, Z0] at q8
        first | (simp at q2; done) | (simp at q4; done) | (simp at q5; done) | (simp [nextOf, nilI] at q8; done) | (exfalso; omega)

/-- (*given.example/pub-tinwright/pub/smithy/middleware.DeserializeStep).Insert -/
theorem insA4 (base sb : Nat) (x : Nd) (items : List Nd) (id : List UInt8) (fv : Value) (A B : List Nd) (y : Nd) (hit : items = A ++ x :: (y :: B)) (hA : ∀ y ∈ A, y.id ≠ x.id) : FnW Tryz.prog 104 [Pt sb 0, .iface 246 (.agg #[S id, fv]), S x.id, I 0] base [[(sb, .cells #[(hdp (items)), (lastp (items))] 215 (0, 0))], ch 213 248 246 items .nilIface] (fun v Hs => v = .nilIface ∧ ∃ e, base ≤ e ∧ Hs.flatten.Perm ([[(sb, .cells #[(hdp (A ++ x :: Nd.mk e id fv :: y :: B)), (lastp (A ++ x :: Nd.mk e id fv :: y :: B))] 215 (0, 0))], ch 213 248 246 (A ++ x :: Nd.mk e id fv :: y :: B) .nilIface] : List Hp).flatten) := by
  refine FnW.enter (n := 76) Tryz.func104 rfl rfl fun w0 R0 hbase => ?_
  subst hbase
  show WC _ _ _ _ _ _ _ ([[(sb, .cells #[(hdp (items)), (lastp (items))] 215 (0, 0))], ch 213 248 246 items .nilIface, R0])
  refine WC.sub (fr' := [(0, _), (1, _), (2, _), (3, _)]) ?_ ⟨rfl, rfl, rfl, rfl, trivial⟩
  refine WC.seq (WC.region ?_)
  refine WL.q (oq_assign rfl) rfl rfl rfl ?_
  refine WL.nil (WE.then_normal (WC.sub (fr' := [(0, _), (1, _), (2, _), (3, _)]) ?_ ⟨rfl, rfl, rfl, rfl, trivial⟩))
  refine WC.seq (WC.region ?_)
  refine WL.q (oq_move rfl) rfl rfl rfl ?_
  refine WL.q (oq_move rfl) rfl rfl rfl ?_
  refine WL.f1 ?_
  refine WL.f1 ?_
  refine WL.callW2 (gotH4 _ sb x.id A (y :: B) x items hit rfl hA) call118 rfl rfl rfl fun v1_2 Hs1_2 hR1_2 => ?_
  obtain ⟨rfl, rfl⟩ := hR1_2
  refine WL.to2 ?_
  refine WL.q (oq_move rfl) rfl rfl rfl ?_
  refine WL.q (oq_extract rfl rfl) rfl rfl rfl ?_
  refine WL.q (oq_extract rfl rfl) rfl rfl rfl ?_
  refine WL.q (oq_assign rfl) rfl rfl rfl ?_
  refine WL.q (oq_assign rfl) rfl rfl rfl ?_
  refine WL.nil (WE.then_normal (WC.sub (fr' := [(0, _), (1, _), (3, _), (9, _), (10, _)]) ?_ ⟨rfl, rfl, rfl, rfl, rfl, trivial⟩))
  refine WC.seq (WC.seq (WC.region ?_))
  refine WL.q (oq_move rfl) rfl rfl rfl ?_
  refine WL.q (oq_peql Tryz.underlying213 rfl rfl) rfl rfl rfl ?_
  refine WL.nil (WE.then_normal (WC.sub (fr' := [(0, _), (1, _), (3, _), (9, _), (10, _), (19, _)]) ?_ ⟨rfl, rfl, rfl, rfl, rfl, rfl, trivial⟩))
  refine WC.cond rfl (fun q2 => ?_) (fun q2 => ?_)
  ·
    try simp only [Z1, Z2, Z3, Z4, Z5, Z6, Z7, Z8, Z9, Z0] at q2
    first | (simp at q2; done) | (simp at q4; done) | (simp at q5; done) | (simp [nextOf, nilI] at q8; done) | (exfalso; omega)
  ·
    try simp only [Z1, Z2, Z3, Z4, Z5, Z6, Z7, Z8, Z9, Z0] at q2
    refine WC.skip (WE.then_normal (WC.sub (fr' := [(0, _), (1, _), (3, _), (9, _), (10, _)]) ?_ ⟨rfl, rfl, rfl, rfl, rfl, trivial⟩))
    refine WC.seq (WC.seq (WC.region ?_))
    refine WL.q (oq_move rfl) rfl rfl rfl ?_
    refine WL.q (oq_eql rfl rfl) rfl rfl rfl ?_
    refine WL.nil (WE.then_normal (WC.sub (fr' := [(0, _), (1, _), (9, _), (10, _), (22, _)]) ?_ ⟨rfl, rfl, rfl, rfl, rfl, trivial⟩))
    refine WC.cond rfl (fun q4 => ?_) (fun q4 => ?_)
    ·
      try simp only [Z1, Z2, Z3, Z4, Z5, Z6, Z7, Z8, Z9, Z0] at q4
      first | (simp at q2; done) | (simp at q4; done) | (simp at q5; done) | (simp [nextOf, nilI] at q8; done) | (exfalso; omega)
    ·
      try simp only [Z1, Z2, Z3, Z4, Z5, Z6, Z7, Z8, Z9, Z0] at q4
      refine WC.seq (WC.region ?_)
      refine WL.q (oq_move rfl) rfl rfl rfl ?_
      refine WL.q (oq_nilCheck rfl) rfl rfl rfl ?_
      refine WL.q (oq_fieldAddr fld248_0 rfl) rfl rfl rfl ?_
      refine WL.q (oq_load flat187 rfl (.tail _ (.head _)) (mem_of hit) rfl) rfl rfl rfl ?_
      refine WL.q (oq_ieql Tryz.underlying187 rfl (.inr ⟨_, _, rfl⟩)) rfl rfl rfl ?_
      refine WL.nil (WE.then_normal (WC.sub (fr' := [(0, _), (1, _), (9, _), (49, _)]) ?_ ⟨rfl, rfl, rfl, rfl, trivial⟩))
      refine WC.cond rfl (fun q8 => ?_) (fun q8 => ?_)
      ·
        try simp only [Z1, Z2, Z3, Z4, Z5, Z6, Z7, Z8, Z9, Z0] at q8
        first | (simp at q2; done) | (simp at q4; done) | (simp at q5; done) | (simp [nextOf, nilI] at q8; done) | (exfalso; omega)
      ·
        try simp only [Z1, Z2, Z3, Z4, Z5, Z6, Z7, Z8, Z9, Z0] at q8
        refine WC.region ?_
        refine WL.f1 ?_
        refine WL.reg (reg_out (show (ch 213 248 246 (items) .nilIface).Perm ([(x.b, .cells #[nextOf 213 (y :: B) .nilIface, wv 246 x] 248 (0, 0))] ++ (ch 213 248 246 (A) (.iface 213 (Pt x.b 0)) ++ ch 213 248 246 (y :: B) .nilIface)) from by rw [hit]; exact ch_out _ _ _ _)) ?_
        refine WL.q (oq_move rfl) rfl rfl rfl ?_
        refine WL.q (oq_move rfl) rfl rfl rfl ?_
        refine WL.q (oq_nilCheck rfl) rfl rfl rfl ?_
        refine WL.q (oq_fieldAddr fld248_0 rfl) rfl rfl rfl ?_
        refine WL.q (oq_load flat187 rfl (.head _) (List.mem_singleton.2 rfl) rfl) rfl rfl rfl ?_
        refine WL.q (oq_move rfl) rfl rfl rfl ?_
        refine WL.q (oq_build #[_, _] str248 ty248 rfl rfl) rfl rfl rfl ?_
        refine WL.box rfl rfl rfl fun e he => ?_
        refine WL.q (oq_makeI conc213 rfl) rfl rfl rfl ?_
        refine WL.q (oq_nilCheck rfl) rfl rfl rfl ?_
        refine WL.q (oq_fieldAddr fld248_0 rfl) rfl rfl rfl ?_
        refine WL.f1 ?_
        refine WL.store1 #[_, _] ty187 rfl rfl (by first | rfl | exact OwS.one one_) (Nat.lt_of_lt_of_le (Nat.lt_succ_self _) (Nat.le_of_ble_eq_true rfl)) rfl rfl ?_
        refine WL.nil (WE.then_normal (WC.sub (fr' := []) ?_ trivial))
        refine WC.seq (WC.region ?_)
        refine WL.q (oq_assign rfl) rfl rfl rfl ?_
        refine WL.nil (WE.then_normal (WC.sub (fr' := [(8, _)]) ?_ ⟨rfl, trivial⟩))
        refine WC.ret ?_
        refine WE.f4 ?_
        refine WE.f3 ?_
        refine WE.f3 ?_
        refine WE.f3 ?_
        refine WE.f4 ?_
        refine WE.endW4 (.inl rfl) (res1 Tryz.results104 rfl) ?_
        -- end 0
        exact ⟨rfl, e, he, perm2 (by rw [hit, hdp_cons A x (y :: B) (Nd.mk e id fv :: y :: B), lastp_cons, lastp_cons]; rfl) (by simp only [List.flatten_cons, List.flatten_nil, List.append_nil]; exact ch_ins A x (Nd.mk e id fv) (y :: B) _)⟩

/-- (*given.example/pub-tinwright/pub/smithy/middleware.DeserializeStep).Insert -/
theorem insN4 (base sb : Nat) (id by_ : List UInt8) (fv : Value) (items : List Nd) (hn : ∀ y ∈ items, y.id ≠ by_) (pos : Int) : FnW Tryz.prog 104 [Pt sb 0, .iface 246 (.agg #[S id, fv]), S by_, I pos] base [[(sb, .cells #[(hdp (items)), (lastp (items))] 215 (0, 0))], ch 213 248 246 items .nilIface] (fun v Hs => (∃ k u, v = .iface k u) ∧ Hs = [[(sb, .cells #[(hdp (items)), (lastp (items))] 215 (0, 0))], ch 213 248 246 items .nilIface]) := by
  refine FnW.enter (n := 76) Tryz.func104 rfl rfl fun w0 R0 hbase => ?_
  subst hbase
  show WC _ _ _ _ _ _ _ ([[(sb, .cells #[(hdp (items)), (lastp (items))] 215 (0, 0))], ch 213 248 246 items .nilIface, R0])
  refine WC.sub (fr' := [(0, _), (1, _), (2, _), (3, _)]) ?_ ⟨rfl, rfl, rfl, rfl, trivial⟩
  refine WC.seq (WC.region ?_)
  refine WL.q (oq_assign rfl) rfl rfl rfl ?_
  refine WL.nil (WE.then_normal (WC.sub (fr' := [(0, _), (1, _), (2, _), (3, _)]) ?_ ⟨rfl, rfl, rfl, rfl, trivial⟩))
  refine WC.seq (WC.region ?_)
  refine WL.q (oq_move rfl) rfl rfl rfl ?_
  refine WL.q (oq_move rfl) rfl rfl rfl ?_
  refine WL.f1 ?_
  refine WL.f1 ?_
  refine WL.callW2 (gotM4 _ sb by_ items hn) call118 rfl rfl rfl fun v1_2 Hs1_2 hR1_2 => ?_
  obtain ⟨rfl, rfl⟩ := hR1_2
  refine WL.to2 ?_
  refine WL.q (oq_move rfl) rfl rfl rfl ?_
  refine WL.q (oq_extract rfl rfl) rfl rfl rfl ?_
  refine WL.q (oq_extract rfl rfl) rfl rfl rfl ?_
  refine WL.q (oq_assign rfl) rfl rfl rfl ?_
  refine WL.q (oq_assign rfl) rfl rfl rfl ?_
  refine WL.nil (WE.then_normal (WC.sub (fr' := [(0, _), (1, _), (3, _), (9, _), (10, _)]) ?_ ⟨rfl, rfl, rfl, rfl, rfl, trivial⟩))
  refine WC.seq (WC.seq (WC.region ?_))
  refine WL.q (oq_move rfl) rfl rfl rfl ?_
  refine WL.q (oq_peql Tryz.underlying213 rfl rfl) rfl rfl rfl ?_
  refine WL.nil (WE.then_normal (WC.sub (fr' := [(0, _), (1, _), (3, _), (9, _), (10, _), (19, _)]) ?_ ⟨rfl, rfl, rfl, rfl, rfl, rfl, trivial⟩))
  refine WC.cond rfl (fun q2 => ?_) (fun q2 => ?_)
  ·
    try simp only [Z1, Z2, Z3, Z4, Z5, Z6, Z7, Z8, Z9, Z0] at q2
    refine WC.seq (WC.region ?_)
    refine WL.callA0 (errNew _) call113 rfl rfl rfl fun v3_0 N3_0 hR3_0 hN3_0 => ?_
    obtain ⟨ek, eu, rfl⟩ := hR3_0
    refine WL.q (oq_assign rfl) rfl rfl rfl ?_
    refine WL.nil (WE.then_normal (WC.sub (fr' := [(8, _)]) ?_ ⟨rfl, trivial⟩))
    refine WC.ret (WE.then_ret ?_)
    refine WE.forget hN3_0 ?_
    refine WE.endW2 (.inl rfl) (res1 Tryz.results104 rfl) ?_
    -- end 0
    exact ⟨⟨_, _, rfl⟩, rfl⟩
  ·
    try simp only [Z1, Z2, Z3, Z4, Z5, Z6, Z7, Z8, Z9, Z0] at q2
    simp at q2

/-- (*given.example/pub-tinwright/pub/smithy/middleware.DeserializeStep).Swap -/
theorem swapH4 (base sb : Nat) (id : List UInt8) (fv : Value) (A B : List Nd) (x : Nd) (items : List Nd) (hit : items = A ++ x :: B) (hA : ∀ y ∈ A, y.id ≠ x.id)  : FnW Tryz.prog 106 [Pt sb 0, S x.id, .iface 246 (.agg #[S id, fv])] base [[(sb, .cells #[(hdp (items)), (lastp (items))] 215 (0, 0))], ch 213 248 246 items .nilIface] (fun v Hs => v = .tuple #[wv 246 x, .nilIface] ∧ Hs.flatten.Perm ([[(sb, .cells #[(hdp (A ++ Nd.mk x.b id fv :: B)), (lastp (A ++ Nd.mk x.b id fv :: B))] 215 (0, 0))], ch 213 248 246 (A ++ Nd.mk x.b id fv :: B) .nilIface] : List Hp).flatten) := by
  refine FnW.enter (n := 29) Tryz.func106 rfl rfl fun w0 R0 hbase => ?_
  subst hbase
  show WC _ _ _ _ _ _ _ ([[(sb, .cells #[(hdp (items)), (lastp (items))] 215 (0, 0))], ch 213 248 246 items .nilIface, R0])
  refine WC.sub (fr' := [(0, _), (1, _), (2, _)]) ?_ ⟨rfl, rfl, rfl, trivial⟩
  refine WC.seq (WC.region ?_)
  refine WL.q (oq_assign rfl) rfl rfl rfl ?_
  refine WL.q (oq_assign rfl) rfl rfl rfl ?_
  refine WL.nil (WE.then_normal (WC.sub (fr' := [(0, _), (1, _), (2, _)]) ?_ ⟨rfl, rfl, rfl, trivial⟩))
  refine WC.seq (WC.region ?_)
  refine WL.q (oq_move rfl) rfl rfl rfl ?_
  refine WL.q (oq_move rfl) rfl rfl rfl ?_
  refine WL.f1 ?_
  refine WL.f1 ?_
  refine WL.callW2 (gotH4 _ sb x.id A B x items hit rfl hA) call118 rfl rfl rfl fun v1_2 Hs1_2 hR1_2 => ?_
  obtain ⟨rfl, rfl⟩ := hR1_2
  refine WL.to2 ?_
  refine WL.q (oq_move rfl) rfl rfl rfl ?_
  refine WL.q (oq_extract rfl rfl) rfl rfl rfl ?_
  refine WL.q (oq_extract rfl rfl) rfl rfl rfl ?_
  refine WL.q (oq_assign rfl) rfl rfl rfl ?_
  refine WL.q (oq_assign rfl) rfl rfl rfl ?_
  refine WL.nil (WE.then_normal (WC.sub (fr' := [(2, _), (8, _)]) ?_ ⟨rfl, rfl, trivial⟩))
  refine WC.seq (WC.seq (WC.region ?_))
  refine WL.q (oq_move rfl) rfl rfl rfl ?_
  refine WL.q (oq_peql Tryz.underlying213 rfl rfl) rfl rfl rfl ?_
  refine WL.nil (WE.then_normal (WC.sub (fr' := [(2, _), (8, _), (18, _)]) ?_ ⟨rfl, rfl, rfl, trivial⟩))
  refine WC.cond rfl (fun q2 => ?_) (fun q2 => ?_)
  ·
    try simp only [Z1, Z2, Z3, Z4, Z5, Z6, Z7, Z8, Z9, Z0] at q2
    simp at q2
  ·
    try simp only [Z1, Z2, Z3, Z4, Z5, Z6, Z7, Z8, Z9, Z0] at q2
    refine WC.skip (WE.then_normal (WC.sub (fr' := [(2, _), (8, _)]) ?_ ⟨rfl, rfl, trivial⟩))
    refine WC.seq (WC.region ?_)
    refine WL.f1 ?_
    refine WL.reg (reg_out (show (ch 213 248 246 (items) .nilIface).Perm ([(x.b, .cells #[nextOf 213 (B) .nilIface, wv 246 x] 248 (0, 0))] ++ (ch 213 248 246 (A) (.iface 213 (Pt x.b 0)) ++ ch 213 248 246 (B) .nilIface)) from by rw [hit]; exact ch_out _ _ _ _)) ?_
    refine WL.q (oq_move rfl) rfl rfl rfl ?_
    refine WL.q (oq_nilCheck rfl) rfl rfl rfl ?_
    refine WL.q (oq_fieldAddr fld248_1 rfl) rfl rfl rfl ?_
    refine WL.q (oq_load flat183 rfl (.head _) (List.mem_singleton.2 rfl) rfl) rfl rfl rfl ?_
    refine WL.q (oq_assign rfl) rfl rfl rfl ?_
    refine WL.nil (WE.then_normal (WC.sub (fr' := [(2, _), (8, _), (10, _)]) ?_ ⟨rfl, rfl, rfl, trivial⟩))
    refine WC.seq (WC.region ?_)
    refine WL.q (oq_move rfl) rfl rfl rfl ?_
    refine WL.q (oq_move rfl) rfl rfl rfl ?_
    refine WL.q (oq_nilCheck rfl) rfl rfl rfl ?_
    refine WL.q (oq_fieldAddr fld248_1 rfl) rfl rfl rfl ?_
    refine WL.store1 #[_, _] ty183 rfl rfl (by first | rfl | exact OwS.one one_) (Nat.lt_of_lt_of_le (Nat.lt_succ_self _) (Nat.le_of_ble_eq_true rfl)) rfl rfl ?_
    refine WL.nil (WE.then_normal (WC.sub (fr' := [(10, _)]) ?_ ⟨rfl, trivial⟩))
    refine WC.seq (WC.region ?_)
    refine WL.q (oq_move rfl) rfl rfl rfl ?_
    refine WL.q (oq_assign rfl) rfl rfl rfl ?_
    refine WL.q (oq_assign rfl) rfl rfl rfl ?_
    refine WL.nil (WE.then_normal (WC.sub (fr' := [(6, _), (7, _)]) ?_ ⟨rfl, rfl, trivial⟩))
    refine WC.ret ?_
    refine WE.f3 ?_
    refine WE.f2 ?_
    refine WE.f2 ?_
    refine WE.f3 ?_
    refine WE.endW3 (.inl rfl) (res2 Tryz.results106 rfl rfl) ?_
    -- end 0
    exact ⟨rfl, perm2 (by rw [hit, ← hdp_b A B x id fv, ← lastp_b A B x id fv]) (by simp only [List.flatten_cons, List.flatten_nil, List.append_nil]; exact ch_del A (Nd.mk x.b id fv) B _)⟩

/-- (*given.example/pub-tinwright/pub/smithy/middleware.DeserializeStep).Swap -/
theorem swapN4 (base sb : Nat) (by_ : List UInt8) (m : Value) (items : List Nd) (hn : ∀ y ∈ items, y.id ≠ by_) : FnW Tryz.prog 106 [Pt sb 0, S by_, m] base [[(sb, .cells #[(hdp (items)), (lastp (items))] 215 (0, 0))], ch 213 248 246 items .nilIface] (fun v Hs => (∃ k u, v = .tuple #[.nilIface, .iface k u]) ∧ Hs = [[(sb, .cells #[(hdp (items)), (lastp (items))] 215 (0, 0))], ch 213 248 246 items .nilIface]) := by
  refine FnW.enter (n := 29) Tryz.func106 rfl rfl fun w0 R0 hbase => ?_
  subst hbase
  show WC _ _ _ _ _ _ _ ([[(sb, .cells #[(hdp (items)), (lastp (items))] 215 (0, 0))], ch 213 248 246 items .nilIface, R0])
  refine WC.sub (fr' := [(0, _), (1, _), (2, _)]) ?_ ⟨rfl, rfl, rfl, trivial⟩
  refine WC.seq (WC.region ?_)
  refine WL.q (oq_assign rfl) rfl rfl rfl ?_
  refine WL.q (oq_assign rfl) rfl rfl rfl ?_
  refine WL.nil (WE.then_normal (WC.sub (fr' := [(0, _), (1, _), (2, _)]) ?_ ⟨rfl, rfl, rfl, trivial⟩))
  refine WC.seq (WC.region ?_)
  refine WL.q (oq_move rfl) rfl rfl rfl ?_
  refine WL.q (oq_move rfl) rfl rfl rfl ?_
  refine WL.f1 ?_
  refine WL.f1 ?_
  refine WL.callW2 (gotM4 _ sb by_ items hn) call118 rfl rfl rfl fun v1_2 Hs1_2 hR1_2 => ?_
  obtain ⟨rfl, rfl⟩ := hR1_2
  refine WL.to2 ?_
  refine WL.q (oq_move rfl) rfl rfl rfl ?_
  refine WL.q (oq_extract rfl rfl) rfl rfl rfl ?_
  refine WL.q (oq_extract rfl rfl) rfl rfl rfl ?_
  refine WL.q (oq_assign rfl) rfl rfl rfl ?_
  refine WL.q (oq_assign rfl) rfl rfl rfl ?_
  refine WL.nil (WE.then_normal (WC.sub (fr' := [(2, _), (8, _)]) ?_ ⟨rfl, rfl, trivial⟩))
  refine WC.seq (WC.seq (WC.region ?_))
  refine WL.q (oq_move rfl) rfl rfl rfl ?_
  refine WL.q (oq_peql Tryz.underlying213 rfl rfl) rfl rfl rfl ?_
  refine WL.nil (WE.then_normal (WC.sub (fr' := [(2, _), (8, _), (18, _)]) ?_ ⟨rfl, rfl, rfl, trivial⟩))
  refine WC.cond rfl (fun q2 => ?_) (fun q2 => ?_)
  ·
    try simp only [Z1, Z2, Z3, Z4, Z5, Z6, Z7, Z8, Z9, Z0] at q2
    refine WC.seq (WC.region ?_)
    refine WL.callA0 (errNew _) call113 rfl rfl rfl fun v3_0 N3_0 hR3_0 hN3_0 => ?_
    obtain ⟨ek, eu, rfl⟩ := hR3_0
    refine WL.q (oq_assign rfl) rfl rfl rfl ?_
    refine WL.q (oq_assign rfl) rfl rfl rfl ?_
    refine WL.nil (WE.then_normal (WC.sub (fr' := [(6, _), (7, _)]) ?_ ⟨rfl, rfl, trivial⟩))
    refine WC.ret (WE.then_ret ?_)
    refine WE.forget hN3_0 ?_
    refine WE.endW2 (.inl rfl) (res2 Tryz.results106 rfl rfl) ?_
    -- end 0
    exact ⟨⟨_, _, rfl⟩, rfl⟩
  ·
    try simp only [Z1, Z2, Z3, Z4, Z5, Z6, Z7, Z8, Z9, Z0] at q2
    simp at q2

end S2
end Go.Proofs.YtclafiglpcjhdaaGreat
