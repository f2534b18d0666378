/- Metadata and the values of a stack, walked: many of them. -/
import Derived.Test.YtclafiglpcjhdaaGreatG2
namespace Go.Proofs.YtclafiglpcjhdaaGreat
open Go Go.RowKit V GA G1 G2
set_option linter.unusedSimpArgs false
set_option linter.unusedVariables false
set_option maxRecDepth 10000
namespace G3
theorem call11 : Callable Tryz.prog 11 := ⟨_, Tryz.func11, rfl, by kernel_rfl⟩
theorem call13 : Callable Tryz.prog 13 := ⟨_, Tryz.func13, rfl, by kernel_rfl⟩
theorem call14 : Callable Tryz.prog 14 := ⟨_, Tryz.func14, rfl, by kernel_rfl⟩
theorem call15 : Callable Tryz.prog 15 := ⟨_, Tryz.func15, rfl, by kernel_rfl⟩
theorem call16 : Callable Tryz.prog 16 := ⟨_, Tryz.func16, rfl, by kernel_rfl⟩
theorem call17 : Callable Tryz.prog 17 := ⟨_, Tryz.func17, rfl, by kernel_rfl⟩
theorem call18 : Callable Tryz.prog 18 := ⟨_, Tryz.func18, rfl, by kernel_rfl⟩
theorem call19 : Callable Tryz.prog 19 := ⟨_, Tryz.func19, rfl, by kernel_rfl⟩
theorem flat9 : Flat Tryz.prog 9 := ⟨_, Tryz.underlying9, by simp⟩
theorem ty4 : Ty Tryz.prog 4 (.bool false) 1 1 := ty_of (by kernel_rfl)
theorem ty9 : Ty Tryz.prog 9 (S []) 1 16 := ty_of (by kernel_rfl)
theorem ty28 : Ty Tryz.prog 28 (.agg #[(S []), (S [])]) 2 32 := ty_of (by kernel_rfl)
theorem ty50 : Ty Tryz.prog 50 (.agg #[(.map none)]) 1 8 := ty_of (by kernel_rfl)
theorem ty70 : Ty Tryz.prog 70 (.agg #[]) 0 0 := ty_of (by kernel_rfl)
theorem conc9 : Conc Tryz.prog 9 := ⟨_, Tryz.underlying9, by simp⟩
theorem conc70 : Conc Tryz.prog 70 := ⟨_, Tryz.underlying70, by simp⟩
theorem agg28 : Agg Tryz.prog 28 := agg_of Tryz.underlying28
theorem agg50 : Agg Tryz.prog 50 := agg_of Tryz.underlying50
theorem str70 : Str Tryz.prog 70 #[] := ⟨_, Tryz.underlying70, fun w => by kernel_rfl⟩
theorem fld28_0 : Fld Tryz.prog 28 0 0 9 := fld_of Tryz.underlying28 rfl rfl rfl ty9 (by decide)
theorem fld28_1 : Fld Tryz.prog 28 1 1 9 := fld_of Tryz.underlying28 rfl rfl rfl ty9 (by decide)

theorem withA (kx : TypeId) (vx : Value) (r : List (Nat × WP)) (k v : List UInt8) (hx : CX kx vx r) : FnA Tryz.prog 15 [.iface kx vx, KI k, KI v] [] (fun x N => ∃ b, x = .iface 95 (.agg #[.iface kx vx, KEY, .iface 72 (Pt b 0)]) ∧ N = [(b, .cells #[KI k, KI v, par r] 97 (0, 0))]) := by
  cases r with
  | nil => exact with0 kx vx [] k v hx rfl
  | cons q r => exact with1 kx vx (q :: r) k v hx ⟨q.1, q.2, r, rfl⟩
theorem getsA (kx : TypeId) (vx : Value) (r : List (Nat × WP)) (k : List UInt8) (hx : CX kx vx r) : FnR Tryz.prog 16 [.iface kx vx, KI k] (svg r) (valS r k) := by
  cases r with
  | nil => exact gets0 kx vx k hx
  | cons q r => exact gets1 kx vx q.1 q.2 r k hx
theorem takeS {α β : Type} (f : α → β) (l : List α) (d : α) {j : Nat} (h : j < l.length) : (l.take (j + 1)).map f = (l.take j).map f ++ [f (l.getD j d)] := by
  rw [List.take_succ_eq_append_getElem h, List.map_append, List.getD_eq_getElem?_getD, List.getElem?_eq_getElem h]; rfl
theorem ownS {base : Nat} {v : Value} {A : Hp} {n : Nat} {xs : List Value} {f : List UInt8 → List UInt8} {ks : List (List UInt8)} {j : Nat} {x : List UInt8} (h : OwS base 9 1 v A n xs) (hj : j < ks.length) (hn : n = j + 1) (hx : xs = strsV ((ks.take j).map f) ++ [S x]) (he : x = f (ks.getD j [])) : OwS base 9 1 v A (j + 1) (strsV ((ks.take (j + 1)).map f)) := by
  subst hn; subst hx; subst he
  rw [takeS f ks [] hj]
  have e : strsV ((ks.take j).map f ++ [f (ks.getD j [])]) = strsV ((ks.take j).map f) ++ [S (f (ks.getD j []))] := by simp [strsV]
  rw [e]; exact h
theorem ownB {base : Nat} {v : Value} {A : Hp} {n : Nat} {xs : List Value} {f : List UInt8 → Bool} {ks : List (List UInt8)} {j : Nat} {x : Bool} (h : OwS base 4 1 v A n xs) (hj : j < ks.length) (hn : n = j + 1) (hx : xs = boolsV ((ks.take j).map f) ++ [.bool x]) (he : x = f (ks.getD j [])) : OwS base 4 1 v A (j + 1) (boolsV ((ks.take (j + 1)).map f)) := by
  subst hn; subst hx; subst he
  rw [takeS f ks [] hj]
  have e : boolsV ((ks.take j).map f ++ [f (ks.getD j [])]) = boolsV ((ks.take j).map f) ++ [.bool (f (ks.getD j []))] := by simp [boolsV]
  rw [e]; exact h
theorem lastOf_next {l : List WP} {i : Nat} (h : i < l.length) (y : List UInt8) : lastOf (l.take (i + 1)) y = if (l.getD i WP0).k = y then some (l.getD i WP0).v else lastOf (l.take i) y := by
  rw [List.take_succ_eq_append_getElem h, lastOf_snoc, List.getD_eq_getElem?_getD, List.getElem?_eq_getElem h]; rfl
theorem metaOpt {o : Option Value} {p : Option (List UInt8)} (h : o = p.map KI) : o.getD .nilIface = optI 9 p := by subst h; cases p <;> rfl
theorem metaIs {o : Option Value} {p : Option (List UInt8)} (h : o = p.map KI) : o.isSome = p.isSome := by subst h; cases p <;> rfl
theorem all_get {α : Type} {p : α → Bool} (l : List α) (i : Nat) (d : α) (h : i < l.length) : (l.drop i).all p = (p (l.getD i d) && (l.drop (i + 1)).all p) := by
  rw [List.drop_eq_getElem_cons h, List.all_cons, List.getD_eq_getElem?_getD, List.getElem?_eq_getElem h]; rfl
theorem all_el {α : Type} {p : α → Bool} {l : List α} (h : l.all p = true) {i : Nat} (d : α) (hi : i < l.length) : p (l.getD i d) = true := by
  rw [List.getD_eq_getElem?_getD, List.getElem?_eq_getElem hi]
  exact List.all_eq_true.1 h _ (List.getElem_mem hi)
theorem last_hit {l : List WP} {k : List UInt8} {e : Nat} (he : e < l.length) (h : lastOf l k = lastOf (l.take (e + 1)) k) (hk : (l.getD e WP0).k = k) : lastOf l k = some (l.getD e WP0).v := by
  rw [h, lastOf_next he, if_pos hk]
theorem last_miss {l : List WP} {k : List UInt8} {e : Nat} (he : e < l.length) (h : lastOf l k = lastOf (l.take (e + 1)) k) (hk : ¬ (l.getD e WP0).k = k) : lastOf l k = lastOf (l.take e) k := by
  rw [h, lastOf_next he, if_neg hk]
/-- given.example/pub-tinwright/pub/ctx.Background -/
theorem backg  : Fn0 Tryz.prog 13 [] (.iface 70 (.agg #[])) := by
  refine Fn0.enter (n := 3) Tryz.func13 rfl rfl fun w0 => ?_
  refine WC.sub (fr' := []) ?_ trivial
  refine WC.seq (WC.region ?_)
  refine WL.q (oq_assign rfl) rfl rfl rfl ?_
  refine WL.nil (WE.then_normal (WC.sub (fr' := []) ?_ trivial))
  refine WC.seq (WC.region ?_)
  refine WL.q (oq_build #[] str70 ty70 rfl rfl) rfl rfl rfl ?_
  refine WL.q (oq_makeI conc70 rfl) rfl rfl rfl ?_
  refine WL.q (oq_assign rfl) rfl rfl rfl ?_
  refine WL.nil (WE.then_normal (WC.sub (fr' := [(0, _)]) ?_ ⟨rfl, trivial⟩))
  refine WC.ret ?_
  refine WE.end0 (.inl rfl) (res1 Tryz.results13 rfl) ?_
  -- end 0
  rfl

/-- given.example/pub-tinwright/impl.WStackValues -/
theorem wStackVals (va : Value) (A : Hp) (l : List WP) (ha : RdS 2 va A l.length (recsV pof l)) (vk : Value) (ks : List (List UInt8)) (hk : RdS 1 vk A ks.length (strsV ks)) (hl : l.length ≤ 1000) (hkl : ks.length ≤ 1000)  : FnA Tryz.prog 8 [va, vk] A (fun v N => ∃ a b, v = .tuple #[a, b] ∧ RdS 1 a N ks.length (strsV (ks.map (fun k => (lk (stkf l) k).getD []))) ∧ RdS 1 b N ks.length (boolsV (ks.map (fun k => (lk (stkf l) k).isSome)))) := by
  refine FnA.enter (n := 61) Tryz.func8 rfl rfl fun w0 => ?_
  refine WC.sub (fr' := [(0, _), (1, _)]) ?_ ⟨rfl, rfl, trivial⟩
  refine WC.seq (WC.region ?_)
  refine WL.q (oq_assign rfl) rfl rfl rfl ?_
  refine WL.q (oq_assign rfl) rfl rfl rfl ?_
  refine WL.nil (WE.then_normal (WC.sub (fr' := [(0, _), (1, _)]) ?_ ⟨rfl, rfl, trivial⟩))
  refine WC.seq (WC.region ?_)
  refine WL.qc (oq_call (backg) call13 rfl) rfl rfl rfl ?_
  refine WL.q (oq_assign rfl) rfl rfl rfl ?_
  refine WL.nil (WE.then_normal (WC.sub (fr' := [(0, _), (1, _), (6, _)]) ?_ ⟨rfl, rfl, rfl, trivial⟩))
  refine WC.seq (WC.seq ?_)
  refine WC.add0 ?_
  refine WC.region ?_
  refine WL.q (oq_move rfl) rfl rfl rfl ?_
  refine WL.q (oq_len_rd ha Tryz.underlying22 rfl) rfl rfl rfl ?_
  refine WL.q (oq_move rfl) rfl rfl rfl ?_
  refine WL.nil (WE.then_normal (WC.sub (fr' := [(1, _), (6, _), (16, _), (17, _), (18, _)]) ?_ ⟨rfl, rfl, rfl, rfl, rfl, trivial⟩))
  refine WC.block ?_
  refine WC.loop (ι := Nat × TypeId × Value × (List (Nat × WP))) (fun i_ => (fun (i : Nat) (kx : TypeId) (vx : Value) (r : List (Nat × WP)) => [(1, vk), (6, .iface kx vx), (16, va), (17, I (l.length : Int)), (18, I (i : Int))]) i_.1 i_.2.1 i_.2.2.1 i_.2.2.2) (fun i_ => (fun (i : Nat) (kx : TypeId) (vx : Value) (r : List (Nat × WP)) => [svg r, A]) i_.1 i_.2.1 i_.2.2.1 i_.2.2.2) (fun i_ => (fun (i : Nat) (kx : TypeId) (vx : Value) (r : List (Nat × WP)) => i ≤ l.length ∧ CX kx vx r ∧ r.map Prod.snd = stkf (l.take i) ∧ ∀ b o, (b, o) ∈ svg r → w0.heap.size ≤ b) i_.1 i_.2.1 i_.2.2.1 i_.2.2.2) (fun i_ => (fun (i : Nat) (kx : TypeId) (vx : Value) (r : List (Nat × WP)) => l.length - i) i_.1 i_.2.1 i_.2.2.1 i_.2.2.2) ((0, 70, .agg #[], [])) ?_ ⟨rfl, rfl, rfl, rfl, rfl, trivial⟩ (List.Perm.refl _) ?_
  · try dsimp only
    exact ⟨by omega, .inl ⟨rfl, rfl, rfl⟩, rfl, fun _ _ h => nomatch h⟩
  · rintro ⟨i, kx, vx, r⟩ hp
    try dsimp only at hp
    obtain ⟨hi, hCX, hst, hsv⟩ := hp
    show WC _ _ _ _ _ _ ([(1, vk), (6, .iface kx vx), (16, va), (17, I (l.length : Int)), (18, I (i : Int))]) ([svg r, A])
    refine WC.seq (WC.region ?_)
    refine WL.q (oq_lss rfl rfl) rfl rfl rfl ?_
    refine WL.nil (WE.then_normal (WC.sub (fr' := [(1, _), (6, _), (16, _), (17, _), (18, _), (19, _)]) ?_ ⟨rfl, rfl, rfl, rfl, rfl, rfl, trivial⟩))
    refine WC.seq ?_
    refine WC.cond rfl (fun q3 => ?_) (fun q3 => ?_)
    ·
      try simp only [Z1, Z2, Z3, Z4, Z5, Z6, Z7, Z8, Z9, Z0] at q3
      refine WC.skip (WE.then_normal (WC.sub (fr' := [(1, _), (6, _), (16, _), (17, _), (18, _)]) ?_ ⟨rfl, rfl, rfl, rfl, rfl, trivial⟩))
      refine WC.seq (WC.block (WC.seq (WC.region ?_)))
      refine WL.q (oq_ixaddr ha Tryz.underlying22 ty28 rfl rfl (by (first | omega | (simp only [List.length_cons, List.length_nil, List.length_append, List.length_drop, List.length_take]; omega)))) rfl rfl rfl ?_
      refine WL.q (oq_loadEl (f := pof) WP0 [_, _] (fun _ => rfl) agg28 ty28 ha (.tail _ (.head _)) rfl (by (first | omega | (simp only [List.length_cons, List.length_nil, List.length_append, List.length_drop, List.length_take]; omega))) (by first | exact Int.toNat_natCast _ | exact rfl) rfl) rfl rfl rfl ?_
      refine WL.alloc ty28 rfl rfl fun o8 ho8 => ?_
      refine WL.storeS #[_, _] ty28 rfl rfl rfl rfl (Nat.le_of_ble_eq_true rfl) rfl rfl ?_
      refine WL.nil (WE.then_normal (WC.sub (fr' := [(1, _), (6, _), (8, _), (16, _), (17, _), (18, _)]) ?_ ⟨rfl, rfl, rfl, rfl, rfl, rfl, trivial⟩))
      refine WC.seq (WC.region ?_)
      refine WL.q (oq_fieldAddr fld28_0 rfl) rfl rfl rfl ?_
      refine WL.q (oq_load flat9 rfl (.head _) (List.mem_singleton.2 rfl) rfl) rfl rfl rfl ?_
      refine WL.q (oq_seql rfl rfl) rfl rfl rfl ?_
      refine WL.nil (WE.then_normal (WC.sub (fr' := [(1, _), (6, _), (8, _), (16, _), (17, _), (18, _), (24, _)]) ?_ ⟨rfl, rfl, rfl, rfl, rfl, rfl, rfl, trivial⟩))
      refine WC.cond rfl (fun q5 => ?_) (fun q5 => ?_)
      ·
        try simp only [Z1, Z2, Z3, Z4, Z5, Z6, Z7, Z8, Z9, Z0] at q5
        refine WC.f1 ?_
        refine WC.forget hsv ?_
        refine WC.add0 ?_
        refine WC.region ?_
        refine WL.q (oq_move rfl) rfl rfl rfl ?_
        refine WL.qc (oq_call (clear kx vx) call14 rfl) rfl rfl rfl ?_
        refine WL.q (oq_assign rfl) rfl rfl rfl ?_
        refine WL.nil (WE.block_normal (WE.then_normal (WC.sub (fr' := [(1, _), (6, _), (16, _), (17, _), (18, _)]) ?_ ⟨rfl, rfl, rfl, rfl, rfl, trivial⟩)))
        refine WC.region ?_
        refine WL.q (oq_add rfl rfl (by rw [i64_lo, i64_hi]; (first | omega | (simp only [List.length_cons, List.length_nil, List.length_append, List.length_drop, List.length_take]; omega)))) rfl rfl rfl ?_
        refine WL.q (oq_move rfl) rfl rfl rfl ?_
        refine WL.nil ?_
        refine WE.f1 ?_
        refine WE.lose ho8 ?_
        refine WE.again (i + 1, 95, _, []) ?_ ?_ ⟨rfl, rfl, rfl, rfl, rfl, trivial⟩ (List.Perm.refl _)
        · try dsimp only   -- again 0
          exact ⟨by omega, .inr ⟨rfl, _, rfl⟩, by rw [stkf_next (by omega)]; unfold stkn; rw [if_pos (show _ = clr from q5)]; rfl, fun _ _ h => nomatch h⟩
        · (try dsimp only); omega
      ·
        try simp only [Z1, Z2, Z3, Z4, Z5, Z6, Z7, Z8, Z9, Z0] at q5
        refine WC.region ?_
        refine WL.q (oq_move rfl) rfl rfl rfl ?_
        refine WL.q (oq_fieldAddr fld28_0 rfl) rfl rfl rfl ?_
        refine WL.q (oq_load flat9 rfl (.head _) (List.mem_singleton.2 rfl) rfl) rfl rfl rfl ?_
        refine WL.q (oq_makeI conc9 rfl) rfl rfl rfl ?_
        refine WL.q (oq_fieldAddr fld28_1 rfl) rfl rfl rfl ?_
        refine WL.q (oq_load flat9 rfl (.head _) (List.mem_singleton.2 rfl) rfl) rfl rfl rfl ?_
        refine WL.q (oq_makeI conc9 rfl) rfl rfl rfl ?_
        refine WL.callA0 (withA kx vx r _ _ hCX) call15 rfl rfl rfl fun v7_7 N7_7 hR7_7 hN7_7 => ?_
        obtain ⟨nb, rfl, rfl⟩ := hR7_7
        refine WL.f2 ?_
        refine WL.f1 ?_
        refine WL.cat ?_
        refine WL.q (oq_assign rfl) rfl rfl rfl ?_
        refine WL.nil (WE.block_normal (WE.then_normal (WC.sub (fr' := [(1, _), (6, _), (16, _), (17, _), (18, _)]) ?_ ⟨rfl, rfl, rfl, rfl, rfl, trivial⟩)))
        refine WC.region ?_
        refine WL.q (oq_add rfl rfl (by rw [i64_lo, i64_hi]; (first | omega | (simp only [List.length_cons, List.length_nil, List.length_append, List.length_drop, List.length_take]; omega)))) rfl rfl rfl ?_
        refine WL.q (oq_move rfl) rfl rfl rfl ?_
        refine WL.nil ?_
        refine WE.f1 ?_
        refine WE.lose ho8 ?_
        refine WE.again (i + 1, 95, _, (nb, (l.getD i WP0)) :: r) ?_ ?_ ⟨rfl, rfl, rfl, rfl, rfl, trivial⟩ (List.Perm.refl _)
        · try dsimp only   -- again 1
          exact ⟨by omega, .inr ⟨rfl, _, rfl⟩, by rw [stkf_next (by omega)]; unfold stkn; rw [if_neg (show ¬ _ = clr from q5), ← hst]; rfl, fresh_cat hN7_7 hsv⟩
        · (try dsimp only); omega
    ·
      try simp only [Z1, Z2, Z3, Z4, Z5, Z6, Z7, Z8, Z9, Z0] at q3
      refine WC.exit (WE.then_exit (WE.then_exit (WE.block_same (WE.then_normal (WC.sub (fr' := [(1, _), (6, _)]) ?_ ⟨rfl, rfl, trivial⟩)))))
      refine WC.seq ?_
      obtain rfl : i = l.length := by omega
      rw [List.take_length] at hst
      refine WC.add0 ?_
      refine WC.region ?_
      refine WL.q (oq_assign rfl) rfl rfl rfl ?_
      refine WL.nil (WE.then_normal (WC.sub (fr' := [(1, _), (6, _), (9, _)]) ?_ ⟨rfl, rfl, rfl, trivial⟩))
      refine WC.seq ?_
      refine WC.add0 ?_
      refine WC.region ?_
      refine WL.q (oq_assign rfl) rfl rfl rfl ?_
      refine WL.nil (WE.then_normal (WC.sub (fr' := [(1, _), (6, _), (9, _), (10, _)]) ?_ ⟨rfl, rfl, rfl, rfl, trivial⟩))
      refine WC.seq (WC.seq (WC.region ?_))
      refine WL.q (oq_move rfl) rfl rfl rfl ?_
      refine WL.q (oq_len_rd hk Tryz.underlying23 rfl) rfl rfl rfl ?_
      refine WL.q (oq_move rfl) rfl rfl rfl ?_
      refine WL.nil (WE.then_normal (WC.sub (fr' := [(6, _), (9, _), (10, _), (36, _), (37, _), (38, _)]) ?_ ⟨rfl, rfl, rfl, rfl, rfl, rfl, trivial⟩))
      refine WC.block ?_
      refine WC.loop (ι := Nat × Value × Hp × Value × Hp) (fun i_ => (fun (j : Nat) (tv : Value) (T : Hp) (bv : Value) (B : Hp) => [(6, .iface kx vx), (9, tv), (10, bv), (36, vk), (37, I (ks.length : Int)), (38, I (j : Int))]) i_.1 i_.2.1 i_.2.2.1 i_.2.2.2.1 i_.2.2.2.2) (fun i_ => (fun (j : Nat) (tv : Value) (T : Hp) (bv : Value) (B : Hp) => [B, T, svg r, A]) i_.1 i_.2.1 i_.2.2.1 i_.2.2.2.1 i_.2.2.2.2) (fun i_ => (fun (j : Nat) (tv : Value) (T : Hp) (bv : Value) (B : Hp) => j ≤ ks.length ∧ OwS w0.heap.size 9 1 tv T j (strsV ((ks.take j).map (fun k => (lk (stkf l) k).getD []))) ∧ OwS w0.heap.size 4 1 bv B j (boolsV ((ks.take j).map (fun k => (lk (stkf l) k).isSome)))) i_.1 i_.2.1 i_.2.2.1 i_.2.2.2.1 i_.2.2.2.2) (fun i_ => (fun (j : Nat) (tv : Value) (T : Hp) (bv : Value) (B : Hp) => ks.length - j) i_.1 i_.2.1 i_.2.2.1 i_.2.2.2.1 i_.2.2.2.2) ((0, _, _, _, _)) ?_ ⟨rfl, rfl, rfl, rfl, rfl, rfl, trivial⟩ (List.Perm.refl _) ?_
      · try dsimp only
        exact ⟨by omega, OwS.nil _ _ _, OwS.nil _ _ _⟩
      · rintro ⟨j, tv, T, bv, B⟩ hp
        try dsimp only at hp
        obtain ⟨hj, hot, hob⟩ := hp
        show WC _ _ _ _ _ _ ([(6, .iface kx vx), (9, tv), (10, bv), (36, vk), (37, I (ks.length : Int)), (38, I (j : Int))]) ([B, T, svg r, A])
        refine WC.seq (WC.region ?_)
        refine WL.q (oq_lss rfl rfl) rfl rfl rfl ?_
        refine WL.nil (WE.then_normal (WC.sub (fr' := [(6, _), (9, _), (10, _), (36, _), (37, _), (38, _), (39, _)]) ?_ ⟨rfl, rfl, rfl, rfl, rfl, rfl, rfl, trivial⟩))
        refine WC.seq ?_
        refine WC.cond rfl (fun q12 => ?_) (fun q12 => ?_)
        ·
          try simp only [Z1, Z2, Z3, Z4, Z5, Z6, Z7, Z8, Z9, Z0] at q12
          refine WC.skip (WE.then_normal (WC.sub (fr' := [(6, _), (9, _), (10, _), (36, _), (37, _), (38, _)]) ?_ ⟨rfl, rfl, rfl, rfl, rfl, rfl, trivial⟩))
          refine WC.seq (WC.block (WC.seq (WC.region ?_)))
          refine WL.q (oq_ixaddr hk Tryz.underlying23 ty9 rfl rfl (by (first | omega | (simp only [List.length_cons, List.length_nil, List.length_append, List.length_drop, List.length_take]; omega)))) rfl rfl rfl ?_
          refine WL.q (oq_load_str hk (.tail _ (.tail _ (.tail _ (.head _)))) flat9 rfl (by (first | omega | (simp only [List.length_cons, List.length_nil, List.length_append, List.length_drop, List.length_take]; omega))) (by first | exact Int.toNat_natCast _ | exact rfl)) rfl rfl rfl ?_
          refine WL.q (oq_assign rfl) rfl rfl rfl ?_
          refine WL.nil (WE.then_normal (WC.sub (fr' := [(6, _), (9, _), (10, _), (12, _), (36, _), (37, _), (38, _)]) ?_ ⟨rfl, rfl, rfl, rfl, rfl, rfl, rfl, trivial⟩))
          refine WC.seq (WC.region ?_)
          refine WL.q (oq_move rfl) rfl rfl rfl ?_
          refine WL.q (oq_move rfl) rfl rfl rfl ?_
          refine WL.q (oq_makeI conc9 rfl) rfl rfl rfl ?_
          refine WL.qc (oq_callRm (getsA kx vx r (ks.getD j []) hCX) (.tail _ (.tail _ (.head _))) call16 rfl) rfl rfl rfl ?_
          refine WL.q (oq_askOpt (o := lk (r.map Prod.snd) (ks.getD j [])) conc9 ty9 rfl) rfl rfl rfl ?_
          refine WL.q (oq_move rfl) rfl rfl rfl ?_
          refine WL.q (oq_extract rfl rfl) rfl rfl rfl ?_
          refine WL.q (oq_extract rfl rfl) rfl rfl rfl ?_
          refine WL.q (oq_assign rfl) rfl rfl rfl ?_
          refine WL.q (oq_assign rfl) rfl rfl rfl ?_
          refine WL.nil (WE.then_normal (WC.sub (fr' := [(6, _), (9, _), (10, _), (13, _), (14, _), (36, _), (37, _), (38, _)]) ?_ ⟨rfl, rfl, rfl, rfl, rfl, rfl, rfl, rfl, trivial⟩))
          refine WC.region ?_
          refine WL.q (oq_move rfl) rfl rfl rfl ?_
          refine WL.q (oq_move rfl) rfl rfl rfl ?_
          refine WL.f1 ?_
          refine WL.append1 hot Tryz.underlying23 ty9 rfl (by decide) (fun _ => rfl) rfl rfl (by unfold maxLen; omega) (by omega) rfl rfl (fun _ => rfl) rfl fun v15a A15a u15a ho15a hne15a => ?_
          refine WL.q (oq_move rfl) rfl rfl rfl ?_
          refine WL.q (oq_move rfl) rfl rfl rfl ?_
          refine WL.f1 ?_
          refine WL.append1 hob Tryz.underlying30 ty4 rfl (by decide) (fun _ => rfl) rfl rfl (by unfold maxLen; omega) (by omega) rfl rfl (fun _ => rfl) rfl fun v15b A15b u15b ho15b hne15b => ?_
          refine WL.q (oq_assign rfl) rfl rfl rfl ?_
          refine WL.q (oq_assign rfl) rfl rfl rfl ?_
          refine WL.nil (WE.block_normal (WE.then_normal (WC.sub (fr' := [(6, _), (9, _), (10, _), (36, _), (37, _), (38, _)]) ?_ ⟨rfl, rfl, rfl, rfl, rfl, rfl, trivial⟩)))
          refine WC.region ?_
          refine WL.q (oq_add rfl rfl (by rw [i64_lo, i64_hi]; (first | omega | (simp only [List.length_cons, List.length_nil, List.length_append, List.length_drop, List.length_take]; omega)))) rfl rfl rfl ?_
          refine WL.q (oq_move rfl) rfl rfl rfl ?_
          refine WL.nil ?_
          refine WE.again (j + 1, _, _, _, _) ?_ ?_ ⟨rfl, rfl, rfl, rfl, rfl, rfl, trivial⟩ (List.Perm.refl _)
          · try dsimp only   -- again 0
            exact ⟨by omega, ownS ho15a (by omega) rfl rfl (by rw [hst]), ownB ho15b (by omega) rfl rfl (by rw [hst])⟩
          · (try dsimp only); omega
        ·
          try simp only [Z1, Z2, Z3, Z4, Z5, Z6, Z7, Z8, Z9, Z0] at q12
          refine WC.exit (WE.then_exit (WE.then_exit (WE.block_same (WE.then_normal (WC.sub (fr' := [(9, _), (10, _)]) ?_ ⟨rfl, rfl, trivial⟩)))))
          refine WC.seq (WC.region ?_)
          refine WL.q (oq_move rfl) rfl rfl rfl ?_
          refine WL.q (oq_move rfl) rfl rfl rfl ?_
          refine WL.q (oq_assign rfl) rfl rfl rfl ?_
          refine WL.q (oq_assign rfl) rfl rfl rfl ?_
          refine WL.nil (WE.then_normal (WC.sub (fr' := [(4, _), (5, _)]) ?_ ⟨rfl, rfl, trivial⟩))
          refine WC.ret ?_
          refine WE.f2 ?_
          refine WE.forget hsv ?_
          refine WE.f2 ?_
          refine WE.f1 ?_
          refine WE.f2 ?_
          refine WE.cat ?_
          refine WE.endA (.inl rfl) (res2 Tryz.results8 rfl rfl) ?_ (fresh_cat (hot.fresh) (hob.fresh))
          -- end 0
          obtain rfl : j = ks.length := by omega
          rw [List.take_length] at hot hob
          exact ⟨_, _, rfl, hot.rd.weaken fun x hx => List.mem_append_left _ hx, hob.rd.weaken fun x hx => List.mem_append_right _ hx⟩

/-- given.example/pub-tinwright/impl.WMeta -/
theorem wMeta (va : Value) (A : Hp) (l : List WP) (ha : RdS 2 va A l.length (recsV pof l)) (vk : Value) (ks : List (List UInt8)) (hk : RdS 1 vk A ks.length (strsV ks)) (hl : l.length ≤ 1000) (hkl : ks.length ≤ 1000)  : FnA Tryz.prog 10 [va, vk] A (fun v N => ∃ a b, v = .tuple #[a, b] ∧ RdS 1 a N ks.length (strsV (ks.map (fun k => (lastOf l k).getD []))) ∧ RdS 1 b N ks.length (boolsV (ks.map (fun k => (lastOf l k).isSome)))) := by
  refine FnA.enter (n := 57) Tryz.func10 rfl rfl fun w0 => ?_
  refine WC.sub (fr' := [(0, _), (1, _)]) ?_ ⟨rfl, rfl, trivial⟩
  refine WC.seq (WC.region ?_)
  refine WL.q (oq_assign rfl) rfl rfl rfl ?_
  refine WL.q (oq_assign rfl) rfl rfl rfl ?_
  refine WL.nil (WE.then_normal (WC.sub (fr' := [(0, _), (1, _)]) ?_ ⟨rfl, rfl, trivial⟩))
  refine WC.seq (WC.region ?_)
  refine WL.alloc ty50 rfl rfl fun mb hmb => ?_
  refine WL.nil (WE.then_normal (WC.sub (fr' := [(0, _), (1, _), (6, _)]) ?_ ⟨rfl, rfl, rfl, trivial⟩))
  refine WC.seq (WC.seq ?_)
  refine WC.add0 ?_
  refine WC.region ?_
  refine WL.q (oq_move rfl) rfl rfl rfl ?_
  refine WL.q (oq_len_rd ha Tryz.underlying22 rfl) rfl rfl rfl ?_
  refine WL.q (oq_move rfl) rfl rfl rfl ?_
  refine WL.nil (WE.then_normal (WC.sub (fr' := [(1, _), (6, _), (15, _), (16, _), (17, _)]) ?_ ⟨rfl, rfl, rfl, rfl, rfl, trivial⟩))
  refine WC.block ?_
  refine WC.f2 ?_
  refine WC.f1 ?_
  refine WC.f2 ?_
  refine WC.loop (ι := Nat × (Option (Nat × List (List UInt8 × Value × Nat) × Nat))) (fun i_ => (fun (i : Nat) (om : Option (Nat × List (List UInt8 × Value × Nat) × Nat)) => [(1, vk), (6, Pt mb 0), (15, va), (16, I (l.length : Int)), (17, I (i : Int))]) i_.1 i_.2) (fun i_ => (fun (i : Nat) (om : Option (Nat × List (List UInt8 × Value × Nat) × Nat)) => [cellM mb om, mapM om, A]) i_.1 i_.2) (fun i_ => (fun (i : Nat) (om : Option (Nat × List (List UInt8 × Value × Nat) × Nat)) => i ≤ l.length ∧ freshM w0.heap.size om ∧ ∀ y, getM om y = (lastOf (l.take i) y).map KI) i_.1 i_.2) (fun i_ => (fun (i : Nat) (om : Option (Nat × List (List UInt8 × Value × Nat) × Nat)) => l.length - i) i_.1 i_.2) ((0, none)) ?_ ⟨rfl, rfl, rfl, rfl, rfl, trivial⟩ (List.Perm.refl _) ?_
  · try dsimp only
    exact ⟨by omega, (fun _ _ h => nomatch h), fun y => rfl⟩
  · rintro ⟨i, om⟩ hp
    try dsimp only at hp
    obtain ⟨hi, hfm, hg⟩ := hp
    show WC _ _ _ _ _ _ ([(1, vk), (6, Pt mb 0), (15, va), (16, I (l.length : Int)), (17, I (i : Int))]) ([cellM mb om, mapM om, A])
    refine WC.seq (WC.region ?_)
    refine WL.q (oq_lss rfl rfl) rfl rfl rfl ?_
    refine WL.nil (WE.then_normal (WC.sub (fr' := [(1, _), (6, _), (15, _), (16, _), (17, _), (18, _)]) ?_ ⟨rfl, rfl, rfl, rfl, rfl, rfl, trivial⟩))
    refine WC.seq ?_
    refine WC.cond rfl (fun q3 => ?_) (fun q3 => ?_)
    ·
      try simp only [Z1, Z2, Z3, Z4, Z5, Z6, Z7, Z8, Z9, Z0] at q3
      refine WC.skip (WE.then_normal (WC.sub (fr' := [(1, _), (6, _), (15, _), (16, _), (17, _)]) ?_ ⟨rfl, rfl, rfl, rfl, rfl, trivial⟩))
      refine WC.seq (WC.block (WC.seq (WC.region ?_)))
      refine WL.q (oq_ixaddr ha Tryz.underlying22 ty28 rfl rfl (by (first | omega | (simp only [List.length_cons, List.length_nil, List.length_append, List.length_drop, List.length_take]; omega)))) rfl rfl rfl ?_
      refine WL.q (oq_loadEl (f := pof) WP0 [_, _] (fun _ => rfl) agg28 ty28 ha (.tail _ (.tail _ (.head _))) rfl (by (first | omega | (simp only [List.length_cons, List.length_nil, List.length_append, List.length_drop, List.length_take]; omega))) (by first | exact Int.toNat_natCast _ | exact rfl) rfl) rfl rfl rfl ?_
      refine WL.alloc ty28 rfl rfl fun o8 ho8 => ?_
      refine WL.storeS #[_, _] ty28 rfl rfl rfl rfl (Nat.le_of_ble_eq_true rfl) rfl rfl ?_
      refine WL.nil (WE.then_normal (WC.sub (fr' := [(1, _), (6, _), (8, _), (15, _), (16, _), (17, _)]) ?_ ⟨rfl, rfl, rfl, rfl, rfl, rfl, trivial⟩))
      refine WC.region ?_
      refine WL.q (oq_fieldAddr fld28_0 rfl) rfl rfl rfl ?_
      refine WL.q (oq_load flat9 rfl (.head _) (List.mem_singleton.2 rfl) rfl) rfl rfl rfl ?_
      refine WL.q (oq_makeI conc9 rfl) rfl rfl rfl ?_
      refine WL.q (oq_fieldAddr fld28_1 rfl) rfl rfl rfl ?_
      refine WL.q (oq_load flat9 rfl (.head _) (List.mem_singleton.2 rfl) rfl) rfl rfl rfl ?_
      refine WL.q (oq_makeI conc9 rfl) rfl rfl rfl ?_
      refine WL.f2 ?_
      refine WL.f2 ?_
      refine WL.callW2 (setA _ mb om _ _ hfm) call17 rfl rfl rfl fun v5_6 Hs5_6 hR5_6 => ?_
      obtain ⟨om2, rfl, hfm2, hg2⟩ := hR5_6
      refine WL.to2 ?_
      refine WL.nil (WE.block_normal (WE.then_normal (WC.sub (fr' := [(1, _), (6, _), (15, _), (16, _), (17, _)]) ?_ ⟨rfl, rfl, rfl, rfl, rfl, trivial⟩)))
      refine WC.region ?_
      refine WL.q (oq_add rfl rfl (by rw [i64_lo, i64_hi]; (first | omega | (simp only [List.length_cons, List.length_nil, List.length_append, List.length_drop, List.length_take]; omega)))) rfl rfl rfl ?_
      refine WL.q (oq_move rfl) rfl rfl rfl ?_
      refine WL.nil ?_
      refine WE.f2 ?_
      refine WE.lose ho8 ?_
      refine WE.again (i + 1, om2) ?_ ?_ ⟨rfl, rfl, rfl, rfl, rfl, trivial⟩ (List.Perm.refl _)
      · try dsimp only   -- again 0
        exact ⟨by omega, hfm2, fun y => by rw [hg2, hg, lastOf_next (by omega)]; by_cases e : y = (l.getD i WP0).k; rw [if_pos e, if_pos e.symm]; rfl; rw [if_neg e, if_neg (fun h => e h.symm)]⟩
      · (try dsimp only); omega
    ·
      try simp only [Z1, Z2, Z3, Z4, Z5, Z6, Z7, Z8, Z9, Z0] at q3
      refine WC.exit (WE.then_exit (WE.then_exit (WE.block_same (WE.then_normal (WC.sub (fr' := [(1, _), (6, _)]) ?_ ⟨rfl, rfl, trivial⟩)))))
      refine WC.seq ?_
      obtain rfl : i = l.length := by omega
      rw [List.take_length] at hg
      refine WC.add0 ?_
      refine WC.region ?_
      refine WL.q (oq_assign rfl) rfl rfl rfl ?_
      refine WL.nil (WE.then_normal (WC.sub (fr' := [(1, _), (6, _), (9, _)]) ?_ ⟨rfl, rfl, rfl, trivial⟩))
      refine WC.seq ?_
      refine WC.add0 ?_
      refine WC.region ?_
      refine WL.q (oq_assign rfl) rfl rfl rfl ?_
      refine WL.nil (WE.then_normal (WC.sub (fr' := [(1, _), (6, _), (9, _), (10, _)]) ?_ ⟨rfl, rfl, rfl, rfl, trivial⟩))
      refine WC.seq (WC.seq (WC.region ?_))
      refine WL.q (oq_move rfl) rfl rfl rfl ?_
      refine WL.q (oq_len_rd hk Tryz.underlying23 rfl) rfl rfl rfl ?_
      refine WL.q (oq_move rfl) rfl rfl rfl ?_
      refine WL.nil (WE.then_normal (WC.sub (fr' := [(6, _), (9, _), (10, _), (29, _), (30, _), (31, _)]) ?_ ⟨rfl, rfl, rfl, rfl, rfl, rfl, trivial⟩))
      refine WC.block ?_
      refine WC.loop (ι := Nat × Value × Hp × Value × Hp) (fun i_ => (fun (j : Nat) (tv : Value) (T : Hp) (bv : Value) (B : Hp) => [(6, Pt mb 0), (9, tv), (10, bv), (29, vk), (30, I (ks.length : Int)), (31, I (j : Int))]) i_.1 i_.2.1 i_.2.2.1 i_.2.2.2.1 i_.2.2.2.2) (fun i_ => (fun (j : Nat) (tv : Value) (T : Hp) (bv : Value) (B : Hp) => [B, T, cellM mb om, mapM om, A]) i_.1 i_.2.1 i_.2.2.1 i_.2.2.2.1 i_.2.2.2.2) (fun i_ => (fun (j : Nat) (tv : Value) (T : Hp) (bv : Value) (B : Hp) => j ≤ ks.length ∧ OwS w0.heap.size 9 1 tv T j (strsV ((ks.take j).map (fun k => (lastOf l k).getD []))) ∧ OwS w0.heap.size 4 1 bv B j (boolsV ((ks.take j).map (fun k => (lastOf l k).isSome)))) i_.1 i_.2.1 i_.2.2.1 i_.2.2.2.1 i_.2.2.2.2) (fun i_ => (fun (j : Nat) (tv : Value) (T : Hp) (bv : Value) (B : Hp) => ks.length - j) i_.1 i_.2.1 i_.2.2.1 i_.2.2.2.1 i_.2.2.2.2) ((0, _, _, _, _)) ?_ ⟨rfl, rfl, rfl, rfl, rfl, rfl, trivial⟩ (List.Perm.refl _) ?_
      · try dsimp only
        exact ⟨by omega, OwS.nil _ _ _, OwS.nil _ _ _⟩
      · rintro ⟨j, tv, T, bv, B⟩ hp
        try dsimp only at hp
        obtain ⟨hj, hot, hob⟩ := hp
        show WC _ _ _ _ _ _ ([(6, Pt mb 0), (9, tv), (10, bv), (29, vk), (30, I (ks.length : Int)), (31, I (j : Int))]) ([B, T, cellM mb om, mapM om, A])
        refine WC.seq (WC.region ?_)
        refine WL.q (oq_lss rfl rfl) rfl rfl rfl ?_
        refine WL.nil (WE.then_normal (WC.sub (fr' := [(6, _), (9, _), (10, _), (29, _), (30, _), (31, _), (32, _)]) ?_ ⟨rfl, rfl, rfl, rfl, rfl, rfl, rfl, trivial⟩))
        refine WC.seq ?_
        refine WC.cond rfl (fun q10 => ?_) (fun q10 => ?_)
        ·
          try simp only [Z1, Z2, Z3, Z4, Z5, Z6, Z7, Z8, Z9, Z0] at q10
          refine WC.skip (WE.then_normal (WC.sub (fr' := [(6, _), (9, _), (10, _), (29, _), (30, _), (31, _)]) ?_ ⟨rfl, rfl, rfl, rfl, rfl, rfl, trivial⟩))
          refine WC.cut (ι := Value × Hp × Value × Hp) (fun i_ => (fun (tv : Value) (T : Hp) (bv : Value) (B : Hp) => [(6, Pt mb 0), (9, tv), (10, bv), (29, vk), (30, I (ks.length : Int)), (31, I (j : Int))]) i_.1 i_.2.1 i_.2.2.1 i_.2.2.2) (fun i_ => (fun (tv : Value) (T : Hp) (bv : Value) (B : Hp) => [B, T, cellM mb om, mapM om, A]) i_.1 i_.2.1 i_.2.2.1 i_.2.2.2) (fun i_ => (fun (tv : Value) (T : Hp) (bv : Value) (B : Hp) => OwS w0.heap.size 9 1 tv T (j + 1) (strsV ((ks.take (j + 1)).map (fun k => (lastOf l k).getD []))) ∧ OwS w0.heap.size 4 1 bv B (j + 1) (boolsV ((ks.take (j + 1)).map (fun k => (lastOf l k).isSome)))) i_.1 i_.2.1 i_.2.2.1 i_.2.2.2) ?_ ?_
          ·
            refine WC.block (WC.seq (WC.region ?_))
            refine WL.q (oq_ixaddr hk Tryz.underlying23 ty9 rfl rfl (by (first | omega | (simp only [List.length_cons, List.length_nil, List.length_append, List.length_drop, List.length_take]; omega)))) rfl rfl rfl ?_
            refine WL.q (oq_load_str hk (.tail _ (.tail _ (.tail _ (.tail _ (.head _))))) flat9 rfl (by (first | omega | (simp only [List.length_cons, List.length_nil, List.length_append, List.length_drop, List.length_take]; omega))) (by first | exact Int.toNat_natCast _ | exact rfl)) rfl rfl rfl ?_
            refine WL.q (oq_assign rfl) rfl rfl rfl ?_
            refine WL.nil (WE.then_normal (WC.sub (fr' := [(6, _), (9, _), (10, _), (12, _), (29, _), (30, _), (31, _)]) ?_ ⟨rfl, rfl, rfl, rfl, rfl, rfl, rfl, trivial⟩))
            refine WC.seq (WC.region ?_)
            refine WL.q (oq_loadS [_] agg50 ty50 rfl (.tail _ (.tail _ (.head _))) (List.mem_singleton.2 rfl) rfl rfl) rfl rfl rfl ?_
            refine WL.q (oq_move rfl) rfl rfl rfl ?_
            refine WL.q (oq_makeI conc9 rfl) rfl rfl rfl ?_
            refine WL.qc (oq_callRm (getA om _) (.tail _ (.tail _ (.tail _ (.head _)))) call18 rfl) rfl rfl rfl ?_
            refine WL.q (oq_askOpt (o := lastOf l (ks.getD j [])) conc9 ty9 (gtv rfl (metaOpt (hg _)))) rfl rfl rfl ?_
            refine WL.q (oq_move rfl) rfl rfl rfl ?_
            refine WL.q (oq_extract rfl rfl) rfl rfl rfl ?_
            refine WL.q (oq_extract rfl rfl) rfl rfl rfl ?_
            refine WL.q (oq_assign rfl) rfl rfl rfl ?_
            refine WL.q (oq_assign rfl) rfl rfl rfl ?_
            refine WL.nil (WE.then_normal (WC.sub (fr' := [(6, _), (9, _), (10, _), (12, _), (13, _), (29, _), (30, _), (31, _)]) ?_ ⟨rfl, rfl, rfl, rfl, rfl, rfl, rfl, rfl, trivial⟩))
            refine WC.gate 8 (cellM mb om) (by kernel_rfl) ?_
            refine WG.q 0 [3] rfl (.tail _ (.tail _ (.head _))) (fun w0 => oq_move rfl) rfl rfl rfl ?_
            refine WG.q 1 [3, 2] rfl (.tail _ (.tail _ (.head _))) (fun w0 => oq_move rfl) rfl rfl rfl ?_
            refine WG.p 4 rfl (.inr (.tail _ (.tail _ (.head _)))) (fun w0 => oq_move rfl) rfl rfl rfl ?_
            refine WG.q 5 [] rfl (.tail _ (.tail _ (.head _))) (fun w0 => oq_loadS [_] agg50 ty50 rfl (.head _) (List.mem_singleton.2 rfl) rfl rfl) rfl rfl rfl ?_
            refine WG.q 6 [7] rfl (.tail _ (.tail _ (.head _))) (fun w0 => oq_move rfl) rfl rfl rfl ?_
            refine WG.q 7 [] rfl (.tail _ (.tail _ (.head _))) (fun w0 => oq_makeI conc9 rfl) rfl rfl rfl ?_
            refine WG.step (i := 2) (by kernel_rfl) rfl ?_
            refine WL.buildL Tryz.underlying23 ty9 rfl rfl (by decide) (by decide) rfl rfl rfl fun v13_2 A13_2 ho13_2 hne13_2 => ?_
            refine WL.nil ?_
            refine WE.toG (.tail _ (.tail _ (.tail _ (.head _)))) ?_
            refine WG.step (i := 3) (by kernel_rfl) rfl ?_
            refine WL.f2 ?_
            refine WL.appendS hot Tryz.underlying23 ty9 rfl (by decide) rfl rfl ho13_2.rd (.head _) (fun u hu => by rw [List.mem_singleton.1 hu]; rfl) (by unfold maxLen; omega) (by omega) rfl rfl fun v13a A13a ho13a hne13a => ?_
            refine WL.nil ?_
            refine WE.toG (.tail _ (.tail _ (.tail _ (.head _)))) ?_
            refine WG.step (i := 8) (by kernel_rfl) rfl ?_
            refine WL.qc (oq_callRm (hasA om _) (.tail _ (.tail _ (.tail _ (.tail _ (.head _))))) call19 rfl) rfl rfl rfl ?_
            refine WL.nil ?_
            refine WE.toG0 (by kernel_rfl) ?_
            refine WG.step (i := 9) (by kernel_rfl) rfl ?_
            refine WL.buildL Tryz.underlying30 ty4 rfl rfl (by decide) (by decide) rfl rfl rfl fun v13_9 A13_9 ho13_9 hne13_9 => ?_
            refine WL.nil ?_
            refine WE.toG0 (by kernel_rfl) ?_
            refine WG.step (i := 10) (by kernel_rfl) rfl ?_
            refine WL.f3 ?_
            refine WL.appendS hob Tryz.underlying30 ty4 rfl (by decide) rfl rfl ho13_9.rd (.head _) (fun u hu => by rw [List.mem_singleton.1 hu]; rfl) (by unfold maxLen; omega) (by omega) rfl rfl fun v13b A13b ho13b hne13b => ?_
            refine WL.nil ?_
            refine WE.toG0 (by kernel_rfl) ?_
            refine WG.p 11 rfl (.inl (by kernel_rfl)) (fun w0 => oq_assign rfl) rfl rfl rfl ?_
            refine WG.p 12 rfl (.inl (by kernel_rfl)) (fun w0 => oq_assign rfl) rfl rfl rfl ?_
            refine WG.done (by kernel_rfl) ?_
            refine WE.block_normal ?_
            refine WE.f1 ?_
            refine WE.forget ho13_9.fresh ?_
            refine WE.f2 ?_
            refine WE.forget ho13_2.fresh ?_
            refine WE.meet (_, _, _, _) ?_ ⟨rfl, rfl, rfl, rfl, rfl, rfl, trivial⟩ (List.Perm.refl _)
            try dsimp only
            exact ⟨ownS ho13a (by omega) rfl rfl rfl, ownB ho13b (by omega) rfl rfl (metaIs (hg _))⟩   -- meet 0
          · rintro ⟨tv, T, bv, B⟩ hp
            try dsimp only at hp
            obtain ⟨hot, hob⟩ := hp
            show WC _ _ _ _ _ _ ([(6, Pt mb 0), (9, tv), (10, bv), (29, vk), (30, I (ks.length : Int)), (31, I (j : Int))]) ([B, T, cellM mb om, mapM om, A])
            refine WC.region ?_
            refine WL.q (oq_add rfl rfl (by rw [i64_lo, i64_hi]; (first | omega | (simp only [List.length_cons, List.length_nil, List.length_append, List.length_drop, List.length_take]; omega)))) rfl rfl rfl ?_
            refine WL.q (oq_move rfl) rfl rfl rfl ?_
            refine WL.nil ?_
            refine WE.again (j + 1, _, _, _, _) ?_ ?_ ⟨rfl, rfl, rfl, rfl, rfl, rfl, trivial⟩ (List.Perm.refl _)
            · try dsimp only   -- again 0
              exact ⟨by omega, hot, hob⟩
            · (try dsimp only); omega
        ·
          try simp only [Z1, Z2, Z3, Z4, Z5, Z6, Z7, Z8, Z9, Z0] at q10
          refine WC.exit (WE.then_exit (WE.then_exit (WE.block_same (WE.then_normal (WC.sub (fr' := [(9, _), (10, _)]) ?_ ⟨rfl, rfl, trivial⟩)))))
          refine WC.seq (WC.region ?_)
          refine WL.q (oq_move rfl) rfl rfl rfl ?_
          refine WL.q (oq_move rfl) rfl rfl rfl ?_
          refine WL.q (oq_assign rfl) rfl rfl rfl ?_
          refine WL.q (oq_assign rfl) rfl rfl rfl ?_
          refine WL.nil (WE.then_normal (WC.sub (fr' := [(4, _), (5, _)]) ?_ ⟨rfl, rfl, trivial⟩))
          refine WC.ret ?_
          refine WE.f2 ?_
          refine WE.lose hmb ?_
          refine WE.f2 ?_
          refine WE.forget hfm ?_
          refine WE.f2 ?_
          refine WE.f1 ?_
          refine WE.f2 ?_
          refine WE.cat ?_
          refine WE.endA (.inl rfl) (res2 Tryz.results10 rfl rfl) ?_ (fresh_cat (hot.fresh) (hob.fresh))
          -- end 0
          obtain rfl : j = ks.length := by omega
          rw [List.take_length] at hot hob
          exact ⟨_, _, rfl, hot.rd.weaken fun x hx => List.mem_append_left _ hx, hob.rd.weaken fun x hx => List.mem_append_right _ hx⟩

/-- given.example/pub-tinwright/spec.WLast -/
theorem wLast (va : Value) (A : Hp) (l : List WP) (ha : RdS 2 va A l.length (recsV pof l)) (k : List UInt8) (hl : l.length ≤ 1000000) : FnR Tryz.prog 9 [va, S k] A (.tuple #[S ((lastOf l k).getD []), .bool (lastOf l k).isSome]) := by
  refine FnR.enter (n := 26) Tryz.func9 rfl rfl fun w0 => ?_
  refine WC.sub (fr' := [(0, _), (1, _)]) ?_ ⟨rfl, rfl, trivial⟩
  refine WC.seq (WC.region ?_)
  refine WL.q (oq_assign rfl) rfl rfl rfl ?_
  refine WL.q (oq_assign rfl) rfl rfl rfl ?_
  refine WL.nil (WE.then_normal (WC.sub (fr' := [(0, _), (1, _)]) ?_ ⟨rfl, rfl, trivial⟩))
  refine WC.seq (WC.seq (WC.region ?_))
  refine WL.q (oq_move rfl) rfl rfl rfl ?_
  refine WL.q (oq_len_rd ha Tryz.underlying22 rfl) rfl rfl rfl ?_
  refine WL.q (oq_sub rfl rfl (by rw [i64_lo, i64_hi]; (first | omega | (simp only [List.length_cons, List.length_nil, List.length_append, List.length_drop, List.length_take]; omega)))) rfl rfl rfl ?_
  refine WL.q (oq_assign rfl) rfl rfl rfl ?_
  refine WL.nil (WE.then_normal (WC.sub (fr' := [(0, _), (1, _), (6, _)]) ?_ ⟨rfl, rfl, rfl, trivial⟩))
  refine WC.block ?_
  refine WC.loop (ι := Nat) (fun (c : Nat) => [(0, va), (1, S k), (6, I ((c : Int) - 1))]) (fun (c : Nat) => [A]) (fun (c : Nat) => c ≤ l.length ∧ lastOf l k = lastOf (l.take c) k) (fun (c : Nat) => c) (l.length) ?_ ⟨rfl, rfl, rfl, trivial⟩ (List.Perm.refl _) ?_
  · try dsimp only
    exact ⟨Nat.le_refl _, by rw [List.take_length]⟩
  · rintro c hp
    try dsimp only at hp
    obtain ⟨hc, hq⟩ := hp
    show WC _ _ _ _ _ _ ([(0, va), (1, S k), (6, I ((c : Int) - 1))]) ([A])
    refine WC.seq (WC.seq (WC.region ?_))
    refine WL.q (oq_move rfl) rfl rfl rfl ?_
    refine WL.q (oq_geq rfl rfl) rfl rfl rfl ?_
    refine WL.nil (WE.then_normal (WC.sub (fr' := [(0, _), (1, _), (6, _), (11, _)]) ?_ ⟨rfl, rfl, rfl, rfl, trivial⟩))
    refine WC.cond rfl (fun q2 => ?_) (fun q2 => ?_)
    ·
      try simp only [Z1, Z2, Z3, Z4, Z5, Z6, Z7, Z8, Z9, Z0] at q2
      refine WC.skip (WE.then_normal (WC.sub (fr' := [(0, _), (1, _), (6, _)]) ?_ ⟨rfl, rfl, rfl, trivial⟩))
      refine WC.seq (WC.block (WC.seq ?_))
      obtain ⟨e, rfl⟩ : ∃ e, c = e + 1 := ⟨c - 1, by omega⟩
      have htn : (((e + 1 : Nat) : Int) - 1).toNat = e := by omega
      refine WC.region ?_
      refine WL.q (oq_move rfl) rfl rfl rfl ?_
      refine WL.q (oq_move rfl) rfl rfl rfl ?_
      refine WL.q (oq_ixaddr ha Tryz.underlying22 ty28 rfl rfl (by (first | omega | (simp only [List.length_cons, List.length_nil, List.length_append, List.length_drop, List.length_take]; omega)))) rfl rfl rfl ?_
      refine WL.q (oq_fldEl fld28_0 ha rfl (by (first | omega | (simp only [List.length_cons, List.length_nil, List.length_append, List.length_drop, List.length_take]; omega)))) rfl rfl rfl ?_
      refine WL.q (oq_loadF (f := pof) WP0 (fun _ => rfl) flat9 ha (.head _) rfl (by (first | omega | (simp only [List.length_cons, List.length_nil, List.length_append, List.length_drop, List.length_take]; omega))) (by exact htn) (by decide) rfl) rfl rfl rfl ?_
      refine WL.q (oq_move rfl) rfl rfl rfl ?_
      refine WL.q (oq_seql rfl rfl) rfl rfl rfl ?_
      refine WL.nil (WE.then_normal (WC.sub (fr' := [(0, _), (1, _), (6, _), (20, _)]) ?_ ⟨rfl, rfl, rfl, rfl, trivial⟩))
      refine WC.cond rfl (fun q4 => ?_) (fun q4 => ?_)
      ·
        try simp only [Z1, Z2, Z3, Z4, Z5, Z6, Z7, Z8, Z9, Z0] at q4
        refine WC.seq (WC.region ?_)
        refine WL.q (oq_move rfl) rfl rfl rfl ?_
        refine WL.q (oq_move rfl) rfl rfl rfl ?_
        refine WL.q (oq_ixaddr ha Tryz.underlying22 ty28 rfl rfl (by (first | omega | (simp only [List.length_cons, List.length_nil, List.length_append, List.length_drop, List.length_take]; omega)))) rfl rfl rfl ?_
        refine WL.q (oq_fldEl fld28_1 ha rfl (by (first | omega | (simp only [List.length_cons, List.length_nil, List.length_append, List.length_drop, List.length_take]; omega)))) rfl rfl rfl ?_
        refine WL.q (oq_loadF (f := pof) WP0 (fun _ => rfl) flat9 ha (.head _) rfl (by (first | omega | (simp only [List.length_cons, List.length_nil, List.length_append, List.length_drop, List.length_take]; omega))) (by exact htn) (by decide) rfl) rfl rfl rfl ?_
        refine WL.q (oq_assign rfl) rfl rfl rfl ?_
        refine WL.q (oq_assign rfl) rfl rfl rfl ?_
        refine WL.nil (WE.then_normal (WC.sub (fr' := [(4, _), (5, _)]) ?_ ⟨rfl, rfl, trivial⟩))
        refine WC.ret (WE.block_ret (WE.then_ret (WE.then_ret (WE.block_ret (WE.then_ret ?_)))))
        refine WE.endR (.inl rfl) (res2 Tryz.results9 rfl rfl) ?_
        -- end 0
        rw [last_hit (by omega) hq q4]
        rfl
      ·
        try simp only [Z1, Z2, Z3, Z4, Z5, Z6, Z7, Z8, Z9, Z0] at q4
        refine WC.skip (WE.block_normal (WE.then_normal (WC.sub (fr' := [(0, _), (1, _), (6, _)]) ?_ ⟨rfl, rfl, rfl, trivial⟩)))
        refine WC.region ?_
        refine WL.q (oq_move rfl) rfl rfl rfl ?_
        refine WL.q (oq_sub rfl rfl (by rw [i64_lo, i64_hi]; (first | omega | (simp only [List.length_cons, List.length_nil, List.length_append, List.length_drop, List.length_take]; omega)))) rfl rfl rfl ?_
        refine WL.q (oq_assign rfl) rfl rfl rfl ?_
        refine WL.nil ?_
        refine WE.again e ?_ ?_ ⟨rfl, rfl, (gti rfl (by omega)), trivial⟩ (List.Perm.refl _)
        · try dsimp only   -- again 0
          exact ⟨by omega, last_miss (by omega) hq q4⟩
        · (try dsimp only); omega
    ·
      try simp only [Z1, Z2, Z3, Z4, Z5, Z6, Z7, Z8, Z9, Z0] at q2
      refine WC.exit (WE.then_exit (WE.then_exit (WE.block_same (WE.then_normal (WC.sub (fr' := []) ?_ trivial)))))
      refine WC.seq (WC.region ?_)
      refine WL.q (oq_assign rfl) rfl rfl rfl ?_
      refine WL.q (oq_assign rfl) rfl rfl rfl ?_
      refine WL.nil (WE.then_normal (WC.sub (fr' := [(4, _), (5, _)]) ?_ ⟨rfl, rfl, trivial⟩))
      refine WC.ret ?_
      refine WE.endR (.inl rfl) (res2 Tryz.results9 rfl rfl) ?_
      -- end 1
      obtain rfl : c = 0 := by omega
      rw [hq]; rfl

/-- given.example/pub-tinwright/laws.zzFits21 -/
theorem fit21 (k v : List UInt8) : Fn0 Tryz.prog 11 [.agg #[S k, S v]] (.bool (fit1 ⟨k, v⟩)) := by
  refine Fn0.enter (n := 11) Tryz.func11 rfl rfl fun w0 => ?_
  refine WC.sub (fr' := [(0, _)]) ?_ ⟨rfl, trivial⟩
  refine WC.seq (WC.region ?_)
  refine WL.box rfl rfl rfl fun o1 ho1 => ?_
  refine WL.q (oq_assign rfl) rfl rfl rfl ?_
  refine WL.nil (WE.then_normal (WC.sub (fr' := [(1, _)]) ?_ ⟨rfl, trivial⟩))
  refine WC.seq (WC.seq (WC.region ?_))
  refine WL.q (oq_fieldAddr fld28_0 rfl) rfl rfl rfl ?_
  refine WL.q (oq_load flat9 rfl (.head _) (List.mem_singleton.2 rfl) rfl) rfl rfl rfl ?_
  refine WL.q (oq_len_s Tryz.underlying9 rfl) rfl rfl rfl ?_
  refine WL.q (oq_gtr rfl rfl) rfl rfl rfl ?_
  refine WL.nil (WE.then_normal (WC.sub (fr' := [(1, _), (6, _)]) ?_ ⟨rfl, rfl, trivial⟩))
  refine WC.cond rfl (fun q1 => ?_) (fun q1 => ?_)
  ·
    try simp only [Z1, Z2, Z3, Z4, Z5, Z6, Z7, Z8, Z9, Z0] at q1
    refine WC.seq (WC.region ?_)
    refine WL.q (oq_assign rfl) rfl rfl rfl ?_
    refine WL.nil (WE.then_normal (WC.sub (fr' := [(2, _)]) ?_ ⟨rfl, trivial⟩))
    refine WC.ret (WE.then_ret ?_)
    refine WE.lose ho1 ?_
    refine WE.end0 (.inl rfl) (res1 Tryz.results11 rfl) ?_
    -- end 0
    unfold fit1; rw [decide_eq_false (show ¬ ((k.length : Int) ≤ 2147483647) by omega), Bool.false_and]
  ·
    try simp only [Z1, Z2, Z3, Z4, Z5, Z6, Z7, Z8, Z9, Z0] at q1
    refine WC.skip (WE.then_normal (WC.sub (fr' := [(1, _)]) ?_ ⟨rfl, trivial⟩))
    refine WC.seq (WC.seq (WC.region ?_))
    refine WL.q (oq_fieldAddr fld28_1 rfl) rfl rfl rfl ?_
    refine WL.q (oq_load flat9 rfl (.head _) (List.mem_singleton.2 rfl) rfl) rfl rfl rfl ?_
    refine WL.q (oq_len_s Tryz.underlying9 rfl) rfl rfl rfl ?_
    refine WL.q (oq_gtr rfl rfl) rfl rfl rfl ?_
    refine WL.nil (WE.then_normal (WC.sub (fr' := [(10, _)]) ?_ ⟨rfl, trivial⟩))
    refine WC.cond rfl (fun q3 => ?_) (fun q3 => ?_)
    ·
      try simp only [Z1, Z2, Z3, Z4, Z5, Z6, Z7, Z8, Z9, Z0] at q3
      refine WC.seq (WC.region ?_)
      refine WL.q (oq_assign rfl) rfl rfl rfl ?_
      refine WL.nil (WE.then_normal (WC.sub (fr' := [(2, _)]) ?_ ⟨rfl, trivial⟩))
      refine WC.ret (WE.then_ret ?_)
      refine WE.lose ho1 ?_
      refine WE.end0 (.inl rfl) (res1 Tryz.results11 rfl) ?_
      -- end 1
      unfold fit1; rw [decide_eq_false (show ¬ ((v.length : Int) ≤ 2147483647) by omega), Bool.and_false]
    ·
      try simp only [Z1, Z2, Z3, Z4, Z5, Z6, Z7, Z8, Z9, Z0] at q3
      refine WC.skip (WE.then_normal (WC.sub (fr' := []) ?_ trivial))
      refine WC.seq (WC.region ?_)
      refine WL.q (oq_assign rfl) rfl rfl rfl ?_
      refine WL.nil (WE.then_normal (WC.sub (fr' := [(2, _)]) ?_ ⟨rfl, trivial⟩))
      refine WC.ret ?_
      refine WE.lose ho1 ?_
      refine WE.end0 (.inl rfl) (res1 Tryz.results11 rfl) ?_
      -- end 2
      unfold fit1; rw [decide_eq_true (show (k.length : Int) ≤ 2147483647 by omega), decide_eq_true (show (v.length : Int) ≤ 2147483647 by omega)]; rfl

/-- given.example/pub-tinwright/laws.zzFits20 -/
theorem fits20 (va : Value) (A : Hp) (l : List WP) (ha : RdS 2 va A l.length (recsV pof l))  : FnR Tryz.prog 5 [va] A (.bool (fits l)) := by
  refine FnR.enter (n := 18) Tryz.func5 rfl rfl fun w0 => ?_
  refine WC.sub (fr' := [(0, _)]) ?_ ⟨rfl, trivial⟩
  refine WC.seq (WC.region ?_)
  refine WL.q (oq_assign rfl) rfl rfl rfl ?_
  refine WL.nil (WE.then_normal (WC.sub (fr' := [(0, _)]) ?_ ⟨rfl, trivial⟩))
  refine WC.seq (WC.seq (WC.region ?_))
  refine WL.q (oq_move rfl) rfl rfl rfl ?_
  refine WL.q (oq_len_rd ha Tryz.underlying22 rfl) rfl rfl rfl ?_
  refine WL.q (oq_gtr rfl rfl) rfl rfl rfl ?_
  refine WL.nil (WE.then_normal (WC.sub (fr' := [(0, _), (7, _)]) ?_ ⟨rfl, rfl, trivial⟩))
  refine WC.cond rfl (fun q1 => ?_) (fun q1 => ?_)
  ·
    try simp only [Z1, Z2, Z3, Z4, Z5, Z6, Z7, Z8, Z9, Z0] at q1
    refine WC.seq (WC.region ?_)
    refine WL.q (oq_assign rfl) rfl rfl rfl ?_
    refine WL.nil (WE.then_normal (WC.sub (fr' := [(2, _)]) ?_ ⟨rfl, trivial⟩))
    refine WC.ret (WE.then_ret ?_)
    refine WE.endR (.inl rfl) (res1 Tryz.results5 rfl) ?_
    -- end 0
    unfold fits; rw [decide_eq_false (by omega)]; rfl
  ·
    try simp only [Z1, Z2, Z3, Z4, Z5, Z6, Z7, Z8, Z9, Z0] at q1
    refine WC.skip (WE.then_normal (WC.sub (fr' := [(0, _)]) ?_ ⟨rfl, trivial⟩))
    refine WC.seq (WC.seq (WC.region ?_))
    refine WL.q (oq_move rfl) rfl rfl rfl ?_
    refine WL.q (oq_len_rd ha Tryz.underlying22 rfl) rfl rfl rfl ?_
    refine WL.q (oq_move rfl) rfl rfl rfl ?_
    refine WL.nil (WE.then_normal (WC.sub (fr' := [(8, _), (9, _), (10, _)]) ?_ ⟨rfl, rfl, rfl, trivial⟩))
    refine WC.block ?_
    refine WC.loop (ι := Nat) (fun (i : Nat) => [(8, va), (9, I (l.length : Int)), (10, I (i : Int))]) (fun (i : Nat) => [A]) (fun (i : Nat) => i ≤ l.length ∧ l.all fit1 = (l.drop i).all fit1) (fun (i : Nat) => l.length - i) (0) ?_ ⟨rfl, rfl, rfl, trivial⟩ (List.Perm.refl _) ?_
    · try dsimp only
      exact ⟨by omega, rfl⟩
    · rintro i hp
      try dsimp only at hp
      obtain ⟨hi, hf⟩ := hp
      show WC _ _ _ _ _ _ ([(8, va), (9, I (l.length : Int)), (10, I (i : Int))]) ([A])
      refine WC.seq (WC.region ?_)
      refine WL.q (oq_lss rfl rfl) rfl rfl rfl ?_
      refine WL.nil (WE.then_normal (WC.sub (fr' := [(8, _), (9, _), (10, _), (11, _)]) ?_ ⟨rfl, rfl, rfl, rfl, trivial⟩))
      refine WC.seq ?_
      refine WC.cond rfl (fun q4 => ?_) (fun q4 => ?_)
      ·
        try simp only [Z1, Z2, Z3, Z4, Z5, Z6, Z7, Z8, Z9, Z0] at q4
        refine WC.skip (WE.then_normal (WC.sub (fr' := [(8, _), (9, _), (10, _)]) ?_ ⟨rfl, rfl, rfl, trivial⟩))
        refine WC.seq (WC.block (WC.seq (WC.region ?_)))
        refine WL.q (oq_ixaddr ha Tryz.underlying22 ty28 rfl rfl (by (first | omega | (simp only [List.length_cons, List.length_nil, List.length_append, List.length_drop, List.length_take]; omega)))) rfl rfl rfl ?_
        refine WL.q (oq_loadEl (f := pof) WP0 [_, _] (fun _ => rfl) agg28 ty28 ha (.head _) rfl (by (first | omega | (simp only [List.length_cons, List.length_nil, List.length_append, List.length_drop, List.length_take]; omega))) (by first | exact Int.toNat_natCast _ | exact rfl) rfl) rfl rfl rfl ?_
        refine WL.alloc ty28 rfl rfl fun o4 ho4 => ?_
        refine WL.storeS #[_, _] ty28 rfl rfl rfl rfl (Nat.le_of_ble_eq_true rfl) rfl rfl ?_
        refine WL.nil (WE.then_normal (WC.sub (fr' := [(4, _), (8, _), (9, _), (10, _)]) ?_ ⟨rfl, rfl, rfl, rfl, trivial⟩))
        refine WC.seq (WC.region ?_)
        refine WL.q (oq_loadS [_, _] agg28 ty28 rfl (.head _) (List.mem_singleton.2 rfl) rfl rfl) rfl rfl rfl ?_
        refine WL.qc (oq_call (fit21 _ _) call11 rfl) rfl rfl rfl ?_
        refine WL.q (oq_not rfl) rfl rfl rfl ?_
        refine WL.nil (WE.then_normal (WC.sub (fr' := [(8, _), (9, _), (10, _), (16, _)]) ?_ ⟨rfl, rfl, rfl, rfl, trivial⟩))
        refine WC.cond rfl (fun q6 => ?_) (fun q6 => ?_)
        ·
          try simp only [Z1, Z2, Z3, Z4, Z5, Z6, Z7, Z8, Z9, Z0] at q6
          refine WC.seq (WC.region ?_)
          refine WL.q (oq_assign rfl) rfl rfl rfl ?_
          refine WL.nil (WE.then_normal (WC.sub (fr' := [(2, _)]) ?_ ⟨rfl, trivial⟩))
          refine WC.ret (WE.block_ret (WE.then_ret (WE.then_ret (WE.block_ret (WE.then_ret ?_)))))
          refine WE.lose ho4 ?_
          refine WE.endR (.inl rfl) (res1 Tryz.results5 rfl) ?_
          -- end 1
          unfold fits; rw [hf, all_get l i WP0 (by omega), show fit1 (l.getD i WP0) = false from q6, Bool.false_and, Bool.and_false]
        ·
          try simp only [Z1, Z2, Z3, Z4, Z5, Z6, Z7, Z8, Z9, Z0] at q6
          refine WC.skip (WE.block_normal (WE.then_normal (WC.sub (fr' := [(8, _), (9, _), (10, _)]) ?_ ⟨rfl, rfl, rfl, trivial⟩)))
          refine WC.region ?_
          refine WL.q (oq_add rfl rfl (by rw [i64_lo, i64_hi]; (first | omega | (simp only [List.length_cons, List.length_nil, List.length_append, List.length_drop, List.length_take]; omega)))) rfl rfl rfl ?_
          refine WL.q (oq_move rfl) rfl rfl rfl ?_
          refine WL.nil ?_
          refine WE.lose ho4 ?_
          refine WE.again (i + 1) ?_ ?_ ⟨rfl, rfl, rfl, trivial⟩ (List.Perm.refl _)
          · try dsimp only   -- again 0
            exact ⟨by omega, by rw [hf, all_get l i WP0 (by omega), show fit1 (l.getD i WP0) = true from q6, Bool.true_and]⟩
          · (try dsimp only); omega
      ·
        try simp only [Z1, Z2, Z3, Z4, Z5, Z6, Z7, Z8, Z9, Z0] at q4
        refine WC.exit (WE.then_exit (WE.then_exit (WE.block_same (WE.then_normal (WC.sub (fr' := []) ?_ trivial)))))
        refine WC.seq (WC.region ?_)
        refine WL.q (oq_assign rfl) rfl rfl rfl ?_
        refine WL.nil (WE.then_normal (WC.sub (fr' := [(2, _)]) ?_ ⟨rfl, trivial⟩))
        refine WC.ret ?_
        refine WE.endR (.inl rfl) (res1 Tryz.results5 rfl) ?_
        -- end 2
        unfold fits; rw [hf, List.drop_eq_nil_of_le (by omega), decide_eq_true (by omega)]; rfl

/-- given.example/pub-tinwright/laws.zzFits2 -/
theorem fits2 (A : Hp) (vk : Value) (ks : List (List UInt8)) (hk : RdS 1 vk A ks.length (strsV ks))  : FnR Tryz.prog 6 [vk] A (.bool (fitsK ks)) := by
  refine FnR.enter (n := 18) Tryz.func6 rfl rfl fun w0 => ?_
  refine WC.sub (fr' := [(0, _)]) ?_ ⟨rfl, trivial⟩
  refine WC.seq (WC.region ?_)
  refine WL.q (oq_assign rfl) rfl rfl rfl ?_
  refine WL.nil (WE.then_normal (WC.sub (fr' := [(0, _)]) ?_ ⟨rfl, trivial⟩))
  refine WC.seq (WC.seq (WC.region ?_))
  refine WL.q (oq_move rfl) rfl rfl rfl ?_
  refine WL.q (oq_len_rd hk Tryz.underlying23 rfl) rfl rfl rfl ?_
  refine WL.q (oq_gtr rfl rfl) rfl rfl rfl ?_
  refine WL.nil (WE.then_normal (WC.sub (fr' := [(0, _), (7, _)]) ?_ ⟨rfl, rfl, trivial⟩))
  refine WC.cond rfl (fun q1 => ?_) (fun q1 => ?_)
  ·
    try simp only [Z1, Z2, Z3, Z4, Z5, Z6, Z7, Z8, Z9, Z0] at q1
    refine WC.seq (WC.region ?_)
    refine WL.q (oq_assign rfl) rfl rfl rfl ?_
    refine WL.nil (WE.then_normal (WC.sub (fr' := [(2, _)]) ?_ ⟨rfl, trivial⟩))
    refine WC.ret (WE.then_ret ?_)
    refine WE.endR (.inl rfl) (res1 Tryz.results6 rfl) ?_
    -- end 0
    unfold fitsK; rw [decide_eq_false (by omega)]; rfl
  ·
    try simp only [Z1, Z2, Z3, Z4, Z5, Z6, Z7, Z8, Z9, Z0] at q1
    refine WC.skip (WE.then_normal (WC.sub (fr' := [(0, _)]) ?_ ⟨rfl, trivial⟩))
    refine WC.seq (WC.seq (WC.region ?_))
    refine WL.q (oq_move rfl) rfl rfl rfl ?_
    refine WL.q (oq_len_rd hk Tryz.underlying23 rfl) rfl rfl rfl ?_
    refine WL.q (oq_move rfl) rfl rfl rfl ?_
    refine WL.nil (WE.then_normal (WC.sub (fr' := [(8, _), (9, _), (10, _)]) ?_ ⟨rfl, rfl, rfl, trivial⟩))
    refine WC.block ?_
    refine WC.loop (ι := Nat) (fun (i : Nat) => [(8, vk), (9, I (ks.length : Int)), (10, I (i : Int))]) (fun (i : Nat) => [A]) (fun (i : Nat) => i ≤ ks.length ∧ (ks.all fun x => decide ((x.length : Int) ≤ 2147483647)) = (ks.drop i).all fun x => decide ((x.length : Int) ≤ 2147483647)) (fun (i : Nat) => ks.length - i) (0) ?_ ⟨rfl, rfl, rfl, trivial⟩ (List.Perm.refl _) ?_
    · try dsimp only
      exact ⟨by omega, rfl⟩
    · rintro i hp
      try dsimp only at hp
      obtain ⟨hi, hf⟩ := hp
      show WC _ _ _ _ _ _ ([(8, vk), (9, I (ks.length : Int)), (10, I (i : Int))]) ([A])
      refine WC.seq (WC.region ?_)
      refine WL.q (oq_lss rfl rfl) rfl rfl rfl ?_
      refine WL.nil (WE.then_normal (WC.sub (fr' := [(8, _), (9, _), (10, _), (11, _)]) ?_ ⟨rfl, rfl, rfl, rfl, trivial⟩))
      refine WC.seq ?_
      refine WC.cond rfl (fun q4 => ?_) (fun q4 => ?_)
      ·
        try simp only [Z1, Z2, Z3, Z4, Z5, Z6, Z7, Z8, Z9, Z0] at q4
        refine WC.skip (WE.then_normal (WC.sub (fr' := [(8, _), (9, _), (10, _)]) ?_ ⟨rfl, rfl, rfl, trivial⟩))
        refine WC.seq (WC.block (WC.seq (WC.region ?_)))
        refine WL.q (oq_ixaddr hk Tryz.underlying23 ty9 rfl rfl (by (first | omega | (simp only [List.length_cons, List.length_nil, List.length_append, List.length_drop, List.length_take]; omega)))) rfl rfl rfl ?_
        refine WL.q (oq_load_str hk (.head _) flat9 rfl (by (first | omega | (simp only [List.length_cons, List.length_nil, List.length_append, List.length_drop, List.length_take]; omega))) (by first | exact Int.toNat_natCast _ | exact rfl)) rfl rfl rfl ?_
        refine WL.q (oq_assign rfl) rfl rfl rfl ?_
        refine WL.nil (WE.then_normal (WC.sub (fr' := [(4, _), (8, _), (9, _), (10, _)]) ?_ ⟨rfl, rfl, rfl, rfl, trivial⟩))
        refine WC.seq (WC.region ?_)
        refine WL.q (oq_move rfl) rfl rfl rfl ?_
        refine WL.q (oq_len_s Tryz.underlying9 rfl) rfl rfl rfl ?_
        refine WL.q (oq_gtr rfl rfl) rfl rfl rfl ?_
        refine WL.nil (WE.then_normal (WC.sub (fr' := [(8, _), (9, _), (10, _), (16, _)]) ?_ ⟨rfl, rfl, rfl, rfl, trivial⟩))
        refine WC.cond rfl (fun q6 => ?_) (fun q6 => ?_)
        ·
          try simp only [Z1, Z2, Z3, Z4, Z5, Z6, Z7, Z8, Z9, Z0] at q6
          refine WC.seq (WC.region ?_)
          refine WL.q (oq_assign rfl) rfl rfl rfl ?_
          refine WL.nil (WE.then_normal (WC.sub (fr' := [(2, _)]) ?_ ⟨rfl, trivial⟩))
          refine WC.ret (WE.block_ret (WE.then_ret (WE.then_ret (WE.block_ret (WE.then_ret ?_)))))
          refine WE.endR (.inl rfl) (res1 Tryz.results6 rfl) ?_
          -- end 1
          unfold fitsK; rw [hf, all_get ks i [] (by omega), decide_eq_false (show ¬ (((ks.getD i []).length : Int) ≤ 2147483647) by omega), Bool.false_and, Bool.and_false]
        ·
          try simp only [Z1, Z2, Z3, Z4, Z5, Z6, Z7, Z8, Z9, Z0] at q6
          refine WC.skip (WE.block_normal (WE.then_normal (WC.sub (fr' := [(8, _), (9, _), (10, _)]) ?_ ⟨rfl, rfl, rfl, trivial⟩)))
          refine WC.region ?_
          refine WL.q (oq_add rfl rfl (by rw [i64_lo, i64_hi]; (first | omega | (simp only [List.length_cons, List.length_nil, List.length_append, List.length_drop, List.length_take]; omega)))) rfl rfl rfl ?_
          refine WL.q (oq_move rfl) rfl rfl rfl ?_
          refine WL.nil ?_
          refine WE.again (i + 1) ?_ ?_ ⟨rfl, rfl, rfl, trivial⟩ (List.Perm.refl _)
          · try dsimp only   -- again 0
            exact ⟨by omega, by rw [hf, all_get ks i [] (by omega), decide_eq_true (show ((ks.getD i []).length : Int) ≤ 2147483647 by omega), Bool.true_and]⟩
          · (try dsimp only); omega
      ·
        try simp only [Z1, Z2, Z3, Z4, Z5, Z6, Z7, Z8, Z9, Z0] at q4
        refine WC.exit (WE.then_exit (WE.then_exit (WE.block_same (WE.then_normal (WC.sub (fr' := []) ?_ trivial)))))
        refine WC.seq (WC.region ?_)
        refine WL.q (oq_assign rfl) rfl rfl rfl ?_
        refine WL.nil (WE.then_normal (WC.sub (fr' := [(2, _)]) ?_ ⟨rfl, trivial⟩))
        refine WC.ret ?_
        refine WE.endR (.inl rfl) (res1 Tryz.results6 rfl) ?_
        -- end 2
        unfold fitsK; rw [hf, List.drop_eq_nil_of_le (by omega), decide_eq_true (by omega)]; rfl

end G3
end Go.Proofs.YtclafiglpcjhdaaGreat
