/- The reference of stacks, walked. -/
import Derived.Test.YtiegaefkahnfjaaGreatSA
namespace Go.Proofs.YtiegaefkahnfjaaGreat
open Go Go.RowKit V S0 S1 S2 S3 S4 S5 S6 S7 S8 SA
set_option linter.unusedSimpArgs false
set_option linter.unusedVariables false
set_option maxRecDepth 10000
namespace SB
theorem call19 : Callable Tryz.prog 19 := ⟨_, Tryz.func19, rfl, by kernel_rfl⟩
theorem flat3 : Flat Tryz.prog 3 := ⟨_, Tryz.underlying3, by simp⟩
theorem flat26 : Flat Tryz.prog 26 := ⟨_, Tryz.underlying26, by simp⟩
theorem ty3 : Ty Tryz.prog 3 (.int .i64 0) 1 8 := ty_of (by kernel_rfl)
theorem ty4 : Ty Tryz.prog 4 (.bool false) 1 1 := ty_of (by kernel_rfl)
theorem ty26 : Ty Tryz.prog 26 (.slice none 0 0) 1 24 := ty_of (by kernel_rfl)
theorem ty27 : Ty Tryz.prog 27 (.agg #[(.slice none 0 0), (.slice none 0 0), (.slice none 0 0), (.slice none 0 0), (.slice none 0 0)]) 5 120 := ty_of (by kernel_rfl)
theorem ty32 : Ty Tryz.prog 32 (.agg #[(.int .i64 0), (.int .i64 0), (S []), (S []), (.bool false)]) 5 56 := ty_of (by kernel_rfl)
theorem agg27 : Agg Tryz.prog 27 := agg_arr Tryz.underlying27
theorem agg32 : Agg Tryz.prog 32 := agg_of Tryz.underlying32
theorem fld32_0 : Fld Tryz.prog 32 0 0 3 := fld_of Tryz.underlying32 rfl rfl rfl ty3 (by decide)
theorem upd_rd {vs : Nat → Value} {M N : Hp} {q : Nat → List (List UInt8)} {i : Nat} {v2 : Value} {m : List (List UInt8)} (hM : ∀ j, j < 5 → RdS 1 (vs j) M (q j).length (strsV (q j))) (h2 : RdS 1 v2 (N ++ M) m.length (strsV m)) (j : Nat) (hj : j < 5) : RdS 1 (updW vs i v2 j) (N ++ M) (updW q i m j).length (strsV (updW q i m j)) := by
 by_cases e : j = i
 ·rw [e, updW_at, updW_at]; exact h2
 ·rw [updW_ne _ _ e, updW_ne _ _ e]
  exact (hM j hj).weaken fun x hx => List.mem_append_right _ hx
theorem wSteps (v : Value) (A : Hp) (l : List WO) (hr : RdS 5 v A l.length (recsV wof l)) (hl : l.length ≤ 60) (hok : l.all lookP = true) : FnA Tryz.prog 11 [v] A (WR l) := by
 refine FnA.enter (n := 44) Tryz.func11 rfl rfl fun w0 => ?_
 refine WC.sub (fr' := [(0, _)]) ?_ ⟨rfl, trivial⟩
 refine WC.seq (WC.region ?_)
 refine WL.q (oq_assign rfl) rfl rfl rfl ?_
 refine WL.alloc ty27 rfl rfl fun rb hrb => ?_
 refine WL.nil (WE.then_normal (WC.sub (fr' := [(0, _), (3, _)]) ?_ ⟨rfl, rfl, trivial⟩))
 refine WC.seq ?_
 refine WC.add0 ?_
 refine WC.region ?_
 refine WL.q (oq_assign rfl) rfl rfl rfl ?_
 refine WL.nil (WE.then_normal (WC.sub (fr' := [(0, _), (3, _), (4, _)]) ?_ ⟨rfl, rfl, rfl, trivial⟩))
 refine WC.seq ?_
 refine WC.add0 ?_
 refine WC.region ?_
 refine WL.alloc ty27 rfl rfl fun ob hob => ?_
 refine WL.nil (WE.then_normal (WC.sub (fr' := [(0, _), (3, _), (4, _), (5, _)]) ?_ ⟨rfl, rfl, rfl, rfl, trivial⟩))
 refine WC.seq (WC.seq (WC.region ?_))
 refine WL.q (oq_assign rfl) rfl rfl rfl ?_
 refine WL.nil (WE.then_normal (WC.sub (fr' := [(0, _), (3, _), (4, _), (5, _), (6, _)]) ?_ ⟨rfl, rfl, rfl, rfl, rfl, trivial⟩))
 refine WC.block ?_
 refine WC.f4 ?_
 refine WC.f3 ?_
 refine WC.f3 ?_
 refine WC.f3 ?_
 refine WC.f4 ?_
 refine WC.loop (ι := Nat × (Nat → List (List UInt8)) × (List Bool) × Value × Hp × (Nat → Value) × Hp) (fun i_ => (fun (i : Nat) (q : Nat → List (List UInt8)) (bs : List Bool) (ve : Value) (E : Hp) (vs : Nat → Value) (M : Hp) => [(0, v), (3, Pt rb 0), (4, ve), (5, Pt ob 0), (6, I (i : Int))]) i_.1 i_.2.1 i_.2.2.1 i_.2.2.2.1 i_.2.2.2.2.1 i_.2.2.2.2.2.1 i_.2.2.2.2.2.2) (fun i_ => (fun (i : Nat) (q : Nat → List (List UInt8)) (bs : List Bool) (ve : Value) (E : Hp) (vs : Nat → Value) (M : Hp) => [[(rb, .cells #[.slice none 0 0, .slice none 0 0, .slice none 0 0, .slice none 0 0, .slice none 0 0] 27 (0, 0))], [(ob, .cells (arr5 vs) 27 (0, 0))], M, E, A]) i_.1 i_.2.1 i_.2.2.1 i_.2.2.2.1 i_.2.2.2.2.1 i_.2.2.2.2.2.1 i_.2.2.2.2.2.2) (fun i_ => (fun (i : Nat) (q : Nat → List (List UInt8)) (bs : List Bool) (ve : Value) (E : Hp) (vs : Nat → Value) (M : Hp) => i ≤ l.length ∧ wst (l.take i) = (q, bs) ∧ (∀ j, j < 5 → RdS 1 (vs j) M (q j).length (strsV (q j))) ∧ (∀ b o, (b, o) ∈ M → w0.heap.size ≤ b) ∧ OwS w0.heap.size 4 1 ve E bs.length (boolsV bs)) i_.1 i_.2.1 i_.2.2.1 i_.2.2.2.1 i_.2.2.2.2.1 i_.2.2.2.2.2.1 i_.2.2.2.2.2.2) (fun i_ => (fun (i : Nat) (q : Nat → List (List UInt8)) (bs : List Bool) (ve : Value) (E : Hp) (vs : Nat → Value) (M : Hp) => l.length - i) i_.1 i_.2.1 i_.2.2.1 i_.2.2.2.1 i_.2.2.2.2.1 i_.2.2.2.2.2.1 i_.2.2.2.2.2.2) ((0, (fun _ => []), [], _, _, (fun _ => .slice none 0 0), [])) ?_ ⟨rfl, rfl, rfl, rfl, rfl, trivial⟩ (List.Perm.refl _) ?_
 ·try dsimp only
  exact ⟨by omega, rfl, fun j hj => (OwS.nil 0 9 1).rd, (fun _ _ h => nomatch h), OwS.nil _ _ _⟩
 ·rintro ⟨i, q, bs, ve, E, vs, M⟩ hp
  try dsimp only at hp
  obtain ⟨hi, hst8, hM, hMf, hoe⟩ := hp
  show WC _ _ _ _ _ _ ([(0, v), (3, Pt rb 0), (4, ve), (5, Pt ob 0), (6, I (i : Int))]) ([[(rb, .cells #[.slice none 0 0, .slice none 0 0, .slice none 0 0, .slice none 0 0, .slice none 0 0] 27 (0, 0))], [(ob, .cells (arr5 vs) 27 (0, 0))], M, E, A])
  have hlen := wst_len l i hi
  rw [hst8] at hlen
  obtain ⟨hql, hbl⟩ := hlen
  have hql : ∀ j, (q j).length ≤ i := hql
  have hbl : bs.length = i := hbl
  refine WC.seq (WC.seq (WC.region ?_))
  refine WL.q (oq_move rfl) rfl rfl rfl ?_
  refine WL.q (oq_move rfl) rfl rfl rfl ?_
  refine WL.q (oq_len_rd hr Tryz.underlying22 rfl) rfl rfl rfl ?_
  refine WL.q (oq_lss rfl rfl) rfl rfl rfl ?_
  refine WL.nil (WE.then_normal (WC.sub (fr' := [(0, _), (3, _), (4, _), (5, _), (6, _), (12, _)]) ?_ ⟨rfl, rfl, rfl, rfl, rfl, rfl, trivial⟩))
  refine WC.cond rfl (fun q4 => ?_) (fun q4 => ?_)
  ·
   try simp only [Z1, Z2, Z3, Z4, Z5, Z6, Z7, Z8, Z9, Z0] at q4
   refine WC.skip (WE.then_normal (WC.sub (fr' := [(0, _), (3, _), (4, _), (5, _), (6, _)]) ?_ ⟨rfl, rfl, rfl, rfl, rfl, trivial⟩))
   refine WC.seq (WC.block (WC.seq ?_))
   refine WC.f4 ?_
   refine WC.f2 ?_
   refine WC.reg (reg_in (List.Perm.refl _)) ?_
   have hrL : RdS 5 v ([(ob, .cells (arr5 vs) 27 (0, 0))] ++ A) l.length (recsV wof l) := hr.weaken fun x hx => List.mem_append_right _ hx
   have hlk := lookP_of (all_el hok WO0 (show i < l.length by omega))
   obtain ⟨hk1, hk2, hk3, hk4, hk5⟩ := hlk
   obtain ⟨si, hsi⟩ : ∃ si : Nat, (l.getD i WO0).s = (si : Int) := ⟨_, (Int.toNat_of_nonneg hk1).symm⟩
   have hs5 : si < 5 := by omega
   have hsn : (l.getD i WO0).s.toNat = si := by omega
   have hqs := hql si
   refine WC.held (([(ob, .cells (arr5 vs) 27 (0, 0))] ++ A)) (by kernel_rfl) ?_
   refine WH.q 0 rfl (.head _) (fun w0 => oq_move rfl) rfl rfl rfl ?_
   refine WH.q 1 rfl (.head _) (fun w0 => oq_move rfl) rfl rfl rfl ?_
   refine WH.q 2 rfl (.head _) (fun w0 => oq_ixaddr hrL Tryz.underlying22 ty32 rfl rfl (by (first | omega | (simp only [List.length_cons, List.length_nil, List.length_append, List.length_drop, List.length_take]; omega)))) rfl rfl rfl ?_
   refine WH.q 3 rfl (.head _) (fun w0 => oq_fldEl fld32_0 hrL rfl (by (first | omega | (simp only [List.length_cons, List.length_nil, List.length_append, List.length_drop, List.length_take]; omega)))) rfl rfl rfl ?_
   refine WH.q 4 rfl (.head _) (fun w0 => oq_loadF (f := wof) WO0 (fun _ => rfl) flat3 hrL (.head _) rfl (by (first | omega | (simp only [List.length_cons, List.length_nil, List.length_append, List.length_drop, List.length_take]; omega))) (by first | exact Int.toNat_natCast _ | exact rfl) (by decide) rfl) rfl rfl rfl ?_
   refine WH.q 5 rfl (.head _) (fun w0 => oq_ixArr (i := si) Tryz.underlying27 ty26 rfl (gti rfl hsi) (by (first | omega | (simp only [List.length_cons, List.length_nil, List.length_append, List.length_drop, List.length_take]; omega)))) rfl rfl rfl ?_
   refine WH.q 6 rfl (.head _) (fun w0 => oq_load flat26 rfl (.head _) (List.mem_append_left _ (List.mem_singleton.2 rfl)) (arr5_get vs si hs5)) rfl rfl rfl ?_
   refine WH.q 7 rfl (.head _) (fun w0 => oq_move rfl) rfl rfl rfl ?_
   refine WH.q 8 rfl (.head _) (fun w0 => oq_move rfl) rfl rfl rfl ?_
   refine WH.q 9 rfl (.head _) (fun w0 => oq_ixaddr hrL Tryz.underlying22 ty32 rfl rfl (by (first | omega | (simp only [List.length_cons, List.length_nil, List.length_append, List.length_drop, List.length_take]; omega)))) rfl rfl rfl ?_
   refine WH.q 10 rfl (.head _) (fun w0 => oq_loadEl (f := wof) WO0 [_, _, _, _, _] (fun _ => rfl) agg32 ty32 hrL (.head _) rfl (by (first | omega | (simp only [List.length_cons, List.length_nil, List.length_append, List.length_drop, List.length_take]; omega))) (by first | exact Int.toNat_natCast _ | exact rfl) rfl) rfl rfl rfl ?_
   refine WH.step (i := 11) (by kernel_rfl) rfl ?_
   refine WL.f2 ?_
   refine WL.callA (wDone (vs si) M (q si) (hM si hs5) (by omega) _ _ _ _ _) call19 rfl rfl rfl fun v6_11 N6_11 hR6_11 hN6_11 => ?_
   obtain ⟨v2, rfl, hv2⟩ := hR6_11
   have hMf2 := fresh_cat hN6_11 hMf
   refine WL.nil ?_
   refine WE.toH (.tail _ (.tail _ (.head _))) ?_
   refine WH.q 12 rfl (.tail _ (.tail _ (.head _))) (fun w0 => oq_move rfl) rfl rfl rfl ?_
   refine WH.q 13 rfl (.tail _ (.tail _ (.head _))) (fun w0 => oq_extract rfl rfl) rfl rfl rfl ?_
   refine WH.q 14 rfl (.tail _ (.tail _ (.head _))) (fun w0 => oq_extract rfl rfl) rfl rfl rfl ?_
   refine WH.q 15 rfl (.tail _ (.tail _ (.head _))) (fun w0 => oq_assign rfl) rfl rfl rfl ?_
   refine WH.q 16 rfl (.tail _ (.tail _ (.head _))) (fun w0 => oq_assign rfl) rfl rfl rfl ?_
   refine WH.done (by kernel_rfl) ?_
   refine WE.f1 ?_
   refine WE.f1 ?_
   refine WE.f2 ?_
   refine WE.reg reg_ol ?_
   refine WE.then_normal (WC.sub (fr' := [(0, _), (3, _), (4, _), (5, _), (6, _), (7, _), (8, _)]) ?_ ⟨rfl, rfl, rfl, rfl, rfl, rfl, rfl, trivial⟩)
   refine WC.seq (WC.region ?_)
   refine WL.q (oq_move rfl) rfl rfl rfl ?_
   refine WL.q (oq_move rfl) rfl rfl rfl ?_
   refine WL.q (oq_ixaddr hr Tryz.underlying22 ty32 rfl rfl (by (first | omega | (simp only [List.length_cons, List.length_nil, List.length_append, List.length_drop, List.length_take]; omega)))) rfl rfl rfl ?_
   refine WL.q (oq_fldEl fld32_0 hr rfl (by (first | omega | (simp only [List.length_cons, List.length_nil, List.length_append, List.length_drop, List.length_take]; omega)))) rfl rfl rfl ?_
   refine WL.q (oq_loadF (f := wof) WO0 (fun _ => rfl) flat3 hr (.tail _ (.head _)) rfl (by (first | omega | (simp only [List.length_cons, List.length_nil, List.length_append, List.length_drop, List.length_take]; omega))) (by first | exact Int.toNat_natCast _ | exact rfl) (by decide) rfl) rfl rfl rfl ?_
   refine WL.q (oq_move rfl) rfl rfl rfl ?_
   refine WL.q (oq_ixArr (i := si) Tryz.underlying27 ty26 rfl (gti rfl hsi) (by (first | omega | (simp only [List.length_cons, List.length_nil, List.length_append, List.length_drop, List.length_take]; omega)))) rfl rfl rfl ?_
   refine WL.storeX ty26 rfl rfl (rd_one hv2) (by show 0 + si < 5; omega) (by simp) (arr5_set vs si hs5 v2) rfl ?_
   refine WL.nil (WE.then_normal (WC.sub (fr' := [(0, _), (3, _), (4, _), (5, _), (6, _), (8, _)]) ?_ ⟨rfl, rfl, rfl, rfl, rfl, rfl, trivial⟩))
   refine WC.region ?_
   refine WL.q (oq_move rfl) rfl rfl rfl ?_
   refine WL.q (oq_move rfl) rfl rfl rfl ?_
   refine WL.q (oq_not rfl) rfl rfl rfl ?_
   refine WL.f4 ?_
   refine WL.append1 hoe Tryz.underlying25 ty4 rfl (by decide) (fun _ => rfl) rfl rfl (by unfold maxLen; omega) (by omega) rfl rfl (fun _ => rfl) rfl fun v8 A8 u8 ho8 hne8 => ?_
   refine WL.q (oq_assign rfl) rfl rfl rfl ?_
   refine WL.nil (WE.block_normal (WE.then_normal (WC.sub (fr' := [(0, _), (3, _), (4, _), (5, _), (6, _)]) ?_ ⟨rfl, rfl, rfl, rfl, rfl, trivial⟩)))
   refine WC.region ?_
   refine WL.q (oq_move rfl) rfl rfl rfl ?_
   refine WL.q (oq_add rfl rfl (by rw [i64_lo, i64_hi]; (first | omega | (simp only [List.length_cons, List.length_nil, List.length_append, List.length_drop, List.length_take]; omega)))) rfl rfl rfl ?_
   refine WL.q (oq_assign rfl) rfl rfl rfl ?_
   refine WL.nil ?_
   refine WE.f2 ?_
   refine WE.f1 ?_
   refine WE.f3 ?_
   refine WE.f3 ?_
   refine WE.f4 ?_
   refine WE.again (i + 1, updW q si ((wopI (l.getD i WO0) (q si)).getD (q si)), bs ++ [!(wopI (l.getD i WO0) (q si)).isSome], _, _, updW vs si v2, _) ?_ ?_ ⟨rfl, rfl, rfl, rfl, rfl, trivial⟩ (List.Perm.refl _)
   ·try dsimp only
    exact ⟨by omega, by rw [wst_next (by omega), hst8, wnext_eq, hsn], fun j hj => upd_rd hM hv2 j hj, hMf2, by have := ho8; simpa [boolsV] using this⟩
   ·(try dsimp only); omega
  ·
   try simp only [Z1, Z2, Z3, Z4, Z5, Z6, Z7, Z8, Z9, Z0] at q4
   refine WC.exit (WE.then_exit (WE.then_exit (WE.block_same (WE.then_normal (WC.sub (fr' := [(3, _), (4, _), (5, _)]) ?_ ⟨rfl, rfl, rfl, trivial⟩)))))
   refine WC.seq ?_
   refine WC.tailM (pl := []) (ql := [_, _, _]) (tl := [_]) [] [0, 1, 2] 3 [] (by kernel_rfl) (by kernel_rfl) (by kernel_rfl) (by kernel_rfl) (by kernel_rfl) (by kernel_rfl) (by decide) rfl rfl rfl (by decide) (by repeat (first | with_reducible exact QOk.body | with_reducible apply QOk.then | with_reducible apply QOk.block | exact QOk.body | apply QOk.then | apply QOk.block)) ?_
   refine WM.nil ?_
   refine WY.q (oq_move rfl) rfl rfl rfl ?_
   refine WY.q (oq_loadS ((arr5 vs).toList) agg27 ty27 rfl (.tail _ (.head _)) (List.mem_singleton.2 rfl) (by kernel_rfl) (by kernel_rfl)) rfl rfl rfl ?_
   refine WY.q (oq_assign rfl) rfl rfl rfl ?_
   refine WY.nil ?_
   refine WL.storeS (arr5 vs) ty27 rfl rfl (by kernel_rfl) (arr5_one fun j hj => rd_one (hM j hj)) (Nat.le_of_ble_eq_true rfl) (by kernel_rfl) rfl ?_
   refine WL.nil (WE.then_normal (WC.sub (fr' := [(2, _), (3, _)]) ?_ ⟨rfl, rfl, trivial⟩))
   refine WC.ret ?_
   refine WE.endDA (.inl rfl) (rs2 Tryz.results11 (rv_tmp rfl) (rv_cellS (arr5 vs).toList agg27 ty27 rfl (.head _) (List.mem_singleton.2 rfl) (by kernel_rfl) (by kernel_rfl))) (dr_lose hrb (dr_lose hob (dr_cat dr_refl))) (fresh_cat (hMf) (hoe.fresh)) ?_
   have hi2 : i = l.length := by omega
   rw [hi2, List.take_length] at hst8
   exact ⟨ve, vs, rfl, by rw [hst8]; exact hoe.rd.weaken fun x hx => List.mem_append_right _ hx, fun j hj => by rw [hst8]; exact (hM j hj).weaken fun x hx => List.mem_append_left _ hx⟩
end SB
end Go.Proofs.YtiegaefkahnfjaaGreat
