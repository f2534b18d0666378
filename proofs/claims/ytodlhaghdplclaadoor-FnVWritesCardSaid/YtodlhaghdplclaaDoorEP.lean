/- The bytes of headers, as the reference tells them. -/
import Derived.Test.YtodlhaghdplclaaDoorEO
import Derived.Test.YtodlhaghdplclaaDoorVU
namespace Go.Proofs.YtodlhaghdplclaaDoor
open Go Go.RowKit V EA EB EC ED EE EF EG EH EI EJ EK EL EM EN EO
set_option linter.unusedSimpArgs false
set_option linter.unusedVariables false
set_option maxRecDepth 10000
namespace EP
theorem call17 : Callable Tryd.prog 17 := ⟨_, Tryd.func17, rfl, by kernel_rfl⟩
theorem flat2 : Flat Tryd.prog 2 := ⟨_, Tryd.underlying2, by simp⟩
theorem flat3 : Flat Tryd.prog 3 := ⟨_, Tryd.underlying3, by simp⟩
theorem flat9 : Flat Tryd.prog 9 := ⟨_, Tryd.underlying9, by simp⟩
theorem ty2 : Ty Tryd.prog 2 (.int .i64 0) 1 8 := ty_of (by kernel_rfl)
theorem ty3 : Ty Tryd.prog 3 (.int .i64 0) 1 8 := ty_of (by kernel_rfl)
theorem ty5 : Ty Tryd.prog 5 (.int .u8 0) 1 1 := ty_of (by kernel_rfl)
theorem ty9 : Ty Tryd.prog 9 (S []) 1 16 := ty_of (by kernel_rfl)
theorem ty33 : Ty Tryd.prog 33 (.agg #[(.int .i64 0), (.int .i64 0), (.int .i64 0), (S [])]) 4 40 := ty_of (by kernel_rfl)
theorem ty35 : Ty Tryd.prog 35 (.agg #[(S []), (.int .i64 0), (.int .i64 0), (.int .i64 0), (S [])]) 5 56 := ty_of (by kernel_rfl)
theorem agg33 : Agg Tryd.prog 33 := agg_of Tryd.underlying33
theorem fld33_0 : Fld Tryd.prog 33 0 0 3 := fld_of Tryd.underlying33 rfl rfl rfl ty3 (by decide)
theorem fld33_1 : Fld Tryd.prog 33 1 1 3 := fld_of Tryd.underlying33 rfl rfl rfl ty3 (by decide)
theorem fld33_2 : Fld Tryd.prog 33 2 2 2 := fld_of Tryd.underlying33 rfl rfl rfl ty2 (by decide)
theorem fld33_3 : Fld Tryd.prog 33 3 3 9 := fld_of Tryd.underlying33 rfl rfl rfl ty9 (by decide)
theorem fld35_0 : Fld Tryd.prog 35 0 0 9 := fld_of Tryd.underlying35 rfl rfl rfl ty9 (by decide)
theorem fld35_1 : Fld Tryd.prog 35 1 1 33 := fld_of Tryd.underlying35 rfl rfl rfl ty33 (by decide)

theorem bytesV_snoc1 (xs : List UInt8) (b : UInt8) : bytesV xs ++ [Value.int .u8 (b.toNat : Int)] = bytesV (xs ++ [b]) := by simp [bytesV]
theorem bytesV_app (xs ys : List UInt8) : bytesV xs ++ bytesV ys = bytesV (xs ++ ys) := by simp [bytesV]
theorem notbad {h : HV} (hb : badH h = false) : h.name.length ≤ 255 ∧ badT h = false := by
  unfold badH at hb; rw [Bool.or_eq_false_iff, decide_eq_false_iff_not] at hb; exact ⟨by omega, hb.2⟩
theorem u64_b (x : Int) : 0 ≤ IntKind.u64.wrap x ∧ IntKind.u64.wrap x < 18446744073709551616 := by
  have e : IntKind.u64.wrap x = x % 18446744073709551616 := by simp [IntKind.wrap, IntKind.signed, IntKind.bits]
  rw [e]; omega
theorem look_tag {w x : Int} (h : (w = 8 ∧ -128 ≤ x ∧ x ≤ 127) ∨ (w = 16 ∧ -32768 ≤ x ∧ x ≤ 32767) ∨ (w = 32 ∧ -2147483648 ≤ x ∧ x ≤ 2147483647) ∨ w = 64) : (mget w [((8 : Int), Value.int .u8 2, 1), (16, .int .u8 3, 2), (32, .int .u8 4, 3), (64, .int .u8 5, 4)]).getD (.int .u8 0) = .int .u8 ((tagW w).toNat : Int) := by
  rcases h with ⟨rfl, _⟩ | ⟨rfl, _⟩ | ⟨rfl, _⟩ | rfl <;> rfl
theorem bad_text {h : HV} (hk : h.kind = 2 ∨ h.kind = 3) (ht : 32767 < h.text.length) : badH h = true := by
  unfold badH badT; rcases hk with hk | hk <;> simp [hk, ht]
theorem bad_none {h : HV} (hn : h.name.length ≤ 255) (hc : ¬ ((h.kind = 2 ∨ h.kind = 3) ∧ 32767 < h.text.length)) : badH h = false := by
  unfold badH badT
  rw [decide_eq_false (by omega), Bool.false_or, Bool.and_eq_false_iff]
  by_cases ht : 32767 < h.text.length
  · left; rw [Bool.or_eq_false_iff]; exact ⟨by simpa using fun e => hc ⟨.inl e, ht⟩, by simpa using fun e => hc ⟨.inr e, ht⟩⟩
  · right; exact decide_eq_false ht
theorem own_b2 {base m : Nat} {v : Value} {A : Hp} {xs : List Value} {l : List UInt8} (h : OwS base 5 1 v A m xs) (hx : xs = bytesV l) : OwS base 5 1 v A l.length (bytesV l) := by
  have hl := h.1
  subst hx
  simp only [bytesV, List.length_map, Nat.mul_one] at hl
  subst hl
  exact h
theorem len8 {n : Nat} (h : n ≤ 255) : (n : Int) = ((UInt8.ofNat n).toNat : Int) := by rw [UInt8.toNat_ofNat']; omega
/-- given.example/pub-tinwright/spec.VHeadersOf -/
theorem vHeadersOf (v : Value) (A : Hp) (l : List HV) (hr : RdS 5 v A l.length (recsV HV.row l)) (hok : okH l) (hn : l.length ≤ 1000) (hsz : szL l ≤ 100000) : FnA Tryd.prog 11 [v] A (fun w N => ∃ sv, w = .tuple #[sv, .bool (!(l.any badH))] ∧ OwS 0 5 1 sv N (if l.any badH then [] else hdrs l).length (bytesV (if l.any badH then [] else hdrs l))) := by
  refine FnA.enter (n := 129) Tryd.func11 rfl rfl fun w0 => ?_
  refine WC.sub (fr' := [(0, _)]) ?_ ⟨rfl, trivial⟩
  refine WC.seq (WC.region ?_)
  refine WL.q (oq_assign rfl) rfl rfl rfl ?_
  refine WL.q (oq_assign rfl) rfl rfl rfl ?_
  refine WL.nil (WE.then_normal (WC.sub (fr' := [(0, _)]) ?_ ⟨rfl, trivial⟩))
  refine WC.seq ?_
  refine WC.add0 ?_
  refine WC.region ?_
  refine WL.q (oq_assign rfl) rfl rfl rfl ?_
  refine WL.nil (WE.then_normal (WC.sub (fr' := [(0, _), (4, _)]) ?_ ⟨rfl, rfl, trivial⟩))
  refine WC.seq (WC.seq (WC.region ?_))
  refine WL.q (oq_assign rfl) rfl rfl rfl ?_
  refine WL.nil (WE.then_normal (WC.sub (fr' := [(0, _), (4, _), (5, _)]) ?_ ⟨rfl, rfl, rfl, trivial⟩))
  refine WC.block ?_
  refine WC.loop (ι := Nat × Value × Hp) (fun i_ => (fun (i : Nat) (u : Value) (B : Hp) => [(0, v), (4, u), (5, I (i : Int))]) i_.1 i_.2.1 i_.2.2) (fun i_ => (fun (i : Nat) (u : Value) (B : Hp) => [B, A]) i_.1 i_.2.1 i_.2.2) (fun i_ => (fun (i : Nat) (u : Value) (B : Hp) => i ≤ l.length ∧ (l.take i).any badH = false ∧ OwS w0.heap.size 5 1 u B (hdrs (l.take i)).length (bytesV (hdrs (l.take i)))) i_.1 i_.2.1 i_.2.2) (fun i_ => (fun (i : Nat) (u : Value) (B : Hp) => l.length - i) i_.1 i_.2.1 i_.2.2) ((0, _, _)) ?_ ⟨rfl, rfl, rfl, trivial⟩ (List.Perm.refl _) ?_
  · try dsimp only
    exact ⟨by omega, rfl, OwS.nil _ _ _⟩
  · rintro ⟨i, u, B⟩ hp
    try dsimp only at hp
    obtain ⟨hi, hno, ho⟩ := hp
    show WC _ _ _ _ _ _ ([(0, v), (4, u), (5, I (i : Int))]) ([B, A])
    refine WC.seq (WC.seq (WC.region ?_))
    refine WL.q (oq_move rfl) rfl rfl rfl ?_
    refine WL.q (oq_move rfl) rfl rfl rfl ?_
    refine WL.q (oq_len_rd hr Tryd.underlying22 rfl) rfl rfl rfl ?_
    refine WL.q (oq_lss rfl rfl) rfl rfl rfl ?_
    refine WL.nil (WE.then_normal (WC.sub (fr' := [(0, _), (4, _), (5, _), (12, _)]) ?_ ⟨rfl, rfl, rfl, rfl, trivial⟩))
    refine WC.cond rfl (fun q3 => ?_) (fun q3 => ?_)
    ·
      try simp only [Z1, Z2, Z3, Z4, Z5, Z6, Z7, Z8, Z9, Z0] at q3
      refine WC.skip (WE.then_normal (WC.sub (fr' := [(0, _), (4, _), (5, _)]) ?_ ⟨rfl, rfl, rfl, trivial⟩))
      refine WC.seq (WC.block (WC.seq ?_))
      have hlt : i < l.length := by omega
      have hll := hdrs_len hok i (by omega)
      have hls := szL_take l (i + 1)
      rw [szL_snoc hlt] at hls
      have hle : szH (l.getD i HV0) = (l.getD i HV0).name.length + (l.getD i HV0).text.length + 12 := rfl
      refine WC.region ?_
      refine WL.q (oq_move rfl) rfl rfl rfl ?_
      refine WL.q (oq_move rfl) rfl rfl rfl ?_
      refine WL.q (oq_ixaddr hr Tryd.underlying22 ty35 rfl rfl (by (first | omega | (simp only [List.length_cons, List.length_nil, List.length_append, List.length_drop, List.length_take]; omega)))) rfl rfl rfl ?_
      refine WL.q (oq_fldEl fld35_1 hr rfl (by (first | omega | (simp only [List.length_cons, List.length_nil, List.length_append, List.length_drop, List.length_take]; omega)))) rfl rfl rfl ?_
      refine WL.q (oq_loadFS (f := HV.row) HV0 [_, _, _, _] (fun _ => rfl) agg33 ty33 hr (.tail _ (.head _)) rfl (by (first | omega | (simp only [List.length_cons, List.length_nil, List.length_append, List.length_drop, List.length_take]; omega))) (by first | exact Int.toNat_natCast _ | exact rfl) (by decide) rfl rfl) rfl rfl rfl ?_
      refine WL.alloc ty33 rfl rfl fun o6 ho6 => ?_
      refine WL.storeS #[_, _, _, _] ty33 rfl rfl rfl rfl (Nat.le_of_ble_eq_true rfl) rfl rfl ?_
      refine WL.nil (WE.then_normal (WC.sub (fr' := [(0, _), (4, _), (5, _), (6, _)]) ?_ ⟨rfl, rfl, rfl, rfl, trivial⟩))
      refine WC.cut (ι := Unit) (fun _ => [(0, v), (4, u), (5, I (i : Int)), (6, Pt o6 0)]) (fun _ => [B, [(o6, .cells #[I (l.getD i HV0).kind, I (l.getD i HV0).width, I (l.getD i HV0).int, S (l.getD i HV0).text] 33 (0, 0))], A]) (fun _ => badH (l.getD i HV0) = false ∧ True) ?_ ?_
      ·
        refine WC.seq (WC.region ?_)
        refine WL.q (oq_move rfl) rfl rfl rfl ?_
        refine WL.q (oq_move rfl) rfl rfl rfl ?_
        refine WL.q (oq_ixaddr hr Tryd.underlying22 ty35 rfl rfl (by (first | omega | (simp only [List.length_cons, List.length_nil, List.length_append, List.length_drop, List.length_take]; omega)))) rfl rfl rfl ?_
        refine WL.q (oq_fldEl fld35_0 hr rfl (by (first | omega | (simp only [List.length_cons, List.length_nil, List.length_append, List.length_drop, List.length_take]; omega)))) rfl rfl rfl ?_
        refine WL.q (oq_loadF (f := HV.row) HV0 (fun _ => rfl) flat9 hr (.tail _ (.tail _ (.head _))) rfl (by (first | omega | (simp only [List.length_cons, List.length_nil, List.length_append, List.length_drop, List.length_take]; omega))) (by first | exact Int.toNat_natCast _ | exact rfl) (by decide) rfl) rfl rfl rfl ?_
        refine WL.q (oq_len_s Tryd.underlying9 rfl) rfl rfl rfl ?_
        refine WL.q (oq_gtr rfl rfl) rfl rfl rfl ?_
        refine WL.q (oq_move rfl) rfl rfl rfl ?_
        refine WL.split 27 rfl (fun s6_7 => ?_) (fun s6_7 => ?_)
        ·
          try simp only [Z1, Z2, Z3, Z4, Z5, Z6, Z7, Z8, Z9, Z0] at s6_7
          refine WL.skip rfl rfl rfl ?_
          refine WL.skip rfl rfl rfl ?_
          refine WL.skip rfl rfl rfl ?_
          refine WL.skip rfl rfl rfl ?_
          refine WL.skip rfl rfl rfl ?_
          refine WL.skip rfl rfl rfl ?_
          refine WL.skip rfl rfl rfl ?_
          refine WL.skip rfl rfl rfl ?_
          refine WL.skip rfl rfl rfl ?_
          refine WL.skip rfl rfl rfl ?_
          refine WL.skip rfl rfl rfl ?_
          refine WL.skip rfl rfl rfl ?_
          refine WL.skip rfl rfl rfl ?_
          refine WL.skip rfl rfl rfl ?_
          refine WL.q (oq_pick_t rfl rfl) rfl rfl rfl ?_
          refine WL.nil (WE.then_normal (WC.sub (fr' := [(0, _), (4, _), (5, _), (6, _), (42, _)]) ?_ ⟨rfl, rfl, rfl, rfl, rfl, trivial⟩))
          refine WC.cond_t rfl ?_
          refine WC.seq (WC.region ?_)
          refine WL.q (oq_assign rfl) rfl rfl rfl ?_
          refine WL.q (oq_assign rfl) rfl rfl rfl ?_
          refine WL.nil (WE.then_normal (WC.sub (fr' := [(2, _), (3, _)]) ?_ ⟨rfl, rfl, trivial⟩))
          refine WC.ret (WE.then_ret (WE.block_ret (WE.then_ret (WE.then_ret (WE.block_ret (WE.then_ret ?_))))))
          refine WE.lose ho6 ?_
          refine WE.forget ho.fresh ?_
          refine WE.add0 ?_
          refine WE.endA (.inl rfl) (res2 Tryd.results11 rfl rfl) ?_ fresh0
          -- end 0
          have hbd : badH (l.getD i HV0) = true := by unfold badH; rw [decide_eq_true (by omega)]; rfl
          have hbl := any_take hlt hbd
          exact ⟨_, by rw [hbl]; rfl, by rw [hbl]; exact OwS.nil _ _ _⟩
        ·
          try simp only [Z1, Z2, Z3, Z4, Z5, Z6, Z7, Z8, Z9, Z0] at s6_7
          refine WL.q (oq_fieldAddr fld33_0 rfl) rfl rfl rfl ?_
          refine WL.q (oq_load flat3 rfl (.head _) (List.mem_singleton.2 rfl) rfl) rfl rfl rfl ?_
          refine WL.q (oq_eql rfl rfl) rfl rfl rfl ?_
          refine WL.q (oq_move rfl) rfl rfl rfl ?_
          refine WL.split 31 rfl (fun s6_11 => ?_) (fun s6_11 => ?_)
          ·
            try simp only [Z1, Z2, Z3, Z4, Z5, Z6, Z7, Z8, Z9, Z0] at s6_11
            refine WL.skip rfl rfl rfl ?_
            refine WL.skip rfl rfl rfl ?_
            refine WL.skip rfl rfl rfl ?_
            refine WL.q (oq_pick_t rfl rfl) rfl rfl rfl ?_
            refine WL.q (oq_move rfl) rfl rfl rfl ?_
            refine WL.q (oq_fieldAddr fld33_3 rfl) rfl rfl rfl ?_
            refine WL.q (oq_load flat9 rfl (.head _) (List.mem_singleton.2 rfl) rfl) rfl rfl rfl ?_
            refine WL.q (oq_len_s Tryd.underlying9 rfl) rfl rfl rfl ?_
            refine WL.q (oq_gtr rfl rfl) rfl rfl rfl ?_
            refine WL.q (oq_pick_t rfl rfl) rfl rfl rfl ?_
            refine WL.q (oq_pick_f rfl rfl) rfl rfl rfl ?_
            refine WL.nil (WE.then_normal (WC.sub (fr' := [(0, _), (4, _), (5, _), (6, _), (42, _)]) ?_ ⟨rfl, rfl, rfl, rfl, rfl, trivial⟩))
            refine WC.cond rfl (fun q6 => ?_) (fun q6 => ?_)
            ·
              try simp only [Z1, Z2, Z3, Z4, Z5, Z6, Z7, Z8, Z9, Z0] at q6
              refine WC.seq (WC.region ?_)
              refine WL.q (oq_assign rfl) rfl rfl rfl ?_
              refine WL.q (oq_assign rfl) rfl rfl rfl ?_
              refine WL.nil (WE.then_normal (WC.sub (fr' := [(2, _), (3, _)]) ?_ ⟨rfl, rfl, trivial⟩))
              refine WC.ret (WE.then_ret (WE.block_ret (WE.then_ret (WE.then_ret (WE.block_ret (WE.then_ret ?_))))))
              refine WE.lose ho6 ?_
              refine WE.forget ho.fresh ?_
              refine WE.add0 ?_
              refine WE.endA (.inl rfl) (res2 Tryd.results11 rfl rfl) ?_ fresh0
              -- end 1
              have hbd : badH (l.getD i HV0) = true := by exact bad_text (by omega) (by omega)
              have hbl := any_take hlt hbd
              exact ⟨_, by rw [hbl]; rfl, by rw [hbl]; exact OwS.nil _ _ _⟩
            ·
              try simp only [Z1, Z2, Z3, Z4, Z5, Z6, Z7, Z8, Z9, Z0] at q6
              refine WC.skip ?_
              refine WE.f2 ?_
              refine WE.f1 ?_
              refine WE.f2 ?_
              refine WE.meet () ?_ ⟨rfl, rfl, rfl, rfl, trivial⟩ (List.Perm.refl _)
              try dsimp only
              exact ⟨bad_none (by omega) (by omega), trivial⟩   -- meet 0
          ·
            try simp only [Z1, Z2, Z3, Z4, Z5, Z6, Z7, Z8, Z9, Z0] at s6_11
            refine WL.q (oq_fieldAddr fld33_0 rfl) rfl rfl rfl ?_
            refine WL.q (oq_load flat3 rfl (.head _) (List.mem_singleton.2 rfl) rfl) rfl rfl rfl ?_
            refine WL.q (oq_eql rfl rfl) rfl rfl rfl ?_
            refine WL.q (oq_pick_f rfl rfl) rfl rfl rfl ?_
            refine WL.q (oq_move rfl) rfl rfl rfl ?_
            refine WL.split 36 rfl (fun s6_16 => ?_) (fun s6_16 => ?_)
            ·
              try simp only [Z1, Z2, Z3, Z4, Z5, Z6, Z7, Z8, Z9, Z0] at s6_16
              refine WL.q (oq_fieldAddr fld33_3 rfl) rfl rfl rfl ?_
              refine WL.q (oq_load flat9 rfl (.head _) (List.mem_singleton.2 rfl) rfl) rfl rfl rfl ?_
              refine WL.q (oq_len_s Tryd.underlying9 rfl) rfl rfl rfl ?_
              refine WL.q (oq_gtr rfl rfl) rfl rfl rfl ?_
              refine WL.q (oq_pick_t rfl rfl) rfl rfl rfl ?_
              refine WL.q (oq_pick_f rfl rfl) rfl rfl rfl ?_
              refine WL.nil (WE.then_normal (WC.sub (fr' := [(0, _), (4, _), (5, _), (6, _), (42, _)]) ?_ ⟨rfl, rfl, rfl, rfl, rfl, trivial⟩))
              refine WC.cond rfl (fun q6 => ?_) (fun q6 => ?_)
              ·
                try simp only [Z1, Z2, Z3, Z4, Z5, Z6, Z7, Z8, Z9, Z0] at q6
                refine WC.seq (WC.region ?_)
                refine WL.q (oq_assign rfl) rfl rfl rfl ?_
                refine WL.q (oq_assign rfl) rfl rfl rfl ?_
                refine WL.nil (WE.then_normal (WC.sub (fr' := [(2, _), (3, _)]) ?_ ⟨rfl, rfl, trivial⟩))
                refine WC.ret (WE.then_ret (WE.block_ret (WE.then_ret (WE.then_ret (WE.block_ret (WE.then_ret ?_))))))
                refine WE.lose ho6 ?_
                refine WE.forget ho.fresh ?_
                refine WE.add0 ?_
                refine WE.endA (.inl rfl) (res2 Tryd.results11 rfl rfl) ?_ fresh0
                -- end 2
                have hbd : badH (l.getD i HV0) = true := by exact bad_text (by omega) (by omega)
                have hbl := any_take hlt hbd
                exact ⟨_, by rw [hbl]; rfl, by rw [hbl]; exact OwS.nil _ _ _⟩
              ·
                try simp only [Z1, Z2, Z3, Z4, Z5, Z6, Z7, Z8, Z9, Z0] at q6
                refine WC.skip ?_
                refine WE.f2 ?_
                refine WE.f1 ?_
                refine WE.f2 ?_
                refine WE.meet () ?_ ⟨rfl, rfl, rfl, rfl, trivial⟩ (List.Perm.refl _)
                try dsimp only
                exact ⟨bad_none (by omega) (by omega), trivial⟩   -- meet 1
            ·
              try simp only [Z1, Z2, Z3, Z4, Z5, Z6, Z7, Z8, Z9, Z0] at s6_16
              refine WL.skip rfl rfl rfl ?_
              refine WL.skip rfl rfl rfl ?_
              refine WL.skip rfl rfl rfl ?_
              refine WL.skip rfl rfl rfl ?_
              refine WL.q (oq_pick_f rfl rfl) rfl rfl rfl ?_
              refine WL.q (oq_pick_f rfl rfl) rfl rfl rfl ?_
              refine WL.nil (WE.then_normal (WC.sub (fr' := [(0, _), (4, _), (5, _), (6, _), (42, _)]) ?_ ⟨rfl, rfl, rfl, rfl, rfl, trivial⟩))
              refine WC.cond_f rfl ?_
              refine WC.skip ?_
              refine WE.f2 ?_
              refine WE.f1 ?_
              refine WE.f2 ?_
              refine WE.meet () ?_ ⟨rfl, rfl, rfl, rfl, trivial⟩ (List.Perm.refl _)
              try dsimp only
              exact ⟨bad_none (by omega) (by omega), trivial⟩   -- meet 2
      · rintro _ hp
        try dsimp only at hp
        obtain ⟨hnb, _⟩ := hp
        show WC _ _ _ _ _ _ ([(0, v), (4, u), (5, I (i : Int)), (6, Pt o6 0)]) ([B, [(o6, .cells #[I (l.getD i HV0).kind, I (l.getD i HV0).width, I (l.getD i HV0).int, S (l.getD i HV0).text] 33 (0, 0))], A])
        refine WC.cut (ι := Value × Hp) (fun i_ => (fun (u2 : Value) (B2 : Hp) => [(0, v), (4, u2), (5, I (i : Int)), (6, Pt o6 0)]) i_.1 i_.2) (fun i_ => (fun (u2 : Value) (B2 : Hp) => [B2, [(o6, .cells #[I (l.getD i HV0).kind, I (l.getD i HV0).width, I (l.getD i HV0).int, S (l.getD i HV0).text] 33 (0, 0))], A]) i_.1 i_.2) (fun i_ => (fun (u2 : Value) (B2 : Hp) => OwS w0.heap.size 5 1 u2 B2 (hdrs (l.take i) ++ UInt8.ofNat (l.getD i HV0).name.length :: (l.getD i HV0).name).length (bytesV (hdrs (l.take i) ++ UInt8.ofNat (l.getD i HV0).name.length :: (l.getD i HV0).name)) ∧ True) i_.1 i_.2) ?_ ?_
        ·
          obtain ⟨hn255, hbt⟩ := notbad hnb
          refine WC.gate 15 (A) (by kernel_rfl) ?_
          refine WG.q 0 [9] rfl (.tail _ (.tail _ (.head _))) (fun w0 => oq_move rfl) rfl rfl rfl ?_
          refine WG.q 1 [9, 8, 7, 6, 5, 4, 3] rfl (.tail _ (.tail _ (.head _))) (fun w0 => oq_move rfl) rfl rfl rfl ?_
          refine WG.q 2 [9, 8, 7, 6, 5, 4, 3] rfl (.tail _ (.tail _ (.head _))) (fun w0 => oq_move rfl) rfl rfl rfl ?_
          refine WG.q 3 [9, 8, 7, 6, 5, 4] rfl (.tail _ (.tail _ (.head _))) (fun w0 => oq_ixaddr hr Tryd.underlying22 ty35 rfl rfl (by (first | omega | (simp only [List.length_cons, List.length_nil, List.length_append, List.length_drop, List.length_take]; omega)))) rfl rfl rfl ?_
          refine WG.q 4 [9, 8, 7, 6, 5] rfl (.tail _ (.tail _ (.head _))) (fun w0 => oq_fldEl fld35_0 hr rfl (by (first | omega | (simp only [List.length_cons, List.length_nil, List.length_append, List.length_drop, List.length_take]; omega)))) rfl rfl rfl ?_
          refine WG.q 5 [9, 8, 7, 6] rfl (.tail _ (.tail _ (.head _))) (fun w0 => oq_loadF (f := HV.row) HV0 (fun _ => rfl) flat9 hr (.head _) rfl (by (first | omega | (simp only [List.length_cons, List.length_nil, List.length_append, List.length_drop, List.length_take]; omega))) (by first | exact Int.toNat_natCast _ | exact rfl) (by decide) rfl) rfl rfl rfl ?_
          refine WG.q 6 [9, 8, 7] rfl (.tail _ (.tail _ (.head _))) (fun w0 => oq_len_s Tryd.underlying9 rfl) rfl rfl rfl ?_
          refine WG.q 7 [9, 8] rfl (.tail _ (.tail _ (.head _))) (fun w0 => oq_conv Tryd.underlying3 Tryd.underlying5 rfl (by rw [u8_lo, u8_hi]; (first | omega | (simp only [List.length_cons, List.length_nil, List.length_append, List.length_drop, List.length_take]; omega)))) rfl rfl rfl ?_
          refine WG.q 10 [14, 13, 12] rfl (.tail _ (.tail _ (.head _))) (fun w0 => oq_move rfl) rfl rfl rfl ?_
          refine WG.q 11 [14, 13, 12] rfl (.tail _ (.tail _ (.head _))) (fun w0 => oq_move rfl) rfl rfl rfl ?_
          refine WG.q 12 [14, 13] rfl (.tail _ (.tail _ (.head _))) (fun w0 => oq_ixaddr hr Tryd.underlying22 ty35 rfl rfl (by (first | omega | (simp only [List.length_cons, List.length_nil, List.length_append, List.length_drop, List.length_take]; omega)))) rfl rfl rfl ?_
          refine WG.q 13 [14] rfl (.tail _ (.tail _ (.head _))) (fun w0 => oq_fldEl fld35_0 hr rfl (by (first | omega | (simp only [List.length_cons, List.length_nil, List.length_append, List.length_drop, List.length_take]; omega)))) rfl rfl rfl ?_
          refine WG.q 14 [] rfl (.tail _ (.tail _ (.head _))) (fun w0 => oq_loadF (f := HV.row) HV0 (fun _ => rfl) flat9 hr (.head _) rfl (by (first | omega | (simp only [List.length_cons, List.length_nil, List.length_append, List.length_drop, List.length_take]; omega))) (by first | exact Int.toNat_natCast _ | exact rfl) (by decide) rfl) rfl rfl rfl ?_
          refine WG.step (i := 8) (by kernel_rfl) rfl ?_
          refine WL.buildL Tryd.underlying23 ty5 rfl rfl (by decide) (by decide) rfl rfl rfl fun v8_8 A8_8 ho8_8 hne8_8 => ?_
          refine WL.nil ?_
          refine WE.toG (.tail _ (.tail _ (.tail _ (.head _)))) ?_
          refine WG.step (i := 9) (by kernel_rfl) rfl ?_
          refine WL.f1 ?_
          refine WL.appendS ho Tryd.underlying23 ty5 rfl (by decide) rfl rfl ho8_8.rd (.head _) ((fun u hu => by rw [List.mem_singleton] at hu; subst hu; rfl)) (by unfold maxLen; (first | omega | (simp only [be_len, List.length_cons, List.length_nil]; omega))) (by (first | omega | (simp only [be_len, List.length_cons, List.length_nil]; omega))) rfl rfl fun v8a A8a ho8a hne8a => ?_
          refine WL.nil ?_
          refine WE.toG (.tail _ (.tail _ (.tail _ (.head _)))) ?_
          refine WG.step (i := 15) (by kernel_rfl) rfl ?_
          refine WL.append ho8a Tryd.underlying23 (.inr Tryd.underlying9) ty5 rfl (by decide) rfl rfl (SrcS.str _) (by unfold maxLen; (first | omega | (simp only [be_len, List.length_cons, List.length_nil]; omega))) (by (first | omega | (simp only [be_len, List.length_cons, List.length_nil]; omega))) rfl rfl fun v8 A8 ho8 hne8 => ?_
          refine WL.nil ?_
          refine WE.toG0 (by kernel_rfl) ?_
          refine WG.p 16 rfl (.inl (by kernel_rfl)) (fun w0 => oq_assign rfl) rfl rfl rfl ?_
          refine WG.done (by kernel_rfl) ?_
          refine WE.f1 ?_
          refine WE.forget ho8_8.fresh ?_
          refine WE.meet (_, _) ?_ ⟨rfl, rfl, rfl, rfl, trivial⟩ (List.Perm.refl _)
          try dsimp only
          exact ⟨own_b2 ho8 (by rw [len8 hn255]; simp [bytesV]), trivial⟩   -- meet 0
        · rintro ⟨u2, B2⟩ hp
          try dsimp only at hp
          obtain ⟨ho2, _⟩ := hp
          show WC _ _ _ _ _ _ ([(0, v), (4, u2), (5, I (i : Int)), (6, Pt o6 0)]) ([B2, [(o6, .cells #[I (l.getD i HV0).kind, I (l.getD i HV0).width, I (l.getD i HV0).int, S (l.getD i HV0).text] 33 (0, 0))], A])
          refine WC.seq ?_
          have hcl : (hdrs (l.take i) ++ UInt8.ofNat (l.getD i HV0).name.length :: (l.getD i HV0).name).length = (hdrs (l.take i)).length + (l.getD i HV0).name.length + 1 := by rw [List.length_append, List.length_cons]; omega
          refine WC.region ?_
          refine WL.q (oq_fieldAddr fld33_0 rfl) rfl rfl rfl ?_
          refine WL.q (oq_load flat3 rfl (.tail _ (.head _)) (List.mem_singleton.2 rfl) rfl) rfl rfl rfl ?_
          refine WL.nil (WE.then_normal (WC.sub (fr' := [(0, _), (4, _), (5, _), (6, _), (60, _)]) ?_ ⟨rfl, rfl, rfl, rfl, rfl, trivial⟩))
          refine WC.block (WC.seq (WC.region ?_))
          refine WL.q (oq_eql rfl rfl) rfl rfl rfl ?_
          refine WL.q (oq_assign rfl) rfl rfl rfl ?_
          refine WL.nil (WE.then_normal (WC.sub (fr' := [(0, _), (4, _), (5, _), (6, _), (60, _), (61, _)]) ?_ ⟨rfl, rfl, rfl, rfl, rfl, rfl, trivial⟩))
          refine WC.cond rfl (fun q10 => ?_) (fun q10 => ?_)
          ·
            try simp only [Z1, Z2, Z3, Z4, Z5, Z6, Z7, Z8, Z9, Z0] at q10
            refine WC.seq (WC.region ?_)
            refine WL.q (oq_fieldAddr fld33_2 rfl) rfl rfl rfl ?_
            refine WL.q (oq_load flat2 rfl (.tail _ (.head _)) (List.mem_singleton.2 rfl) rfl) rfl rfl rfl ?_
            refine WL.q (oq_neq rfl rfl) rfl rfl rfl ?_
            refine WL.nil (WE.then_normal (WC.sub (fr' := [(0, _), (4, _), (5, _), (65, _)]) ?_ ⟨rfl, rfl, rfl, rfl, trivial⟩))
            refine WC.cond rfl (fun q11 => ?_) (fun q11 => ?_)
            ·
              try simp only [Z1, Z2, Z3, Z4, Z5, Z6, Z7, Z8, Z9, Z0] at q11
              refine WC.region ?_
              refine WL.q (oq_move rfl) rfl rfl rfl ?_
              refine WL.append1 ho2 Tryd.underlying23 ty5 rfl (by decide) (fun _ => rfl) rfl rfl (by unfold maxLen; (first | omega | (simp only [be_len, List.length_cons, List.length_nil]; omega))) (by (first | omega | (simp only [be_len, List.length_cons, List.length_nil]; omega))) rfl rfl (fun _ => rfl) rfl fun v12 A12 u12 ho12 hne12 => ?_
              refine WL.q (oq_assign rfl) rfl rfl rfl ?_
              refine WL.nil (WE.block_normal (WE.block_normal (WE.then_normal (WC.sub (fr' := [(0, _), (4, _), (5, _)]) ?_ ⟨rfl, rfl, rfl, trivial⟩))))
              refine WC.region ?_
              refine WL.q (oq_move rfl) rfl rfl rfl ?_
              refine WL.q (oq_add rfl rfl (by rw [i64_lo, i64_hi]; (first | omega | (simp only [List.length_cons, List.length_nil, List.length_append, List.length_drop, List.length_take]; omega)))) rfl rfl rfl ?_
              refine WL.q (oq_assign rfl) rfl rfl rfl ?_
              refine WL.nil ?_
              refine WE.f1 ?_
              refine WE.lose ho6 ?_
              refine WE.again (i + 1, _, _) ?_ ?_ ⟨rfl, rfl, rfl, trivial⟩ (List.Perm.refl _)
              · try dsimp only   -- again 0
                have he : enc (l.getD i HV0) = [0] := by unfold enc; rw [if_neg (by omega), if_neg (by omega), if_neg (by omega), if_neg (by omega), if_neg (by omega), if_neg (by omega)]
                refine ⟨by omega, any_snoc hlt hno hnb, own_b2 ho12 ?_⟩
                rw [hdrs_snoc hlt]; unfold hdr; rw [he]; simp [bytesV]
              · (try dsimp only); omega
            ·
              try simp only [Z1, Z2, Z3, Z4, Z5, Z6, Z7, Z8, Z9, Z0] at q11
              refine WC.region ?_
              refine WL.q (oq_move rfl) rfl rfl rfl ?_
              refine WL.append1 ho2 Tryd.underlying23 ty5 rfl (by decide) (fun _ => rfl) rfl rfl (by unfold maxLen; (first | omega | (simp only [be_len, List.length_cons, List.length_nil]; omega))) (by (first | omega | (simp only [be_len, List.length_cons, List.length_nil]; omega))) rfl rfl (fun _ => rfl) rfl fun v13 A13 u13 ho13 hne13 => ?_
              refine WL.q (oq_assign rfl) rfl rfl rfl ?_
              refine WL.nil (WE.block_normal (WE.block_normal (WE.then_normal (WC.sub (fr' := [(0, _), (4, _), (5, _)]) ?_ ⟨rfl, rfl, rfl, trivial⟩))))
              refine WC.region ?_
              refine WL.q (oq_move rfl) rfl rfl rfl ?_
              refine WL.q (oq_add rfl rfl (by rw [i64_lo, i64_hi]; (first | omega | (simp only [List.length_cons, List.length_nil, List.length_append, List.length_drop, List.length_take]; omega)))) rfl rfl rfl ?_
              refine WL.q (oq_assign rfl) rfl rfl rfl ?_
              refine WL.nil ?_
              refine WE.f1 ?_
              refine WE.lose ho6 ?_
              refine WE.again (i + 1, _, _) ?_ ?_ ⟨rfl, rfl, rfl, trivial⟩ (List.Perm.refl _)
              · try dsimp only   -- again 1
                have he : enc (l.getD i HV0) = [1] := by unfold enc; rw [if_neg (by omega), if_neg (by omega), if_neg (by omega), if_neg (by omega), if_neg (by omega), if_pos (by omega)]
                refine ⟨by omega, any_snoc hlt hno hnb, own_b2 ho13 ?_⟩
                rw [hdrs_snoc hlt]; unfold hdr; rw [he]; simp [bytesV]
              · (try dsimp only); omega
          ·
            try simp only [Z1, Z2, Z3, Z4, Z5, Z6, Z7, Z8, Z9, Z0] at q10
            refine WC.seq (WC.region ?_)
            refine WL.q (oq_eql rfl rfl) rfl rfl rfl ?_
            refine WL.q (oq_assign rfl) rfl rfl rfl ?_
            refine WL.nil (WE.then_normal (WC.sub (fr' := [(0, _), (4, _), (5, _), (6, _), (60, _), (72, _)]) ?_ ⟨rfl, rfl, rfl, rfl, rfl, rfl, trivial⟩))
            refine WC.cond rfl (fun q14 => ?_) (fun q14 => ?_)
            ·
              try simp only [Z1, Z2, Z3, Z4, Z5, Z6, Z7, Z8, Z9, Z0] at q14
              refine WC.seq ?_
              have hwd := (hok i hlt).1.2.2.1 q14
              refine WC.region ?_
              refine WL.makeMap ((fun x : Int => .int .i64 x)) rfl rfl fun mp hmp => ?_
              refine WL.insert Tryd.underlying57 (KeyOk.int Tryd.underlying3) rfl rfl rfl rfl ?_
              refine WL.insert Tryd.underlying57 (KeyOk.int Tryd.underlying3) rfl rfl rfl rfl ?_
              refine WL.insert Tryd.underlying57 (KeyOk.int Tryd.underlying3) rfl rfl rfl rfl ?_
              refine WL.insert Tryd.underlying57 (KeyOk.int Tryd.underlying3) rfl rfl rfl rfl ?_
              refine WL.q (oq_move rfl) rfl rfl rfl ?_
              refine WL.q (oq_fieldAddr fld33_1 rfl) rfl rfl rfl ?_
              refine WL.q (oq_load flat3 rfl (.tail _ (.tail _ (.head _))) (List.mem_singleton.2 rfl) rfl) rfl rfl rfl ?_
              refine WL.q (oq_lookup1 (.int .u8 ((tagW (l.getD i HV0).width).toNat : Int)) Tryd.underlying57 (KeyOk.int Tryd.underlying3) ty5 rfl rfl (.head _) (look_tag hwd)) rfl rfl rfl ?_
              refine WL.q (oq_assign rfl) rfl rfl rfl ?_
              refine WL.nil (WE.then_normal (WC.sub (fr' := [(0, _), (4, _), (5, _), (6, _), (7, _)]) ?_ ⟨rfl, rfl, rfl, rfl, rfl, trivial⟩))
              refine WC.gate 10 ([(o6, .cells #[I (l.getD i HV0).kind, I (l.getD i HV0).width, I (l.getD i HV0).int, S (l.getD i HV0).text] 33 (0, 0))]) (by kernel_rfl) ?_
              refine WG.q 0 [3] rfl (.tail _ (.tail _ (.head _))) (fun w0 => oq_move rfl) rfl rfl rfl ?_
              refine WG.q 1 [3, 2] rfl (.tail _ (.tail _ (.head _))) (fun w0 => oq_move rfl) rfl rfl rfl ?_
              refine WG.q 4 [6, 5] rfl (.tail _ (.tail _ (.head _))) (fun w0 => oq_fieldAddr fld33_2 rfl) rfl rfl rfl ?_
              refine WG.q 5 [6] rfl (.tail _ (.tail _ (.head _))) (fun w0 => oq_load flat2 rfl (.head _) (List.mem_singleton.2 rfl) rfl) rfl rfl rfl ?_
              refine WG.q 6 [] rfl (.tail _ (.tail _ (.head _))) (fun w0 => oq_convw Tryd.underlying2 Tryd.underlying53 rfl) rfl rfl rfl ?_
              refine WG.q 7 [9, 8] rfl (.tail _ (.tail _ (.head _))) (fun w0 => oq_fieldAddr fld33_1 rfl) rfl rfl rfl ?_
              refine WG.q 8 [9] rfl (.tail _ (.tail _ (.head _))) (fun w0 => oq_load flat3 rfl (.head _) (List.mem_singleton.2 rfl) rfl) rfl rfl rfl ?_
              refine WG.q 9 [] rfl (.tail _ (.tail _ (.head _))) (fun w0 => oq_quo rfl rfl (by rw [i64_hi]; omega)) rfl rfl rfl ?_
              refine WG.step (i := 2) (by kernel_rfl) rfl ?_
              refine WL.buildL Tryd.underlying23 ty5 rfl rfl (by decide) (by decide) rfl rfl rfl fun v16_2 A16_2 ho16_2 hne16_2 => ?_
              refine WL.nil ?_
              refine WE.toG (.tail _ (.tail _ (.tail _ (.head _)))) ?_
              refine WG.step (i := 3) (by kernel_rfl) rfl ?_
              refine WL.f2 ?_
              refine WL.appendS ho2 Tryd.underlying23 ty5 rfl (by decide) rfl rfl ho16_2.rd (.head _) ((fun u hu => by rw [List.mem_singleton] at hu; subst hu; rfl)) (by unfold maxLen; (first | omega | (simp only [be_len, List.length_cons, List.length_nil]; omega))) (by (first | omega | (simp only [be_len, List.length_cons, List.length_nil]; omega))) rfl rfl fun v16a A16a ho16a hne16a => ?_
              refine WL.nil ?_
              refine WE.toG (.tail _ (.tail _ (.tail _ (.head _)))) ?_
              refine WG.step (i := 10) (by kernel_rfl) rfl ?_
              refine WL.callA0 (vNumber (IntKind.u64.wrap (l.getD i HV0).int) ((l.getD i HV0).width / 8).toNat (u64_b _) (by omega)) call17 (by first | rfl | (rw [Int.toNat_of_nonneg (by omega)]; rfl)) rfl rfl fun v16_10 N16_10 hR16_10 hN16_10 => ?_
              have ho16_10 := hR16_10.rebase hN16_10
              refine WL.nil ?_
              refine WE.toG0 (by kernel_rfl) ?_
              refine WG.step (i := 11) (by kernel_rfl) rfl ?_
              refine WL.f1 ?_
              refine WL.appendS ho16a Tryd.underlying23 ty5 rfl (by decide) rfl rfl ho16_10.rd (.head _) ((bytesV_one _)) (by unfold maxLen; (first | omega | (simp only [be_len, List.length_cons, List.length_nil]; omega))) (by (first | omega | (simp only [be_len, List.length_cons, List.length_nil]; omega))) rfl rfl fun v16b A16b ho16b hne16b => ?_
              refine WL.nil ?_
              refine WE.toG0 (by kernel_rfl) ?_
              refine WG.p 12 rfl (.inl (by kernel_rfl)) (fun w0 => oq_assign rfl) rfl rfl rfl ?_
              refine WG.done (by kernel_rfl) ?_
              refine WE.block_normal (WE.block_normal (WE.then_normal (WC.sub (fr' := [(0, _), (4, _), (5, _)]) ?_ ⟨rfl, rfl, rfl, trivial⟩)))
              refine WC.region ?_
              refine WL.q (oq_move rfl) rfl rfl rfl ?_
              refine WL.q (oq_add rfl rfl (by rw [i64_lo, i64_hi]; (first | omega | (simp only [List.length_cons, List.length_nil, List.length_append, List.length_drop, List.length_take]; omega)))) rfl rfl rfl ?_
              refine WL.q (oq_assign rfl) rfl rfl rfl ?_
              refine WL.nil ?_
              refine WE.f1 ?_
              refine WE.forget hN16_10 ?_
              refine WE.f1 ?_
              refine WE.forget ho16_2.fresh ?_
              refine WE.f1 ?_
              refine WE.lose hmp ?_
              refine WE.f1 ?_
              refine WE.lose ho6 ?_
              refine WE.again (i + 1, _, _) ?_ ?_ ⟨rfl, rfl, rfl, trivial⟩ (List.Perm.refl _)
              · try dsimp only   -- again 2
                rw [be_u64 _ _ (by omega)] at ho16b
                have he : enc (l.getD i HV0) = tagW (l.getD i HV0).width :: be ((l.getD i HV0).width / 8).toNat (l.getD i HV0).int := by exact enc_1 q14
                refine ⟨by omega, any_snoc hlt hno hnb, own_b2 ho16b ?_⟩
                rw [hdrs_snoc hlt]; unfold hdr; rw [he]; simp [bytesV]
              · (try dsimp only); omega
            ·
              try simp only [Z1, Z2, Z3, Z4, Z5, Z6, Z7, Z8, Z9, Z0] at q14
              refine WC.seq (WC.seq (WC.region ?_))
              refine WL.q (oq_eql rfl rfl) rfl rfl rfl ?_
              refine WL.q (oq_assign rfl) rfl rfl rfl ?_
              refine WL.nil (WE.then_normal (WC.sub (fr' := [(0, _), (4, _), (5, _), (6, _), (60, _), (91, _)]) ?_ ⟨rfl, rfl, rfl, rfl, rfl, rfl, trivial⟩))
              refine WC.cond rfl (fun q17 => ?_) (fun q17 => ?_)
              ·
                try simp only [Z1, Z2, Z3, Z4, Z5, Z6, Z7, Z8, Z9, Z0] at q17
                refine WC.skip (WE.then_normal (WC.sub (fr' := [(0, _), (4, _), (5, _), (6, _), (60, _), (91, _)]) ?_ ⟨rfl, rfl, rfl, rfl, rfl, rfl, trivial⟩))
                refine WC.cond rfl (fun q17 => ?_) (fun q17 => ?_)
                ·
                  try simp only [Z1, Z2, Z3, Z4, Z5, Z6, Z7, Z8, Z9, Z0] at q17
                  refine WC.seq (WC.region ?_)
                  refine WL.q (oq_assign rfl) rfl rfl rfl ?_
                  refine WL.nil (WE.then_normal (WC.sub (fr' := [(0, _), (4, _), (5, _), (6, _), (8, _)]) ?_ ⟨rfl, rfl, rfl, rfl, rfl, trivial⟩))
                  refine WC.seq (WC.seq (WC.region ?_))
                  refine WL.q (oq_fieldAddr fld33_0 rfl) rfl rfl rfl ?_
                  refine WL.q (oq_load flat3 rfl (.tail _ (.head _)) (List.mem_singleton.2 rfl) rfl) rfl rfl rfl ?_
                  refine WL.q (oq_eql rfl rfl) rfl rfl rfl ?_
                  refine WL.nil (WE.then_normal (WC.sub (fr' := [(0, _), (4, _), (5, _), (6, _), (8, _), (96, _)]) ?_ ⟨rfl, rfl, rfl, rfl, rfl, rfl, trivial⟩))
                  refine WC.cond rfl (fun q20 => ?_) (fun q20 => ?_)
                  ·
                    try simp only [Z1, Z2, Z3, Z4, Z5, Z6, Z7, Z8, Z9, Z0] at q20
                    refine WC.region ?_
                    refine WL.q (oq_assign rfl) rfl rfl rfl ?_
                    refine WL.nil (WE.then_normal (WC.sub (fr' := [(0, _), (4, _), (5, _), (6, _), (8, _)]) ?_ ⟨rfl, rfl, rfl, rfl, rfl, trivial⟩))
                    refine WC.gate 12 ([(o6, .cells #[I (l.getD i HV0).kind, I (l.getD i HV0).width, I (l.getD i HV0).int, S (l.getD i HV0).text] 33 (0, 0))]) (by kernel_rfl) ?_
                    refine WG.q 0 [9, 3] rfl (.tail _ (.head _)) (fun w0 => oq_move rfl) rfl rfl rfl ?_
                    refine WG.q 1 [9, 3, 2] rfl (.tail _ (.head _)) (fun w0 => oq_move rfl) rfl rfl rfl ?_
                    refine WG.q 4 [9, 8, 7, 6, 5] rfl (.tail _ (.head _)) (fun w0 => oq_fieldAddr fld33_3 rfl) rfl rfl rfl ?_
                    refine WG.q 5 [9, 8, 7, 6] rfl (.tail _ (.head _)) (fun w0 => oq_load flat9 rfl (.head _) (List.mem_singleton.2 rfl) rfl) rfl rfl rfl ?_
                    refine WG.q 6 [9, 8, 7] rfl (.tail _ (.head _)) (fun w0 => oq_len_s Tryd.underlying9 rfl) rfl rfl rfl ?_
                    refine WG.q 7 [9, 8] rfl (.tail _ (.head _)) (fun w0 => oq_conv Tryd.underlying3 Tryd.underlying53 rfl (by rw [u64_lo, u64_hi]; (first | omega | (simp only [List.length_cons, List.length_nil, List.length_append, List.length_drop, List.length_take]; omega)))) rfl rfl rfl ?_
                    refine WG.q 10 [11] rfl (.tail _ (.head _)) (fun w0 => oq_fieldAddr fld33_3 rfl) rfl rfl rfl ?_
                    refine WG.q 11 [] rfl (.tail _ (.head _)) (fun w0 => oq_load flat9 rfl (.head _) (List.mem_singleton.2 rfl) rfl) rfl rfl rfl ?_
                    refine WG.step (i := 2) (by kernel_rfl) rfl ?_
                    refine WL.buildL Tryd.underlying23 ty5 rfl rfl (by decide) (by decide) rfl rfl rfl fun v22_2 A22_2 ho22_2 hne22_2 => ?_
                    refine WL.nil ?_
                    refine WE.toG (.tail _ (.tail _ (.head _))) ?_
                    refine WG.step (i := 3) (by kernel_rfl) rfl ?_
                    refine WL.f1 ?_
                    refine WL.appendS ho2 Tryd.underlying23 ty5 rfl (by decide) rfl rfl ho22_2.rd (.head _) ((fun u hu => by rw [List.mem_singleton] at hu; subst hu; rfl)) (by unfold maxLen; (first | omega | (simp only [be_len, List.length_cons, List.length_nil]; omega))) (by (first | omega | (simp only [be_len, List.length_cons, List.length_nil]; omega))) rfl rfl fun v22a A22a ho22a hne22a => ?_
                    refine WL.nil ?_
                    refine WE.toG (.tail _ (.tail _ (.head _))) ?_
                    refine WG.step (i := 8) (by kernel_rfl) rfl ?_
                    refine WL.callA0 (vNumber ((l.getD i HV0).text.length : Int) 2 (by omega) (by omega)) call17 (by first | rfl | (rw [Int.toNat_of_nonneg (by omega)]; rfl)) rfl rfl fun v22_8 N22_8 hR22_8 hN22_8 => ?_
                    have ho22_8 := hR22_8.rebase hN22_8
                    refine WL.nil ?_
                    refine WE.toG (.tail _ (.tail _ (.tail _ (.head _)))) ?_
                    refine WG.step (i := 9) (by kernel_rfl) rfl ?_
                    refine WL.f1 ?_
                    refine WL.appendS ho22a Tryd.underlying23 ty5 rfl (by decide) rfl rfl ho22_8.rd (.head _) ((bytesV_one _)) (by unfold maxLen; (first | omega | (simp only [be_len, List.length_cons, List.length_nil]; omega))) (by (first | omega | (simp only [be_len, List.length_cons, List.length_nil]; omega))) rfl rfl fun v22b A22b ho22b hne22b => ?_
                    refine WL.nil ?_
                    refine WE.toG (.tail _ (.tail _ (.tail _ (.head _)))) ?_
                    refine WG.step (i := 12) (by kernel_rfl) rfl ?_
                    refine WL.append ho22b Tryd.underlying23 (.inr Tryd.underlying9) ty5 rfl (by decide) rfl rfl (SrcS.str _) (by unfold maxLen; (first | omega | (simp only [be_len, List.length_cons, List.length_nil]; omega))) (by (first | omega | (simp only [be_len, List.length_cons, List.length_nil]; omega))) rfl rfl fun v22 A22 ho22 hne22 => ?_
                    refine WL.nil ?_
                    refine WE.toG0 (by kernel_rfl) ?_
                    refine WG.p 13 rfl (.inl (by kernel_rfl)) (fun w0 => oq_assign rfl) rfl rfl rfl ?_
                    refine WG.done (by kernel_rfl) ?_
                    refine WE.block_normal (WE.block_normal (WE.then_normal (WC.sub (fr' := [(0, _), (4, _), (5, _)]) ?_ ⟨rfl, rfl, rfl, trivial⟩)))
                    refine WC.region ?_
                    refine WL.q (oq_move rfl) rfl rfl rfl ?_
                    refine WL.q (oq_add rfl rfl (by rw [i64_lo, i64_hi]; (first | omega | (simp only [List.length_cons, List.length_nil, List.length_append, List.length_drop, List.length_take]; omega)))) rfl rfl rfl ?_
                    refine WL.q (oq_assign rfl) rfl rfl rfl ?_
                    refine WL.nil ?_
                    refine WE.f1 ?_
                    refine WE.forget hN22_8 ?_
                    refine WE.f1 ?_
                    refine WE.forget ho22_2.fresh ?_
                    refine WE.f1 ?_
                    refine WE.lose ho6 ?_
                    refine WE.again (i + 1, _, _) ?_ ?_ ⟨rfl, rfl, rfl, trivial⟩ (List.Perm.refl _)
                    · try dsimp only   -- again 3
                      exfalso; omega
                    · (try dsimp only); omega
                  ·
                    try simp only [Z1, Z2, Z3, Z4, Z5, Z6, Z7, Z8, Z9, Z0] at q20
                    refine WC.skip (WE.then_normal (WC.sub (fr' := [(0, _), (4, _), (5, _), (6, _), (8, _)]) ?_ ⟨rfl, rfl, rfl, rfl, rfl, trivial⟩))
                    refine WC.gate 12 ([(o6, .cells #[I (l.getD i HV0).kind, I (l.getD i HV0).width, I (l.getD i HV0).int, S (l.getD i HV0).text] 33 (0, 0))]) (by kernel_rfl) ?_
                    refine WG.q 0 [9, 3] rfl (.tail _ (.head _)) (fun w0 => oq_move rfl) rfl rfl rfl ?_
                    refine WG.q 1 [9, 3, 2] rfl (.tail _ (.head _)) (fun w0 => oq_move rfl) rfl rfl rfl ?_
                    refine WG.q 4 [9, 8, 7, 6, 5] rfl (.tail _ (.head _)) (fun w0 => oq_fieldAddr fld33_3 rfl) rfl rfl rfl ?_
                    refine WG.q 5 [9, 8, 7, 6] rfl (.tail _ (.head _)) (fun w0 => oq_load flat9 rfl (.head _) (List.mem_singleton.2 rfl) rfl) rfl rfl rfl ?_
                    refine WG.q 6 [9, 8, 7] rfl (.tail _ (.head _)) (fun w0 => oq_len_s Tryd.underlying9 rfl) rfl rfl rfl ?_
                    refine WG.q 7 [9, 8] rfl (.tail _ (.head _)) (fun w0 => oq_conv Tryd.underlying3 Tryd.underlying53 rfl (by rw [u64_lo, u64_hi]; (first | omega | (simp only [List.length_cons, List.length_nil, List.length_append, List.length_drop, List.length_take]; omega)))) rfl rfl rfl ?_
                    refine WG.q 10 [11] rfl (.tail _ (.head _)) (fun w0 => oq_fieldAddr fld33_3 rfl) rfl rfl rfl ?_
                    refine WG.q 11 [] rfl (.tail _ (.head _)) (fun w0 => oq_load flat9 rfl (.head _) (List.mem_singleton.2 rfl) rfl) rfl rfl rfl ?_
                    refine WG.step (i := 2) (by kernel_rfl) rfl ?_
                    refine WL.buildL Tryd.underlying23 ty5 rfl rfl (by decide) (by decide) rfl rfl rfl fun v22_2 A22_2 ho22_2 hne22_2 => ?_
                    refine WL.nil ?_
                    refine WE.toG (.tail _ (.tail _ (.head _))) ?_
                    refine WG.step (i := 3) (by kernel_rfl) rfl ?_
                    refine WL.f1 ?_
                    refine WL.appendS ho2 Tryd.underlying23 ty5 rfl (by decide) rfl rfl ho22_2.rd (.head _) ((fun u hu => by rw [List.mem_singleton] at hu; subst hu; rfl)) (by unfold maxLen; (first | omega | (simp only [be_len, List.length_cons, List.length_nil]; omega))) (by (first | omega | (simp only [be_len, List.length_cons, List.length_nil]; omega))) rfl rfl fun v22a A22a ho22a hne22a => ?_
                    refine WL.nil ?_
                    refine WE.toG (.tail _ (.tail _ (.head _))) ?_
                    refine WG.step (i := 8) (by kernel_rfl) rfl ?_
                    refine WL.callA0 (vNumber ((l.getD i HV0).text.length : Int) 2 (by omega) (by omega)) call17 (by first | rfl | (rw [Int.toNat_of_nonneg (by omega)]; rfl)) rfl rfl fun v22_8 N22_8 hR22_8 hN22_8 => ?_
                    have ho22_8 := hR22_8.rebase hN22_8
                    refine WL.nil ?_
                    refine WE.toG (.tail _ (.tail _ (.tail _ (.head _)))) ?_
                    refine WG.step (i := 9) (by kernel_rfl) rfl ?_
                    refine WL.f1 ?_
                    refine WL.appendS ho22a Tryd.underlying23 ty5 rfl (by decide) rfl rfl ho22_8.rd (.head _) ((bytesV_one _)) (by unfold maxLen; (first | omega | (simp only [be_len, List.length_cons, List.length_nil]; omega))) (by (first | omega | (simp only [be_len, List.length_cons, List.length_nil]; omega))) rfl rfl fun v22b A22b ho22b hne22b => ?_
                    refine WL.nil ?_
                    refine WE.toG (.tail _ (.tail _ (.tail _ (.head _)))) ?_
                    refine WG.step (i := 12) (by kernel_rfl) rfl ?_
                    refine WL.append ho22b Tryd.underlying23 (.inr Tryd.underlying9) ty5 rfl (by decide) rfl rfl (SrcS.str _) (by unfold maxLen; (first | omega | (simp only [be_len, List.length_cons, List.length_nil]; omega))) (by (first | omega | (simp only [be_len, List.length_cons, List.length_nil]; omega))) rfl rfl fun v22 A22 ho22 hne22 => ?_
                    refine WL.nil ?_
                    refine WE.toG0 (by kernel_rfl) ?_
                    refine WG.p 13 rfl (.inl (by kernel_rfl)) (fun w0 => oq_assign rfl) rfl rfl rfl ?_
                    refine WG.done (by kernel_rfl) ?_
                    refine WE.block_normal (WE.block_normal (WE.then_normal (WC.sub (fr' := [(0, _), (4, _), (5, _)]) ?_ ⟨rfl, rfl, rfl, trivial⟩)))
                    refine WC.region ?_
                    refine WL.q (oq_move rfl) rfl rfl rfl ?_
                    refine WL.q (oq_add rfl rfl (by rw [i64_lo, i64_hi]; (first | omega | (simp only [List.length_cons, List.length_nil, List.length_append, List.length_drop, List.length_take]; omega)))) rfl rfl rfl ?_
                    refine WL.q (oq_assign rfl) rfl rfl rfl ?_
                    refine WL.nil ?_
                    refine WE.f1 ?_
                    refine WE.forget hN22_8 ?_
                    refine WE.f1 ?_
                    refine WE.forget ho22_2.fresh ?_
                    refine WE.f1 ?_
                    refine WE.lose ho6 ?_
                    refine WE.again (i + 1, _, _) ?_ ?_ ⟨rfl, rfl, rfl, trivial⟩ (List.Perm.refl _)
                    · try dsimp only   -- again 4
                      have he : enc (l.getD i HV0) = 6 :: be 2 (l.getD i HV0).text.length ++ (l.getD i HV0).text := by unfold enc; rw [if_neg (by omega), if_pos (by omega)]
                      refine ⟨by omega, any_snoc hlt hno hnb, own_b2 ho22 ?_⟩
                      rw [hdrs_snoc hlt]; unfold hdr; rw [he]; simp [bytesV]
                    · (try dsimp only); omega
                ·
                  try simp only [Z1, Z2, Z3, Z4, Z5, Z6, Z7, Z8, Z9, Z0] at q17
                  refine WC.seq (WC.region ?_)
                  refine WL.q (oq_eql rfl rfl) rfl rfl rfl ?_
                  refine WL.q (oq_assign rfl) rfl rfl rfl ?_
                  refine WL.nil (WE.then_normal (WC.sub (fr' := [(0, _), (4, _), (5, _), (6, _), (60, _), (110, _)]) ?_ ⟨rfl, rfl, rfl, rfl, rfl, rfl, trivial⟩))
                  refine WC.cond rfl (fun q23 => ?_) (fun q23 => ?_)
                  ·
                    try simp only [Z1, Z2, Z3, Z4, Z5, Z6, Z7, Z8, Z9, Z0] at q23
                    refine WC.gate 6 ([(o6, .cells #[I (l.getD i HV0).kind, I (l.getD i HV0).width, I (l.getD i HV0).int, S (l.getD i HV0).text] 33 (0, 0))]) (by kernel_rfl) ?_
                    refine WG.q 0 [2] rfl (.tail _ (.head _)) (fun w0 => oq_move rfl) rfl rfl rfl ?_
                    refine WG.q 3 [5, 4] rfl (.tail _ (.head _)) (fun w0 => oq_fieldAddr fld33_2 rfl) rfl rfl rfl ?_
                    refine WG.q 4 [5] rfl (.tail _ (.head _)) (fun w0 => oq_load flat2 rfl (.head _) (List.mem_singleton.2 rfl) rfl) rfl rfl rfl ?_
                    refine WG.q 5 [] rfl (.tail _ (.head _)) (fun w0 => oq_convw Tryd.underlying2 Tryd.underlying53 rfl) rfl rfl rfl ?_
                    refine WG.step (i := 1) (by kernel_rfl) rfl ?_
                    refine WL.buildL Tryd.underlying23 ty5 rfl rfl (by decide) (by decide) rfl rfl rfl fun v24_1 A24_1 ho24_1 hne24_1 => ?_
                    refine WL.nil ?_
                    refine WE.toG (.tail _ (.tail _ (.head _))) ?_
                    refine WG.step (i := 2) (by kernel_rfl) rfl ?_
                    refine WL.f1 ?_
                    refine WL.appendS ho2 Tryd.underlying23 ty5 rfl (by decide) rfl rfl ho24_1.rd (.head _) ((fun u hu => by rw [List.mem_singleton] at hu; subst hu; rfl)) (by unfold maxLen; (first | omega | (simp only [be_len, List.length_cons, List.length_nil]; omega))) (by (first | omega | (simp only [be_len, List.length_cons, List.length_nil]; omega))) rfl rfl fun v24a A24a ho24a hne24a => ?_
                    refine WL.nil ?_
                    refine WE.toG (.tail _ (.tail _ (.head _))) ?_
                    refine WG.step (i := 6) (by kernel_rfl) rfl ?_
                    refine WL.callA0 (vNumber (IntKind.u64.wrap (l.getD i HV0).int) 8 (u64_b _) (by omega)) call17 (by first | rfl | (rw [Int.toNat_of_nonneg (by omega)]; rfl)) rfl rfl fun v24_6 N24_6 hR24_6 hN24_6 => ?_
                    have ho24_6 := hR24_6.rebase hN24_6
                    refine WL.nil ?_
                    refine WE.toG0 (by kernel_rfl) ?_
                    refine WG.step (i := 7) (by kernel_rfl) rfl ?_
                    refine WL.f1 ?_
                    refine WL.appendS ho24a Tryd.underlying23 ty5 rfl (by decide) rfl rfl ho24_6.rd (.head _) ((bytesV_one _)) (by unfold maxLen; (first | omega | (simp only [be_len, List.length_cons, List.length_nil]; omega))) (by (first | omega | (simp only [be_len, List.length_cons, List.length_nil]; omega))) rfl rfl fun v24b A24b ho24b hne24b => ?_
                    refine WL.nil ?_
                    refine WE.toG0 (by kernel_rfl) ?_
                    refine WG.p 8 rfl (.inl (by kernel_rfl)) (fun w0 => oq_assign rfl) rfl rfl rfl ?_
                    refine WG.done (by kernel_rfl) ?_
                    refine WE.block_normal (WE.block_normal (WE.then_normal (WC.sub (fr' := [(0, _), (4, _), (5, _)]) ?_ ⟨rfl, rfl, rfl, trivial⟩)))
                    refine WC.region ?_
                    refine WL.q (oq_move rfl) rfl rfl rfl ?_
                    refine WL.q (oq_add rfl rfl (by rw [i64_lo, i64_hi]; (first | omega | (simp only [List.length_cons, List.length_nil, List.length_append, List.length_drop, List.length_take]; omega)))) rfl rfl rfl ?_
                    refine WL.q (oq_assign rfl) rfl rfl rfl ?_
                    refine WL.nil ?_
                    refine WE.f1 ?_
                    refine WE.forget hN24_6 ?_
                    refine WE.f1 ?_
                    refine WE.forget ho24_1.fresh ?_
                    refine WE.f1 ?_
                    refine WE.lose ho6 ?_
                    refine WE.again (i + 1, _, _) ?_ ?_ ⟨rfl, rfl, rfl, trivial⟩ (List.Perm.refl _)
                    · try dsimp only   -- again 5
                      exfalso; omega
                    · (try dsimp only); omega
                  ·
                    try simp only [Z1, Z2, Z3, Z4, Z5, Z6, Z7, Z8, Z9, Z0] at q23
                    refine WC.seq (WC.region ?_)
                    refine WL.q (oq_eql rfl rfl) rfl rfl rfl ?_
                    refine WL.q (oq_assign rfl) rfl rfl rfl ?_
                    refine WL.nil (WE.then_normal (WC.sub (fr' := [(0, _), (4, _), (5, _), (6, _), (120, _)]) ?_ ⟨rfl, rfl, rfl, rfl, rfl, trivial⟩))
                    refine WC.cond rfl (fun q25 => ?_) (fun q25 => ?_)
                    ·
                      try simp only [Z1, Z2, Z3, Z4, Z5, Z6, Z7, Z8, Z9, Z0] at q25
                      refine WC.gate 5 ([(o6, .cells #[I (l.getD i HV0).kind, I (l.getD i HV0).width, I (l.getD i HV0).int, S (l.getD i HV0).text] 33 (0, 0))]) (by kernel_rfl) ?_
                      refine WG.q 0 [2] rfl (.tail _ (.head _)) (fun w0 => oq_move rfl) rfl rfl rfl ?_
                      refine WG.q 3 [4] rfl (.tail _ (.head _)) (fun w0 => oq_fieldAddr fld33_3 rfl) rfl rfl rfl ?_
                      refine WG.q 4 [] rfl (.tail _ (.head _)) (fun w0 => oq_load flat9 rfl (.head _) (List.mem_singleton.2 rfl) rfl) rfl rfl rfl ?_
                      refine WG.step (i := 1) (by kernel_rfl) rfl ?_
                      refine WL.buildL Tryd.underlying23 ty5 rfl rfl (by decide) (by decide) rfl rfl rfl fun v26_1 A26_1 ho26_1 hne26_1 => ?_
                      refine WL.nil ?_
                      refine WE.toG (.tail _ (.tail _ (.head _))) ?_
                      refine WG.step (i := 2) (by kernel_rfl) rfl ?_
                      refine WL.f1 ?_
                      refine WL.appendS ho2 Tryd.underlying23 ty5 rfl (by decide) rfl rfl ho26_1.rd (.head _) ((fun u hu => by rw [List.mem_singleton] at hu; subst hu; rfl)) (by unfold maxLen; (first | omega | (simp only [be_len, List.length_cons, List.length_nil]; omega))) (by (first | omega | (simp only [be_len, List.length_cons, List.length_nil]; omega))) rfl rfl fun v26a A26a ho26a hne26a => ?_
                      refine WL.nil ?_
                      refine WE.toG (.tail _ (.tail _ (.head _))) ?_
                      refine WG.step (i := 5) (by kernel_rfl) rfl ?_
                      refine WL.append ho26a Tryd.underlying23 (.inr Tryd.underlying9) ty5 rfl (by decide) rfl rfl (SrcS.str _) (by unfold maxLen; (first | omega | (simp only [be_len, List.length_cons, List.length_nil]; omega))) (by (first | omega | (simp only [be_len, List.length_cons, List.length_nil]; omega))) rfl rfl fun v26 A26 ho26 hne26 => ?_
                      refine WL.nil ?_
                      refine WE.toG0 (by kernel_rfl) ?_
                      refine WG.p 6 rfl (.inl (by kernel_rfl)) (fun w0 => oq_assign rfl) rfl rfl rfl ?_
                      refine WG.done (by kernel_rfl) ?_
                      refine WE.block_normal (WE.block_normal (WE.then_normal (WC.sub (fr' := [(0, _), (4, _), (5, _)]) ?_ ⟨rfl, rfl, rfl, trivial⟩)))
                      refine WC.region ?_
                      refine WL.q (oq_move rfl) rfl rfl rfl ?_
                      refine WL.q (oq_add rfl rfl (by rw [i64_lo, i64_hi]; (first | omega | (simp only [List.length_cons, List.length_nil, List.length_append, List.length_drop, List.length_take]; omega)))) rfl rfl rfl ?_
                      refine WL.q (oq_assign rfl) rfl rfl rfl ?_
                      refine WL.nil ?_
                      refine WE.f1 ?_
                      refine WE.forget ho26_1.fresh ?_
                      refine WE.f1 ?_
                      refine WE.lose ho6 ?_
                      refine WE.again (i + 1, _, _) ?_ ?_ ⟨rfl, rfl, rfl, trivial⟩ (List.Perm.refl _)
                      · try dsimp only   -- again 6
                        exfalso; omega
                      · (try dsimp only); omega
                    ·
                      try simp only [Z1, Z2, Z3, Z4, Z5, Z6, Z7, Z8, Z9, Z0] at q25
                      refine WC.skip (WE.block_normal (WE.block_normal (WE.then_normal (WC.sub (fr' := [(0, _), (4, _), (5, _)]) ?_ ⟨rfl, rfl, rfl, trivial⟩))))
                      refine WC.region ?_
                      refine WL.q (oq_move rfl) rfl rfl rfl ?_
                      refine WL.q (oq_add rfl rfl (by rw [i64_lo, i64_hi]; (first | omega | (simp only [List.length_cons, List.length_nil, List.length_append, List.length_drop, List.length_take]; omega)))) rfl rfl rfl ?_
                      refine WL.q (oq_assign rfl) rfl rfl rfl ?_
                      refine WL.nil ?_
                      refine WE.f1 ?_
                      refine WE.lose ho6 ?_
                      refine WE.again (i + 1, _, _) ?_ ?_ ⟨rfl, rfl, rfl, trivial⟩ (List.Perm.refl _)
                      · try dsimp only   -- again 7
                        exfalso; omega
                      · (try dsimp only); omega
              ·
                try simp only [Z1, Z2, Z3, Z4, Z5, Z6, Z7, Z8, Z9, Z0] at q17
                refine WC.region ?_
                refine WL.q (oq_eql rfl rfl) rfl rfl rfl ?_
                refine WL.q (oq_assign rfl) rfl rfl rfl ?_
                refine WL.nil (WE.then_normal (WC.sub (fr' := [(0, _), (4, _), (5, _), (6, _), (60, _), (91, _)]) ?_ ⟨rfl, rfl, rfl, rfl, rfl, rfl, trivial⟩))
                refine WC.cond rfl (fun q18 => ?_) (fun q18 => ?_)
                ·
                  try simp only [Z1, Z2, Z3, Z4, Z5, Z6, Z7, Z8, Z9, Z0] at q18
                  refine WC.seq (WC.region ?_)
                  refine WL.q (oq_assign rfl) rfl rfl rfl ?_
                  refine WL.nil (WE.then_normal (WC.sub (fr' := [(0, _), (4, _), (5, _), (6, _), (8, _)]) ?_ ⟨rfl, rfl, rfl, rfl, rfl, trivial⟩))
                  refine WC.seq (WC.seq (WC.region ?_))
                  refine WL.q (oq_fieldAddr fld33_0 rfl) rfl rfl rfl ?_
                  refine WL.q (oq_load flat3 rfl (.tail _ (.head _)) (List.mem_singleton.2 rfl) rfl) rfl rfl rfl ?_
                  refine WL.q (oq_eql rfl rfl) rfl rfl rfl ?_
                  refine WL.nil (WE.then_normal (WC.sub (fr' := [(0, _), (4, _), (5, _), (6, _), (8, _), (96, _)]) ?_ ⟨rfl, rfl, rfl, rfl, rfl, rfl, trivial⟩))
                  refine WC.cond rfl (fun q20 => ?_) (fun q20 => ?_)
                  ·
                    try simp only [Z1, Z2, Z3, Z4, Z5, Z6, Z7, Z8, Z9, Z0] at q20
                    refine WC.region ?_
                    refine WL.q (oq_assign rfl) rfl rfl rfl ?_
                    refine WL.nil (WE.then_normal (WC.sub (fr' := [(0, _), (4, _), (5, _), (6, _), (8, _)]) ?_ ⟨rfl, rfl, rfl, rfl, rfl, trivial⟩))
                    refine WC.gate 12 ([(o6, .cells #[I (l.getD i HV0).kind, I (l.getD i HV0).width, I (l.getD i HV0).int, S (l.getD i HV0).text] 33 (0, 0))]) (by kernel_rfl) ?_
                    refine WG.q 0 [9, 3] rfl (.tail _ (.head _)) (fun w0 => oq_move rfl) rfl rfl rfl ?_
                    refine WG.q 1 [9, 3, 2] rfl (.tail _ (.head _)) (fun w0 => oq_move rfl) rfl rfl rfl ?_
                    refine WG.q 4 [9, 8, 7, 6, 5] rfl (.tail _ (.head _)) (fun w0 => oq_fieldAddr fld33_3 rfl) rfl rfl rfl ?_
                    refine WG.q 5 [9, 8, 7, 6] rfl (.tail _ (.head _)) (fun w0 => oq_load flat9 rfl (.head _) (List.mem_singleton.2 rfl) rfl) rfl rfl rfl ?_
                    refine WG.q 6 [9, 8, 7] rfl (.tail _ (.head _)) (fun w0 => oq_len_s Tryd.underlying9 rfl) rfl rfl rfl ?_
                    refine WG.q 7 [9, 8] rfl (.tail _ (.head _)) (fun w0 => oq_conv Tryd.underlying3 Tryd.underlying53 rfl (by rw [u64_lo, u64_hi]; (first | omega | (simp only [List.length_cons, List.length_nil, List.length_append, List.length_drop, List.length_take]; omega)))) rfl rfl rfl ?_
                    refine WG.q 10 [11] rfl (.tail _ (.head _)) (fun w0 => oq_fieldAddr fld33_3 rfl) rfl rfl rfl ?_
                    refine WG.q 11 [] rfl (.tail _ (.head _)) (fun w0 => oq_load flat9 rfl (.head _) (List.mem_singleton.2 rfl) rfl) rfl rfl rfl ?_
                    refine WG.step (i := 2) (by kernel_rfl) rfl ?_
                    refine WL.buildL Tryd.underlying23 ty5 rfl rfl (by decide) (by decide) rfl rfl rfl fun v22_2 A22_2 ho22_2 hne22_2 => ?_
                    refine WL.nil ?_
                    refine WE.toG (.tail _ (.tail _ (.head _))) ?_
                    refine WG.step (i := 3) (by kernel_rfl) rfl ?_
                    refine WL.f1 ?_
                    refine WL.appendS ho2 Tryd.underlying23 ty5 rfl (by decide) rfl rfl ho22_2.rd (.head _) ((fun u hu => by rw [List.mem_singleton] at hu; subst hu; rfl)) (by unfold maxLen; (first | omega | (simp only [be_len, List.length_cons, List.length_nil]; omega))) (by (first | omega | (simp only [be_len, List.length_cons, List.length_nil]; omega))) rfl rfl fun v22a A22a ho22a hne22a => ?_
                    refine WL.nil ?_
                    refine WE.toG (.tail _ (.tail _ (.head _))) ?_
                    refine WG.step (i := 8) (by kernel_rfl) rfl ?_
                    refine WL.callA0 (vNumber ((l.getD i HV0).text.length : Int) 2 (by omega) (by omega)) call17 (by first | rfl | (rw [Int.toNat_of_nonneg (by omega)]; rfl)) rfl rfl fun v22_8 N22_8 hR22_8 hN22_8 => ?_
                    have ho22_8 := hR22_8.rebase hN22_8
                    refine WL.nil ?_
                    refine WE.toG (.tail _ (.tail _ (.tail _ (.head _)))) ?_
                    refine WG.step (i := 9) (by kernel_rfl) rfl ?_
                    refine WL.f1 ?_
                    refine WL.appendS ho22a Tryd.underlying23 ty5 rfl (by decide) rfl rfl ho22_8.rd (.head _) ((bytesV_one _)) (by unfold maxLen; (first | omega | (simp only [be_len, List.length_cons, List.length_nil]; omega))) (by (first | omega | (simp only [be_len, List.length_cons, List.length_nil]; omega))) rfl rfl fun v22b A22b ho22b hne22b => ?_
                    refine WL.nil ?_
                    refine WE.toG (.tail _ (.tail _ (.tail _ (.head _)))) ?_
                    refine WG.step (i := 12) (by kernel_rfl) rfl ?_
                    refine WL.append ho22b Tryd.underlying23 (.inr Tryd.underlying9) ty5 rfl (by decide) rfl rfl (SrcS.str _) (by unfold maxLen; (first | omega | (simp only [be_len, List.length_cons, List.length_nil]; omega))) (by (first | omega | (simp only [be_len, List.length_cons, List.length_nil]; omega))) rfl rfl fun v22 A22 ho22 hne22 => ?_
                    refine WL.nil ?_
                    refine WE.toG0 (by kernel_rfl) ?_
                    refine WG.p 13 rfl (.inl (by kernel_rfl)) (fun w0 => oq_assign rfl) rfl rfl rfl ?_
                    refine WG.done (by kernel_rfl) ?_
                    refine WE.block_normal (WE.block_normal (WE.then_normal (WC.sub (fr' := [(0, _), (4, _), (5, _)]) ?_ ⟨rfl, rfl, rfl, trivial⟩)))
                    refine WC.region ?_
                    refine WL.q (oq_move rfl) rfl rfl rfl ?_
                    refine WL.q (oq_add rfl rfl (by rw [i64_lo, i64_hi]; (first | omega | (simp only [List.length_cons, List.length_nil, List.length_append, List.length_drop, List.length_take]; omega)))) rfl rfl rfl ?_
                    refine WL.q (oq_assign rfl) rfl rfl rfl ?_
                    refine WL.nil ?_
                    refine WE.f1 ?_
                    refine WE.forget hN22_8 ?_
                    refine WE.f1 ?_
                    refine WE.forget ho22_2.fresh ?_
                    refine WE.f1 ?_
                    refine WE.lose ho6 ?_
                    refine WE.again (i + 1, _, _) ?_ ?_ ⟨rfl, rfl, rfl, trivial⟩ (List.Perm.refl _)
                    · try dsimp only   -- again 8
                      have he : enc (l.getD i HV0) = 7 :: be 2 (l.getD i HV0).text.length ++ (l.getD i HV0).text := by unfold enc; rw [if_neg (by omega), if_neg (by omega), if_pos (by omega)]
                      refine ⟨by omega, any_snoc hlt hno hnb, own_b2 ho22 ?_⟩
                      rw [hdrs_snoc hlt]; unfold hdr; rw [he]; simp [bytesV]
                    · (try dsimp only); omega
                  ·
                    try simp only [Z1, Z2, Z3, Z4, Z5, Z6, Z7, Z8, Z9, Z0] at q20
                    refine WC.skip (WE.then_normal (WC.sub (fr' := [(0, _), (4, _), (5, _), (6, _), (8, _)]) ?_ ⟨rfl, rfl, rfl, rfl, rfl, trivial⟩))
                    refine WC.gate 12 ([(o6, .cells #[I (l.getD i HV0).kind, I (l.getD i HV0).width, I (l.getD i HV0).int, S (l.getD i HV0).text] 33 (0, 0))]) (by kernel_rfl) ?_
                    refine WG.q 0 [9, 3] rfl (.tail _ (.head _)) (fun w0 => oq_move rfl) rfl rfl rfl ?_
                    refine WG.q 1 [9, 3, 2] rfl (.tail _ (.head _)) (fun w0 => oq_move rfl) rfl rfl rfl ?_
                    refine WG.q 4 [9, 8, 7, 6, 5] rfl (.tail _ (.head _)) (fun w0 => oq_fieldAddr fld33_3 rfl) rfl rfl rfl ?_
                    refine WG.q 5 [9, 8, 7, 6] rfl (.tail _ (.head _)) (fun w0 => oq_load flat9 rfl (.head _) (List.mem_singleton.2 rfl) rfl) rfl rfl rfl ?_
                    refine WG.q 6 [9, 8, 7] rfl (.tail _ (.head _)) (fun w0 => oq_len_s Tryd.underlying9 rfl) rfl rfl rfl ?_
                    refine WG.q 7 [9, 8] rfl (.tail _ (.head _)) (fun w0 => oq_conv Tryd.underlying3 Tryd.underlying53 rfl (by rw [u64_lo, u64_hi]; (first | omega | (simp only [List.length_cons, List.length_nil, List.length_append, List.length_drop, List.length_take]; omega)))) rfl rfl rfl ?_
                    refine WG.q 10 [11] rfl (.tail _ (.head _)) (fun w0 => oq_fieldAddr fld33_3 rfl) rfl rfl rfl ?_
                    refine WG.q 11 [] rfl (.tail _ (.head _)) (fun w0 => oq_load flat9 rfl (.head _) (List.mem_singleton.2 rfl) rfl) rfl rfl rfl ?_
                    refine WG.step (i := 2) (by kernel_rfl) rfl ?_
                    refine WL.buildL Tryd.underlying23 ty5 rfl rfl (by decide) (by decide) rfl rfl rfl fun v22_2 A22_2 ho22_2 hne22_2 => ?_
                    refine WL.nil ?_
                    refine WE.toG (.tail _ (.tail _ (.head _))) ?_
                    refine WG.step (i := 3) (by kernel_rfl) rfl ?_
                    refine WL.f1 ?_
                    refine WL.appendS ho2 Tryd.underlying23 ty5 rfl (by decide) rfl rfl ho22_2.rd (.head _) ((fun u hu => by rw [List.mem_singleton] at hu; subst hu; rfl)) (by unfold maxLen; (first | omega | (simp only [be_len, List.length_cons, List.length_nil]; omega))) (by (first | omega | (simp only [be_len, List.length_cons, List.length_nil]; omega))) rfl rfl fun v22a A22a ho22a hne22a => ?_
                    refine WL.nil ?_
                    refine WE.toG (.tail _ (.tail _ (.head _))) ?_
                    refine WG.step (i := 8) (by kernel_rfl) rfl ?_
                    refine WL.callA0 (vNumber ((l.getD i HV0).text.length : Int) 2 (by omega) (by omega)) call17 (by first | rfl | (rw [Int.toNat_of_nonneg (by omega)]; rfl)) rfl rfl fun v22_8 N22_8 hR22_8 hN22_8 => ?_
                    have ho22_8 := hR22_8.rebase hN22_8
                    refine WL.nil ?_
                    refine WE.toG (.tail _ (.tail _ (.tail _ (.head _)))) ?_
                    refine WG.step (i := 9) (by kernel_rfl) rfl ?_
                    refine WL.f1 ?_
                    refine WL.appendS ho22a Tryd.underlying23 ty5 rfl (by decide) rfl rfl ho22_8.rd (.head _) ((bytesV_one _)) (by unfold maxLen; (first | omega | (simp only [be_len, List.length_cons, List.length_nil]; omega))) (by (first | omega | (simp only [be_len, List.length_cons, List.length_nil]; omega))) rfl rfl fun v22b A22b ho22b hne22b => ?_
                    refine WL.nil ?_
                    refine WE.toG (.tail _ (.tail _ (.tail _ (.head _)))) ?_
                    refine WG.step (i := 12) (by kernel_rfl) rfl ?_
                    refine WL.append ho22b Tryd.underlying23 (.inr Tryd.underlying9) ty5 rfl (by decide) rfl rfl (SrcS.str _) (by unfold maxLen; (first | omega | (simp only [be_len, List.length_cons, List.length_nil]; omega))) (by (first | omega | (simp only [be_len, List.length_cons, List.length_nil]; omega))) rfl rfl fun v22 A22 ho22 hne22 => ?_
                    refine WL.nil ?_
                    refine WE.toG0 (by kernel_rfl) ?_
                    refine WG.p 13 rfl (.inl (by kernel_rfl)) (fun w0 => oq_assign rfl) rfl rfl rfl ?_
                    refine WG.done (by kernel_rfl) ?_
                    refine WE.block_normal (WE.block_normal (WE.then_normal (WC.sub (fr' := [(0, _), (4, _), (5, _)]) ?_ ⟨rfl, rfl, rfl, trivial⟩)))
                    refine WC.region ?_
                    refine WL.q (oq_move rfl) rfl rfl rfl ?_
                    refine WL.q (oq_add rfl rfl (by rw [i64_lo, i64_hi]; (first | omega | (simp only [List.length_cons, List.length_nil, List.length_append, List.length_drop, List.length_take]; omega)))) rfl rfl rfl ?_
                    refine WL.q (oq_assign rfl) rfl rfl rfl ?_
                    refine WL.nil ?_
                    refine WE.f1 ?_
                    refine WE.forget hN22_8 ?_
                    refine WE.f1 ?_
                    refine WE.forget ho22_2.fresh ?_
                    refine WE.f1 ?_
                    refine WE.lose ho6 ?_
                    refine WE.again (i + 1, _, _) ?_ ?_ ⟨rfl, rfl, rfl, trivial⟩ (List.Perm.refl _)
                    · try dsimp only   -- again 9
                      exfalso; omega
                    · (try dsimp only); omega
                ·
                  try simp only [Z1, Z2, Z3, Z4, Z5, Z6, Z7, Z8, Z9, Z0] at q18
                  refine WC.seq (WC.region ?_)
                  refine WL.q (oq_eql rfl rfl) rfl rfl rfl ?_
                  refine WL.q (oq_assign rfl) rfl rfl rfl ?_
                  refine WL.nil (WE.then_normal (WC.sub (fr' := [(0, _), (4, _), (5, _), (6, _), (60, _), (110, _)]) ?_ ⟨rfl, rfl, rfl, rfl, rfl, rfl, trivial⟩))
                  refine WC.cond rfl (fun q23 => ?_) (fun q23 => ?_)
                  ·
                    try simp only [Z1, Z2, Z3, Z4, Z5, Z6, Z7, Z8, Z9, Z0] at q23
                    refine WC.gate 6 ([(o6, .cells #[I (l.getD i HV0).kind, I (l.getD i HV0).width, I (l.getD i HV0).int, S (l.getD i HV0).text] 33 (0, 0))]) (by kernel_rfl) ?_
                    refine WG.q 0 [2] rfl (.tail _ (.head _)) (fun w0 => oq_move rfl) rfl rfl rfl ?_
                    refine WG.q 3 [5, 4] rfl (.tail _ (.head _)) (fun w0 => oq_fieldAddr fld33_2 rfl) rfl rfl rfl ?_
                    refine WG.q 4 [5] rfl (.tail _ (.head _)) (fun w0 => oq_load flat2 rfl (.head _) (List.mem_singleton.2 rfl) rfl) rfl rfl rfl ?_
                    refine WG.q 5 [] rfl (.tail _ (.head _)) (fun w0 => oq_convw Tryd.underlying2 Tryd.underlying53 rfl) rfl rfl rfl ?_
                    refine WG.step (i := 1) (by kernel_rfl) rfl ?_
                    refine WL.buildL Tryd.underlying23 ty5 rfl rfl (by decide) (by decide) rfl rfl rfl fun v24_1 A24_1 ho24_1 hne24_1 => ?_
                    refine WL.nil ?_
                    refine WE.toG (.tail _ (.tail _ (.head _))) ?_
                    refine WG.step (i := 2) (by kernel_rfl) rfl ?_
                    refine WL.f1 ?_
                    refine WL.appendS ho2 Tryd.underlying23 ty5 rfl (by decide) rfl rfl ho24_1.rd (.head _) ((fun u hu => by rw [List.mem_singleton] at hu; subst hu; rfl)) (by unfold maxLen; (first | omega | (simp only [be_len, List.length_cons, List.length_nil]; omega))) (by (first | omega | (simp only [be_len, List.length_cons, List.length_nil]; omega))) rfl rfl fun v24a A24a ho24a hne24a => ?_
                    refine WL.nil ?_
                    refine WE.toG (.tail _ (.tail _ (.head _))) ?_
                    refine WG.step (i := 6) (by kernel_rfl) rfl ?_
                    refine WL.callA0 (vNumber (IntKind.u64.wrap (l.getD i HV0).int) 8 (u64_b _) (by omega)) call17 (by first | rfl | (rw [Int.toNat_of_nonneg (by omega)]; rfl)) rfl rfl fun v24_6 N24_6 hR24_6 hN24_6 => ?_
                    have ho24_6 := hR24_6.rebase hN24_6
                    refine WL.nil ?_
                    refine WE.toG0 (by kernel_rfl) ?_
                    refine WG.step (i := 7) (by kernel_rfl) rfl ?_
                    refine WL.f1 ?_
                    refine WL.appendS ho24a Tryd.underlying23 ty5 rfl (by decide) rfl rfl ho24_6.rd (.head _) ((bytesV_one _)) (by unfold maxLen; (first | omega | (simp only [be_len, List.length_cons, List.length_nil]; omega))) (by (first | omega | (simp only [be_len, List.length_cons, List.length_nil]; omega))) rfl rfl fun v24b A24b ho24b hne24b => ?_
                    refine WL.nil ?_
                    refine WE.toG0 (by kernel_rfl) ?_
                    refine WG.p 8 rfl (.inl (by kernel_rfl)) (fun w0 => oq_assign rfl) rfl rfl rfl ?_
                    refine WG.done (by kernel_rfl) ?_
                    refine WE.block_normal (WE.block_normal (WE.then_normal (WC.sub (fr' := [(0, _), (4, _), (5, _)]) ?_ ⟨rfl, rfl, rfl, trivial⟩)))
                    refine WC.region ?_
                    refine WL.q (oq_move rfl) rfl rfl rfl ?_
                    refine WL.q (oq_add rfl rfl (by rw [i64_lo, i64_hi]; (first | omega | (simp only [List.length_cons, List.length_nil, List.length_append, List.length_drop, List.length_take]; omega)))) rfl rfl rfl ?_
                    refine WL.q (oq_assign rfl) rfl rfl rfl ?_
                    refine WL.nil ?_
                    refine WE.f1 ?_
                    refine WE.forget hN24_6 ?_
                    refine WE.f1 ?_
                    refine WE.forget ho24_1.fresh ?_
                    refine WE.f1 ?_
                    refine WE.lose ho6 ?_
                    refine WE.again (i + 1, _, _) ?_ ?_ ⟨rfl, rfl, rfl, trivial⟩ (List.Perm.refl _)
                    · try dsimp only   -- again 10
                      rw [be_u64 _ _ (by omega)] at ho24b
                      have he : enc (l.getD i HV0) = 8 :: be 8 (l.getD i HV0).int := by unfold enc; rw [if_neg (by omega), if_neg (by omega), if_neg (by omega), if_pos (by omega)]
                      refine ⟨by omega, any_snoc hlt hno hnb, own_b2 ho24b ?_⟩
                      rw [hdrs_snoc hlt]; unfold hdr; rw [he]; simp [bytesV]
                    · (try dsimp only); omega
                  ·
                    try simp only [Z1, Z2, Z3, Z4, Z5, Z6, Z7, Z8, Z9, Z0] at q23
                    refine WC.seq (WC.region ?_)
                    refine WL.q (oq_eql rfl rfl) rfl rfl rfl ?_
                    refine WL.q (oq_assign rfl) rfl rfl rfl ?_
                    refine WL.nil (WE.then_normal (WC.sub (fr' := [(0, _), (4, _), (5, _), (6, _), (120, _)]) ?_ ⟨rfl, rfl, rfl, rfl, rfl, trivial⟩))
                    refine WC.cond rfl (fun q25 => ?_) (fun q25 => ?_)
                    ·
                      try simp only [Z1, Z2, Z3, Z4, Z5, Z6, Z7, Z8, Z9, Z0] at q25
                      refine WC.gate 5 ([(o6, .cells #[I (l.getD i HV0).kind, I (l.getD i HV0).width, I (l.getD i HV0).int, S (l.getD i HV0).text] 33 (0, 0))]) (by kernel_rfl) ?_
                      refine WG.q 0 [2] rfl (.tail _ (.head _)) (fun w0 => oq_move rfl) rfl rfl rfl ?_
                      refine WG.q 3 [4] rfl (.tail _ (.head _)) (fun w0 => oq_fieldAddr fld33_3 rfl) rfl rfl rfl ?_
                      refine WG.q 4 [] rfl (.tail _ (.head _)) (fun w0 => oq_load flat9 rfl (.head _) (List.mem_singleton.2 rfl) rfl) rfl rfl rfl ?_
                      refine WG.step (i := 1) (by kernel_rfl) rfl ?_
                      refine WL.buildL Tryd.underlying23 ty5 rfl rfl (by decide) (by decide) rfl rfl rfl fun v26_1 A26_1 ho26_1 hne26_1 => ?_
                      refine WL.nil ?_
                      refine WE.toG (.tail _ (.tail _ (.head _))) ?_
                      refine WG.step (i := 2) (by kernel_rfl) rfl ?_
                      refine WL.f1 ?_
                      refine WL.appendS ho2 Tryd.underlying23 ty5 rfl (by decide) rfl rfl ho26_1.rd (.head _) ((fun u hu => by rw [List.mem_singleton] at hu; subst hu; rfl)) (by unfold maxLen; (first | omega | (simp only [be_len, List.length_cons, List.length_nil]; omega))) (by (first | omega | (simp only [be_len, List.length_cons, List.length_nil]; omega))) rfl rfl fun v26a A26a ho26a hne26a => ?_
                      refine WL.nil ?_
                      refine WE.toG (.tail _ (.tail _ (.head _))) ?_
                      refine WG.step (i := 5) (by kernel_rfl) rfl ?_
                      refine WL.append ho26a Tryd.underlying23 (.inr Tryd.underlying9) ty5 rfl (by decide) rfl rfl (SrcS.str _) (by unfold maxLen; (first | omega | (simp only [be_len, List.length_cons, List.length_nil]; omega))) (by (first | omega | (simp only [be_len, List.length_cons, List.length_nil]; omega))) rfl rfl fun v26 A26 ho26 hne26 => ?_
                      refine WL.nil ?_
                      refine WE.toG0 (by kernel_rfl) ?_
                      refine WG.p 6 rfl (.inl (by kernel_rfl)) (fun w0 => oq_assign rfl) rfl rfl rfl ?_
                      refine WG.done (by kernel_rfl) ?_
                      refine WE.block_normal (WE.block_normal (WE.then_normal (WC.sub (fr' := [(0, _), (4, _), (5, _)]) ?_ ⟨rfl, rfl, rfl, trivial⟩)))
                      refine WC.region ?_
                      refine WL.q (oq_move rfl) rfl rfl rfl ?_
                      refine WL.q (oq_add rfl rfl (by rw [i64_lo, i64_hi]; (first | omega | (simp only [List.length_cons, List.length_nil, List.length_append, List.length_drop, List.length_take]; omega)))) rfl rfl rfl ?_
                      refine WL.q (oq_assign rfl) rfl rfl rfl ?_
                      refine WL.nil ?_
                      refine WE.f1 ?_
                      refine WE.forget ho26_1.fresh ?_
                      refine WE.f1 ?_
                      refine WE.lose ho6 ?_
                      refine WE.again (i + 1, _, _) ?_ ?_ ⟨rfl, rfl, rfl, trivial⟩ (List.Perm.refl _)
                      · try dsimp only   -- again 11
                        have he : enc (l.getD i HV0) = 9 :: (l.getD i HV0).text := by unfold enc; rw [if_neg (by omega), if_neg (by omega), if_neg (by omega), if_neg (by omega), if_pos (by omega)]
                        refine ⟨by omega, any_snoc hlt hno hnb, own_b2 ho26 ?_⟩
                        rw [hdrs_snoc hlt]; unfold hdr; rw [he]; simp [bytesV]
                      · (try dsimp only); omega
                    ·
                      try simp only [Z1, Z2, Z3, Z4, Z5, Z6, Z7, Z8, Z9, Z0] at q25
                      refine WC.skip (WE.block_normal (WE.block_normal (WE.then_normal (WC.sub (fr' := [(0, _), (4, _), (5, _)]) ?_ ⟨rfl, rfl, rfl, trivial⟩))))
                      refine WC.region ?_
                      refine WL.q (oq_move rfl) rfl rfl rfl ?_
                      refine WL.q (oq_add rfl rfl (by rw [i64_lo, i64_hi]; (first | omega | (simp only [List.length_cons, List.length_nil, List.length_append, List.length_drop, List.length_take]; omega)))) rfl rfl rfl ?_
                      refine WL.q (oq_assign rfl) rfl rfl rfl ?_
                      refine WL.nil ?_
                      refine WE.f1 ?_
                      refine WE.lose ho6 ?_
                      refine WE.again (i + 1, _, _) ?_ ?_ ⟨rfl, rfl, rfl, trivial⟩ (List.Perm.refl _)
                      · try dsimp only   -- again 12
                        obtain ⟨hf0, hf5, _⟩ := (hok i hlt).1
                        exfalso; omega
                      · (try dsimp only); omega
    ·
      try simp only [Z1, Z2, Z3, Z4, Z5, Z6, Z7, Z8, Z9, Z0] at q3
      refine WC.exit (WE.then_exit (WE.then_exit (WE.block_same (WE.then_normal (WC.sub (fr' := [(4, _)]) ?_ ⟨rfl, trivial⟩)))))
      refine WC.seq (WC.region ?_)
      refine WL.q (oq_move rfl) rfl rfl rfl ?_
      refine WL.q (oq_assign rfl) rfl rfl rfl ?_
      refine WL.q (oq_assign rfl) rfl rfl rfl ?_
      refine WL.nil (WE.then_normal (WC.sub (fr' := [(2, _), (3, _)]) ?_ ⟨rfl, rfl, trivial⟩))
      refine WC.ret ?_
      refine WE.endA (.inl rfl) (res2 Tryd.results11 rfl rfl) ?_ (ho.fresh)
      -- end 3
      obtain rfl : i = l.length := by omega
      rw [List.take_length] at hno ho
      rw [hno]
      exact ⟨_, rfl, own_bytes ho rfl⟩

end EP
end Go.Proofs.YtodlhaghdplclaaDoor
