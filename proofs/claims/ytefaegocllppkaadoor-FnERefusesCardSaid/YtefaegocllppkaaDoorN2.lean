/- Schemes and ports. -/
import Derived.Test.YtefaegocllppkaaDoorN1
import Derived.Test.YtefaegocllppkaaDoorRows
import Derived.Laws.StructEq
namespace Go.Proofs.YtefaegocllppkaaDoor
open Go Go.RowKit V L0 L1 L2 M0 M1
set_option linter.unusedSimpArgs false
set_option linter.unusedVariables false
set_option maxRecDepth 10000
namespace M2
theorem ty5 : Ty Tryd.prog 5 (.int .u8 0) 1 1 := ty_of (by kernel_rfl)
def Low (s : List UInt8) : Prop := s ≠ [] ∧ ∀ c ∈ s, 97 ≤ c.toNat ∧ c.toNat ≤ 122
theorem low_at {sc rest : List UInt8} {i : Nat} {x : Int} (hl : Low sc) (hi : i ≤ sc.length) (hx : x = byteAt (sc ++ 58 :: rest) (i : Int)) : (i < sc.length ∧ 97 ≤ x ∧ x ≤ 122) ∨ (i = sc.length ∧ x = 58) := by
 rcases Nat.lt_or_ge i sc.length with h | h
 ·left
  rw [byteAt_get _ i (by simp; omega), List.getElem_append_left h] at hx
  have := hl.2 _ (List.getElem_mem h); omega
 ·right
  have : i = sc.length := by omega
  subst this
  refine ⟨rfl, ?_⟩
  rw [byteAt_get _ _ (by simp), List.getElem_append_right (Nat.le_refl _)] at hx
  simpa using hx
theorem low_in {sc : List UInt8} {i : Nat} {x : Int} (hl : Low sc) (hi : i < sc.length) (hx : x = byteAt sc (i : Int)) : 97 ≤ x ∧ x ≤ 122 ∧ .int .u8 x = Value.int .u8 (sc[i].toNat : Int) := by
 rw [byteAt_get sc i hi] at hx
 have := hl.2 _ (List.getElem_mem hi)
 exact ⟨by omega, by omega, by rw [hx]⟩
theorem low_pos {sc : List UInt8} (hl : Low sc) : 1 ≤ sc.length := List.length_pos_iff.2 hl.1
theorem bytes_snoc {sc : List UInt8} {i : Nat} {x : Int} (hi : i < sc.length) (hx : x = byteAt sc (i : Int)) : bytesV (sc.take i) ++ [Value.int .u8 x] = bytesV (sc.take (i + 1)) := by
 rw [List.take_succ_eq_append_getElem hi, hx, byteAt_get sc i hi]
 unfold bytesV; rw [List.map_append]; rfl
theorem dset_dig {d : List UInt8} (h : allIn DSET d = true) {i : Nat} (hi : i < d.length) : 48 ≤ d[i].toNat ∧ d[i].toNat ≤ 57 := by
 have h1 := List.all_eq_true.1 h _ (List.getElem_mem hi)
 have key : ∀ n : Fin 256, DSET.contains (UInt8.ofNat n.val) = true → 48 ≤ n.val ∧ n.val ≤ 57 := by decide +kernel
 have := key ⟨d[i].toNat, d[i].toNat_lt⟩ (by rw [UInt8.ofNat_toNat]; exact h1)
 exact this
theorem dig_dec {d : List UInt8} (h : allIn DSET d = true) {i : Nat} (hi : i < d.length) : 48 ≤ (decAt d i).1 ∧ (decAt d i).1 ≤ 57 ∧ (decAt d i).2 = 1 := by
 have h1 := dset_dig h hi
 have e : decAt d i = (d[i].toNat, 1) := decAt_ascii d i hi (by omega)
 rw [e]; exact ⟨h1.1, h1.2, rfl⟩
theorem getScheme (sc rest : List UInt8) (hl : Low sc) (hs : (sc ++ 58 :: rest).length ≤ 4000000000) : Fn0 Tryd.prog 35 [S (sc ++ 58 :: rest)] (.tuple #[S sc, S rest, .nilIface]) := by
 have htl : sc.length + 1 ≤ (sc ++ 58 :: rest).length := by rw [List.length_append, List.length_cons]; omega
 obtain ⟨t, ht⟩ : ∃ t, sc ++ 58 :: rest = t := ⟨_, rfl⟩
 rw [ht] at hs htl ⊢
 have hlp := low_pos hl
 refine Fn0.enter (n := 68) Tryd.func35 rfl rfl fun w0 => ?_
 refine WC.sub (fr' := [(0, _)]) ?_ ⟨rfl, trivial⟩
 refine WC.seq (WC.region ?_)
 refine WL.q (oq_assign rfl) rfl rfl rfl ?_
 refine WL.q (oq_assign rfl) rfl rfl rfl ?_
 refine WL.q (oq_assign rfl) rfl rfl rfl ?_
 refine WL.nil (WE.then_normal (WC.sub (fr' := [(0, _)]) ?_ ⟨rfl, trivial⟩))
 refine WC.seq (WC.seq (WC.region ?_))
 refine WL.q (oq_assign rfl) rfl rfl rfl ?_
 refine WL.nil (WE.then_normal (WC.sub (fr' := [(0, _), (5, _)]) ?_ ⟨rfl, rfl, trivial⟩))
 refine WC.block ?_
 refine WC.loop (ι := Nat) (fun (i : Nat) => [(0, S t), (5, I (i : Int))]) (fun (i : Nat) => []) (fun (i : Nat) => i ≤ sc.length) (fun (i : Nat) => sc.length + 1 - i) (0) ?_ ⟨rfl, rfl, trivial⟩ (List.Perm.refl _) ?_
 ·try dsimp only
  omega
 ·rintro i hp
  try dsimp only at hp
  show WC _ _ _ _ _ _ ([(0, S t), (5, I (i : Int))]) ([])
  refine WC.seq (WC.seq (WC.region ?_))
  refine WL.q (oq_move rfl) rfl rfl rfl ?_
  refine WL.q (oq_move rfl) rfl rfl rfl ?_
  refine WL.q (oq_len_s Tryd.underlying9 rfl) rfl rfl rfl ?_
  refine WL.q (oq_lss rfl rfl) rfl rfl rfl ?_
  refine WL.nil (WE.then_normal (WC.sub (fr' := [(0, _), (5, _), (10, _)]) ?_ ⟨rfl, rfl, rfl, trivial⟩))
  refine WC.cond rfl (fun q2 => ?_) (fun q2 => ?_)
  ·
   try simp only [Z1, Z2, Z3, Z4, Z5, Z6, Z7, Z8, Z9, Z0] at q2
   refine WC.skip (WE.then_normal (WC.sub (fr' := [(0, _), (5, _)]) ?_ ⟨rfl, rfl, trivial⟩))
   refine WC.seq (WC.block (WC.seq (WC.region ?_)))
   refine WL.q (oq_move rfl) rfl rfl rfl ?_
   refine WL.q (oq_move rfl) rfl rfl rfl ?_
   refine WL.index_s Tryd.underlying9 rfl rfl (by (first | omega | (simp only [List.length_cons, List.length_nil, List.length_append, List.length_drop, List.length_take]; omega))) rfl rfl fun c4_2 hc4_2 hc4_2l hc4_2u => ?_
   refine WL.q (oq_assign rfl) rfl rfl rfl ?_
   refine WL.nil (WE.then_normal (WC.sub (fr' := [(0, _), (5, _), (6, _)]) ?_ ⟨rfl, rfl, rfl, trivial⟩))
   refine WC.block (WC.seq ?_)
   have hcs := low_at (rest := rest) (x := c4_2) hl hp (by rw [ht]; exact hc4_2)
   refine WC.region ?_
   refine WL.q (oq_move rfl) rfl rfl rfl ?_
   refine WL.q (oq_leq rfl rfl) rfl rfl rfl ?_
   refine WL.q (oq_move rfl) rfl rfl rfl ?_
   refine WL.split 20 rfl (fun s6_2 => ?_) (fun s6_2 => ?_)
   ·
    try simp only [Z1, Z2, Z3, Z4, Z5, Z6, Z7, Z8, Z9, Z0] at s6_2
    refine WL.q (oq_move rfl) rfl rfl rfl ?_
    refine WL.q (oq_leq rfl rfl) rfl rfl rfl ?_
    refine WL.q (oq_pick_t rfl rfl) rfl rfl rfl ?_
    refine WL.q (oq_move rfl) rfl rfl rfl ?_
    refine WL.split 24 rfl (fun s6_6 => ?_) (fun s6_6 => ?_)
    ·
     try simp only [Z1, Z2, Z3, Z4, Z5, Z6, Z7, Z8, Z9, Z0] at s6_6
     refine WL.skip rfl rfl rfl ?_
     refine WL.skip rfl rfl rfl ?_
     refine WL.skip rfl rfl rfl ?_
     refine WL.skip rfl rfl rfl ?_
     refine WL.skip rfl rfl rfl ?_
     refine WL.skip rfl rfl rfl ?_
     refine WL.q (oq_pick_t rfl rfl) rfl rfl rfl ?_
     refine WL.q (oq_assign rfl) rfl rfl rfl ?_
     refine WL.nil (WE.then_normal (WC.sub (fr' := [(0, _), (5, _), (6, _), (17, _)]) ?_ ⟨rfl, rfl, rfl, rfl, trivial⟩))
     refine WC.cond_t rfl ?_
     refine WC.skip (WE.block_normal (WE.block_normal (WE.then_normal (WC.sub (fr' := [(0, _), (5, _)]) ?_ ⟨rfl, rfl, trivial⟩))))
     refine WC.region ?_
     refine WL.q (oq_move rfl) rfl rfl rfl ?_
     refine WL.q (oq_add rfl rfl (by rw [i64_lo, i64_hi]; (first | omega | (simp only [List.length_cons, List.length_nil, List.length_append, List.length_drop, List.length_take]; omega)))) rfl rfl rfl ?_
     refine WL.q (oq_assign rfl) rfl rfl rfl ?_
     refine WL.nil ?_
     refine WE.again (i + 1) ?_ ?_ ⟨rfl, rfl, trivial⟩ (List.Perm.refl _)
     ·try dsimp only
      omega
     ·(try dsimp only); omega
    ·
     try simp only [Z1, Z2, Z3, Z4, Z5, Z6, Z7, Z8, Z9, Z0] at s6_6
     refine WL.q (oq_move rfl) rfl rfl rfl ?_
     refine WL.q (oq_leq rfl rfl) rfl rfl rfl ?_
     refine WL.q (oq_move rfl) rfl rfl rfl ?_
     refine WL.split 27 rfl (fun s6_9 => ?_) (fun s6_9 => ?_)
     ·
      try simp only [Z1, Z2, Z3, Z4, Z5, Z6, Z7, Z8, Z9, Z0] at s6_9
      refine WL.q (oq_move rfl) rfl rfl rfl ?_
      refine WL.q (oq_leq rfl rfl) rfl rfl rfl ?_
      refine WL.q (oq_pick_t rfl rfl) rfl rfl rfl ?_
      refine WL.q (oq_pick_f rfl rfl) rfl rfl rfl ?_
      refine WL.q (oq_assign rfl) rfl rfl rfl ?_
      refine WL.nil (WE.then_normal (WC.sub (fr' := [(0, _), (5, _), (6, _), (17, _)]) ?_ ⟨rfl, rfl, rfl, rfl, trivial⟩))
      refine WC.cond rfl (fun q6 => ?_) (fun q6 => ?_)
      ·
       try simp only [Z1, Z2, Z3, Z4, Z5, Z6, Z7, Z8, Z9, Z0] at q6
       refine WC.skip (WE.block_normal (WE.block_normal (WE.then_normal (WC.sub (fr' := [(0, _), (5, _)]) ?_ ⟨rfl, rfl, trivial⟩))))
       refine WC.region ?_
       refine WL.q (oq_move rfl) rfl rfl rfl ?_
       refine WL.q (oq_add rfl rfl (by rw [i64_lo, i64_hi]; (first | omega | (simp only [List.length_cons, List.length_nil, List.length_append, List.length_drop, List.length_take]; omega)))) rfl rfl rfl ?_
       refine WL.q (oq_assign rfl) rfl rfl rfl ?_
       refine WL.nil ?_
       refine WE.again (i + 1) ?_ ?_ ⟨rfl, rfl, trivial⟩ (List.Perm.refl _)
       ·try dsimp only
        omega
       ·(try dsimp only); omega
      ·
       try simp only [Z1, Z2, Z3, Z4, Z5, Z6, Z7, Z8, Z9, Z0] at q6
       refine WC.seq (WC.region ?_)
       refine WL.q (oq_move rfl) rfl rfl rfl ?_
       refine WL.q (oq_leq rfl rfl) rfl rfl rfl ?_
       refine WL.q (oq_move rfl) rfl rfl rfl ?_
       refine WL.split 35 rfl (fun s7_2 => ?_) (fun s7_2 => ?_)
       ·
        try simp only [Z1, Z2, Z3, Z4, Z5, Z6, Z7, Z8, Z9, Z0] at s7_2
        refine WL.q (oq_move rfl) rfl rfl rfl ?_
        refine WL.q (oq_leq rfl rfl) rfl rfl rfl ?_
        refine WL.q (oq_pick_t rfl rfl) rfl rfl rfl ?_
        refine WL.q (oq_move rfl) rfl rfl rfl ?_
        refine WL.split 39 rfl (fun s7_6 => ?_) (fun s7_6 => ?_)
        ·
         try simp only [Z1, Z2, Z3, Z4, Z5, Z6, Z7, Z8, Z9, Z0] at s7_6
         refine WL.skip rfl rfl rfl ?_
         refine WL.skip rfl rfl rfl ?_
         refine WL.q (oq_pick_t rfl rfl) rfl rfl rfl ?_
         refine WL.q (oq_move rfl) rfl rfl rfl ?_
         refine WL.skip rfl rfl rfl ?_
         refine WL.skip rfl rfl rfl ?_
         refine WL.q (oq_pick_t rfl rfl) rfl rfl rfl ?_
         refine WL.q (oq_move rfl) rfl rfl rfl ?_
         refine WL.skip rfl rfl rfl ?_
         refine WL.skip rfl rfl rfl ?_
         refine WL.q (oq_pick_t rfl rfl) rfl rfl rfl ?_
         refine WL.q (oq_assign rfl) rfl rfl rfl ?_
         refine WL.nil (WE.then_normal (WC.sub (fr' := [(0, _), (5, _), (6, _), (32, _)]) ?_ ⟨rfl, rfl, rfl, rfl, trivial⟩))
         refine WC.cond_t rfl ?_
         refine WC.seq ?_
         omega
        ·
         try simp only [Z1, Z2, Z3, Z4, Z5, Z6, Z7, Z8, Z9, Z0] at s7_6
         refine WL.q (oq_move rfl) rfl rfl rfl ?_
         refine WL.q (oq_eql rfl rfl) rfl rfl rfl ?_
         refine WL.q (oq_pick_f rfl rfl) rfl rfl rfl ?_
         refine WL.q (oq_move rfl) rfl rfl rfl ?_
         refine WL.split 43 rfl (fun s7_10 => ?_) (fun s7_10 => ?_)
         ·
          try simp only [Z1, Z2, Z3, Z4, Z5, Z6, Z7, Z8, Z9, Z0] at s7_10
          refine WL.skip rfl rfl rfl ?_
          refine WL.skip rfl rfl rfl ?_
          refine WL.q (oq_pick_t rfl rfl) rfl rfl rfl ?_
          refine WL.q (oq_move rfl) rfl rfl rfl ?_
          refine WL.skip rfl rfl rfl ?_
          refine WL.skip rfl rfl rfl ?_
          refine WL.q (oq_pick_t rfl rfl) rfl rfl rfl ?_
          refine WL.q (oq_assign rfl) rfl rfl rfl ?_
          refine WL.nil (WE.then_normal (WC.sub (fr' := [(0, _), (5, _), (6, _), (32, _)]) ?_ ⟨rfl, rfl, rfl, rfl, trivial⟩))
          refine WC.cond_t rfl ?_
          refine WC.seq ?_
          omega
         ·
          try simp only [Z1, Z2, Z3, Z4, Z5, Z6, Z7, Z8, Z9, Z0] at s7_10
          refine WL.q (oq_move rfl) rfl rfl rfl ?_
          refine WL.q (oq_eql rfl rfl) rfl rfl rfl ?_
          refine WL.q (oq_pick_f rfl rfl) rfl rfl rfl ?_
          refine WL.q (oq_move rfl) rfl rfl rfl ?_
          refine WL.split 47 rfl (fun s7_14 => ?_) (fun s7_14 => ?_)
          ·
           try simp only [Z1, Z2, Z3, Z4, Z5, Z6, Z7, Z8, Z9, Z0] at s7_14
           refine WL.skip rfl rfl rfl ?_
           refine WL.skip rfl rfl rfl ?_
           refine WL.q (oq_pick_t rfl rfl) rfl rfl rfl ?_
           refine WL.q (oq_assign rfl) rfl rfl rfl ?_
           refine WL.nil (WE.then_normal (WC.sub (fr' := [(0, _), (5, _), (6, _), (32, _)]) ?_ ⟨rfl, rfl, rfl, rfl, trivial⟩))
           refine WC.cond_t rfl ?_
           refine WC.seq ?_
           omega
          ·
           try simp only [Z1, Z2, Z3, Z4, Z5, Z6, Z7, Z8, Z9, Z0] at s7_14
           refine WL.q (oq_move rfl) rfl rfl rfl ?_
           refine WL.q (oq_eql rfl rfl) rfl rfl rfl ?_
           refine WL.q (oq_pick_f rfl rfl) rfl rfl rfl ?_
           refine WL.q (oq_assign rfl) rfl rfl rfl ?_
           refine WL.nil (WE.then_normal (WC.sub (fr' := [(0, _), (5, _), (6, _), (32, _)]) ?_ ⟨rfl, rfl, rfl, rfl, trivial⟩))
           refine WC.cond rfl (fun q7 => ?_) (fun q7 => ?_)
           ·
            try simp only [Z1, Z2, Z3, Z4, Z5, Z6, Z7, Z8, Z9, Z0] at q7
            refine WC.seq ?_
            omega
           ·
            try simp only [Z1, Z2, Z3, Z4, Z5, Z6, Z7, Z8, Z9, Z0] at q7
            refine WC.seq (WC.region ?_)
            refine WL.q (oq_move rfl) rfl rfl rfl ?_
            refine WL.q (oq_eql rfl rfl) rfl rfl rfl ?_
            refine WL.q (oq_assign rfl) rfl rfl rfl ?_
            refine WL.nil (WE.then_normal (WC.sub (fr' := [(0, _), (5, _), (54, _)]) ?_ ⟨rfl, rfl, rfl, trivial⟩))
            refine WC.cond rfl (fun q10 => ?_) (fun q10 => ?_)
            ·
             try simp only [Z1, Z2, Z3, Z4, Z5, Z6, Z7, Z8, Z9, Z0] at q10
             refine WC.seq (WC.seq (WC.region ?_))
             refine WL.q (oq_move rfl) rfl rfl rfl ?_
             refine WL.q (oq_eql rfl rfl) rfl rfl rfl ?_
             refine WL.nil (WE.then_normal (WC.sub (fr' := [(0, _), (5, _), (58, _)]) ?_ ⟨rfl, rfl, rfl, trivial⟩))
             refine WC.cond rfl (fun q11 => ?_) (fun q11 => ?_)
             ·
              try simp only [Z1, Z2, Z3, Z4, Z5, Z6, Z7, Z8, Z9, Z0] at q11
              refine WC.seq ?_
              omega
             ·
              try simp only [Z1, Z2, Z3, Z4, Z5, Z6, Z7, Z8, Z9, Z0] at q11
              refine WC.skip (WE.then_normal (WC.sub (fr' := [(0, _), (5, _)]) ?_ ⟨rfl, rfl, trivial⟩))
              refine WC.seq (WC.quiet (by kernel_rfl) (by kernel_rfl) ?_)
              refine WQ.q (oq_move rfl) rfl rfl rfl ?_
              refine WQ.q (oq_move rfl) rfl rfl rfl ?_
              refine WQ.q (oq_slice_s0 Tryd.underlying9 rfl rfl (by (first | omega | (simp only [List.length_cons, List.length_nil, List.length_append, List.length_drop, List.length_take]; omega)))) rfl rfl rfl ?_
              refine WQ.q (oq_move rfl) rfl rfl rfl ?_
              refine WQ.q (oq_move rfl) rfl rfl rfl ?_
              refine WQ.q (oq_add rfl rfl (by rw [i64_lo, i64_hi]; (first | omega | (simp only [List.length_cons, List.length_nil, List.length_append, List.length_drop, List.length_take]; omega)))) rfl rfl rfl ?_
              refine WQ.q (oq_slice_s1 Tryd.underlying9 rfl rfl (by (first | omega | (simp only [List.length_cons, List.length_nil, List.length_append, List.length_drop, List.length_take]; omega)))) rfl rfl rfl ?_
              refine WQ.q (oq_assign rfl) rfl rfl rfl ?_
              refine WQ.q (oq_assign rfl) rfl rfl rfl ?_
              refine WQ.q (oq_assign rfl) rfl rfl rfl ?_
              refine WQ.nil (WE.then_normal (WC.sub (fr' := [(2, _), (3, _), (4, _)]) ?_ ⟨rfl, rfl, rfl, trivial⟩))
              refine WC.ret (WE.block_ret (WE.block_ret (WE.then_ret (WE.then_ret (WE.block_ret (WE.then_ret ?_))))))
              refine WE.end0 (.inl rfl) (res3 Tryd.results35 rfl rfl rfl) ?_
              have hi : i = sc.length := by omega
              subst hi
              have e1 : t.take sc.length = sc := by rw [← ht, List.take_left]
              have e2 : t.drop (sc.length + 1) = rest := by rw [← ht]; simp
              show Value.tuple #[S (t.take sc.length), S (t.drop (sc.length + 1)), _] = _
              rw [e1, e2]
            ·
             try simp only [Z1, Z2, Z3, Z4, Z5, Z6, Z7, Z8, Z9, Z0] at q10
             refine WC.seq ?_
             omega
       ·
        try simp only [Z1, Z2, Z3, Z4, Z5, Z6, Z7, Z8, Z9, Z0] at s7_2
        refine WL.skip rfl rfl rfl ?_
        refine WL.skip rfl rfl rfl ?_
        refine WL.q (oq_pick_f rfl rfl) rfl rfl rfl ?_
        refine WL.q (oq_move rfl) rfl rfl rfl ?_
        refine WL.q (oq_move rfl) rfl rfl rfl ?_
        refine WL.q (oq_eql rfl rfl) rfl rfl rfl ?_
        refine WL.q (oq_pick_f rfl rfl) rfl rfl rfl ?_
        refine WL.q (oq_move rfl) rfl rfl rfl ?_
        refine WL.split 43 rfl (fun s7_10 => ?_) (fun s7_10 => ?_)
        ·
         try simp only [Z1, Z2, Z3, Z4, Z5, Z6, Z7, Z8, Z9, Z0] at s7_10
         refine WL.skip rfl rfl rfl ?_
         refine WL.skip rfl rfl rfl ?_
         refine WL.q (oq_pick_t rfl rfl) rfl rfl rfl ?_
         refine WL.q (oq_move rfl) rfl rfl rfl ?_
         refine WL.skip rfl rfl rfl ?_
         refine WL.skip rfl rfl rfl ?_
         refine WL.q (oq_pick_t rfl rfl) rfl rfl rfl ?_
         refine WL.q (oq_assign rfl) rfl rfl rfl ?_
         refine WL.nil (WE.then_normal (WC.sub (fr' := [(0, _), (5, _), (6, _), (32, _)]) ?_ ⟨rfl, rfl, rfl, rfl, trivial⟩))
         refine WC.cond_t rfl ?_
         refine WC.seq ?_
         omega
        ·
         try simp only [Z1, Z2, Z3, Z4, Z5, Z6, Z7, Z8, Z9, Z0] at s7_10
         refine WL.q (oq_move rfl) rfl rfl rfl ?_
         refine WL.q (oq_eql rfl rfl) rfl rfl rfl ?_
         refine WL.q (oq_pick_f rfl rfl) rfl rfl rfl ?_
         refine WL.q (oq_move rfl) rfl rfl rfl ?_
         refine WL.split 47 rfl (fun s7_14 => ?_) (fun s7_14 => ?_)
         ·
          try simp only [Z1, Z2, Z3, Z4, Z5, Z6, Z7, Z8, Z9, Z0] at s7_14
          refine WL.skip rfl rfl rfl ?_
          refine WL.skip rfl rfl rfl ?_
          refine WL.q (oq_pick_t rfl rfl) rfl rfl rfl ?_
          refine WL.q (oq_assign rfl) rfl rfl rfl ?_
          refine WL.nil (WE.then_normal (WC.sub (fr' := [(0, _), (5, _), (6, _), (32, _)]) ?_ ⟨rfl, rfl, rfl, rfl, trivial⟩))
          refine WC.cond_t rfl ?_
          refine WC.seq ?_
          omega
         ·
          try simp only [Z1, Z2, Z3, Z4, Z5, Z6, Z7, Z8, Z9, Z0] at s7_14
          refine WL.q (oq_move rfl) rfl rfl rfl ?_
          refine WL.q (oq_eql rfl rfl) rfl rfl rfl ?_
          refine WL.q (oq_pick_f rfl rfl) rfl rfl rfl ?_
          refine WL.q (oq_assign rfl) rfl rfl rfl ?_
          refine WL.nil (WE.then_normal (WC.sub (fr' := [(0, _), (5, _), (6, _), (32, _)]) ?_ ⟨rfl, rfl, rfl, rfl, trivial⟩))
          refine WC.cond rfl (fun q7 => ?_) (fun q7 => ?_)
          ·
           try simp only [Z1, Z2, Z3, Z4, Z5, Z6, Z7, Z8, Z9, Z0] at q7
           refine WC.seq ?_
           omega
          ·
           try simp only [Z1, Z2, Z3, Z4, Z5, Z6, Z7, Z8, Z9, Z0] at q7
           refine WC.seq (WC.region ?_)
           refine WL.q (oq_move rfl) rfl rfl rfl ?_
           refine WL.q (oq_eql rfl rfl) rfl rfl rfl ?_
           refine WL.q (oq_assign rfl) rfl rfl rfl ?_
           refine WL.nil (WE.then_normal (WC.sub (fr' := [(0, _), (5, _), (54, _)]) ?_ ⟨rfl, rfl, rfl, trivial⟩))
           refine WC.cond rfl (fun q10 => ?_) (fun q10 => ?_)
           ·
            try simp only [Z1, Z2, Z3, Z4, Z5, Z6, Z7, Z8, Z9, Z0] at q10
            refine WC.seq (WC.seq (WC.region ?_))
            refine WL.q (oq_move rfl) rfl rfl rfl ?_
            refine WL.q (oq_eql rfl rfl) rfl rfl rfl ?_
            refine WL.nil (WE.then_normal (WC.sub (fr' := [(0, _), (5, _), (58, _)]) ?_ ⟨rfl, rfl, rfl, trivial⟩))
            refine WC.cond rfl (fun q11 => ?_) (fun q11 => ?_)
            ·
             try simp only [Z1, Z2, Z3, Z4, Z5, Z6, Z7, Z8, Z9, Z0] at q11
             refine WC.seq ?_
             omega
            ·
             try simp only [Z1, Z2, Z3, Z4, Z5, Z6, Z7, Z8, Z9, Z0] at q11
             refine WC.skip (WE.then_normal (WC.sub (fr' := [(0, _), (5, _)]) ?_ ⟨rfl, rfl, trivial⟩))
             refine WC.seq (WC.quiet (by kernel_rfl) (by kernel_rfl) ?_)
             refine WQ.q (oq_move rfl) rfl rfl rfl ?_
             refine WQ.q (oq_move rfl) rfl rfl rfl ?_
             refine WQ.q (oq_slice_s0 Tryd.underlying9 rfl rfl (by (first | omega | (simp only [List.length_cons, List.length_nil, List.length_append, List.length_drop, List.length_take]; omega)))) rfl rfl rfl ?_
             refine WQ.q (oq_move rfl) rfl rfl rfl ?_
             refine WQ.q (oq_move rfl) rfl rfl rfl ?_
             refine WQ.q (oq_add rfl rfl (by rw [i64_lo, i64_hi]; (first | omega | (simp only [List.length_cons, List.length_nil, List.length_append, List.length_drop, List.length_take]; omega)))) rfl rfl rfl ?_
             refine WQ.q (oq_slice_s1 Tryd.underlying9 rfl rfl (by (first | omega | (simp only [List.length_cons, List.length_nil, List.length_append, List.length_drop, List.length_take]; omega)))) rfl rfl rfl ?_
             refine WQ.q (oq_assign rfl) rfl rfl rfl ?_
             refine WQ.q (oq_assign rfl) rfl rfl rfl ?_
             refine WQ.q (oq_assign rfl) rfl rfl rfl ?_
             refine WQ.nil (WE.then_normal (WC.sub (fr' := [(2, _), (3, _), (4, _)]) ?_ ⟨rfl, rfl, rfl, trivial⟩))
             refine WC.ret (WE.block_ret (WE.block_ret (WE.then_ret (WE.then_ret (WE.block_ret (WE.then_ret ?_))))))
             refine WE.end0 (.inl rfl) (res3 Tryd.results35 rfl rfl rfl) ?_
             have hi : i = sc.length := by omega
             subst hi
             have e1 : t.take sc.length = sc := by rw [← ht, List.take_left]
             have e2 : t.drop (sc.length + 1) = rest := by rw [← ht]; simp
             show Value.tuple #[S (t.take sc.length), S (t.drop (sc.length + 1)), _] = _
             rw [e1, e2]
           ·
            try simp only [Z1, Z2, Z3, Z4, Z5, Z6, Z7, Z8, Z9, Z0] at q10
            refine WC.seq ?_
            omega
     ·
      try simp only [Z1, Z2, Z3, Z4, Z5, Z6, Z7, Z8, Z9, Z0] at s6_9
      refine WL.skip rfl rfl rfl ?_
      refine WL.skip rfl rfl rfl ?_
      refine WL.q (oq_pick_f rfl rfl) rfl rfl rfl ?_
      refine WL.q (oq_pick_f rfl rfl) rfl rfl rfl ?_
      refine WL.q (oq_assign rfl) rfl rfl rfl ?_
      refine WL.nil (WE.then_normal (WC.sub (fr' := [(0, _), (5, _), (6, _), (17, _)]) ?_ ⟨rfl, rfl, rfl, rfl, trivial⟩))
      refine WC.cond_f rfl ?_
      refine WC.seq (WC.region ?_)
      refine WL.q (oq_move rfl) rfl rfl rfl ?_
      refine WL.q (oq_leq rfl rfl) rfl rfl rfl ?_
      refine WL.q (oq_move rfl) rfl rfl rfl ?_
      refine WL.split 35 rfl (fun s7_2 => ?_) (fun s7_2 => ?_)
      ·
       try simp only [Z1, Z2, Z3, Z4, Z5, Z6, Z7, Z8, Z9, Z0] at s7_2
       refine WL.q (oq_move rfl) rfl rfl rfl ?_
       refine WL.q (oq_leq rfl rfl) rfl rfl rfl ?_
       refine WL.q (oq_pick_t rfl rfl) rfl rfl rfl ?_
       refine WL.q (oq_move rfl) rfl rfl rfl ?_
       refine WL.split 39 rfl (fun s7_6 => ?_) (fun s7_6 => ?_)
       ·
        try simp only [Z1, Z2, Z3, Z4, Z5, Z6, Z7, Z8, Z9, Z0] at s7_6
        refine WL.skip rfl rfl rfl ?_
        refine WL.skip rfl rfl rfl ?_
        refine WL.q (oq_pick_t rfl rfl) rfl rfl rfl ?_
        refine WL.q (oq_move rfl) rfl rfl rfl ?_
        refine WL.skip rfl rfl rfl ?_
        refine WL.skip rfl rfl rfl ?_
        refine WL.q (oq_pick_t rfl rfl) rfl rfl rfl ?_
        refine WL.q (oq_move rfl) rfl rfl rfl ?_
        refine WL.skip rfl rfl rfl ?_
        refine WL.skip rfl rfl rfl ?_
        refine WL.q (oq_pick_t rfl rfl) rfl rfl rfl ?_
        refine WL.q (oq_assign rfl) rfl rfl rfl ?_
        refine WL.nil (WE.then_normal (WC.sub (fr' := [(0, _), (5, _), (6, _), (32, _)]) ?_ ⟨rfl, rfl, rfl, rfl, trivial⟩))
        refine WC.cond_t rfl ?_
        refine WC.seq ?_
        omega
       ·
        try simp only [Z1, Z2, Z3, Z4, Z5, Z6, Z7, Z8, Z9, Z0] at s7_6
        refine WL.q (oq_move rfl) rfl rfl rfl ?_
        refine WL.q (oq_eql rfl rfl) rfl rfl rfl ?_
        refine WL.q (oq_pick_f rfl rfl) rfl rfl rfl ?_
        refine WL.q (oq_move rfl) rfl rfl rfl ?_
        refine WL.split 43 rfl (fun s7_10 => ?_) (fun s7_10 => ?_)
        ·
         try simp only [Z1, Z2, Z3, Z4, Z5, Z6, Z7, Z8, Z9, Z0] at s7_10
         refine WL.skip rfl rfl rfl ?_
         refine WL.skip rfl rfl rfl ?_
         refine WL.q (oq_pick_t rfl rfl) rfl rfl rfl ?_
         refine WL.q (oq_move rfl) rfl rfl rfl ?_
         refine WL.skip rfl rfl rfl ?_
         refine WL.skip rfl rfl rfl ?_
         refine WL.q (oq_pick_t rfl rfl) rfl rfl rfl ?_
         refine WL.q (oq_assign rfl) rfl rfl rfl ?_
         refine WL.nil (WE.then_normal (WC.sub (fr' := [(0, _), (5, _), (6, _), (32, _)]) ?_ ⟨rfl, rfl, rfl, rfl, trivial⟩))
         refine WC.cond_t rfl ?_
         refine WC.seq ?_
         omega
        ·
         try simp only [Z1, Z2, Z3, Z4, Z5, Z6, Z7, Z8, Z9, Z0] at s7_10
         refine WL.q (oq_move rfl) rfl rfl rfl ?_
         refine WL.q (oq_eql rfl rfl) rfl rfl rfl ?_
         refine WL.q (oq_pick_f rfl rfl) rfl rfl rfl ?_
         refine WL.q (oq_move rfl) rfl rfl rfl ?_
         refine WL.split 47 rfl (fun s7_14 => ?_) (fun s7_14 => ?_)
         ·
          try simp only [Z1, Z2, Z3, Z4, Z5, Z6, Z7, Z8, Z9, Z0] at s7_14
          refine WL.skip rfl rfl rfl ?_
          refine WL.skip rfl rfl rfl ?_
          refine WL.q (oq_pick_t rfl rfl) rfl rfl rfl ?_
          refine WL.q (oq_assign rfl) rfl rfl rfl ?_
          refine WL.nil (WE.then_normal (WC.sub (fr' := [(0, _), (5, _), (6, _), (32, _)]) ?_ ⟨rfl, rfl, rfl, rfl, trivial⟩))
          refine WC.cond_t rfl ?_
          refine WC.seq ?_
          omega
         ·
          try simp only [Z1, Z2, Z3, Z4, Z5, Z6, Z7, Z8, Z9, Z0] at s7_14
          refine WL.q (oq_move rfl) rfl rfl rfl ?_
          refine WL.q (oq_eql rfl rfl) rfl rfl rfl ?_
          refine WL.q (oq_pick_f rfl rfl) rfl rfl rfl ?_
          refine WL.q (oq_assign rfl) rfl rfl rfl ?_
          refine WL.nil (WE.then_normal (WC.sub (fr' := [(0, _), (5, _), (6, _), (32, _)]) ?_ ⟨rfl, rfl, rfl, rfl, trivial⟩))
          refine WC.cond rfl (fun q7 => ?_) (fun q7 => ?_)
          ·
           try simp only [Z1, Z2, Z3, Z4, Z5, Z6, Z7, Z8, Z9, Z0] at q7
           refine WC.seq ?_
           omega
          ·
           try simp only [Z1, Z2, Z3, Z4, Z5, Z6, Z7, Z8, Z9, Z0] at q7
           refine WC.seq (WC.region ?_)
           refine WL.q (oq_move rfl) rfl rfl rfl ?_
           refine WL.q (oq_eql rfl rfl) rfl rfl rfl ?_
           refine WL.q (oq_assign rfl) rfl rfl rfl ?_
           refine WL.nil (WE.then_normal (WC.sub (fr' := [(0, _), (5, _), (54, _)]) ?_ ⟨rfl, rfl, rfl, trivial⟩))
           refine WC.cond rfl (fun q10 => ?_) (fun q10 => ?_)
           ·
            try simp only [Z1, Z2, Z3, Z4, Z5, Z6, Z7, Z8, Z9, Z0] at q10
            refine WC.seq (WC.seq (WC.region ?_))
            refine WL.q (oq_move rfl) rfl rfl rfl ?_
            refine WL.q (oq_eql rfl rfl) rfl rfl rfl ?_
            refine WL.nil (WE.then_normal (WC.sub (fr' := [(0, _), (5, _), (58, _)]) ?_ ⟨rfl, rfl, rfl, trivial⟩))
            refine WC.cond rfl (fun q11 => ?_) (fun q11 => ?_)
            ·
             try simp only [Z1, Z2, Z3, Z4, Z5, Z6, Z7, Z8, Z9, Z0] at q11
             refine WC.seq ?_
             omega
            ·
             try simp only [Z1, Z2, Z3, Z4, Z5, Z6, Z7, Z8, Z9, Z0] at q11
             refine WC.skip (WE.then_normal (WC.sub (fr' := [(0, _), (5, _)]) ?_ ⟨rfl, rfl, trivial⟩))
             refine WC.seq (WC.quiet (by kernel_rfl) (by kernel_rfl) ?_)
             refine WQ.q (oq_move rfl) rfl rfl rfl ?_
             refine WQ.q (oq_move rfl) rfl rfl rfl ?_
             refine WQ.q (oq_slice_s0 Tryd.underlying9 rfl rfl (by (first | omega | (simp only [List.length_cons, List.length_nil, List.length_append, List.length_drop, List.length_take]; omega)))) rfl rfl rfl ?_
             refine WQ.q (oq_move rfl) rfl rfl rfl ?_
             refine WQ.q (oq_move rfl) rfl rfl rfl ?_
             refine WQ.q (oq_add rfl rfl (by rw [i64_lo, i64_hi]; (first | omega | (simp only [List.length_cons, List.length_nil, List.length_append, List.length_drop, List.length_take]; omega)))) rfl rfl rfl ?_
             refine WQ.q (oq_slice_s1 Tryd.underlying9 rfl rfl (by (first | omega | (simp only [List.length_cons, List.length_nil, List.length_append, List.length_drop, List.length_take]; omega)))) rfl rfl rfl ?_
             refine WQ.q (oq_assign rfl) rfl rfl rfl ?_
             refine WQ.q (oq_assign rfl) rfl rfl rfl ?_
             refine WQ.q (oq_assign rfl) rfl rfl rfl ?_
             refine WQ.nil (WE.then_normal (WC.sub (fr' := [(2, _), (3, _), (4, _)]) ?_ ⟨rfl, rfl, rfl, trivial⟩))
             refine WC.ret (WE.block_ret (WE.block_ret (WE.then_ret (WE.then_ret (WE.block_ret (WE.then_ret ?_))))))
             refine WE.end0 (.inl rfl) (res3 Tryd.results35 rfl rfl rfl) ?_
             have hi : i = sc.length := by omega
             subst hi
             have e1 : t.take sc.length = sc := by rw [← ht, List.take_left]
             have e2 : t.drop (sc.length + 1) = rest := by rw [← ht]; simp
             show Value.tuple #[S (t.take sc.length), S (t.drop (sc.length + 1)), _] = _
             rw [e1, e2]
           ·
            try simp only [Z1, Z2, Z3, Z4, Z5, Z6, Z7, Z8, Z9, Z0] at q10
            refine WC.seq ?_
            omega
      ·
       try simp only [Z1, Z2, Z3, Z4, Z5, Z6, Z7, Z8, Z9, Z0] at s7_2
       refine WL.skip rfl rfl rfl ?_
       refine WL.skip rfl rfl rfl ?_
       refine WL.q (oq_pick_f rfl rfl) rfl rfl rfl ?_
       refine WL.q (oq_move rfl) rfl rfl rfl ?_
       refine WL.q (oq_move rfl) rfl rfl rfl ?_
       refine WL.q (oq_eql rfl rfl) rfl rfl rfl ?_
       refine WL.q (oq_pick_f rfl rfl) rfl rfl rfl ?_
       refine WL.q (oq_move rfl) rfl rfl rfl ?_
       refine WL.split 43 rfl (fun s7_10 => ?_) (fun s7_10 => ?_)
       ·
        try simp only [Z1, Z2, Z3, Z4, Z5, Z6, Z7, Z8, Z9, Z0] at s7_10
        refine WL.skip rfl rfl rfl ?_
        refine WL.skip rfl rfl rfl ?_
        refine WL.q (oq_pick_t rfl rfl) rfl rfl rfl ?_
        refine WL.q (oq_move rfl) rfl rfl rfl ?_
        refine WL.skip rfl rfl rfl ?_
        refine WL.skip rfl rfl rfl ?_
        refine WL.q (oq_pick_t rfl rfl) rfl rfl rfl ?_
        refine WL.q (oq_assign rfl) rfl rfl rfl ?_
        refine WL.nil (WE.then_normal (WC.sub (fr' := [(0, _), (5, _), (6, _), (32, _)]) ?_ ⟨rfl, rfl, rfl, rfl, trivial⟩))
        refine WC.cond_t rfl ?_
        refine WC.seq ?_
        omega
       ·
        try simp only [Z1, Z2, Z3, Z4, Z5, Z6, Z7, Z8, Z9, Z0] at s7_10
        refine WL.q (oq_move rfl) rfl rfl rfl ?_
        refine WL.q (oq_eql rfl rfl) rfl rfl rfl ?_
        refine WL.q (oq_pick_f rfl rfl) rfl rfl rfl ?_
        refine WL.q (oq_move rfl) rfl rfl rfl ?_
        refine WL.split 47 rfl (fun s7_14 => ?_) (fun s7_14 => ?_)
        ·
         try simp only [Z1, Z2, Z3, Z4, Z5, Z6, Z7, Z8, Z9, Z0] at s7_14
         refine WL.skip rfl rfl rfl ?_
         refine WL.skip rfl rfl rfl ?_
         refine WL.q (oq_pick_t rfl rfl) rfl rfl rfl ?_
         refine WL.q (oq_assign rfl) rfl rfl rfl ?_
         refine WL.nil (WE.then_normal (WC.sub (fr' := [(0, _), (5, _), (6, _), (32, _)]) ?_ ⟨rfl, rfl, rfl, rfl, trivial⟩))
         refine WC.cond_t rfl ?_
         refine WC.seq ?_
         omega
        ·
         try simp only [Z1, Z2, Z3, Z4, Z5, Z6, Z7, Z8, Z9, Z0] at s7_14
         refine WL.q (oq_move rfl) rfl rfl rfl ?_
         refine WL.q (oq_eql rfl rfl) rfl rfl rfl ?_
         refine WL.q (oq_pick_f rfl rfl) rfl rfl rfl ?_
         refine WL.q (oq_assign rfl) rfl rfl rfl ?_
         refine WL.nil (WE.then_normal (WC.sub (fr' := [(0, _), (5, _), (6, _), (32, _)]) ?_ ⟨rfl, rfl, rfl, rfl, trivial⟩))
         refine WC.cond rfl (fun q7 => ?_) (fun q7 => ?_)
         ·
          try simp only [Z1, Z2, Z3, Z4, Z5, Z6, Z7, Z8, Z9, Z0] at q7
          refine WC.seq ?_
          omega
         ·
          try simp only [Z1, Z2, Z3, Z4, Z5, Z6, Z7, Z8, Z9, Z0] at q7
          refine WC.seq (WC.region ?_)
          refine WL.q (oq_move rfl) rfl rfl rfl ?_
          refine WL.q (oq_eql rfl rfl) rfl rfl rfl ?_
          refine WL.q (oq_assign rfl) rfl rfl rfl ?_
          refine WL.nil (WE.then_normal (WC.sub (fr' := [(0, _), (5, _), (54, _)]) ?_ ⟨rfl, rfl, rfl, trivial⟩))
          refine WC.cond rfl (fun q10 => ?_) (fun q10 => ?_)
          ·
           try simp only [Z1, Z2, Z3, Z4, Z5, Z6, Z7, Z8, Z9, Z0] at q10
           refine WC.seq (WC.seq (WC.region ?_))
           refine WL.q (oq_move rfl) rfl rfl rfl ?_
           refine WL.q (oq_eql rfl rfl) rfl rfl rfl ?_
           refine WL.nil (WE.then_normal (WC.sub (fr' := [(0, _), (5, _), (58, _)]) ?_ ⟨rfl, rfl, rfl, trivial⟩))
           refine WC.cond rfl (fun q11 => ?_) (fun q11 => ?_)
           ·
            try simp only [Z1, Z2, Z3, Z4, Z5, Z6, Z7, Z8, Z9, Z0] at q11
            refine WC.seq ?_
            omega
           ·
            try simp only [Z1, Z2, Z3, Z4, Z5, Z6, Z7, Z8, Z9, Z0] at q11
            refine WC.skip (WE.then_normal (WC.sub (fr' := [(0, _), (5, _)]) ?_ ⟨rfl, rfl, trivial⟩))
            refine WC.seq (WC.quiet (by kernel_rfl) (by kernel_rfl) ?_)
            refine WQ.q (oq_move rfl) rfl rfl rfl ?_
            refine WQ.q (oq_move rfl) rfl rfl rfl ?_
            refine WQ.q (oq_slice_s0 Tryd.underlying9 rfl rfl (by (first | omega | (simp only [List.length_cons, List.length_nil, List.length_append, List.length_drop, List.length_take]; omega)))) rfl rfl rfl ?_
            refine WQ.q (oq_move rfl) rfl rfl rfl ?_
            refine WQ.q (oq_move rfl) rfl rfl rfl ?_
            refine WQ.q (oq_add rfl rfl (by rw [i64_lo, i64_hi]; (first | omega | (simp only [List.length_cons, List.length_nil, List.length_append, List.length_drop, List.length_take]; omega)))) rfl rfl rfl ?_
            refine WQ.q (oq_slice_s1 Tryd.underlying9 rfl rfl (by (first | omega | (simp only [List.length_cons, List.length_nil, List.length_append, List.length_drop, List.length_take]; omega)))) rfl rfl rfl ?_
            refine WQ.q (oq_assign rfl) rfl rfl rfl ?_
            refine WQ.q (oq_assign rfl) rfl rfl rfl ?_
            refine WQ.q (oq_assign rfl) rfl rfl rfl ?_
            refine WQ.nil (WE.then_normal (WC.sub (fr' := [(2, _), (3, _), (4, _)]) ?_ ⟨rfl, rfl, rfl, trivial⟩))
            refine WC.ret (WE.block_ret (WE.block_ret (WE.then_ret (WE.then_ret (WE.block_ret (WE.then_ret ?_))))))
            refine WE.end0 (.inl rfl) (res3 Tryd.results35 rfl rfl rfl) ?_
            have hi : i = sc.length := by omega
            subst hi
            have e1 : t.take sc.length = sc := by rw [← ht, List.take_left]
            have e2 : t.drop (sc.length + 1) = rest := by rw [← ht]; simp
            show Value.tuple #[S (t.take sc.length), S (t.drop (sc.length + 1)), _] = _
            rw [e1, e2]
          ·
           try simp only [Z1, Z2, Z3, Z4, Z5, Z6, Z7, Z8, Z9, Z0] at q10
           refine WC.seq ?_
           omega
   ·
    try simp only [Z1, Z2, Z3, Z4, Z5, Z6, Z7, Z8, Z9, Z0] at s6_2
    refine WL.skip rfl rfl rfl ?_
    refine WL.skip rfl rfl rfl ?_
    refine WL.q (oq_pick_f rfl rfl) rfl rfl rfl ?_
    refine WL.q (oq_move rfl) rfl rfl rfl ?_
    refine WL.q (oq_move rfl) rfl rfl rfl ?_
    refine WL.q (oq_leq rfl rfl) rfl rfl rfl ?_
    refine WL.q (oq_move rfl) rfl rfl rfl ?_
    refine WL.split 27 rfl (fun s6_9 => ?_) (fun s6_9 => ?_)
    ·
     try simp only [Z1, Z2, Z3, Z4, Z5, Z6, Z7, Z8, Z9, Z0] at s6_9
     refine WL.q (oq_move rfl) rfl rfl rfl ?_
     refine WL.q (oq_leq rfl rfl) rfl rfl rfl ?_
     refine WL.q (oq_pick_t rfl rfl) rfl rfl rfl ?_
     refine WL.q (oq_pick_f rfl rfl) rfl rfl rfl ?_
     refine WL.q (oq_assign rfl) rfl rfl rfl ?_
     refine WL.nil (WE.then_normal (WC.sub (fr' := [(0, _), (5, _), (6, _), (17, _)]) ?_ ⟨rfl, rfl, rfl, rfl, trivial⟩))
     refine WC.cond rfl (fun q6 => ?_) (fun q6 => ?_)
     ·
      try simp only [Z1, Z2, Z3, Z4, Z5, Z6, Z7, Z8, Z9, Z0] at q6
      refine WC.skip (WE.block_normal (WE.block_normal (WE.then_normal (WC.sub (fr' := [(0, _), (5, _)]) ?_ ⟨rfl, rfl, trivial⟩))))
      refine WC.region ?_
      refine WL.q (oq_move rfl) rfl rfl rfl ?_
      refine WL.q (oq_add rfl rfl (by rw [i64_lo, i64_hi]; (first | omega | (simp only [List.length_cons, List.length_nil, List.length_append, List.length_drop, List.length_take]; omega)))) rfl rfl rfl ?_
      refine WL.q (oq_assign rfl) rfl rfl rfl ?_
      refine WL.nil ?_
      refine WE.again (i + 1) ?_ ?_ ⟨rfl, rfl, trivial⟩ (List.Perm.refl _)
      ·try dsimp only
       omega
      ·(try dsimp only); omega
     ·
      try simp only [Z1, Z2, Z3, Z4, Z5, Z6, Z7, Z8, Z9, Z0] at q6
      refine WC.seq (WC.region ?_)
      refine WL.q (oq_move rfl) rfl rfl rfl ?_
      refine WL.q (oq_leq rfl rfl) rfl rfl rfl ?_
      refine WL.q (oq_move rfl) rfl rfl rfl ?_
      refine WL.split 35 rfl (fun s7_2 => ?_) (fun s7_2 => ?_)
      ·
       try simp only [Z1, Z2, Z3, Z4, Z5, Z6, Z7, Z8, Z9, Z0] at s7_2
       refine WL.q (oq_move rfl) rfl rfl rfl ?_
       refine WL.q (oq_leq rfl rfl) rfl rfl rfl ?_
       refine WL.q (oq_pick_t rfl rfl) rfl rfl rfl ?_
       refine WL.q (oq_move rfl) rfl rfl rfl ?_
       refine WL.split 39 rfl (fun s7_6 => ?_) (fun s7_6 => ?_)
       ·
        try simp only [Z1, Z2, Z3, Z4, Z5, Z6, Z7, Z8, Z9, Z0] at s7_6
        refine WL.skip rfl rfl rfl ?_
        refine WL.skip rfl rfl rfl ?_
        refine WL.q (oq_pick_t rfl rfl) rfl rfl rfl ?_
        refine WL.q (oq_move rfl) rfl rfl rfl ?_
        refine WL.skip rfl rfl rfl ?_
        refine WL.skip rfl rfl rfl ?_
        refine WL.q (oq_pick_t rfl rfl) rfl rfl rfl ?_
        refine WL.q (oq_move rfl) rfl rfl rfl ?_
        refine WL.skip rfl rfl rfl ?_
        refine WL.skip rfl rfl rfl ?_
        refine WL.q (oq_pick_t rfl rfl) rfl rfl rfl ?_
        refine WL.q (oq_assign rfl) rfl rfl rfl ?_
        refine WL.nil (WE.then_normal (WC.sub (fr' := [(0, _), (5, _), (6, _), (32, _)]) ?_ ⟨rfl, rfl, rfl, rfl, trivial⟩))
        refine WC.cond_t rfl ?_
        refine WC.seq ?_
        omega
       ·
        try simp only [Z1, Z2, Z3, Z4, Z5, Z6, Z7, Z8, Z9, Z0] at s7_6
        refine WL.q (oq_move rfl) rfl rfl rfl ?_
        refine WL.q (oq_eql rfl rfl) rfl rfl rfl ?_
        refine WL.q (oq_pick_f rfl rfl) rfl rfl rfl ?_
        refine WL.q (oq_move rfl) rfl rfl rfl ?_
        refine WL.split 43 rfl (fun s7_10 => ?_) (fun s7_10 => ?_)
        ·
         try simp only [Z1, Z2, Z3, Z4, Z5, Z6, Z7, Z8, Z9, Z0] at s7_10
         refine WL.skip rfl rfl rfl ?_
         refine WL.skip rfl rfl rfl ?_
         refine WL.q (oq_pick_t rfl rfl) rfl rfl rfl ?_
         refine WL.q (oq_move rfl) rfl rfl rfl ?_
         refine WL.skip rfl rfl rfl ?_
         refine WL.skip rfl rfl rfl ?_
         refine WL.q (oq_pick_t rfl rfl) rfl rfl rfl ?_
         refine WL.q (oq_assign rfl) rfl rfl rfl ?_
         refine WL.nil (WE.then_normal (WC.sub (fr' := [(0, _), (5, _), (6, _), (32, _)]) ?_ ⟨rfl, rfl, rfl, rfl, trivial⟩))
         refine WC.cond_t rfl ?_
         refine WC.seq ?_
         omega
        ·
         try simp only [Z1, Z2, Z3, Z4, Z5, Z6, Z7, Z8, Z9, Z0] at s7_10
         refine WL.q (oq_move rfl) rfl rfl rfl ?_
         refine WL.q (oq_eql rfl rfl) rfl rfl rfl ?_
         refine WL.q (oq_pick_f rfl rfl) rfl rfl rfl ?_
         refine WL.q (oq_move rfl) rfl rfl rfl ?_
         refine WL.split 47 rfl (fun s7_14 => ?_) (fun s7_14 => ?_)
         ·
          try simp only [Z1, Z2, Z3, Z4, Z5, Z6, Z7, Z8, Z9, Z0] at s7_14
          refine WL.skip rfl rfl rfl ?_
          refine WL.skip rfl rfl rfl ?_
          refine WL.q (oq_pick_t rfl rfl) rfl rfl rfl ?_
          refine WL.q (oq_assign rfl) rfl rfl rfl ?_
          refine WL.nil (WE.then_normal (WC.sub (fr' := [(0, _), (5, _), (6, _), (32, _)]) ?_ ⟨rfl, rfl, rfl, rfl, trivial⟩))
          refine WC.cond_t rfl ?_
          refine WC.seq ?_
          omega
         ·
          try simp only [Z1, Z2, Z3, Z4, Z5, Z6, Z7, Z8, Z9, Z0] at s7_14
          refine WL.q (oq_move rfl) rfl rfl rfl ?_
          refine WL.q (oq_eql rfl rfl) rfl rfl rfl ?_
          refine WL.q (oq_pick_f rfl rfl) rfl rfl rfl ?_
          refine WL.q (oq_assign rfl) rfl rfl rfl ?_
          refine WL.nil (WE.then_normal (WC.sub (fr' := [(0, _), (5, _), (6, _), (32, _)]) ?_ ⟨rfl, rfl, rfl, rfl, trivial⟩))
          refine WC.cond rfl (fun q7 => ?_) (fun q7 => ?_)
          ·
           try simp only [Z1, Z2, Z3, Z4, Z5, Z6, Z7, Z8, Z9, Z0] at q7
           refine WC.seq ?_
           omega
          ·
           try simp only [Z1, Z2, Z3, Z4, Z5, Z6, Z7, Z8, Z9, Z0] at q7
           refine WC.seq (WC.region ?_)
           refine WL.q (oq_move rfl) rfl rfl rfl ?_
           refine WL.q (oq_eql rfl rfl) rfl rfl rfl ?_
           refine WL.q (oq_assign rfl) rfl rfl rfl ?_
           refine WL.nil (WE.then_normal (WC.sub (fr' := [(0, _), (5, _), (54, _)]) ?_ ⟨rfl, rfl, rfl, trivial⟩))
           refine WC.cond rfl (fun q10 => ?_) (fun q10 => ?_)
           ·
            try simp only [Z1, Z2, Z3, Z4, Z5, Z6, Z7, Z8, Z9, Z0] at q10
            refine WC.seq (WC.seq (WC.region ?_))
            refine WL.q (oq_move rfl) rfl rfl rfl ?_
            refine WL.q (oq_eql rfl rfl) rfl rfl rfl ?_
            refine WL.nil (WE.then_normal (WC.sub (fr' := [(0, _), (5, _), (58, _)]) ?_ ⟨rfl, rfl, rfl, trivial⟩))
            refine WC.cond rfl (fun q11 => ?_) (fun q11 => ?_)
            ·
             try simp only [Z1, Z2, Z3, Z4, Z5, Z6, Z7, Z8, Z9, Z0] at q11
             refine WC.seq ?_
             omega
            ·
             try simp only [Z1, Z2, Z3, Z4, Z5, Z6, Z7, Z8, Z9, Z0] at q11
             refine WC.skip (WE.then_normal (WC.sub (fr' := [(0, _), (5, _)]) ?_ ⟨rfl, rfl, trivial⟩))
             refine WC.seq (WC.quiet (by kernel_rfl) (by kernel_rfl) ?_)
             refine WQ.q (oq_move rfl) rfl rfl rfl ?_
             refine WQ.q (oq_move rfl) rfl rfl rfl ?_
             refine WQ.q (oq_slice_s0 Tryd.underlying9 rfl rfl (by (first | omega | (simp only [List.length_cons, List.length_nil, List.length_append, List.length_drop, List.length_take]; omega)))) rfl rfl rfl ?_
             refine WQ.q (oq_move rfl) rfl rfl rfl ?_
             refine WQ.q (oq_move rfl) rfl rfl rfl ?_
             refine WQ.q (oq_add rfl rfl (by rw [i64_lo, i64_hi]; (first | omega | (simp only [List.length_cons, List.length_nil, List.length_append, List.length_drop, List.length_take]; omega)))) rfl rfl rfl ?_
             refine WQ.q (oq_slice_s1 Tryd.underlying9 rfl rfl (by (first | omega | (simp only [List.length_cons, List.length_nil, List.length_append, List.length_drop, List.length_take]; omega)))) rfl rfl rfl ?_
             refine WQ.q (oq_assign rfl) rfl rfl rfl ?_
             refine WQ.q (oq_assign rfl) rfl rfl rfl ?_
             refine WQ.q (oq_assign rfl) rfl rfl rfl ?_
             refine WQ.nil (WE.then_normal (WC.sub (fr' := [(2, _), (3, _), (4, _)]) ?_ ⟨rfl, rfl, rfl, trivial⟩))
             refine WC.ret (WE.block_ret (WE.block_ret (WE.then_ret (WE.then_ret (WE.block_ret (WE.then_ret ?_))))))
             refine WE.end0 (.inl rfl) (res3 Tryd.results35 rfl rfl rfl) ?_
             have hi : i = sc.length := by omega
             subst hi
             have e1 : t.take sc.length = sc := by rw [← ht, List.take_left]
             have e2 : t.drop (sc.length + 1) = rest := by rw [← ht]; simp
             show Value.tuple #[S (t.take sc.length), S (t.drop (sc.length + 1)), _] = _
             rw [e1, e2]
           ·
            try simp only [Z1, Z2, Z3, Z4, Z5, Z6, Z7, Z8, Z9, Z0] at q10
            refine WC.seq ?_
            omega
      ·
       try simp only [Z1, Z2, Z3, Z4, Z5, Z6, Z7, Z8, Z9, Z0] at s7_2
       refine WL.skip rfl rfl rfl ?_
       refine WL.skip rfl rfl rfl ?_
       refine WL.q (oq_pick_f rfl rfl) rfl rfl rfl ?_
       refine WL.q (oq_move rfl) rfl rfl rfl ?_
       refine WL.q (oq_move rfl) rfl rfl rfl ?_
       refine WL.q (oq_eql rfl rfl) rfl rfl rfl ?_
       refine WL.q (oq_pick_f rfl rfl) rfl rfl rfl ?_
       refine WL.q (oq_move rfl) rfl rfl rfl ?_
       refine WL.split 43 rfl (fun s7_10 => ?_) (fun s7_10 => ?_)
       ·
        try simp only [Z1, Z2, Z3, Z4, Z5, Z6, Z7, Z8, Z9, Z0] at s7_10
        refine WL.skip rfl rfl rfl ?_
        refine WL.skip rfl rfl rfl ?_
        refine WL.q (oq_pick_t rfl rfl) rfl rfl rfl ?_
        refine WL.q (oq_move rfl) rfl rfl rfl ?_
        refine WL.skip rfl rfl rfl ?_
        refine WL.skip rfl rfl rfl ?_
        refine WL.q (oq_pick_t rfl rfl) rfl rfl rfl ?_
        refine WL.q (oq_assign rfl) rfl rfl rfl ?_
        refine WL.nil (WE.then_normal (WC.sub (fr' := [(0, _), (5, _), (6, _), (32, _)]) ?_ ⟨rfl, rfl, rfl, rfl, trivial⟩))
        refine WC.cond_t rfl ?_
        refine WC.seq ?_
        omega
       ·
        try simp only [Z1, Z2, Z3, Z4, Z5, Z6, Z7, Z8, Z9, Z0] at s7_10
        refine WL.q (oq_move rfl) rfl rfl rfl ?_
        refine WL.q (oq_eql rfl rfl) rfl rfl rfl ?_
        refine WL.q (oq_pick_f rfl rfl) rfl rfl rfl ?_
        refine WL.q (oq_move rfl) rfl rfl rfl ?_
        refine WL.split 47 rfl (fun s7_14 => ?_) (fun s7_14 => ?_)
        ·
         try simp only [Z1, Z2, Z3, Z4, Z5, Z6, Z7, Z8, Z9, Z0] at s7_14
         refine WL.skip rfl rfl rfl ?_
         refine WL.skip rfl rfl rfl ?_
         refine WL.q (oq_pick_t rfl rfl) rfl rfl rfl ?_
         refine WL.q (oq_assign rfl) rfl rfl rfl ?_
         refine WL.nil (WE.then_normal (WC.sub (fr' := [(0, _), (5, _), (6, _), (32, _)]) ?_ ⟨rfl, rfl, rfl, rfl, trivial⟩))
         refine WC.cond_t rfl ?_
         refine WC.seq ?_
         omega
        ·
         try simp only [Z1, Z2, Z3, Z4, Z5, Z6, Z7, Z8, Z9, Z0] at s7_14
         refine WL.q (oq_move rfl) rfl rfl rfl ?_
         refine WL.q (oq_eql rfl rfl) rfl rfl rfl ?_
         refine WL.q (oq_pick_f rfl rfl) rfl rfl rfl ?_
         refine WL.q (oq_assign rfl) rfl rfl rfl ?_
         refine WL.nil (WE.then_normal (WC.sub (fr' := [(0, _), (5, _), (6, _), (32, _)]) ?_ ⟨rfl, rfl, rfl, rfl, trivial⟩))
         refine WC.cond rfl (fun q7 => ?_) (fun q7 => ?_)
         ·
          try simp only [Z1, Z2, Z3, Z4, Z5, Z6, Z7, Z8, Z9, Z0] at q7
          refine WC.seq ?_
          omega
         ·
          try simp only [Z1, Z2, Z3, Z4, Z5, Z6, Z7, Z8, Z9, Z0] at q7
          refine WC.seq (WC.region ?_)
          refine WL.q (oq_move rfl) rfl rfl rfl ?_
          refine WL.q (oq_eql rfl rfl) rfl rfl rfl ?_
          refine WL.q (oq_assign rfl) rfl rfl rfl ?_
          refine WL.nil (WE.then_normal (WC.sub (fr' := [(0, _), (5, _), (54, _)]) ?_ ⟨rfl, rfl, rfl, trivial⟩))
          refine WC.cond rfl (fun q10 => ?_) (fun q10 => ?_)
          ·
           try simp only [Z1, Z2, Z3, Z4, Z5, Z6, Z7, Z8, Z9, Z0] at q10
           refine WC.seq (WC.seq (WC.region ?_))
           refine WL.q (oq_move rfl) rfl rfl rfl ?_
           refine WL.q (oq_eql rfl rfl) rfl rfl rfl ?_
           refine WL.nil (WE.then_normal (WC.sub (fr' := [(0, _), (5, _), (58, _)]) ?_ ⟨rfl, rfl, rfl, trivial⟩))
           refine WC.cond rfl (fun q11 => ?_) (fun q11 => ?_)
           ·
            try simp only [Z1, Z2, Z3, Z4, Z5, Z6, Z7, Z8, Z9, Z0] at q11
            refine WC.seq ?_
            omega
           ·
            try simp only [Z1, Z2, Z3, Z4, Z5, Z6, Z7, Z8, Z9, Z0] at q11
            refine WC.skip (WE.then_normal (WC.sub (fr' := [(0, _), (5, _)]) ?_ ⟨rfl, rfl, trivial⟩))
            refine WC.seq (WC.quiet (by kernel_rfl) (by kernel_rfl) ?_)
            refine WQ.q (oq_move rfl) rfl rfl rfl ?_
            refine WQ.q (oq_move rfl) rfl rfl rfl ?_
            refine WQ.q (oq_slice_s0 Tryd.underlying9 rfl rfl (by (first | omega | (simp only [List.length_cons, List.length_nil, List.length_append, List.length_drop, List.length_take]; omega)))) rfl rfl rfl ?_
            refine WQ.q (oq_move rfl) rfl rfl rfl ?_
            refine WQ.q (oq_move rfl) rfl rfl rfl ?_
            refine WQ.q (oq_add rfl rfl (by rw [i64_lo, i64_hi]; (first | omega | (simp only [List.length_cons, List.length_nil, List.length_append, List.length_drop, List.length_take]; omega)))) rfl rfl rfl ?_
            refine WQ.q (oq_slice_s1 Tryd.underlying9 rfl rfl (by (first | omega | (simp only [List.length_cons, List.length_nil, List.length_append, List.length_drop, List.length_take]; omega)))) rfl rfl rfl ?_
            refine WQ.q (oq_assign rfl) rfl rfl rfl ?_
            refine WQ.q (oq_assign rfl) rfl rfl rfl ?_
            refine WQ.q (oq_assign rfl) rfl rfl rfl ?_
            refine WQ.nil (WE.then_normal (WC.sub (fr' := [(2, _), (3, _), (4, _)]) ?_ ⟨rfl, rfl, rfl, trivial⟩))
            refine WC.ret (WE.block_ret (WE.block_ret (WE.then_ret (WE.then_ret (WE.block_ret (WE.then_ret ?_))))))
            refine WE.end0 (.inl rfl) (res3 Tryd.results35 rfl rfl rfl) ?_
            have hi : i = sc.length := by omega
            subst hi
            have e1 : t.take sc.length = sc := by rw [← ht, List.take_left]
            have e2 : t.drop (sc.length + 1) = rest := by rw [← ht]; simp
            show Value.tuple #[S (t.take sc.length), S (t.drop (sc.length + 1)), _] = _
            rw [e1, e2]
          ·
           try simp only [Z1, Z2, Z3, Z4, Z5, Z6, Z7, Z8, Z9, Z0] at q10
           refine WC.seq ?_
           omega
    ·
     try simp only [Z1, Z2, Z3, Z4, Z5, Z6, Z7, Z8, Z9, Z0] at s6_9
     refine WL.skip rfl rfl rfl ?_
     refine WL.skip rfl rfl rfl ?_
     refine WL.q (oq_pick_f rfl rfl) rfl rfl rfl ?_
     refine WL.q (oq_pick_f rfl rfl) rfl rfl rfl ?_
     refine WL.q (oq_assign rfl) rfl rfl rfl ?_
     refine WL.nil (WE.then_normal (WC.sub (fr' := [(0, _), (5, _), (6, _), (17, _)]) ?_ ⟨rfl, rfl, rfl, rfl, trivial⟩))
     refine WC.cond_f rfl ?_
     refine WC.seq (WC.region ?_)
     refine WL.q (oq_move rfl) rfl rfl rfl ?_
     refine WL.q (oq_leq rfl rfl) rfl rfl rfl ?_
     refine WL.q (oq_move rfl) rfl rfl rfl ?_
     refine WL.split 35 rfl (fun s7_2 => ?_) (fun s7_2 => ?_)
     ·
      try simp only [Z1, Z2, Z3, Z4, Z5, Z6, Z7, Z8, Z9, Z0] at s7_2
      refine WL.q (oq_move rfl) rfl rfl rfl ?_
      refine WL.q (oq_leq rfl rfl) rfl rfl rfl ?_
      refine WL.q (oq_pick_t rfl rfl) rfl rfl rfl ?_
      refine WL.q (oq_move rfl) rfl rfl rfl ?_
      refine WL.split 39 rfl (fun s7_6 => ?_) (fun s7_6 => ?_)
      ·
       try simp only [Z1, Z2, Z3, Z4, Z5, Z6, Z7, Z8, Z9, Z0] at s7_6
       refine WL.skip rfl rfl rfl ?_
       refine WL.skip rfl rfl rfl ?_
       refine WL.q (oq_pick_t rfl rfl) rfl rfl rfl ?_
       refine WL.q (oq_move rfl) rfl rfl rfl ?_
       refine WL.skip rfl rfl rfl ?_
       refine WL.skip rfl rfl rfl ?_
       refine WL.q (oq_pick_t rfl rfl) rfl rfl rfl ?_
       refine WL.q (oq_move rfl) rfl rfl rfl ?_
       refine WL.skip rfl rfl rfl ?_
       refine WL.skip rfl rfl rfl ?_
       refine WL.q (oq_pick_t rfl rfl) rfl rfl rfl ?_
       refine WL.q (oq_assign rfl) rfl rfl rfl ?_
       refine WL.nil (WE.then_normal (WC.sub (fr' := [(0, _), (5, _), (6, _), (32, _)]) ?_ ⟨rfl, rfl, rfl, rfl, trivial⟩))
       refine WC.cond_t rfl ?_
       refine WC.seq ?_
       omega
      ·
       try simp only [Z1, Z2, Z3, Z4, Z5, Z6, Z7, Z8, Z9, Z0] at s7_6
       refine WL.q (oq_move rfl) rfl rfl rfl ?_
       refine WL.q (oq_eql rfl rfl) rfl rfl rfl ?_
       refine WL.q (oq_pick_f rfl rfl) rfl rfl rfl ?_
       refine WL.q (oq_move rfl) rfl rfl rfl ?_
       refine WL.split 43 rfl (fun s7_10 => ?_) (fun s7_10 => ?_)
       ·
        try simp only [Z1, Z2, Z3, Z4, Z5, Z6, Z7, Z8, Z9, Z0] at s7_10
        refine WL.skip rfl rfl rfl ?_
        refine WL.skip rfl rfl rfl ?_
        refine WL.q (oq_pick_t rfl rfl) rfl rfl rfl ?_
        refine WL.q (oq_move rfl) rfl rfl rfl ?_
        refine WL.skip rfl rfl rfl ?_
        refine WL.skip rfl rfl rfl ?_
        refine WL.q (oq_pick_t rfl rfl) rfl rfl rfl ?_
        refine WL.q (oq_assign rfl) rfl rfl rfl ?_
        refine WL.nil (WE.then_normal (WC.sub (fr' := [(0, _), (5, _), (6, _), (32, _)]) ?_ ⟨rfl, rfl, rfl, rfl, trivial⟩))
        refine WC.cond_t rfl ?_
        refine WC.seq ?_
        omega
       ·
        try simp only [Z1, Z2, Z3, Z4, Z5, Z6, Z7, Z8, Z9, Z0] at s7_10
        refine WL.q (oq_move rfl) rfl rfl rfl ?_
        refine WL.q (oq_eql rfl rfl) rfl rfl rfl ?_
        refine WL.q (oq_pick_f rfl rfl) rfl rfl rfl ?_
        refine WL.q (oq_move rfl) rfl rfl rfl ?_
        refine WL.split 47 rfl (fun s7_14 => ?_) (fun s7_14 => ?_)
        ·
         try simp only [Z1, Z2, Z3, Z4, Z5, Z6, Z7, Z8, Z9, Z0] at s7_14
         refine WL.skip rfl rfl rfl ?_
         refine WL.skip rfl rfl rfl ?_
         refine WL.q (oq_pick_t rfl rfl) rfl rfl rfl ?_
         refine WL.q (oq_assign rfl) rfl rfl rfl ?_
         refine WL.nil (WE.then_normal (WC.sub (fr' := [(0, _), (5, _), (6, _), (32, _)]) ?_ ⟨rfl, rfl, rfl, rfl, trivial⟩))
         refine WC.cond_t rfl ?_
         refine WC.seq ?_
         omega
        ·
         try simp only [Z1, Z2, Z3, Z4, Z5, Z6, Z7, Z8, Z9, Z0] at s7_14
         refine WL.q (oq_move rfl) rfl rfl rfl ?_
         refine WL.q (oq_eql rfl rfl) rfl rfl rfl ?_
         refine WL.q (oq_pick_f rfl rfl) rfl rfl rfl ?_
         refine WL.q (oq_assign rfl) rfl rfl rfl ?_
         refine WL.nil (WE.then_normal (WC.sub (fr' := [(0, _), (5, _), (6, _), (32, _)]) ?_ ⟨rfl, rfl, rfl, rfl, trivial⟩))
         refine WC.cond rfl (fun q7 => ?_) (fun q7 => ?_)
         ·
          try simp only [Z1, Z2, Z3, Z4, Z5, Z6, Z7, Z8, Z9, Z0] at q7
          refine WC.seq ?_
          omega
         ·
          try simp only [Z1, Z2, Z3, Z4, Z5, Z6, Z7, Z8, Z9, Z0] at q7
          refine WC.seq (WC.region ?_)
          refine WL.q (oq_move rfl) rfl rfl rfl ?_
          refine WL.q (oq_eql rfl rfl) rfl rfl rfl ?_
          refine WL.q (oq_assign rfl) rfl rfl rfl ?_
          refine WL.nil (WE.then_normal (WC.sub (fr' := [(0, _), (5, _), (54, _)]) ?_ ⟨rfl, rfl, rfl, trivial⟩))
          refine WC.cond rfl (fun q10 => ?_) (fun q10 => ?_)
          ·
           try simp only [Z1, Z2, Z3, Z4, Z5, Z6, Z7, Z8, Z9, Z0] at q10
           refine WC.seq (WC.seq (WC.region ?_))
           refine WL.q (oq_move rfl) rfl rfl rfl ?_
           refine WL.q (oq_eql rfl rfl) rfl rfl rfl ?_
           refine WL.nil (WE.then_normal (WC.sub (fr' := [(0, _), (5, _), (58, _)]) ?_ ⟨rfl, rfl, rfl, trivial⟩))
           refine WC.cond rfl (fun q11 => ?_) (fun q11 => ?_)
           ·
            try simp only [Z1, Z2, Z3, Z4, Z5, Z6, Z7, Z8, Z9, Z0] at q11
            refine WC.seq ?_
            omega
           ·
            try simp only [Z1, Z2, Z3, Z4, Z5, Z6, Z7, Z8, Z9, Z0] at q11
            refine WC.skip (WE.then_normal (WC.sub (fr' := [(0, _), (5, _)]) ?_ ⟨rfl, rfl, trivial⟩))
            refine WC.seq (WC.quiet (by kernel_rfl) (by kernel_rfl) ?_)
            refine WQ.q (oq_move rfl) rfl rfl rfl ?_
            refine WQ.q (oq_move rfl) rfl rfl rfl ?_
            refine WQ.q (oq_slice_s0 Tryd.underlying9 rfl rfl (by (first | omega | (simp only [List.length_cons, List.length_nil, List.length_append, List.length_drop, List.length_take]; omega)))) rfl rfl rfl ?_
            refine WQ.q (oq_move rfl) rfl rfl rfl ?_
            refine WQ.q (oq_move rfl) rfl rfl rfl ?_
            refine WQ.q (oq_add rfl rfl (by rw [i64_lo, i64_hi]; (first | omega | (simp only [List.length_cons, List.length_nil, List.length_append, List.length_drop, List.length_take]; omega)))) rfl rfl rfl ?_
            refine WQ.q (oq_slice_s1 Tryd.underlying9 rfl rfl (by (first | omega | (simp only [List.length_cons, List.length_nil, List.length_append, List.length_drop, List.length_take]; omega)))) rfl rfl rfl ?_
            refine WQ.q (oq_assign rfl) rfl rfl rfl ?_
            refine WQ.q (oq_assign rfl) rfl rfl rfl ?_
            refine WQ.q (oq_assign rfl) rfl rfl rfl ?_
            refine WQ.nil (WE.then_normal (WC.sub (fr' := [(2, _), (3, _), (4, _)]) ?_ ⟨rfl, rfl, rfl, trivial⟩))
            refine WC.ret (WE.block_ret (WE.block_ret (WE.then_ret (WE.then_ret (WE.block_ret (WE.then_ret ?_))))))
            refine WE.end0 (.inl rfl) (res3 Tryd.results35 rfl rfl rfl) ?_
            have hi : i = sc.length := by omega
            subst hi
            have e1 : t.take sc.length = sc := by rw [← ht, List.take_left]
            have e2 : t.drop (sc.length + 1) = rest := by rw [← ht]; simp
            show Value.tuple #[S (t.take sc.length), S (t.drop (sc.length + 1)), _] = _
            rw [e1, e2]
          ·
           try simp only [Z1, Z2, Z3, Z4, Z5, Z6, Z7, Z8, Z9, Z0] at q10
           refine WC.seq ?_
           omega
     ·
      try simp only [Z1, Z2, Z3, Z4, Z5, Z6, Z7, Z8, Z9, Z0] at s7_2
      refine WL.skip rfl rfl rfl ?_
      refine WL.skip rfl rfl rfl ?_
      refine WL.q (oq_pick_f rfl rfl) rfl rfl rfl ?_
      refine WL.q (oq_move rfl) rfl rfl rfl ?_
      refine WL.q (oq_move rfl) rfl rfl rfl ?_
      refine WL.q (oq_eql rfl rfl) rfl rfl rfl ?_
      refine WL.q (oq_pick_f rfl rfl) rfl rfl rfl ?_
      refine WL.q (oq_move rfl) rfl rfl rfl ?_
      refine WL.split 43 rfl (fun s7_10 => ?_) (fun s7_10 => ?_)
      ·
       try simp only [Z1, Z2, Z3, Z4, Z5, Z6, Z7, Z8, Z9, Z0] at s7_10
       refine WL.skip rfl rfl rfl ?_
       refine WL.skip rfl rfl rfl ?_
       refine WL.q (oq_pick_t rfl rfl) rfl rfl rfl ?_
       refine WL.q (oq_move rfl) rfl rfl rfl ?_
       refine WL.skip rfl rfl rfl ?_
       refine WL.skip rfl rfl rfl ?_
       refine WL.q (oq_pick_t rfl rfl) rfl rfl rfl ?_
       refine WL.q (oq_assign rfl) rfl rfl rfl ?_
       refine WL.nil (WE.then_normal (WC.sub (fr' := [(0, _), (5, _), (6, _), (32, _)]) ?_ ⟨rfl, rfl, rfl, rfl, trivial⟩))
       refine WC.cond_t rfl ?_
       refine WC.seq ?_
       omega
      ·
       try simp only [Z1, Z2, Z3, Z4, Z5, Z6, Z7, Z8, Z9, Z0] at s7_10
       refine WL.q (oq_move rfl) rfl rfl rfl ?_
       refine WL.q (oq_eql rfl rfl) rfl rfl rfl ?_
       refine WL.q (oq_pick_f rfl rfl) rfl rfl rfl ?_
       refine WL.q (oq_move rfl) rfl rfl rfl ?_
       refine WL.split 47 rfl (fun s7_14 => ?_) (fun s7_14 => ?_)
       ·
        try simp only [Z1, Z2, Z3, Z4, Z5, Z6, Z7, Z8, Z9, Z0] at s7_14
        refine WL.skip rfl rfl rfl ?_
        refine WL.skip rfl rfl rfl ?_
        refine WL.q (oq_pick_t rfl rfl) rfl rfl rfl ?_
        refine WL.q (oq_assign rfl) rfl rfl rfl ?_
        refine WL.nil (WE.then_normal (WC.sub (fr' := [(0, _), (5, _), (6, _), (32, _)]) ?_ ⟨rfl, rfl, rfl, rfl, trivial⟩))
        refine WC.cond_t rfl ?_
        refine WC.seq ?_
        omega
       ·
        try simp only [Z1, Z2, Z3, Z4, Z5, Z6, Z7, Z8, Z9, Z0] at s7_14
        refine WL.q (oq_move rfl) rfl rfl rfl ?_
        refine WL.q (oq_eql rfl rfl) rfl rfl rfl ?_
        refine WL.q (oq_pick_f rfl rfl) rfl rfl rfl ?_
        refine WL.q (oq_assign rfl) rfl rfl rfl ?_
        refine WL.nil (WE.then_normal (WC.sub (fr' := [(0, _), (5, _), (6, _), (32, _)]) ?_ ⟨rfl, rfl, rfl, rfl, trivial⟩))
        refine WC.cond rfl (fun q7 => ?_) (fun q7 => ?_)
        ·
         try simp only [Z1, Z2, Z3, Z4, Z5, Z6, Z7, Z8, Z9, Z0] at q7
         refine WC.seq ?_
         omega
        ·
         try simp only [Z1, Z2, Z3, Z4, Z5, Z6, Z7, Z8, Z9, Z0] at q7
         refine WC.seq (WC.region ?_)
         refine WL.q (oq_move rfl) rfl rfl rfl ?_
         refine WL.q (oq_eql rfl rfl) rfl rfl rfl ?_
         refine WL.q (oq_assign rfl) rfl rfl rfl ?_
         refine WL.nil (WE.then_normal (WC.sub (fr' := [(0, _), (5, _), (54, _)]) ?_ ⟨rfl, rfl, rfl, trivial⟩))
         refine WC.cond rfl (fun q10 => ?_) (fun q10 => ?_)
         ·
          try simp only [Z1, Z2, Z3, Z4, Z5, Z6, Z7, Z8, Z9, Z0] at q10
          refine WC.seq (WC.seq (WC.region ?_))
          refine WL.q (oq_move rfl) rfl rfl rfl ?_
          refine WL.q (oq_eql rfl rfl) rfl rfl rfl ?_
          refine WL.nil (WE.then_normal (WC.sub (fr' := [(0, _), (5, _), (58, _)]) ?_ ⟨rfl, rfl, rfl, trivial⟩))
          refine WC.cond rfl (fun q11 => ?_) (fun q11 => ?_)
          ·
           try simp only [Z1, Z2, Z3, Z4, Z5, Z6, Z7, Z8, Z9, Z0] at q11
           refine WC.seq ?_
           omega
          ·
           try simp only [Z1, Z2, Z3, Z4, Z5, Z6, Z7, Z8, Z9, Z0] at q11
           refine WC.skip (WE.then_normal (WC.sub (fr' := [(0, _), (5, _)]) ?_ ⟨rfl, rfl, trivial⟩))
           refine WC.seq (WC.quiet (by kernel_rfl) (by kernel_rfl) ?_)
           refine WQ.q (oq_move rfl) rfl rfl rfl ?_
           refine WQ.q (oq_move rfl) rfl rfl rfl ?_
           refine WQ.q (oq_slice_s0 Tryd.underlying9 rfl rfl (by (first | omega | (simp only [List.length_cons, List.length_nil, List.length_append, List.length_drop, List.length_take]; omega)))) rfl rfl rfl ?_
           refine WQ.q (oq_move rfl) rfl rfl rfl ?_
           refine WQ.q (oq_move rfl) rfl rfl rfl ?_
           refine WQ.q (oq_add rfl rfl (by rw [i64_lo, i64_hi]; (first | omega | (simp only [List.length_cons, List.length_nil, List.length_append, List.length_drop, List.length_take]; omega)))) rfl rfl rfl ?_
           refine WQ.q (oq_slice_s1 Tryd.underlying9 rfl rfl (by (first | omega | (simp only [List.length_cons, List.length_nil, List.length_append, List.length_drop, List.length_take]; omega)))) rfl rfl rfl ?_
           refine WQ.q (oq_assign rfl) rfl rfl rfl ?_
           refine WQ.q (oq_assign rfl) rfl rfl rfl ?_
           refine WQ.q (oq_assign rfl) rfl rfl rfl ?_
           refine WQ.nil (WE.then_normal (WC.sub (fr' := [(2, _), (3, _), (4, _)]) ?_ ⟨rfl, rfl, rfl, trivial⟩))
           refine WC.ret (WE.block_ret (WE.block_ret (WE.then_ret (WE.then_ret (WE.block_ret (WE.then_ret ?_))))))
           refine WE.end0 (.inl rfl) (res3 Tryd.results35 rfl rfl rfl) ?_
           have hi : i = sc.length := by omega
           subst hi
           have e1 : t.take sc.length = sc := by rw [← ht, List.take_left]
           have e2 : t.drop (sc.length + 1) = rest := by rw [← ht]; simp
           show Value.tuple #[S (t.take sc.length), S (t.drop (sc.length + 1)), _] = _
           rw [e1, e2]
         ·
          try simp only [Z1, Z2, Z3, Z4, Z5, Z6, Z7, Z8, Z9, Z0] at q10
          refine WC.seq ?_
          omega
  ·
   try simp only [Z1, Z2, Z3, Z4, Z5, Z6, Z7, Z8, Z9, Z0] at q2
   refine WC.exit (WE.then_exit (WE.then_exit (WE.block_same (WE.then_normal (WC.sub (fr' := [(0, _)]) ?_ ⟨rfl, trivial⟩)))))
   refine WC.seq ?_
   omega
theorem lower (sc : List UInt8) (hl : Low sc) (hs : sc.length ≤ 4000000000) : FnA Tryd.prog 36 [S sc] [] (fun v N => v = S sc) := by
 refine FnA.enter0 (n := 29) Tryd.func36 rfl rfl fun w0 => ?_
 refine WC.sub (fr' := [(0, _)]) ?_ ⟨rfl, trivial⟩
 refine WC.seq (WC.region ?_)
 refine WL.q (oq_assign rfl) rfl rfl rfl ?_
 refine WL.nil (WE.then_normal (WC.sub (fr' := [(0, _)]) ?_ ⟨rfl, trivial⟩))
 refine WC.seq ?_
 refine WC.add0 ?_
 refine WC.region ?_
 refine WL.q (oq_assign rfl) rfl rfl rfl ?_
 refine WL.nil (WE.then_normal (WC.sub (fr' := [(0, _), (3, _)]) ?_ ⟨rfl, rfl, trivial⟩))
 refine WC.seq (WC.seq (WC.region ?_))
 refine WL.q (oq_move rfl) rfl rfl rfl ?_
 refine WL.q (oq_len_s Tryd.underlying9 rfl) rfl rfl rfl ?_
 refine WL.q (oq_move rfl) rfl rfl rfl ?_
 refine WL.nil (WE.then_normal (WC.sub (fr' := [(0, _), (3, _), (7, _), (8, _)]) ?_ ⟨rfl, rfl, rfl, rfl, trivial⟩))
 refine WC.block ?_
 refine WC.loop (ι := Nat × Value × Hp) (fun i_ => (fun (i : Nat) (u : Value) (B : Hp) => [(0, S sc), (3, u), (7, I (sc.length : Int)), (8, I (i : Int))]) i_.1 i_.2.1 i_.2.2) (fun i_ => (fun (i : Nat) (u : Value) (B : Hp) => [B]) i_.1 i_.2.1 i_.2.2) (fun i_ => (fun (i : Nat) (u : Value) (B : Hp) => i ≤ sc.length ∧ OwS w0.heap.size 5 1 u B i (bytesV (sc.take i))) i_.1 i_.2.1 i_.2.2) (fun i_ => (fun (i : Nat) (u : Value) (B : Hp) => sc.length - i) i_.1 i_.2.1 i_.2.2) ((0, _, _)) ?_ ⟨rfl, rfl, rfl, rfl, trivial⟩ (List.Perm.refl _) ?_
 ·try dsimp only
  exact ⟨by omega, OwS.nil _ _ _⟩
 ·rintro ⟨i, u, B⟩ hp
  try dsimp only at hp
  obtain ⟨hi, ho⟩ := hp
  show WC _ _ _ _ _ _ ([(0, S sc), (3, u), (7, I (sc.length : Int)), (8, I (i : Int))]) ([B])
  refine WC.seq (WC.region ?_)
  refine WL.q (oq_lss rfl rfl) rfl rfl rfl ?_
  refine WL.nil (WE.then_normal (WC.sub (fr' := [(0, _), (3, _), (7, _), (8, _), (9, _)]) ?_ ⟨rfl, rfl, rfl, rfl, rfl, trivial⟩))
  refine WC.seq ?_
  refine WC.cond rfl (fun q3 => ?_) (fun q3 => ?_)
  ·
   try simp only [Z1, Z2, Z3, Z4, Z5, Z6, Z7, Z8, Z9, Z0] at q3
   refine WC.skip (WE.then_normal (WC.sub (fr' := [(0, _), (3, _), (7, _), (8, _)]) ?_ ⟨rfl, rfl, rfl, rfl, trivial⟩))
   refine WC.seq (WC.block (WC.seq (WC.region ?_)))
   refine WL.q (oq_move rfl) rfl rfl rfl ?_
   refine WL.q (oq_assign rfl) rfl rfl rfl ?_
   refine WL.nil (WE.then_normal (WC.sub (fr' := [(0, _), (3, _), (4, _), (7, _), (8, _)]) ?_ ⟨rfl, rfl, rfl, rfl, rfl, trivial⟩))
   refine WC.seq (WC.region ?_)
   refine WL.q (oq_move rfl) rfl rfl rfl ?_
   refine WL.q (oq_move rfl) rfl rfl rfl ?_
   refine WL.index_s Tryd.underlying9 rfl rfl (by (first | omega | (simp only [List.length_cons, List.length_nil, List.length_append, List.length_drop, List.length_take]; omega))) rfl rfl fun c5_2 hc5_2 hc5_2l hc5_2u => ?_
   refine WL.q (oq_assign rfl) rfl rfl rfl ?_
   refine WL.nil (WE.then_normal (WC.sub (fr' := [(0, _), (3, _), (5, _), (7, _), (8, _)]) ?_ ⟨rfl, rfl, rfl, rfl, rfl, trivial⟩))
   refine WC.seq (WC.seq ?_)
   have hcs := low_in hl (by omega) hc5_2
   refine WC.region ?_
   refine WL.q (oq_move rfl) rfl rfl rfl ?_
   refine WL.q (oq_leq rfl rfl) rfl rfl rfl ?_
   refine WL.q (oq_move rfl) rfl rfl rfl ?_
   refine WL.split 16 rfl (fun s6_2 => ?_) (fun s6_2 => ?_)
   ·
    try simp only [Z1, Z2, Z3, Z4, Z5, Z6, Z7, Z8, Z9, Z0] at s6_2
    refine WL.q (oq_move rfl) rfl rfl rfl ?_
    refine WL.q (oq_leq rfl rfl) rfl rfl rfl ?_
    refine WL.q (oq_pick_t rfl rfl) rfl rfl rfl ?_
    refine WL.nil (WE.then_normal (WC.sub (fr' := [(0, _), (3, _), (5, _), (7, _), (8, _), (19, _)]) ?_ ⟨rfl, rfl, rfl, rfl, rfl, rfl, trivial⟩))
    refine WC.cond rfl (fun q6 => ?_) (fun q6 => ?_)
    ·
     try simp only [Z1, Z2, Z3, Z4, Z5, Z6, Z7, Z8, Z9, Z0] at q6
     omega
    ·
     try simp only [Z1, Z2, Z3, Z4, Z5, Z6, Z7, Z8, Z9, Z0] at q6
     refine WC.skip (WE.then_normal (WC.sub (fr' := [(0, _), (3, _), (5, _), (7, _), (8, _)]) ?_ ⟨rfl, rfl, rfl, rfl, rfl, trivial⟩))
     refine WC.region ?_
     refine WL.q (oq_move rfl) rfl rfl rfl ?_
     refine WL.q (oq_move rfl) rfl rfl rfl ?_
     refine WL.append1 ho Tryd.underlying55 ty5 rfl (by decide) (fun _ => rfl) rfl rfl (by unfold maxLen; omega) (by omega) rfl rfl (fun _ => rfl) rfl fun v8 A8 u8 ho8 hne8 => ?_
     refine WL.q (oq_assign rfl) rfl rfl rfl ?_
     refine WL.nil (WE.block_normal (WE.then_normal (WC.sub (fr' := [(0, _), (3, _), (7, _), (8, _)]) ?_ ⟨rfl, rfl, rfl, rfl, trivial⟩)))
     refine WC.region ?_
     refine WL.q (oq_add rfl rfl (by rw [i64_lo, i64_hi]; (first | omega | (simp only [List.length_cons, List.length_nil, List.length_append, List.length_drop, List.length_take]; omega)))) rfl rfl rfl ?_
     refine WL.q (oq_move rfl) rfl rfl rfl ?_
     refine WL.nil ?_
     refine WE.again (i + 1, _, _) ?_ ?_ ⟨rfl, rfl, rfl, rfl, trivial⟩ (List.Perm.refl _)
     ·try dsimp only
      exact ⟨by omega, by rw [← bytes_snoc (by omega) hc5_2]; exact ho8⟩
     ·(try dsimp only); omega
   ·
    try simp only [Z1, Z2, Z3, Z4, Z5, Z6, Z7, Z8, Z9, Z0] at s6_2
    refine WL.skip rfl rfl rfl ?_
    refine WL.skip rfl rfl rfl ?_
    refine WL.q (oq_pick_f rfl rfl) rfl rfl rfl ?_
    refine WL.nil (WE.then_normal (WC.sub (fr' := [(0, _), (3, _), (5, _), (7, _), (8, _), (19, _)]) ?_ ⟨rfl, rfl, rfl, rfl, rfl, rfl, trivial⟩))
    refine WC.cond_f rfl ?_
    refine WC.skip (WE.then_normal (WC.sub (fr' := [(0, _), (3, _), (5, _), (7, _), (8, _)]) ?_ ⟨rfl, rfl, rfl, rfl, rfl, trivial⟩))
    refine WC.region ?_
    refine WL.q (oq_move rfl) rfl rfl rfl ?_
    refine WL.q (oq_move rfl) rfl rfl rfl ?_
    refine WL.append1 ho Tryd.underlying55 ty5 rfl (by decide) (fun _ => rfl) rfl rfl (by unfold maxLen; omega) (by omega) rfl rfl (fun _ => rfl) rfl fun v8 A8 u8 ho8 hne8 => ?_
    refine WL.q (oq_assign rfl) rfl rfl rfl ?_
    refine WL.nil (WE.block_normal (WE.then_normal (WC.sub (fr' := [(0, _), (3, _), (7, _), (8, _)]) ?_ ⟨rfl, rfl, rfl, rfl, trivial⟩)))
    refine WC.region ?_
    refine WL.q (oq_add rfl rfl (by rw [i64_lo, i64_hi]; (first | omega | (simp only [List.length_cons, List.length_nil, List.length_append, List.length_drop, List.length_take]; omega)))) rfl rfl rfl ?_
    refine WL.q (oq_move rfl) rfl rfl rfl ?_
    refine WL.nil ?_
    refine WE.again (i + 1, _, _) ?_ ?_ ⟨rfl, rfl, rfl, rfl, trivial⟩ (List.Perm.refl _)
    ·try dsimp only
     exact ⟨by omega, by rw [← bytes_snoc (by omega) hc5_2]; exact ho8⟩
    ·(try dsimp only); omega
  ·
   try simp only [Z1, Z2, Z3, Z4, Z5, Z6, Z7, Z8, Z9, Z0] at q3
   refine WC.exit (WE.then_exit (WE.then_exit (WE.block_same (WE.then_normal (WC.sub (fr' := [(3, _)]) ?_ ⟨rfl, trivial⟩)))))
   refine WC.seq (WC.region ?_)
   refine WL.q (oq_move rfl) rfl rfl rfl ?_
   refine WL.q (oq_bytesStr ho.rd (.head _) Tryd.underlying9 Tryd.underlying55 Tryd.underlying5 rfl) rfl rfl rfl ?_
   refine WL.q (oq_assign rfl) rfl rfl rfl ?_
   refine WL.nil (WE.then_normal (WC.sub (fr' := [(2, _)]) ?_ ⟨rfl, trivial⟩))
   refine WC.ret ?_
   refine WE.forget ho.fresh ?_
   refine WE.add0 ?_
   refine WE.endA0 (.inl rfl) (res1 Tryd.results36 rfl) ?_ fresh0
   obtain rfl : i = sc.length := by omega
   rw [List.take_length]
theorem validPort (p : List UInt8) (hp : PortOk p) (hs : p.length ≤ 4000000000) : Fn0 Tryd.prog 66 [S p] (.bool true) := by
 refine Fn0.enter (n := 22) Tryd.func66 rfl rfl fun w0 => ?_
 refine WC.sub (fr' := [(0, _)]) ?_ ⟨rfl, trivial⟩
 refine WC.seq (WC.region ?_)
 refine WL.q (oq_assign rfl) rfl rfl rfl ?_
 refine WL.nil (WE.then_normal (WC.sub (fr' := [(0, _)]) ?_ ⟨rfl, trivial⟩))
 refine WC.seq (WC.seq (WC.region ?_))
 refine WL.q (oq_move rfl) rfl rfl rfl ?_
 refine WL.q (oq_seql rfl rfl) rfl rfl rfl ?_
 refine WL.nil (WE.then_normal (WC.sub (fr' := [(0, _), (6, _)]) ?_ ⟨rfl, rfl, trivial⟩))
 refine WC.cond rfl (fun q1 => ?_) (fun q1 => ?_)
 ·
  try simp only [Z1, Z2, Z3, Z4, Z5, Z6, Z7, Z8, Z9, Z0] at q1
  refine WC.seq (WC.region ?_)
  refine WL.q (oq_assign rfl) rfl rfl rfl ?_
  refine WL.nil (WE.then_normal (WC.sub (fr' := [(2, _)]) ?_ ⟨rfl, trivial⟩))
  refine WC.ret (WE.then_ret ?_)
  refine WE.end0 (.inl rfl) (res1 Tryd.results66 rfl) ?_
  rfl
 ·
  try simp only [Z1, Z2, Z3, Z4, Z5, Z6, Z7, Z8, Z9, Z0] at q1
  refine WC.skip (WE.then_normal (WC.sub (fr' := [(0, _)]) ?_ ⟨rfl, trivial⟩))
  refine WC.seq (WC.seq ?_)
  obtain ⟨d, rfl, hd0, hd⟩ : ∃ d, p = 58 :: d ∧ d ≠ [] ∧ allIn DSET d = true := by
   rcases hp with h | h
   ·exact absurd (by rw [h]; rfl) q1
   ·exact h
  refine WC.region ?_
  refine WL.q (oq_move rfl) rfl rfl rfl ?_
  refine WL.index_s Tryd.underlying9 rfl rfl (by (first | omega | (simp only [List.length_cons, List.length_nil, List.length_append, List.length_drop, List.length_take]; omega))) rfl rfl fun c3_1 hc3_1 hc3_1l hc3_1u => ?_
  refine WL.q (oq_neq rfl rfl) rfl rfl rfl ?_
  refine WL.nil (WE.then_normal (WC.sub (fr' := [(0, _), (9, _)]) ?_ ⟨rfl, rfl, trivial⟩))
  refine WC.cond rfl (fun q3 => ?_) (fun q3 => ?_)
  ·
   try simp only [Z1, Z2, Z3, Z4, Z5, Z6, Z7, Z8, Z9, Z0] at q3
   refine WC.seq ?_
   exact absurd hc3_1 q3
  ·
   try simp only [Z1, Z2, Z3, Z4, Z5, Z6, Z7, Z8, Z9, Z0] at q3
   refine WC.skip (WE.then_normal (WC.sub (fr' := [(0, _)]) ?_ ⟨rfl, trivial⟩))
   refine WC.seq (WC.seq (WC.region ?_))
   refine WL.q (oq_move rfl) rfl rfl rfl ?_
   refine WL.q (oq_slice_s1 Tryd.underlying9 rfl rfl (by (first | omega | (simp only [List.length_cons, List.length_nil, List.length_append, List.length_drop, List.length_take]; omega)))) rfl rfl rfl ?_
   refine WL.range_s Tryd.underlying9 rfl rfl rfl fun b hb => ?_
   refine WL.nil (WE.then_normal (WC.sub (fr' := [(12, _)]) ?_ ⟨rfl, trivial⟩))
   refine WC.block ?_
   refine WC.loop (ι := Nat) (fun (i : Nat) => [(12, Pt b 0)]) (fun (i : Nat) => [[(b, .stringIter ⟨⟨d⟩⟩ i)]]) (fun (i : Nat) => i ≤ d.length) (fun (i : Nat) => d.length + 1 - i) (0) ?_ ⟨rfl, trivial⟩ (List.Perm.refl _) ?_
   ·try dsimp only
    omega
   ·rintro i hp
    try dsimp only at hp
    show WC _ _ _ _ _ _ ([(12, Pt b 0)]) ([[(b, .stringIter ⟨⟨d⟩⟩ i)]])
    refine WC.seq (WC.region ?_)
    refine WL.next_s rfl rfl rfl (fun n6 => ?_) (fun n6 => ?_)
    ·
     refine WL.q (oq_extract rfl rfl) rfl rfl rfl ?_
     refine WL.nil (WE.then_normal (WC.sub (fr' := [(12, _), (13, _), (14, _)]) ?_ ⟨rfl, rfl, rfl, trivial⟩))
     refine WC.seq ?_
     refine WC.cond_t rfl ?_
     refine WC.skip (WE.then_normal (WC.sub (fr' := [(12, _), (13, _)]) ?_ ⟨rfl, rfl, trivial⟩))
     refine WC.block (WC.seq (WC.region ?_))
     refine WL.q (oq_extract rfl rfl) rfl rfl rfl ?_
     refine WL.q (oq_assign rfl) rfl rfl rfl ?_
     refine WL.nil (WE.then_normal (WC.sub (fr' := [(4, _), (12, _)]) ?_ ⟨rfl, rfl, trivial⟩))
     refine WC.seq (WC.region ?_)
     refine WL.q (oq_move rfl) rfl rfl rfl ?_
     refine WL.q (oq_lss rfl rfl) rfl rfl rfl ?_
     refine WL.q (oq_move rfl) rfl rfl rfl ?_
     refine WL.split 18 rfl (fun s8_2 => ?_) (fun s8_2 => ?_)
     ·
      try simp only [Z1, Z2, Z3, Z4, Z5, Z6, Z7, Z8, Z9, Z0] at s8_2
      refine WL.skip rfl rfl rfl ?_
      refine WL.skip rfl rfl rfl ?_
      refine WL.q (oq_pick_t rfl rfl) rfl rfl rfl ?_
      refine WL.nil (WE.then_normal (WC.sub (fr' := [(12, _), (21, _)]) ?_ ⟨rfl, rfl, trivial⟩))
      refine WC.cond_t rfl ?_
      refine WC.seq ?_
      have e2 := dig_dec hd n6; omega
     ·
      try simp only [Z1, Z2, Z3, Z4, Z5, Z6, Z7, Z8, Z9, Z0] at s8_2
      refine WL.q (oq_move rfl) rfl rfl rfl ?_
      refine WL.q (oq_gtr rfl rfl) rfl rfl rfl ?_
      refine WL.q (oq_pick_f rfl rfl) rfl rfl rfl ?_
      refine WL.nil (WE.then_normal (WC.sub (fr' := [(12, _), (21, _)]) ?_ ⟨rfl, rfl, trivial⟩))
      refine WC.cond rfl (fun q8 => ?_) (fun q8 => ?_)
      ·
       try simp only [Z1, Z2, Z3, Z4, Z5, Z6, Z7, Z8, Z9, Z0] at q8
       refine WC.seq ?_
       have e2 := dig_dec hd n6; omega
      ·
       try simp only [Z1, Z2, Z3, Z4, Z5, Z6, Z7, Z8, Z9, Z0] at q8
       refine WC.skip (WE.block_normal ?_)
       have e2 := dig_dec hd n6
       refine WE.again (i + 1) ?_ ?_ ⟨rfl, trivial⟩ (by rw [e2.2.2])
       ·try dsimp only
        omega
       ·(try dsimp only); omega
    ·
     refine WL.q (oq_extract rfl rfl) rfl rfl rfl ?_
     refine WL.nil (WE.then_normal (WC.sub (fr' := [(12, _), (13, _), (14, _)]) ?_ ⟨rfl, rfl, rfl, trivial⟩))
     refine WC.seq ?_
     refine WC.cond_f rfl ?_
     refine WC.exit (WE.then_exit (WE.then_exit (WE.block_same (WE.then_normal (WC.sub (fr' := []) ?_ trivial)))))
     refine WC.seq (WC.region ?_)
     refine WL.q (oq_assign rfl) rfl rfl rfl ?_
     refine WL.nil (WE.then_normal (WC.sub (fr' := [(2, _)]) ?_ ⟨rfl, trivial⟩))
     refine WC.ret ?_
     refine WE.lose hb ?_
     refine WE.end0 (.inl rfl) (res1 Tryd.results66 rfl) ?_
     rfl
end M2
end Go.Proofs.YtefaegocllppkaaDoor
/- What is written with percent signs. -/
namespace Go.Proofs.YtefaegocllppkaaDoor
open Go Go.RowKit V L0 L1 L2 M0 M1 M2
set_option linter.unusedSimpArgs false
set_option linter.unusedVariables false
set_option maxRecDepth 10000
namespace M3
theorem call56 : Callable Tryd.prog 56 := ⟨_, Tryd.func56, rfl, by kernel_rfl⟩
theorem flat5 : Flat Tryd.prog 5 := ⟨_, Tryd.underlying5, by simp⟩
theorem flat77 : Flat Tryd.prog 77 := ⟨_, Tryd.underlying77, by simp⟩
theorem ty5 : Ty Tryd.prog 5 (.int .u8 0) 1 1 := ty_of (by kernel_rfl)
theorem ty77 : Ty Tryd.prog 77 (.int .u8 0) 1 1 := ty_of (by kernel_rfl)
theorem ty102 : Ty Tryd.prog 102 (.agg #[(.int .u8 0), (.int .u8 0), (.int .u8 0), (.int .u8 0), (.int .u8 0), (.int .u8 0), (.int .u8 0), (.int .u8 0), (.int .u8 0), (.int .u8 0), (.int .u8 0), (.int .u8 0), (.int .u8 0), (.int .u8 0), (.int .u8 0), (.int .u8 0), (.int .u8 0), (.int .u8 0), (.int .u8 0), (.int .u8 0), (.int .u8 0), (.int .u8 0), (.int .u8 0), (.int .u8 0), (.int .u8 0), (.int .u8 0), (.int .u8 0), (.int .u8 0), (.int .u8 0), (.int .u8 0), (.int .u8 0), (.int .u8 0), (.int .u8 0), (.int .u8 0), (.int .u8 0), (.int .u8 0), (.int .u8 0), (.int .u8 0), (.int .u8 0), (.int .u8 0), (.int .u8 0), (.int .u8 0), (.int .u8 0), (.int .u8 0), (.int .u8 0), (.int .u8 0), (.int .u8 0), (.int .u8 0), (.int .u8 0), (.int .u8 0), (.int .u8 0), (.int .u8 0), (.int .u8 0), (.int .u8 0), (.int .u8 0), (.int .u8 0), (.int .u8 0), (.int .u8 0), (.int .u8 0), (.int .u8 0), (.int .u8 0), (.int .u8 0), (.int .u8 0), (.int .u8 0)]) 64 64 := ty_of (by kernel_rfl)
def tabZ : List Int := match (Rows.laid_given_example_pub_tinwright_pub_neturl_table : DataW Unit) with
 | .agg l => l.map fun d => match d with | .lit (.int _ z) => z | _ => 0
 | _ => []
def tz (c : Nat) : Int := tabZ.getD c 0
def Tb (G : Hp) : Prop := ∃ cs e fz, (1, .cells cs e fz) ∈ G ∧ ∀ c : Nat, c < 256 → cs[c]? = some (Value.int .u8 (tz c))
def esc (m : Int) (c : Nat) : Bool := decide (bitOp .and .u8 (tz c) m = 0)
theorem host_esc : ∀ c ∈ 58 :: HSET, esc 4 c.toNat = false := by decide +kernel
theorem no37 {s : List UInt8} {i : Nat} {x : Int} (hi : i < s.length) (h : (37 : UInt8) ∉ s) (hx : x = byteAt s (i : Int)) : ¬ x = 37 := fun e => h (by
 rw [byteAt_get s i hi] at hx
 have : s[i] = 37 := UInt8.toNat_inj.1 (by show s[i].toNat = 37; omega)
 rw [← this]; exact List.getElem_mem hi)
theorem esc_no {s : List UInt8} {i : Nat} {x : Int} (hi : i < s.length) (h : ∀ c ∈ s, esc 4 c.toNat = false) (hx : x = byteAt s (i : Int)) : esc 4 x.toNat = false := by
 rw [hx, byteAt_get s i hi, Int.toNat_natCast]; exact h _ (List.getElem_mem hi)
def cnt (l : List UInt8) : Nat := (l.filter (fun c => esc 1 c.toNat)).length
theorem cnt_le (l : List UInt8) : cnt l ≤ l.length := List.length_filter_le _ _
theorem cnt_step {s : List UInt8} {i : Nat} {x : Int} (hi : i < s.length) (hx : x = byteAt s (i : Int)) : cnt (s.take (i + 1)) = cnt (s.take i) + (if esc 1 x.toNat = true then 1 else 0) ∧ cnt (s.take (i + 1)) ≤ cnt s := by
 refine ⟨?_, ?_⟩
 ·unfold cnt
  rw [List.take_succ_eq_append_getElem hi, List.filter_append, List.length_append, hx, byteAt_get s i hi, Int.toNat_natCast]
  cases h : esc 1 s[i].toNat <;> simp [h]
 ·unfold cnt
  have e : s.filter (fun c => esc 1 c.toNat) = (s.take (i + 1)).filter (fun c => esc 1 c.toNat) ++ (s.drop (i + 1)).filter (fun c => esc 1 c.toNat) := by rw [← List.filter_append, List.take_append_drop]
  rw [e, List.length_append]; omega
theorem shEsc (G : Hp) (hG : Tb G) (c m : Int) (hc : 0 ≤ c ∧ c < 256) : FnR Tryd.prog 56 [.int .u8 c, .int .u8 m] G (.bool (esc m c.toNat)) := by
 obtain ⟨cs, e, fz, hm, hcs⟩ := hG
 obtain ⟨n, rfl⟩ := Int.eq_ofNat_of_zero_le hc.1
 refine FnR.enter (n := 11) Tryd.func56 rfl rfl fun w0 => ?_
 refine WC.sub (fr' := [(0, _), (1, _)]) ?_ ⟨rfl, rfl, trivial⟩
 refine WC.seq (WC.region ?_)
 refine WL.q (oq_assign rfl) rfl rfl rfl ?_
 refine WL.nil (WE.then_normal (WC.sub (fr' := [(0, _), (1, _)]) ?_ ⟨rfl, rfl, trivial⟩))
 refine WC.seq (WC.region ?_)
 refine WL.q (oq_move rfl) rfl rfl rfl ?_
 refine WL.q (oq_ixArr (i := n) (b := 1) (off := 0) Tryd.underlying116 ty77 rfl rfl (by omega)) rfl rfl rfl ?_
 refine WL.q (oq_load flat77 rfl (.head _) hm (by rw [Nat.zero_add]; exact hcs n (by omega))) rfl rfl rfl ?_
 refine WL.q (oq_move rfl) rfl rfl rfl ?_
 refine WL.q (oq_bits (op := .and) rfl rfl (by simp)) rfl rfl rfl ?_
 refine WL.q (oq_eql rfl rfl) rfl rfl rfl ?_
 refine WL.q (oq_assign rfl) rfl rfl rfl ?_
 refine WL.nil (WE.then_normal (WC.sub (fr' := [(4, _)]) ?_ ⟨rfl, trivial⟩))
 refine WC.ret ?_
 refine WE.endR (.inl rfl) (res1 Tryd.results56 rfl) ?_
 rfl
theorem unesc1 (G : Hp) (hG : Tb G) (s : List UInt8) (hs : s.length ≤ 4000000000) (h37 : (37 : UInt8) ∉ s) : FnR Tryd.prog 41 [S s, .int .u8 1] G (.tuple #[S s, .nilIface]) := by
 refine FnR.enter (n := 199) Tryd.func41 rfl rfl fun w0 => ?_
 refine WC.sub (fr' := [(0, _), (1, _)]) ?_ ⟨rfl, rfl, trivial⟩
 refine WC.seq (WC.region ?_)
 refine WL.q (oq_assign rfl) rfl rfl rfl ?_
 refine WL.q (oq_assign rfl) rfl rfl rfl ?_
 refine WL.nil (WE.then_normal (WC.sub (fr' := [(0, _), (1, _)]) ?_ ⟨rfl, rfl, trivial⟩))
 refine WC.seq (WC.region ?_)
 refine WL.q (oq_assign rfl) rfl rfl rfl ?_
 refine WL.nil (WE.then_normal (WC.sub (fr' := [(0, _), (1, _), (6, _)]) ?_ ⟨rfl, rfl, rfl, trivial⟩))
 refine WC.seq (WC.region ?_)
 refine WL.q (oq_assign rfl) rfl rfl rfl ?_
 refine WL.nil (WE.then_normal (WC.sub (fr' := [(0, _), (1, _), (6, _), (7, _)]) ?_ ⟨rfl, rfl, rfl, rfl, trivial⟩))
 refine WC.seq (WC.seq (WC.region ?_))
 refine WL.q (oq_assign rfl) rfl rfl rfl ?_
 refine WL.nil (WE.then_normal (WC.sub (fr' := [(0, _), (1, _), (6, _), (7, _), (8, _)]) ?_ ⟨rfl, rfl, rfl, rfl, rfl, trivial⟩))
 refine WC.block ?_
 refine WC.loop (ι := Nat) (fun (i : Nat) => [(0, S s), (1, .int .u8 1), (6, I 0), (7, .bool false), (8, I (i : Int))]) (fun (i : Nat) => [G]) (fun (i : Nat) => i ≤ s.length) (fun (i : Nat) => s.length - i) (0) ?_ ⟨rfl, rfl, rfl, rfl, rfl, trivial⟩ (List.Perm.refl _) ?_
 ·try dsimp only
  omega
 ·rintro i hp
  try dsimp only at hp
  show WC _ _ _ _ _ _ ([(0, S s), (1, .int .u8 1), (6, I 0), (7, .bool false), (8, I (i : Int))]) ([G])
  refine WC.seq (WC.seq (WC.region ?_))
  refine WL.q (oq_move rfl) rfl rfl rfl ?_
  refine WL.q (oq_move rfl) rfl rfl rfl ?_
  refine WL.q (oq_len_s Tryd.underlying9 rfl) rfl rfl rfl ?_
  refine WL.q (oq_lss rfl rfl) rfl rfl rfl ?_
  refine WL.nil (WE.then_normal (WC.sub (fr' := [(0, _), (1, _), (6, _), (7, _), (8, _), (16, _)]) ?_ ⟨rfl, rfl, rfl, rfl, rfl, rfl, trivial⟩))
  refine WC.cond rfl (fun q4 => ?_) (fun q4 => ?_)
  ·
   try simp only [Z1, Z2, Z3, Z4, Z5, Z6, Z7, Z8, Z9, Z0] at q4
   refine WC.skip (WE.then_normal (WC.sub (fr' := [(0, _), (1, _), (6, _), (7, _), (8, _)]) ?_ ⟨rfl, rfl, rfl, rfl, rfl, trivial⟩))
   refine WC.block (WC.seq (WC.region ?_))
   refine WL.q (oq_move rfl) rfl rfl rfl ?_
   refine WL.q (oq_move rfl) rfl rfl rfl ?_
   refine WL.index_s Tryd.underlying9 rfl rfl (by (first | omega | (simp only [List.length_cons, List.length_nil, List.length_append, List.length_drop, List.length_take]; omega))) rfl rfl fun c5_2 hc5_2 hc5_2l hc5_2u => ?_
   refine WL.nil (WE.then_normal (WC.sub (fr' := [(0, _), (1, _), (6, _), (7, _), (8, _), (19, _)]) ?_ ⟨rfl, rfl, rfl, rfl, rfl, rfl, trivial⟩))
   refine WC.block (WC.seq ?_)
   have hn37 := no37 (by omega) h37 hc5_2
   refine WC.region ?_
   refine WL.q (oq_eql rfl rfl) rfl rfl rfl ?_
   refine WL.q (oq_assign rfl) rfl rfl rfl ?_
   refine WL.nil (WE.then_normal (WC.sub (fr' := [(0, _), (1, _), (6, _), (7, _), (8, _), (19, _), (47, _)]) ?_ ⟨rfl, rfl, rfl, rfl, rfl, rfl, rfl, trivial⟩))
   refine WC.cond rfl (fun q9 => ?_) (fun q9 => ?_)
   ·
    try simp only [Z1, Z2, Z3, Z4, Z5, Z6, Z7, Z8, Z9, Z0] at q9
    refine WC.seq ?_
    exact absurd q9 hn37
   ·
    try simp only [Z1, Z2, Z3, Z4, Z5, Z6, Z7, Z8, Z9, Z0] at q9
    refine WC.seq (WC.region ?_)
    refine WL.q (oq_eql rfl rfl) rfl rfl rfl ?_
    refine WL.q (oq_assign rfl) rfl rfl rfl ?_
    refine WL.nil (WE.then_normal (WC.sub (fr' := [(0, _), (1, _), (6, _), (7, _), (8, _), (142, _)]) ?_ ⟨rfl, rfl, rfl, rfl, rfl, rfl, trivial⟩))
    refine WC.cond rfl (fun q23 => ?_) (fun q23 => ?_)
    ·
     try simp only [Z1, Z2, Z3, Z4, Z5, Z6, Z7, Z8, Z9, Z0] at q23
     refine WC.seq (WC.region ?_)
     refine WL.q (oq_move rfl) rfl rfl rfl ?_
     refine WL.q (oq_eql rfl rfl) rfl rfl rfl ?_
     refine WL.q (oq_assign rfl) rfl rfl rfl ?_
     refine WL.nil (WE.then_normal (WC.sub (fr' := [(0, _), (1, _), (6, _), (7, _), (8, _)]) ?_ ⟨rfl, rfl, rfl, rfl, rfl, trivial⟩))
     refine WC.region ?_
     refine WL.q (oq_move rfl) rfl rfl rfl ?_
     refine WL.q (oq_add rfl rfl (by rw [i64_lo, i64_hi]; (first | omega | (simp only [List.length_cons, List.length_nil, List.length_append, List.length_drop, List.length_take]; omega)))) rfl rfl rfl ?_
     refine WL.q (oq_assign rfl) rfl rfl rfl ?_
     refine WL.nil (WE.block_normal (WE.block_normal ?_))
     refine WE.again (i + 1) ?_ ?_ ⟨rfl, rfl, rfl, rfl, rfl, trivial⟩ (List.Perm.refl _)
     ·try dsimp only
      omega
     ·(try dsimp only); omega
    ·
     try simp only [Z1, Z2, Z3, Z4, Z5, Z6, Z7, Z8, Z9, Z0] at q23
     refine WC.seq (WC.seq (WC.region ?_))
     refine WL.q (oq_move rfl) rfl rfl rfl ?_
     refine WL.q (oq_eql rfl rfl) rfl rfl rfl ?_
     refine WL.q (oq_move rfl) rfl rfl rfl ?_
     refine WL.split 22 rfl (fun s6_2 => ?_) (fun s6_2 => ?_)
     ·
      try simp only [Z1, Z2, Z3, Z4, Z5, Z6, Z7, Z8, Z9, Z0] at s6_2
      refine WL.skip rfl rfl rfl ?_
      refine WL.skip rfl rfl rfl ?_
      refine WL.q (oq_pick_t rfl rfl) rfl rfl rfl ?_
      refine WL.q (oq_move rfl) rfl rfl rfl ?_
      refine WL.q (oq_move rfl) rfl rfl rfl ?_
      refine WL.q (oq_move rfl) rfl rfl rfl ?_
      refine WL.index_s Tryd.underlying9 rfl rfl (by (first | omega | (simp only [List.length_cons, List.length_nil, List.length_append, List.length_drop, List.length_take]; omega))) rfl rfl fun c6_9 hc6_9 hc6_9l hc6_9u => ?_
      refine WL.q (oq_lss rfl rfl) rfl rfl rfl ?_
      refine WL.q (oq_pick_t rfl rfl) rfl rfl rfl ?_
      refine WL.q (oq_move rfl) rfl rfl rfl ?_
      refine WL.split 32 rfl (fun s6_12 => ?_) (fun s6_12 => ?_)
      ·
       try simp only [Z1, Z2, Z3, Z4, Z5, Z6, Z7, Z8, Z9, Z0] at s6_12
       refine WL.q (oq_move rfl) rfl rfl rfl ?_
       refine WL.q (oq_move rfl) rfl rfl rfl ?_
       refine WL.index_s Tryd.underlying9 rfl rfl (by (first | omega | (simp only [List.length_cons, List.length_nil, List.length_append, List.length_drop, List.length_take]; omega))) rfl rfl fun c6_15 hc6_15 hc6_15l hc6_15u => ?_
       refine WL.q (oq_move rfl) rfl rfl rfl ?_
       refine WL.qc (oq_callRm (shEsc G hG _ 1 (by omega)) (.head _) call56 rfl) rfl rfl rfl ?_
       refine WL.q (oq_pick_t rfl rfl) rfl rfl rfl ?_
       refine WL.nil (WE.then_normal (WC.sub (fr' := [(0, _), (1, _), (6, _), (7, _), (8, _), (38, _)]) ?_ ⟨rfl, rfl, rfl, rfl, rfl, rfl, trivial⟩))
       refine WC.cond rfl (fun q6 => ?_) (fun q6 => ?_)
       ·
        try simp only [Z1, Z2, Z3, Z4, Z5, Z6, Z7, Z8, Z9, Z0] at q6
        refine WC.seq ?_
        first | omega | (have h1 := esc_no (by omega) hX hc6_15; exact Bool.noConfusion (h1.symm.trans q6)) | (exfalso; simp_all; done)
       ·
        try simp only [Z1, Z2, Z3, Z4, Z5, Z6, Z7, Z8, Z9, Z0] at q6
        refine WC.skip (WE.then_normal (WC.sub (fr' := [(0, _), (1, _), (6, _), (7, _), (8, _)]) ?_ ⟨rfl, rfl, rfl, rfl, rfl, trivial⟩))
        refine WC.region ?_
        refine WL.q (oq_move rfl) rfl rfl rfl ?_
        refine WL.q (oq_add rfl rfl (by rw [i64_lo, i64_hi]; (first | omega | (simp only [List.length_cons, List.length_nil, List.length_append, List.length_drop, List.length_take]; omega)))) rfl rfl rfl ?_
        refine WL.q (oq_assign rfl) rfl rfl rfl ?_
        refine WL.nil (WE.block_normal (WE.block_normal ?_))
        refine WE.again (i + 1) ?_ ?_ ⟨rfl, rfl, rfl, rfl, rfl, trivial⟩ (List.Perm.refl _)
        ·try dsimp only
         omega
        ·(try dsimp only); omega
      ·
       try simp only [Z1, Z2, Z3, Z4, Z5, Z6, Z7, Z8, Z9, Z0] at s6_12
       refine WL.skip rfl rfl rfl ?_
       refine WL.skip rfl rfl rfl ?_
       refine WL.skip rfl rfl rfl ?_
       refine WL.skip rfl rfl rfl ?_
       refine WL.skip rfl rfl rfl ?_
       refine WL.q (oq_pick_f rfl rfl) rfl rfl rfl ?_
       refine WL.nil (WE.then_normal (WC.sub (fr' := [(0, _), (1, _), (6, _), (7, _), (8, _), (38, _)]) ?_ ⟨rfl, rfl, rfl, rfl, rfl, rfl, trivial⟩))
       refine WC.cond_f rfl ?_
       refine WC.skip (WE.then_normal (WC.sub (fr' := [(0, _), (1, _), (6, _), (7, _), (8, _)]) ?_ ⟨rfl, rfl, rfl, rfl, rfl, trivial⟩))
       refine WC.region ?_
       refine WL.q (oq_move rfl) rfl rfl rfl ?_
       refine WL.q (oq_add rfl rfl (by rw [i64_lo, i64_hi]; (first | omega | (simp only [List.length_cons, List.length_nil, List.length_append, List.length_drop, List.length_take]; omega)))) rfl rfl rfl ?_
       refine WL.q (oq_assign rfl) rfl rfl rfl ?_
       refine WL.nil (WE.block_normal (WE.block_normal ?_))
       refine WE.again (i + 1) ?_ ?_ ⟨rfl, rfl, rfl, rfl, rfl, trivial⟩ (List.Perm.refl _)
       ·try dsimp only
        omega
       ·(try dsimp only); omega
     ·
      try simp only [Z1, Z2, Z3, Z4, Z5, Z6, Z7, Z8, Z9, Z0] at s6_2
      refine WL.q (oq_move rfl) rfl rfl rfl ?_
      refine WL.q (oq_eql rfl rfl) rfl rfl rfl ?_
      refine WL.q (oq_pick_f rfl rfl) rfl rfl rfl ?_
      refine WL.q (oq_move rfl) rfl rfl rfl ?_
      refine WL.split 26 rfl (fun s6_6 => ?_) (fun s6_6 => ?_)
      ·
       try simp only [Z1, Z2, Z3, Z4, Z5, Z6, Z7, Z8, Z9, Z0] at s6_6
       refine WL.q (oq_move rfl) rfl rfl rfl ?_
       refine WL.q (oq_move rfl) rfl rfl rfl ?_
       refine WL.index_s Tryd.underlying9 rfl rfl (by (first | omega | (simp only [List.length_cons, List.length_nil, List.length_append, List.length_drop, List.length_take]; omega))) rfl rfl fun c6_9 hc6_9 hc6_9l hc6_9u => ?_
       refine WL.q (oq_lss rfl rfl) rfl rfl rfl ?_
       refine WL.q (oq_pick_t rfl rfl) rfl rfl rfl ?_
       refine WL.q (oq_move rfl) rfl rfl rfl ?_
       refine WL.split 32 rfl (fun s6_12 => ?_) (fun s6_12 => ?_)
       ·
        try simp only [Z1, Z2, Z3, Z4, Z5, Z6, Z7, Z8, Z9, Z0] at s6_12
        refine WL.q (oq_move rfl) rfl rfl rfl ?_
        refine WL.q (oq_move rfl) rfl rfl rfl ?_
        refine WL.index_s Tryd.underlying9 rfl rfl (by (first | omega | (simp only [List.length_cons, List.length_nil, List.length_append, List.length_drop, List.length_take]; omega))) rfl rfl fun c6_15 hc6_15 hc6_15l hc6_15u => ?_
        refine WL.q (oq_move rfl) rfl rfl rfl ?_
        refine WL.qc (oq_callRm (shEsc G hG _ 1 (by omega)) (.head _) call56 rfl) rfl rfl rfl ?_
        refine WL.q (oq_pick_t rfl rfl) rfl rfl rfl ?_
        refine WL.nil (WE.then_normal (WC.sub (fr' := [(0, _), (1, _), (6, _), (7, _), (8, _), (38, _)]) ?_ ⟨rfl, rfl, rfl, rfl, rfl, rfl, trivial⟩))
        refine WC.cond rfl (fun q6 => ?_) (fun q6 => ?_)
        ·
         try simp only [Z1, Z2, Z3, Z4, Z5, Z6, Z7, Z8, Z9, Z0] at q6
         refine WC.seq ?_
         first | omega | (have h1 := esc_no (by omega) hX hc6_15; exact Bool.noConfusion (h1.symm.trans q6)) | (exfalso; simp_all; done)
        ·
         try simp only [Z1, Z2, Z3, Z4, Z5, Z6, Z7, Z8, Z9, Z0] at q6
         refine WC.skip (WE.then_normal (WC.sub (fr' := [(0, _), (1, _), (6, _), (7, _), (8, _)]) ?_ ⟨rfl, rfl, rfl, rfl, rfl, trivial⟩))
         refine WC.region ?_
         refine WL.q (oq_move rfl) rfl rfl rfl ?_
         refine WL.q (oq_add rfl rfl (by rw [i64_lo, i64_hi]; (first | omega | (simp only [List.length_cons, List.length_nil, List.length_append, List.length_drop, List.length_take]; omega)))) rfl rfl rfl ?_
         refine WL.q (oq_assign rfl) rfl rfl rfl ?_
         refine WL.nil (WE.block_normal (WE.block_normal ?_))
         refine WE.again (i + 1) ?_ ?_ ⟨rfl, rfl, rfl, rfl, rfl, trivial⟩ (List.Perm.refl _)
         ·try dsimp only
          omega
         ·(try dsimp only); omega
       ·
        try simp only [Z1, Z2, Z3, Z4, Z5, Z6, Z7, Z8, Z9, Z0] at s6_12
        refine WL.skip rfl rfl rfl ?_
        refine WL.skip rfl rfl rfl ?_
        refine WL.skip rfl rfl rfl ?_
        refine WL.skip rfl rfl rfl ?_
        refine WL.skip rfl rfl rfl ?_
        refine WL.q (oq_pick_f rfl rfl) rfl rfl rfl ?_
        refine WL.nil (WE.then_normal (WC.sub (fr' := [(0, _), (1, _), (6, _), (7, _), (8, _), (38, _)]) ?_ ⟨rfl, rfl, rfl, rfl, rfl, rfl, trivial⟩))
        refine WC.cond_f rfl ?_
        refine WC.skip (WE.then_normal (WC.sub (fr' := [(0, _), (1, _), (6, _), (7, _), (8, _)]) ?_ ⟨rfl, rfl, rfl, rfl, rfl, trivial⟩))
        refine WC.region ?_
        refine WL.q (oq_move rfl) rfl rfl rfl ?_
        refine WL.q (oq_add rfl rfl (by rw [i64_lo, i64_hi]; (first | omega | (simp only [List.length_cons, List.length_nil, List.length_append, List.length_drop, List.length_take]; omega)))) rfl rfl rfl ?_
        refine WL.q (oq_assign rfl) rfl rfl rfl ?_
        refine WL.nil (WE.block_normal (WE.block_normal ?_))
        refine WE.again (i + 1) ?_ ?_ ⟨rfl, rfl, rfl, rfl, rfl, trivial⟩ (List.Perm.refl _)
        ·try dsimp only
         omega
        ·(try dsimp only); omega
      ·
       try simp only [Z1, Z2, Z3, Z4, Z5, Z6, Z7, Z8, Z9, Z0] at s6_6
       refine WL.skip rfl rfl rfl ?_
       refine WL.skip rfl rfl rfl ?_
       refine WL.skip rfl rfl rfl ?_
       refine WL.skip rfl rfl rfl ?_
       refine WL.q (oq_pick_f rfl rfl) rfl rfl rfl ?_
       refine WL.q (oq_move rfl) rfl rfl rfl ?_
       refine WL.skip rfl rfl rfl ?_
       refine WL.skip rfl rfl rfl ?_
       refine WL.skip rfl rfl rfl ?_
       refine WL.skip rfl rfl rfl ?_
       refine WL.skip rfl rfl rfl ?_
       refine WL.q (oq_pick_f rfl rfl) rfl rfl rfl ?_
       refine WL.nil (WE.then_normal (WC.sub (fr' := [(0, _), (1, _), (6, _), (7, _), (8, _), (38, _)]) ?_ ⟨rfl, rfl, rfl, rfl, rfl, rfl, trivial⟩))
       refine WC.cond_f rfl ?_
       refine WC.skip (WE.then_normal (WC.sub (fr' := [(0, _), (1, _), (6, _), (7, _), (8, _)]) ?_ ⟨rfl, rfl, rfl, rfl, rfl, trivial⟩))
       refine WC.region ?_
       refine WL.q (oq_move rfl) rfl rfl rfl ?_
       refine WL.q (oq_add rfl rfl (by rw [i64_lo, i64_hi]; (first | omega | (simp only [List.length_cons, List.length_nil, List.length_append, List.length_drop, List.length_take]; omega)))) rfl rfl rfl ?_
       refine WL.q (oq_assign rfl) rfl rfl rfl ?_
       refine WL.nil (WE.block_normal (WE.block_normal ?_))
       refine WE.again (i + 1) ?_ ?_ ⟨rfl, rfl, rfl, rfl, rfl, trivial⟩ (List.Perm.refl _)
       ·try dsimp only
        omega
       ·(try dsimp only); omega
  ·
   try simp only [Z1, Z2, Z3, Z4, Z5, Z6, Z7, Z8, Z9, Z0] at q4
   refine WC.exit (WE.then_exit (WE.then_exit (WE.block_same (WE.then_normal (WC.sub (fr' := [(0, _), (1, _), (6, _), (7, _)]) ?_ ⟨rfl, rfl, rfl, rfl, trivial⟩)))))
   refine WC.seq (WC.seq (WC.region ?_))
   refine WL.q (oq_move rfl) rfl rfl rfl ?_
   refine WL.q (oq_eql rfl rfl) rfl rfl rfl ?_
   refine WL.q (oq_move rfl) rfl rfl rfl ?_
   refine WL.split 150 rfl (fun s26_2 => ?_) (fun s26_2 => ?_)
   ·
    try simp only [Z1, Z2, Z3, Z4, Z5, Z6, Z7, Z8, Z9, Z0] at s26_2
    refine WL.q (oq_move rfl) rfl rfl rfl ?_
    refine WL.q (oq_not rfl) rfl rfl rfl ?_
    refine WL.q (oq_pick_t rfl rfl) rfl rfl rfl ?_
    refine WL.nil (WE.then_normal (WC.sub (fr' := [(0, _), (1, _), (6, _), (153, _)]) ?_ ⟨rfl, rfl, rfl, rfl, trivial⟩))
    refine WC.cond rfl (fun q26 => ?_) (fun q26 => ?_)
    ·
     try simp only [Z1, Z2, Z3, Z4, Z5, Z6, Z7, Z8, Z9, Z0] at q26
     refine WC.seq (WC.region ?_)
     refine WL.q (oq_move rfl) rfl rfl rfl ?_
     refine WL.q (oq_assign rfl) rfl rfl rfl ?_
     refine WL.q (oq_assign rfl) rfl rfl rfl ?_
     refine WL.nil (WE.then_normal (WC.sub (fr' := [(4, _), (5, _)]) ?_ ⟨rfl, rfl, trivial⟩))
     refine WC.ret (WE.then_ret ?_)
     refine WE.endR (.inl rfl) (res2 Tryd.results41 rfl rfl) ?_
     rfl
    ·
     try simp only [Z1, Z2, Z3, Z4, Z5, Z6, Z7, Z8, Z9, Z0] at q26
     refine WC.skip (WE.then_normal (WC.sub (fr' := [(0, _), (1, _), (6, _)]) ?_ ⟨rfl, rfl, rfl, trivial⟩))
     refine WC.seq ?_
     first | contradiction | omega | (exfalso; simp_all; done)
   ·
    try simp only [Z1, Z2, Z3, Z4, Z5, Z6, Z7, Z8, Z9, Z0] at s26_2
    refine WL.skip rfl rfl rfl ?_
    refine WL.skip rfl rfl rfl ?_
    refine WL.q (oq_pick_f rfl rfl) rfl rfl rfl ?_
    refine WL.nil (WE.then_normal (WC.sub (fr' := [(0, _), (1, _), (6, _), (153, _)]) ?_ ⟨rfl, rfl, rfl, rfl, trivial⟩))
    refine WC.cond_f rfl ?_
    refine WC.skip (WE.then_normal (WC.sub (fr' := [(0, _), (1, _), (6, _)]) ?_ ⟨rfl, rfl, rfl, trivial⟩))
    refine WC.seq ?_
    first | contradiction | omega | (exfalso; simp_all; done)
theorem unesc4 (G : Hp) (hG : Tb G) (s : List UInt8) (hs : s.length ≤ 4000000000) (h37 : (37 : UInt8) ∉ s) (hX : ∀ c ∈ s, esc 4 c.toNat = false) : FnR Tryd.prog 41 [S s, .int .u8 4] G (.tuple #[S s, .nilIface]) := by
 refine FnR.enter (n := 199) Tryd.func41 rfl rfl fun w0 => ?_
 refine WC.sub (fr' := [(0, _), (1, _)]) ?_ ⟨rfl, rfl, trivial⟩
 refine WC.seq (WC.region ?_)
 refine WL.q (oq_assign rfl) rfl rfl rfl ?_
 refine WL.q (oq_assign rfl) rfl rfl rfl ?_
 refine WL.nil (WE.then_normal (WC.sub (fr' := [(0, _), (1, _)]) ?_ ⟨rfl, rfl, trivial⟩))
 refine WC.seq (WC.region ?_)
 refine WL.q (oq_assign rfl) rfl rfl rfl ?_
 refine WL.nil (WE.then_normal (WC.sub (fr' := [(0, _), (1, _), (6, _)]) ?_ ⟨rfl, rfl, rfl, trivial⟩))
 refine WC.seq (WC.region ?_)
 refine WL.q (oq_assign rfl) rfl rfl rfl ?_
 refine WL.nil (WE.then_normal (WC.sub (fr' := [(0, _), (1, _), (6, _), (7, _)]) ?_ ⟨rfl, rfl, rfl, rfl, trivial⟩))
 refine WC.seq (WC.seq (WC.region ?_))
 refine WL.q (oq_assign rfl) rfl rfl rfl ?_
 refine WL.nil (WE.then_normal (WC.sub (fr' := [(0, _), (1, _), (6, _), (7, _), (8, _)]) ?_ ⟨rfl, rfl, rfl, rfl, rfl, trivial⟩))
 refine WC.block ?_
 refine WC.loop (ι := Nat) (fun (i : Nat) => [(0, S s), (1, .int .u8 4), (6, I 0), (7, .bool false), (8, I (i : Int))]) (fun (i : Nat) => [G]) (fun (i : Nat) => i ≤ s.length) (fun (i : Nat) => s.length - i) (0) ?_ ⟨rfl, rfl, rfl, rfl, rfl, trivial⟩ (List.Perm.refl _) ?_
 ·try dsimp only
  omega
 ·rintro i hp
  try dsimp only at hp
  show WC _ _ _ _ _ _ ([(0, S s), (1, .int .u8 4), (6, I 0), (7, .bool false), (8, I (i : Int))]) ([G])
  refine WC.seq (WC.seq (WC.region ?_))
  refine WL.q (oq_move rfl) rfl rfl rfl ?_
  refine WL.q (oq_move rfl) rfl rfl rfl ?_
  refine WL.q (oq_len_s Tryd.underlying9 rfl) rfl rfl rfl ?_
  refine WL.q (oq_lss rfl rfl) rfl rfl rfl ?_
  refine WL.nil (WE.then_normal (WC.sub (fr' := [(0, _), (1, _), (6, _), (7, _), (8, _), (16, _)]) ?_ ⟨rfl, rfl, rfl, rfl, rfl, rfl, trivial⟩))
  refine WC.cond rfl (fun q4 => ?_) (fun q4 => ?_)
  ·
   try simp only [Z1, Z2, Z3, Z4, Z5, Z6, Z7, Z8, Z9, Z0] at q4
   refine WC.skip (WE.then_normal (WC.sub (fr' := [(0, _), (1, _), (6, _), (7, _), (8, _)]) ?_ ⟨rfl, rfl, rfl, rfl, rfl, trivial⟩))
   refine WC.block (WC.seq (WC.region ?_))
   refine WL.q (oq_move rfl) rfl rfl rfl ?_
   refine WL.q (oq_move rfl) rfl rfl rfl ?_
   refine WL.index_s Tryd.underlying9 rfl rfl (by (first | omega | (simp only [List.length_cons, List.length_nil, List.length_append, List.length_drop, List.length_take]; omega))) rfl rfl fun c5_2 hc5_2 hc5_2l hc5_2u => ?_
   refine WL.nil (WE.then_normal (WC.sub (fr' := [(0, _), (1, _), (6, _), (7, _), (8, _), (19, _)]) ?_ ⟨rfl, rfl, rfl, rfl, rfl, rfl, trivial⟩))
   refine WC.block (WC.seq ?_)
   have hn37 := no37 (by omega) h37 hc5_2
   have hes := esc_no (by omega) hX hc5_2
   refine WC.region ?_
   refine WL.q (oq_eql rfl rfl) rfl rfl rfl ?_
   refine WL.q (oq_assign rfl) rfl rfl rfl ?_
   refine WL.nil (WE.then_normal (WC.sub (fr' := [(0, _), (1, _), (6, _), (7, _), (8, _), (19, _), (47, _)]) ?_ ⟨rfl, rfl, rfl, rfl, rfl, rfl, rfl, trivial⟩))
   refine WC.cond rfl (fun q9 => ?_) (fun q9 => ?_)
   ·
    try simp only [Z1, Z2, Z3, Z4, Z5, Z6, Z7, Z8, Z9, Z0] at q9
    refine WC.seq ?_
    exact absurd q9 hn37
   ·
    try simp only [Z1, Z2, Z3, Z4, Z5, Z6, Z7, Z8, Z9, Z0] at q9
    refine WC.seq (WC.region ?_)
    refine WL.q (oq_eql rfl rfl) rfl rfl rfl ?_
    refine WL.q (oq_assign rfl) rfl rfl rfl ?_
    refine WL.nil (WE.then_normal (WC.sub (fr' := [(0, _), (1, _), (6, _), (7, _), (8, _), (142, _)]) ?_ ⟨rfl, rfl, rfl, rfl, rfl, rfl, trivial⟩))
    refine WC.cond rfl (fun q23 => ?_) (fun q23 => ?_)
    ·
     try simp only [Z1, Z2, Z3, Z4, Z5, Z6, Z7, Z8, Z9, Z0] at q23
     refine WC.seq (WC.region ?_)
     refine WL.q (oq_move rfl) rfl rfl rfl ?_
     refine WL.q (oq_eql rfl rfl) rfl rfl rfl ?_
     refine WL.q (oq_assign rfl) rfl rfl rfl ?_
     refine WL.nil (WE.then_normal (WC.sub (fr' := [(0, _), (1, _), (6, _), (7, _), (8, _)]) ?_ ⟨rfl, rfl, rfl, rfl, rfl, trivial⟩))
     refine WC.region ?_
     refine WL.q (oq_move rfl) rfl rfl rfl ?_
     refine WL.q (oq_add rfl rfl (by rw [i64_lo, i64_hi]; (first | omega | (simp only [List.length_cons, List.length_nil, List.length_append, List.length_drop, List.length_take]; omega)))) rfl rfl rfl ?_
     refine WL.q (oq_assign rfl) rfl rfl rfl ?_
     refine WL.nil (WE.block_normal (WE.block_normal ?_))
     refine WE.again (i + 1) ?_ ?_ ⟨rfl, rfl, rfl, rfl, rfl, trivial⟩ (List.Perm.refl _)
     ·try dsimp only
      omega
     ·(try dsimp only); omega
    ·
     try simp only [Z1, Z2, Z3, Z4, Z5, Z6, Z7, Z8, Z9, Z0] at q23
     refine WC.seq (WC.seq (WC.region ?_))
     refine WL.q (oq_move rfl) rfl rfl rfl ?_
     refine WL.q (oq_eql rfl rfl) rfl rfl rfl ?_
     refine WL.q (oq_move rfl) rfl rfl rfl ?_
     refine WL.split 22 rfl (fun s6_2 => ?_) (fun s6_2 => ?_)
     ·
      try simp only [Z1, Z2, Z3, Z4, Z5, Z6, Z7, Z8, Z9, Z0] at s6_2
      refine WL.skip rfl rfl rfl ?_
      refine WL.skip rfl rfl rfl ?_
      refine WL.q (oq_pick_t rfl rfl) rfl rfl rfl ?_
      refine WL.q (oq_move rfl) rfl rfl rfl ?_
      refine WL.q (oq_move rfl) rfl rfl rfl ?_
      refine WL.q (oq_move rfl) rfl rfl rfl ?_
      refine WL.index_s Tryd.underlying9 rfl rfl (by (first | omega | (simp only [List.length_cons, List.length_nil, List.length_append, List.length_drop, List.length_take]; omega))) rfl rfl fun c6_9 hc6_9 hc6_9l hc6_9u => ?_
      refine WL.q (oq_lss rfl rfl) rfl rfl rfl ?_
      refine WL.q (oq_pick_t rfl rfl) rfl rfl rfl ?_
      refine WL.q (oq_move rfl) rfl rfl rfl ?_
      refine WL.split 32 rfl (fun s6_12 => ?_) (fun s6_12 => ?_)
      ·
       try simp only [Z1, Z2, Z3, Z4, Z5, Z6, Z7, Z8, Z9, Z0] at s6_12
       refine WL.q (oq_move rfl) rfl rfl rfl ?_
       refine WL.q (oq_move rfl) rfl rfl rfl ?_
       refine WL.index_s Tryd.underlying9 rfl rfl (by (first | omega | (simp only [List.length_cons, List.length_nil, List.length_append, List.length_drop, List.length_take]; omega))) rfl rfl fun c6_15 hc6_15 hc6_15l hc6_15u => ?_
       refine WL.q (oq_move rfl) rfl rfl rfl ?_
       refine WL.qc (oq_callRm (shEsc G hG _ 4 (by omega)) (.head _) call56 rfl) rfl rfl rfl ?_
       refine WL.q (oq_pick_t rfl rfl) rfl rfl rfl ?_
       refine WL.nil (WE.then_normal (WC.sub (fr' := [(0, _), (1, _), (6, _), (7, _), (8, _), (38, _)]) ?_ ⟨rfl, rfl, rfl, rfl, rfl, rfl, trivial⟩))
       refine WC.cond rfl (fun q6 => ?_) (fun q6 => ?_)
       ·
        try simp only [Z1, Z2, Z3, Z4, Z5, Z6, Z7, Z8, Z9, Z0] at q6
        refine WC.seq ?_
        first | omega | (have h1 := esc_no (by omega) hX hc6_15; exact Bool.noConfusion (h1.symm.trans q6)) | (exfalso; simp_all; done)
       ·
        try simp only [Z1, Z2, Z3, Z4, Z5, Z6, Z7, Z8, Z9, Z0] at q6
        refine WC.skip (WE.then_normal (WC.sub (fr' := [(0, _), (1, _), (6, _), (7, _), (8, _)]) ?_ ⟨rfl, rfl, rfl, rfl, rfl, trivial⟩))
        refine WC.region ?_
        refine WL.q (oq_move rfl) rfl rfl rfl ?_
        refine WL.q (oq_add rfl rfl (by rw [i64_lo, i64_hi]; (first | omega | (simp only [List.length_cons, List.length_nil, List.length_append, List.length_drop, List.length_take]; omega)))) rfl rfl rfl ?_
        refine WL.q (oq_assign rfl) rfl rfl rfl ?_
        refine WL.nil (WE.block_normal (WE.block_normal ?_))
        refine WE.again (i + 1) ?_ ?_ ⟨rfl, rfl, rfl, rfl, rfl, trivial⟩ (List.Perm.refl _)
        ·try dsimp only
         omega
        ·(try dsimp only); omega
      ·
       try simp only [Z1, Z2, Z3, Z4, Z5, Z6, Z7, Z8, Z9, Z0] at s6_12
       refine WL.skip rfl rfl rfl ?_
       refine WL.skip rfl rfl rfl ?_
       refine WL.skip rfl rfl rfl ?_
       refine WL.skip rfl rfl rfl ?_
       refine WL.skip rfl rfl rfl ?_
       refine WL.q (oq_pick_f rfl rfl) rfl rfl rfl ?_
       refine WL.nil (WE.then_normal (WC.sub (fr' := [(0, _), (1, _), (6, _), (7, _), (8, _), (38, _)]) ?_ ⟨rfl, rfl, rfl, rfl, rfl, rfl, trivial⟩))
       refine WC.cond_f rfl ?_
       refine WC.skip (WE.then_normal (WC.sub (fr' := [(0, _), (1, _), (6, _), (7, _), (8, _)]) ?_ ⟨rfl, rfl, rfl, rfl, rfl, trivial⟩))
       refine WC.region ?_
       refine WL.q (oq_move rfl) rfl rfl rfl ?_
       refine WL.q (oq_add rfl rfl (by rw [i64_lo, i64_hi]; (first | omega | (simp only [List.length_cons, List.length_nil, List.length_append, List.length_drop, List.length_take]; omega)))) rfl rfl rfl ?_
       refine WL.q (oq_assign rfl) rfl rfl rfl ?_
       refine WL.nil (WE.block_normal (WE.block_normal ?_))
       refine WE.again (i + 1) ?_ ?_ ⟨rfl, rfl, rfl, rfl, rfl, trivial⟩ (List.Perm.refl _)
       ·try dsimp only
        omega
       ·(try dsimp only); omega
     ·
      try simp only [Z1, Z2, Z3, Z4, Z5, Z6, Z7, Z8, Z9, Z0] at s6_2
      refine WL.q (oq_move rfl) rfl rfl rfl ?_
      refine WL.q (oq_eql rfl rfl) rfl rfl rfl ?_
      refine WL.q (oq_pick_f rfl rfl) rfl rfl rfl ?_
      refine WL.q (oq_move rfl) rfl rfl rfl ?_
      refine WL.split 26 rfl (fun s6_6 => ?_) (fun s6_6 => ?_)
      ·
       try simp only [Z1, Z2, Z3, Z4, Z5, Z6, Z7, Z8, Z9, Z0] at s6_6
       refine WL.q (oq_move rfl) rfl rfl rfl ?_
       refine WL.q (oq_move rfl) rfl rfl rfl ?_
       refine WL.index_s Tryd.underlying9 rfl rfl (by (first | omega | (simp only [List.length_cons, List.length_nil, List.length_append, List.length_drop, List.length_take]; omega))) rfl rfl fun c6_9 hc6_9 hc6_9l hc6_9u => ?_
       refine WL.q (oq_lss rfl rfl) rfl rfl rfl ?_
       refine WL.q (oq_pick_t rfl rfl) rfl rfl rfl ?_
       refine WL.q (oq_move rfl) rfl rfl rfl ?_
       refine WL.split 32 rfl (fun s6_12 => ?_) (fun s6_12 => ?_)
       ·
        try simp only [Z1, Z2, Z3, Z4, Z5, Z6, Z7, Z8, Z9, Z0] at s6_12
        refine WL.q (oq_move rfl) rfl rfl rfl ?_
        refine WL.q (oq_move rfl) rfl rfl rfl ?_
        refine WL.index_s Tryd.underlying9 rfl rfl (by (first | omega | (simp only [List.length_cons, List.length_nil, List.length_append, List.length_drop, List.length_take]; omega))) rfl rfl fun c6_15 hc6_15 hc6_15l hc6_15u => ?_
        refine WL.q (oq_move rfl) rfl rfl rfl ?_
        refine WL.qc (oq_callRm (shEsc G hG _ 4 (by omega)) (.head _) call56 rfl) rfl rfl rfl ?_
        refine WL.q (oq_pick_t rfl rfl) rfl rfl rfl ?_
        refine WL.nil (WE.then_normal (WC.sub (fr' := [(0, _), (1, _), (6, _), (7, _), (8, _), (38, _)]) ?_ ⟨rfl, rfl, rfl, rfl, rfl, rfl, trivial⟩))
        refine WC.cond rfl (fun q6 => ?_) (fun q6 => ?_)
        ·
         try simp only [Z1, Z2, Z3, Z4, Z5, Z6, Z7, Z8, Z9, Z0] at q6
         refine WC.seq ?_
         first | omega | (have h1 := esc_no (by omega) hX hc6_15; exact Bool.noConfusion (h1.symm.trans q6)) | (exfalso; simp_all; done)
        ·
         try simp only [Z1, Z2, Z3, Z4, Z5, Z6, Z7, Z8, Z9, Z0] at q6
         refine WC.skip (WE.then_normal (WC.sub (fr' := [(0, _), (1, _), (6, _), (7, _), (8, _)]) ?_ ⟨rfl, rfl, rfl, rfl, rfl, trivial⟩))
         refine WC.region ?_
         refine WL.q (oq_move rfl) rfl rfl rfl ?_
         refine WL.q (oq_add rfl rfl (by rw [i64_lo, i64_hi]; (first | omega | (simp only [List.length_cons, List.length_nil, List.length_append, List.length_drop, List.length_take]; omega)))) rfl rfl rfl ?_
         refine WL.q (oq_assign rfl) rfl rfl rfl ?_
         refine WL.nil (WE.block_normal (WE.block_normal ?_))
         refine WE.again (i + 1) ?_ ?_ ⟨rfl, rfl, rfl, rfl, rfl, trivial⟩ (List.Perm.refl _)
         ·try dsimp only
          omega
         ·(try dsimp only); omega
       ·
        try simp only [Z1, Z2, Z3, Z4, Z5, Z6, Z7, Z8, Z9, Z0] at s6_12
        refine WL.skip rfl rfl rfl ?_
        refine WL.skip rfl rfl rfl ?_
        refine WL.skip rfl rfl rfl ?_
        refine WL.skip rfl rfl rfl ?_
        refine WL.skip rfl rfl rfl ?_
        refine WL.q (oq_pick_f rfl rfl) rfl rfl rfl ?_
        refine WL.nil (WE.then_normal (WC.sub (fr' := [(0, _), (1, _), (6, _), (7, _), (8, _), (38, _)]) ?_ ⟨rfl, rfl, rfl, rfl, rfl, rfl, trivial⟩))
        refine WC.cond_f rfl ?_
        refine WC.skip (WE.then_normal (WC.sub (fr' := [(0, _), (1, _), (6, _), (7, _), (8, _)]) ?_ ⟨rfl, rfl, rfl, rfl, rfl, trivial⟩))
        refine WC.region ?_
        refine WL.q (oq_move rfl) rfl rfl rfl ?_
        refine WL.q (oq_add rfl rfl (by rw [i64_lo, i64_hi]; (first | omega | (simp only [List.length_cons, List.length_nil, List.length_append, List.length_drop, List.length_take]; omega)))) rfl rfl rfl ?_
        refine WL.q (oq_assign rfl) rfl rfl rfl ?_
        refine WL.nil (WE.block_normal (WE.block_normal ?_))
        refine WE.again (i + 1) ?_ ?_ ⟨rfl, rfl, rfl, rfl, rfl, trivial⟩ (List.Perm.refl _)
        ·try dsimp only
         omega
        ·(try dsimp only); omega
      ·
       try simp only [Z1, Z2, Z3, Z4, Z5, Z6, Z7, Z8, Z9, Z0] at s6_6
       refine WL.skip rfl rfl rfl ?_
       refine WL.skip rfl rfl rfl ?_
       refine WL.skip rfl rfl rfl ?_
       refine WL.skip rfl rfl rfl ?_
       refine WL.q (oq_pick_f rfl rfl) rfl rfl rfl ?_
       refine WL.q (oq_move rfl) rfl rfl rfl ?_
       refine WL.skip rfl rfl rfl ?_
       refine WL.skip rfl rfl rfl ?_
       refine WL.skip rfl rfl rfl ?_
       refine WL.skip rfl rfl rfl ?_
       refine WL.skip rfl rfl rfl ?_
       refine WL.q (oq_pick_f rfl rfl) rfl rfl rfl ?_
       refine WL.nil (WE.then_normal (WC.sub (fr' := [(0, _), (1, _), (6, _), (7, _), (8, _), (38, _)]) ?_ ⟨rfl, rfl, rfl, rfl, rfl, rfl, trivial⟩))
       refine WC.cond_f rfl ?_
       refine WC.skip (WE.then_normal (WC.sub (fr' := [(0, _), (1, _), (6, _), (7, _), (8, _)]) ?_ ⟨rfl, rfl, rfl, rfl, rfl, trivial⟩))
       refine WC.region ?_
       refine WL.q (oq_move rfl) rfl rfl rfl ?_
       refine WL.q (oq_add rfl rfl (by rw [i64_lo, i64_hi]; (first | omega | (simp only [List.length_cons, List.length_nil, List.length_append, List.length_drop, List.length_take]; omega)))) rfl rfl rfl ?_
       refine WL.q (oq_assign rfl) rfl rfl rfl ?_
       refine WL.nil (WE.block_normal (WE.block_normal ?_))
       refine WE.again (i + 1) ?_ ?_ ⟨rfl, rfl, rfl, rfl, rfl, trivial⟩ (List.Perm.refl _)
       ·try dsimp only
        omega
       ·(try dsimp only); omega
  ·
   try simp only [Z1, Z2, Z3, Z4, Z5, Z6, Z7, Z8, Z9, Z0] at q4
   refine WC.exit (WE.then_exit (WE.then_exit (WE.block_same (WE.then_normal (WC.sub (fr' := [(0, _), (1, _), (6, _), (7, _)]) ?_ ⟨rfl, rfl, rfl, rfl, trivial⟩)))))
   refine WC.seq (WC.seq (WC.region ?_))
   refine WL.q (oq_move rfl) rfl rfl rfl ?_
   refine WL.q (oq_eql rfl rfl) rfl rfl rfl ?_
   refine WL.q (oq_move rfl) rfl rfl rfl ?_
   refine WL.split 150 rfl (fun s26_2 => ?_) (fun s26_2 => ?_)
   ·
    try simp only [Z1, Z2, Z3, Z4, Z5, Z6, Z7, Z8, Z9, Z0] at s26_2
    refine WL.q (oq_move rfl) rfl rfl rfl ?_
    refine WL.q (oq_not rfl) rfl rfl rfl ?_
    refine WL.q (oq_pick_t rfl rfl) rfl rfl rfl ?_
    refine WL.nil (WE.then_normal (WC.sub (fr' := [(0, _), (1, _), (6, _), (153, _)]) ?_ ⟨rfl, rfl, rfl, rfl, trivial⟩))
    refine WC.cond rfl (fun q26 => ?_) (fun q26 => ?_)
    ·
     try simp only [Z1, Z2, Z3, Z4, Z5, Z6, Z7, Z8, Z9, Z0] at q26
     refine WC.seq (WC.region ?_)
     refine WL.q (oq_move rfl) rfl rfl rfl ?_
     refine WL.q (oq_assign rfl) rfl rfl rfl ?_
     refine WL.q (oq_assign rfl) rfl rfl rfl ?_
     refine WL.nil (WE.then_normal (WC.sub (fr' := [(4, _), (5, _)]) ?_ ⟨rfl, rfl, trivial⟩))
     refine WC.ret (WE.then_ret ?_)
     refine WE.endR (.inl rfl) (res2 Tryd.results41 rfl rfl) ?_
     rfl
    ·
     try simp only [Z1, Z2, Z3, Z4, Z5, Z6, Z7, Z8, Z9, Z0] at q26
     refine WC.skip (WE.then_normal (WC.sub (fr' := [(0, _), (1, _), (6, _)]) ?_ ⟨rfl, rfl, rfl, trivial⟩))
     refine WC.seq ?_
     first | contradiction | omega | (exfalso; simp_all; done)
   ·
    try simp only [Z1, Z2, Z3, Z4, Z5, Z6, Z7, Z8, Z9, Z0] at s26_2
    refine WL.skip rfl rfl rfl ?_
    refine WL.skip rfl rfl rfl ?_
    refine WL.q (oq_pick_f rfl rfl) rfl rfl rfl ?_
    refine WL.nil (WE.then_normal (WC.sub (fr' := [(0, _), (1, _), (6, _), (153, _)]) ?_ ⟨rfl, rfl, rfl, rfl, trivial⟩))
    refine WC.cond_f rfl ?_
    refine WC.skip (WE.then_normal (WC.sub (fr' := [(0, _), (1, _), (6, _)]) ?_ ⟨rfl, rfl, rfl, trivial⟩))
    refine WC.seq ?_
    first | contradiction | omega | (exfalso; simp_all; done)
set_option maxHeartbeats 2000000 in
theorem escape1 (G : Hp) (hG : Tb G) (s : List UInt8) (hs : s.length ≤ 1000000000) : FnA Tryd.prog 42 [S s, .int .u8 1] G (fun v N => ∃ r, v = S r) := by
 refine FnA.enter (n := 126) Tryd.func42 rfl rfl fun w0 => ?_
 refine WC.sub (fr' := [(0, _), (1, _)]) ?_ ⟨rfl, rfl, trivial⟩
 refine WC.seq (WC.region ?_)
 refine WL.q (oq_assign rfl) rfl rfl rfl ?_
 refine WL.nil (WE.then_normal (WC.sub (fr' := [(0, _), (1, _)]) ?_ ⟨rfl, rfl, trivial⟩))
 refine WC.seq (WC.region ?_)
 refine WL.q (oq_assign rfl) rfl rfl rfl ?_
 refine WL.q (oq_assign rfl) rfl rfl rfl ?_
 refine WL.nil (WE.then_normal (WC.sub (fr' := [(0, _), (1, _), (5, _), (6, _)]) ?_ ⟨rfl, rfl, rfl, rfl, trivial⟩))
 refine WC.seq (WC.seq (WC.region ?_))
 refine WL.q (oq_move rfl) rfl rfl rfl ?_
 refine WL.toBytes Tryd.underlying9 Tryd.underlying55 Tryd.underlying5 rfl (by unfold maxLen; (first | omega | (simp only [List.length_cons, List.length_nil, List.length_append, List.length_drop, List.length_take]; omega))) rfl rfl fun v2_1 A2_1 hr2_1 hA2_1 => ?_
 refine WL.q (oq_len_rd hr2_1 Tryd.underlying55 rfl) rfl rfl rfl ?_
 refine WL.q (oq_move rfl) rfl rfl rfl ?_
 refine WL.nil (WE.then_normal (WC.sub (fr' := [(0, _), (1, _), (5, _), (6, _), (17, _), (18, _), (19, _)]) ?_ ⟨rfl, rfl, rfl, rfl, rfl, rfl, rfl, trivial⟩))
 refine WC.block ?_
 refine WC.loop (ι := Nat × Nat) (fun i_ => (fun (i : Nat) (n : Nat) => [(0, S s), (1, .int .u8 1), (5, I 0), (6, I (n : Int)), (17, v2_1), (18, I (s.length : Int)), (19, I (i : Int))]) i_.1 i_.2) (fun i_ => (fun (i : Nat) (n : Nat) => [A2_1, G]) i_.1 i_.2) (fun i_ => (fun (i : Nat) (n : Nat) => i ≤ s.length ∧ n = cnt (s.take i)) i_.1 i_.2) (fun i_ => (fun (i : Nat) (n : Nat) => s.length - i) i_.1 i_.2) ((0, 0)) ?_ ⟨rfl, rfl, rfl, rfl, rfl, rfl, rfl, trivial⟩ (List.Perm.refl _) ?_
 ·try dsimp only
  exact ⟨by omega, rfl⟩
 ·rintro ⟨i, n⟩ hp
  try dsimp only at hp
  obtain ⟨hi, hn⟩ := hp
  show WC _ _ _ _ _ _ ([(0, S s), (1, .int .u8 1), (5, I 0), (6, I (n : Int)), (17, v2_1), (18, I (s.length : Int)), (19, I (i : Int))]) ([A2_1, G])
  refine WC.seq (WC.region ?_)
  refine WL.q (oq_lss rfl rfl) rfl rfl rfl ?_
  refine WL.nil (WE.then_normal (WC.sub (fr' := [(0, _), (1, _), (5, _), (6, _), (17, _), (18, _), (19, _), (20, _)]) ?_ ⟨rfl, rfl, rfl, rfl, rfl, rfl, rfl, rfl, trivial⟩))
  refine WC.seq ?_
  refine WC.cond rfl (fun q3 => ?_) (fun q3 => ?_)
  ·
   try simp only [Z1, Z2, Z3, Z4, Z5, Z6, Z7, Z8, Z9, Z0] at q3
   refine WC.skip (WE.then_normal (WC.sub (fr' := [(0, _), (1, _), (5, _), (6, _), (17, _), (18, _), (19, _)]) ?_ ⟨rfl, rfl, rfl, rfl, rfl, rfl, rfl, trivial⟩))
   refine WC.seq (WC.block (WC.seq (WC.region ?_)))
   refine WL.q (oq_ixaddr hr2_1 Tryd.underlying55 ty5 rfl rfl (by first | omega | exact ⟨by omega, Int.lt_of_lt_of_le (b := 16) (by omega) (by decide)⟩)) rfl rfl rfl ?_
   refine WL.load_byte hr2_1 (.head _) flat5 rfl (by first | omega | exact ⟨by omega, Int.lt_of_lt_of_le (b := 16) (by omega) (by decide)⟩) rfl rfl fun c4_1 hc4_1 hc4_1l hc4_1u => ?_
   refine WL.q (oq_assign rfl) rfl rfl rfl ?_
   refine WL.nil (WE.then_normal (WC.sub (fr' := [(0, _), (1, _), (5, _), (6, _), (8, _), (17, _), (18, _), (19, _)]) ?_ ⟨rfl, rfl, rfl, rfl, rfl, rfl, rfl, rfl, trivial⟩))
   refine WC.seq ?_
   have hst := cnt_step (by omega) hc4_1
   have hnl := cnt_le (s.take i)
   rw [← hn, List.length_take] at hnl
   refine WC.region ?_
   refine WL.q (oq_move rfl) rfl rfl rfl ?_
   refine WL.q (oq_move rfl) rfl rfl rfl ?_
   refine WL.qc (oq_callRm (shEsc G hG _ 1 (by omega)) (.tail _ (.head _)) call56 rfl) rfl rfl rfl ?_
   refine WL.nil (WE.then_normal (WC.sub (fr' := [(0, _), (1, _), (5, _), (6, _), (8, _), (17, _), (18, _), (19, _), (25, _)]) ?_ ⟨rfl, rfl, rfl, rfl, rfl, rfl, rfl, rfl, rfl, trivial⟩))
   refine WC.cond rfl (fun q5 => ?_) (fun q5 => ?_)
   ·
    try simp only [Z1, Z2, Z3, Z4, Z5, Z6, Z7, Z8, Z9, Z0] at q5
    refine WC.seq (WC.region ?_)
    refine WL.q (oq_move rfl) rfl rfl rfl ?_
    refine WL.q (oq_eql rfl rfl) rfl rfl rfl ?_
    refine WL.q (oq_move rfl) rfl rfl rfl ?_
    refine WL.split 28 rfl (fun s6_2 => ?_) (fun s6_2 => ?_)
    ·
     try simp only [Z1, Z2, Z3, Z4, Z5, Z6, Z7, Z8, Z9, Z0] at s6_2
     refine WL.q (oq_move rfl) rfl rfl rfl ?_
     refine WL.q (oq_eql rfl rfl) rfl rfl rfl ?_
     refine WL.q (oq_pick_t rfl rfl) rfl rfl rfl ?_
     refine WL.nil (WE.then_normal (WC.sub (fr' := [(0, _), (1, _), (5, _), (6, _), (17, _), (18, _), (19, _), (31, _)]) ?_ ⟨rfl, rfl, rfl, rfl, rfl, rfl, rfl, rfl, trivial⟩))
     refine WC.cond rfl (fun q6 => ?_) (fun q6 => ?_)
     ·
      try simp only [Z1, Z2, Z3, Z4, Z5, Z6, Z7, Z8, Z9, Z0] at q6
      first | contradiction | omega | (exfalso; simp_all; done)
     ·
      try simp only [Z1, Z2, Z3, Z4, Z5, Z6, Z7, Z8, Z9, Z0] at q6
      refine WC.region ?_
      refine WL.q (oq_move rfl) rfl rfl rfl ?_
      refine WL.q (oq_add rfl rfl (by rw [i64_lo, i64_hi]; (first | omega | (simp only [List.length_cons, List.length_nil, List.length_append, List.length_drop, List.length_take]; omega)))) rfl rfl rfl ?_
      refine WL.q (oq_assign rfl) rfl rfl rfl ?_
      refine WL.nil (WE.block_normal (WE.then_normal (WC.sub (fr' := [(0, _), (1, _), (5, _), (6, _), (17, _), (18, _), (19, _)]) ?_ ⟨rfl, rfl, rfl, rfl, rfl, rfl, rfl, trivial⟩)))
      refine WC.region ?_
      refine WL.q (oq_add rfl rfl (by rw [i64_lo, i64_hi]; (first | omega | (simp only [List.length_cons, List.length_nil, List.length_append, List.length_drop, List.length_take]; omega)))) rfl rfl rfl ?_
      refine WL.q (oq_move rfl) rfl rfl rfl ?_
      refine WL.nil ?_
      refine WE.again (i + 1, n + 1) ?_ ?_ ⟨rfl, rfl, rfl, rfl, rfl, rfl, rfl, trivial⟩ (List.Perm.refl _)
      ·try dsimp only
       exact ⟨by omega, by rw [hst.1, if_pos q5]; omega⟩
      ·(try dsimp only); omega
    ·
     try simp only [Z1, Z2, Z3, Z4, Z5, Z6, Z7, Z8, Z9, Z0] at s6_2
     refine WL.skip rfl rfl rfl ?_
     refine WL.skip rfl rfl rfl ?_
     refine WL.q (oq_pick_f rfl rfl) rfl rfl rfl ?_
     refine WL.nil (WE.then_normal (WC.sub (fr' := [(0, _), (1, _), (5, _), (6, _), (17, _), (18, _), (19, _), (31, _)]) ?_ ⟨rfl, rfl, rfl, rfl, rfl, rfl, rfl, rfl, trivial⟩))
     refine WC.cond_f rfl ?_
     refine WC.region ?_
     refine WL.q (oq_move rfl) rfl rfl rfl ?_
     refine WL.q (oq_add rfl rfl (by rw [i64_lo, i64_hi]; (first | omega | (simp only [List.length_cons, List.length_nil, List.length_append, List.length_drop, List.length_take]; omega)))) rfl rfl rfl ?_
     refine WL.q (oq_assign rfl) rfl rfl rfl ?_
     refine WL.nil (WE.block_normal (WE.then_normal (WC.sub (fr' := [(0, _), (1, _), (5, _), (6, _), (17, _), (18, _), (19, _)]) ?_ ⟨rfl, rfl, rfl, rfl, rfl, rfl, rfl, trivial⟩)))
     refine WC.region ?_
     refine WL.q (oq_add rfl rfl (by rw [i64_lo, i64_hi]; (first | omega | (simp only [List.length_cons, List.length_nil, List.length_append, List.length_drop, List.length_take]; omega)))) rfl rfl rfl ?_
     refine WL.q (oq_move rfl) rfl rfl rfl ?_
     refine WL.nil ?_
     refine WE.again (i + 1, n + 1) ?_ ?_ ⟨rfl, rfl, rfl, rfl, rfl, rfl, rfl, trivial⟩ (List.Perm.refl _)
     ·try dsimp only
      exact ⟨by omega, by rw [hst.1, if_pos q5]; omega⟩
     ·(try dsimp only); omega
   ·
    try simp only [Z1, Z2, Z3, Z4, Z5, Z6, Z7, Z8, Z9, Z0] at q5
    refine WC.skip (WE.block_normal (WE.then_normal (WC.sub (fr' := [(0, _), (1, _), (5, _), (6, _), (17, _), (18, _), (19, _)]) ?_ ⟨rfl, rfl, rfl, rfl, rfl, rfl, rfl, trivial⟩)))
    refine WC.region ?_
    refine WL.q (oq_add rfl rfl (by rw [i64_lo, i64_hi]; (first | omega | (simp only [List.length_cons, List.length_nil, List.length_append, List.length_drop, List.length_take]; omega)))) rfl rfl rfl ?_
    refine WL.q (oq_move rfl) rfl rfl rfl ?_
    refine WL.nil ?_
    refine WE.again (i + 1, n) ?_ ?_ ⟨rfl, rfl, rfl, rfl, rfl, rfl, rfl, trivial⟩ (List.Perm.refl _)
    ·try dsimp only
     exact ⟨by omega, by rw [hst.1, if_neg (by rw [q5]; decide)]; omega⟩
    ·(try dsimp only); omega
  ·
   try simp only [Z1, Z2, Z3, Z4, Z5, Z6, Z7, Z8, Z9, Z0] at q3
   refine WC.exit (WE.then_exit (WE.then_exit (WE.block_same (WE.then_normal (WC.sub (fr' := [(0, _), (1, _), (5, _), (6, _)]) ?_ ⟨rfl, rfl, rfl, rfl, trivial⟩)))))
   refine WC.cut (ι := Unit) (fun _ => [(0, S s), (1, .int .u8 1), (6, I (n : Int))]) (fun _ => [G]) (fun _ => n ≠ 0 ∧ n = cnt s) ?_ ?_
   ·
    refine WC.seq (WC.region ?_)
    refine WL.q (oq_move rfl) rfl rfl rfl ?_
    refine WL.q (oq_eql rfl rfl) rfl rfl rfl ?_
    refine WL.q (oq_move rfl) rfl rfl rfl ?_
    refine WL.split 39 rfl (fun s10_2 => ?_) (fun s10_2 => ?_)
    ·
     try simp only [Z1, Z2, Z3, Z4, Z5, Z6, Z7, Z8, Z9, Z0] at s10_2
     refine WL.q (oq_move rfl) rfl rfl rfl ?_
     refine WL.q (oq_eql rfl rfl) rfl rfl rfl ?_
     refine WL.q (oq_pick_t rfl rfl) rfl rfl rfl ?_
     refine WL.nil (WE.then_normal (WC.sub (fr' := [(0, _), (1, _), (6, _), (42, _)]) ?_ ⟨rfl, rfl, rfl, rfl, trivial⟩))
     refine WC.cond rfl (fun q10 => ?_) (fun q10 => ?_)
     ·
      try simp only [Z1, Z2, Z3, Z4, Z5, Z6, Z7, Z8, Z9, Z0] at q10
      refine WC.seq (WC.region ?_)
      refine WL.q (oq_move rfl) rfl rfl rfl ?_
      refine WL.q (oq_assign rfl) rfl rfl rfl ?_
      refine WL.nil (WE.then_normal (WC.sub (fr' := [(4, _)]) ?_ ⟨rfl, trivial⟩))
      refine WC.ret (WE.then_ret ?_)
      refine WE.forget hA2_1 ?_
      refine WE.add0 ?_
      refine WE.endA (.inl rfl) (res1 Tryd.results42 rfl) ?_ fresh0
      exact ⟨_, rfl⟩
     ·
      try simp only [Z1, Z2, Z3, Z4, Z5, Z6, Z7, Z8, Z9, Z0] at q10
      refine WC.skip ?_
      refine WE.forget hA2_1 ?_
      refine WE.meet () ?_ ⟨rfl, rfl, rfl, trivial⟩ (List.Perm.refl _)
      try dsimp only
      first | exact ⟨by omega, by rw [hn, List.take_of_length_le (show s.length ≤ i by omega)]⟩ | (exfalso; simp_all; done)
    ·
     try simp only [Z1, Z2, Z3, Z4, Z5, Z6, Z7, Z8, Z9, Z0] at s10_2
     refine WL.skip rfl rfl rfl ?_
     refine WL.skip rfl rfl rfl ?_
     refine WL.q (oq_pick_f rfl rfl) rfl rfl rfl ?_
     refine WL.nil (WE.then_normal (WC.sub (fr' := [(0, _), (1, _), (6, _), (42, _)]) ?_ ⟨rfl, rfl, rfl, rfl, trivial⟩))
     refine WC.cond_f rfl ?_
     refine WC.skip ?_
     refine WE.forget hA2_1 ?_
     refine WE.meet () ?_ ⟨rfl, rfl, rfl, trivial⟩ (List.Perm.refl _)
     try dsimp only
     first | exact ⟨by omega, by rw [hn, List.take_of_length_le (show s.length ≤ i by omega)]⟩ | (exfalso; simp_all; done)
   ·rintro _ hp
    try dsimp only at hp
    obtain ⟨hn0, hnc⟩ := hp
    show WC _ _ _ _ _ _ ([(0, S s), (1, .int .u8 1), (6, I (n : Int))]) ([G])
    have hcl := cnt_le s
    refine WC.seq (WC.region ?_)
    refine WL.alloc ty102 rfl rfl fun ab hab => ?_
    refine WL.asB (List.replicate 64 0) rfl ?_
    refine WL.nil (WE.then_normal (WC.sub (fr' := [(0, _), (1, _), (6, _), (9, _)]) ?_ ⟨rfl, rfl, rfl, rfl, trivial⟩))
    refine WC.seq (WC.region ?_)
    refine WL.q (oq_assign rfl) rfl rfl rfl ?_
    refine WL.nil (WE.then_normal (WC.sub (fr' := [(0, _), (1, _), (6, _), (9, _)]) ?_ ⟨rfl, rfl, rfl, rfl, trivial⟩))
    refine WC.seq (WC.region ?_)
    refine WL.q (oq_move rfl) rfl rfl rfl ?_
    refine WL.q (oq_len_s Tryd.underlying9 rfl) rfl rfl rfl ?_
    refine WL.q (oq_move rfl) rfl rfl rfl ?_
    refine WL.q (oq_mul rfl rfl (by rw [i64_lo, i64_hi]; (first | omega | (simp only [List.length_cons, List.length_nil, List.length_append, List.length_drop, List.length_take]; omega)))) rfl rfl rfl ?_
    refine WL.q ((oq_add rfl rfl (by rw [i64_lo, i64_hi]; omega)).to (v' := I ((s.length + 2 * n : Nat) : Int)) (congrArg I (by omega))) rfl rfl rfl ?_
    refine WL.q (oq_assign rfl) rfl rfl rfl ?_
    refine WL.nil (WE.then_normal (WC.sub (fr' := [(0, _), (1, _), (6, _), (9, _), (11, _)]) ?_ ⟨rfl, rfl, rfl, rfl, rfl, trivial⟩))
    refine WC.cut (ι := Nat × TypeId × (List UInt8) × Nat) (fun i_ => (fun (bb : Nat) (bt : TypeId) (L : List UInt8) (c : Nat) => [(0, S s), (1, .int .u8 1), (6, I (n : Int)), (10, Sl bb 0 (s.length + 2 * n) c)]) i_.1 i_.2.1 i_.2.2.1 i_.2.2.2) (fun i_ => (fun (bb : Nat) (bt : TypeId) (L : List UInt8) (c : Nat) => [Bf bb bt L, G]) i_.1 i_.2.1 i_.2.2.1 i_.2.2.2) (fun i_ => (fun (bb : Nat) (bt : TypeId) (L : List UInt8) (c : Nat) => w0.heap.size ≤ bb ∧ (s.length + 2 * n) ≤ L.length ∧ (s.length + 2 * n) ≤ c) i_.1 i_.2.1 i_.2.2.1 i_.2.2.2) ?_ ?_
    ·
     refine WC.seq (WC.region ?_)
     refine WL.q (oq_move rfl) rfl rfl rfl ?_
     refine WL.q (oq_leq rfl rfl) rfl rfl rfl ?_
     refine WL.nil (WE.then_normal (WC.sub (fr' := [(0, _), (1, _), (6, _), (9, _), (11, _), (50, _)]) ?_ ⟨rfl, rfl, rfl, rfl, rfl, rfl, trivial⟩))
     refine WC.cond rfl (fun q15 => ?_) (fun q15 => ?_)
     ·
      try simp only [Z1, Z2, Z3, Z4, Z5, Z6, Z7, Z8, Z9, Z0] at q15
      refine WC.region ?_
      refine WL.q (oq_move rfl) rfl rfl rfl ?_
      refine WL.q (oq_sliceArr (j := (s.length + 2 * n)) Tryd.underlying102 ty5 rfl rfl ⟨_, rfl⟩ (by first | omega | (simp only [List.length_set]; omega)) (by first | omega | (simp only [List.length_set]; omega))) rfl rfl rfl ?_
      refine WL.q (oq_assign rfl) rfl rfl rfl ?_
      refine WL.nil ?_
      refine WE.meet (_, _, _, _) ?_ ⟨rfl, rfl, rfl, rfl, trivial⟩ (List.Perm.refl _)
      try dsimp only
      exact ⟨hab, by simp; omega, by omega⟩
     ·
      try simp only [Z1, Z2, Z3, Z4, Z5, Z6, Z7, Z8, Z9, Z0] at q15
      refine WC.region ?_
      refine WL.q (oq_move rfl) rfl rfl rfl ?_
      refine WL.makeB Tryd.underlying55 ty5 rfl rfl (by omega) (by unfold maxLen; omega) rfl rfl fun mb hmb => ?_
      refine WL.q (oq_assign rfl) rfl rfl rfl ?_
      refine WL.nil ?_
      refine WE.f1 ?_
      refine WE.lose hab ?_
      refine WE.meet (_, _, _, _) ?_ ⟨rfl, rfl, rfl, rfl, trivial⟩ (List.Perm.refl _)
      try dsimp only
      exact ⟨hmb, by simp, Nat.le_refl _⟩
    ·rintro ⟨bb, bt, L, c⟩ hp
     try dsimp only at hp
     obtain ⟨hbb, hbl, hbc⟩ := hp
     show WC _ _ _ _ _ _ ([(0, S s), (1, .int .u8 1), (6, I (n : Int)), (10, Sl bb 0 (s.length + 2 * n) c)]) ([Bf bb bt L, G])
     refine WC.seq (WC.seq (WC.region ?_))
     refine WL.q (oq_move rfl) rfl rfl rfl ?_
     refine WL.q (oq_eql rfl rfl) rfl rfl rfl ?_
     refine WL.nil (WE.then_normal (WC.sub (fr' := [(0, _), (1, _), (10, _), (56, _)]) ?_ ⟨rfl, rfl, rfl, rfl, trivial⟩))
     refine WC.cond rfl (fun q18 => ?_) (fun q18 => ?_)
     ·
      try simp only [Z1, Z2, Z3, Z4, Z5, Z6, Z7, Z8, Z9, Z0] at q18
      refine WC.seq ?_
      first | contradiction | omega | (exfalso; simp_all; done)
     ·
      try simp only [Z1, Z2, Z3, Z4, Z5, Z6, Z7, Z8, Z9, Z0] at q18
      refine WC.skip (WE.then_normal (WC.sub (fr' := [(0, _), (1, _), (10, _)]) ?_ ⟨rfl, rfl, rfl, trivial⟩))
      refine WC.seq (WC.region ?_)
      refine WL.q (oq_assign rfl) rfl rfl rfl ?_
      refine WL.nil (WE.then_normal (WC.sub (fr' := [(0, _), (1, _), (10, _), (13, _)]) ?_ ⟨rfl, rfl, rfl, rfl, trivial⟩))
      refine WC.seq (WC.seq (WC.region ?_))
      refine WL.q (oq_move rfl) rfl rfl rfl ?_
      refine WL.toBytes Tryd.underlying9 Tryd.underlying55 Tryd.underlying5 rfl (by unfold maxLen; (first | omega | (simp only [List.length_cons, List.length_nil, List.length_append, List.length_drop, List.length_take]; omega))) rfl rfl fun v27_1 A27_1 hr27_1 hA27_1 => ?_
      refine WL.q (oq_len_rd hr27_1 Tryd.underlying55 rfl) rfl rfl rfl ?_
      refine WL.q (oq_move rfl) rfl rfl rfl ?_
      refine WL.nil (WE.then_normal (WC.sub (fr' := [(1, _), (10, _), (13, _), (76, _), (77, _), (78, _)]) ?_ ⟨rfl, rfl, rfl, rfl, rfl, rfl, trivial⟩))
      refine WC.block ?_
      refine WC.f2 ?_
      refine WC.f1 ?_
      refine WC.f2 ?_
      refine WC.loop (ι := Nat × Nat × (List UInt8)) (fun i_ => (fun (i : Nat) (m : Nat) (L2 : List UInt8) => [(1, .int .u8 1), (10, Sl bb 0 (s.length + 2 * n) c), (13, I ((i + 2 * m : Nat) : Int)), (76, v27_1), (77, I (s.length : Int)), (78, I (i : Int))]) i_.1 i_.2.1 i_.2.2) (fun i_ => (fun (i : Nat) (m : Nat) (L2 : List UInt8) => [Bf bb bt L2, A27_1, G]) i_.1 i_.2.1 i_.2.2) (fun i_ => (fun (i : Nat) (m : Nat) (L2 : List UInt8) => i ≤ s.length ∧ m = cnt (s.take i) ∧ L2.length = L.length) i_.1 i_.2.1 i_.2.2) (fun i_ => (fun (i : Nat) (m : Nat) (L2 : List UInt8) => s.length - i) i_.1 i_.2.1 i_.2.2) ((0, 0, _)) ?_ ⟨rfl, rfl, rfl, rfl, rfl, rfl, trivial⟩ (List.Perm.refl _) ?_
      ·try dsimp only
       exact ⟨by omega, rfl, rfl⟩
      ·rintro ⟨i, m, L2⟩ hp
       try dsimp only at hp
       obtain ⟨hi2, hm, hL2⟩ := hp
       show WC _ _ _ _ _ _ ([(1, .int .u8 1), (10, Sl bb 0 (s.length + 2 * n) c), (13, I ((i + 2 * m : Nat) : Int)), (76, v27_1), (77, I (s.length : Int)), (78, I (i : Int))]) ([Bf bb bt L2, A27_1, G])
       refine WC.seq (WC.region ?_)
       refine WL.q (oq_lss rfl rfl) rfl rfl rfl ?_
       refine WL.nil (WE.then_normal (WC.sub (fr' := [(1, _), (10, _), (13, _), (76, _), (77, _), (78, _), (79, _)]) ?_ ⟨rfl, rfl, rfl, rfl, rfl, rfl, rfl, trivial⟩))
       refine WC.seq ?_
       refine WC.cond rfl (fun q28 => ?_) (fun q28 => ?_)
       ·
        try simp only [Z1, Z2, Z3, Z4, Z5, Z6, Z7, Z8, Z9, Z0] at q28
        refine WC.skip (WE.then_normal (WC.sub (fr' := [(1, _), (10, _), (13, _), (76, _), (77, _), (78, _)]) ?_ ⟨rfl, rfl, rfl, rfl, rfl, rfl, trivial⟩))
        refine WC.seq (WC.block (WC.seq (WC.region ?_)))
        refine WL.q (oq_ixaddr hr27_1 Tryd.underlying55 ty5 rfl rfl (by first | omega | exact ⟨by omega, Int.lt_of_lt_of_le (b := 16) (by omega) (by decide)⟩)) rfl rfl rfl ?_
        refine WL.load_byte hr27_1 (.tail _ (.head _)) flat5 rfl (by first | omega | exact ⟨by omega, Int.lt_of_lt_of_le (b := 16) (by omega) (by decide)⟩) rfl rfl fun c29_1 hc29_1 hc29_1l hc29_1u => ?_
        refine WL.q (oq_assign rfl) rfl rfl rfl ?_
        refine WL.nil (WE.then_normal (WC.sub (fr' := [(1, _), (10, _), (13, _), (15, _), (76, _), (77, _), (78, _)]) ?_ ⟨rfl, rfl, rfl, rfl, rfl, rfl, rfl, trivial⟩))
        refine WC.block (WC.seq ?_)
        have hst2 := cnt_step (by omega) hc29_1
        refine WC.region ?_
        refine WL.q (oq_move rfl) rfl rfl rfl ?_
        refine WL.q (oq_eql rfl rfl) rfl rfl rfl ?_
        refine WL.q (oq_move rfl) rfl rfl rfl ?_
        refine WL.split 91 rfl (fun s32_2 => ?_) (fun s32_2 => ?_)
        ·
         try simp only [Z1, Z2, Z3, Z4, Z5, Z6, Z7, Z8, Z9, Z0] at s32_2
         refine WL.q (oq_move rfl) rfl rfl rfl ?_
         refine WL.q (oq_eql rfl rfl) rfl rfl rfl ?_
         refine WL.q (oq_pick_t rfl rfl) rfl rfl rfl ?_
         refine WL.q (oq_assign rfl) rfl rfl rfl ?_
         refine WL.nil (WE.then_normal (WC.sub (fr' := [(1, _), (10, _), (13, _), (15, _), (76, _), (77, _), (78, _), (88, _)]) ?_ ⟨rfl, rfl, rfl, rfl, rfl, rfl, rfl, rfl, trivial⟩))
         refine WC.cond rfl (fun q32 => ?_) (fun q32 => ?_)
         ·
          try simp only [Z1, Z2, Z3, Z4, Z5, Z6, Z7, Z8, Z9, Z0] at q32
          refine WC.seq ?_
          first | contradiction | omega | (exfalso; simp_all; done)
         ·
          try simp only [Z1, Z2, Z3, Z4, Z5, Z6, Z7, Z8, Z9, Z0] at q32
          refine WC.seq (WC.region ?_)
          refine WL.q (oq_move rfl) rfl rfl rfl ?_
          refine WL.q (oq_move rfl) rfl rfl rfl ?_
          refine WL.qc (oq_callRm (shEsc G hG _ 1 (by omega)) (.tail _ (.tail _ (.head _))) call56 rfl) rfl rfl rfl ?_
          refine WL.q (oq_assign rfl) rfl rfl rfl ?_
          refine WL.nil (WE.then_normal (WC.sub (fr' := [(1, _), (10, _), (13, _), (15, _), (76, _), (77, _), (78, _), (100, _)]) ?_ ⟨rfl, rfl, rfl, rfl, rfl, rfl, rfl, rfl, trivial⟩))
          refine WC.cond rfl (fun q35 => ?_) (fun q35 => ?_)
          ·
           try simp only [Z1, Z2, Z3, Z4, Z5, Z6, Z7, Z8, Z9, Z0] at q35
           refine WC.seq ?_
           rw [if_pos q35] at hst2
           refine WC.region ?_
           refine WL.q (oq_move rfl) rfl rfl rfl ?_
           refine WL.q (oq_move rfl) rfl rfl rfl ?_
           refine WL.q (oq_ixSl (i := (i + 2 * m)) Tryd.underlying55 ty5 rfl rfl (by first | omega | (simp only [List.length_set]; omega))) rfl rfl rfl ?_
           refine WL.storeB ty5 rfl rfl (by omega) (by first | omega | (simp only [List.length_set]; omega)) rfl ?_
           refine WL.nil (WE.then_normal (WC.sub (fr' := [(1, _), (10, _), (13, _), (15, _), (76, _), (77, _), (78, _)]) ?_ ⟨rfl, rfl, rfl, rfl, rfl, rfl, rfl, trivial⟩))
           refine WC.seq (WC.region ?_)
           refine WL.q (oq_move rfl) rfl rfl rfl ?_
           refine WL.q (oq_move rfl) rfl rfl rfl ?_
           refine WL.q (oq_add rfl rfl (by rw [i64_lo, i64_hi]; (first | omega | (simp only [List.length_cons, List.length_nil, List.length_append, List.length_drop, List.length_take]; omega)))) rfl rfl rfl ?_
           refine WL.q (oq_move rfl) rfl rfl rfl ?_
           refine WL.q (oq_shrl 16 rfl rfl (by decide) (by decide)) rfl rfl rfl ?_
           refine WL.index_s Tryd.underlying9 rfl rfl (by first | omega | exact ⟨by omega, Int.lt_of_lt_of_le (b := 16) (by omega) (by decide)⟩) rfl rfl fun c37_5 hc37_5 hc37_5l hc37_5u => ?_
           refine WL.q (oq_ixSl (i := (i + 2 * m + 1)) Tryd.underlying55 ty5 rfl rfl (by first | omega | (simp only [List.length_set]; omega))) rfl rfl rfl ?_
           refine WL.storeB ty5 rfl rfl (by omega) (by first | omega | (simp only [List.length_set]; omega)) rfl ?_
           refine WL.nil (WE.then_normal (WC.sub (fr' := [(1, _), (10, _), (13, _), (15, _), (76, _), (77, _), (78, _)]) ?_ ⟨rfl, rfl, rfl, rfl, rfl, rfl, rfl, trivial⟩))
           refine WC.seq (WC.region ?_)
           refine WL.q (oq_move rfl) rfl rfl rfl ?_
           refine WL.q (oq_move rfl) rfl rfl rfl ?_
           refine WL.q (oq_add rfl rfl (by rw [i64_lo, i64_hi]; (first | omega | (simp only [List.length_cons, List.length_nil, List.length_append, List.length_drop, List.length_take]; omega)))) rfl rfl rfl ?_
           refine WL.q (oq_move rfl) rfl rfl rfl ?_
           refine WL.q (oq_mask 4 16 rfl rfl (by rw [u8_hi]; omega) (by decide) (by decide) (by decide)) rfl rfl rfl ?_
           refine WL.index_s Tryd.underlying9 rfl rfl (by first | omega | exact ⟨by omega, Int.lt_of_lt_of_le (b := 16) (by omega) (by decide)⟩) rfl rfl fun c38_5 hc38_5 hc38_5l hc38_5u => ?_
           refine WL.q (oq_ixSl (i := (i + 2 * m + 2)) Tryd.underlying55 ty5 rfl rfl (by first | omega | (simp only [List.length_set]; omega))) rfl rfl rfl ?_
           refine WL.storeB ty5 rfl rfl (by omega) (by first | omega | (simp only [List.length_set]; omega)) rfl ?_
           refine WL.nil (WE.then_normal (WC.sub (fr' := [(1, _), (10, _), (13, _), (76, _), (77, _), (78, _)]) ?_ ⟨rfl, rfl, rfl, rfl, rfl, rfl, trivial⟩))
           refine WC.region ?_
           refine WL.q (oq_move rfl) rfl rfl rfl ?_
           refine WL.q (oq_add rfl rfl (by rw [i64_lo, i64_hi]; (first | omega | (simp only [List.length_cons, List.length_nil, List.length_append, List.length_drop, List.length_take]; omega)))) rfl rfl rfl ?_
           refine WL.q (oq_assign rfl) rfl rfl rfl ?_
           refine WL.nil (WE.block_normal (WE.block_normal (WE.then_normal (WC.sub (fr' := [(1, _), (10, _), (13, _), (76, _), (77, _), (78, _)]) ?_ ⟨rfl, rfl, rfl, rfl, rfl, rfl, trivial⟩))))
           refine WC.region ?_
           refine WL.q (oq_add rfl rfl (by rw [i64_lo, i64_hi]; (first | omega | (simp only [List.length_cons, List.length_nil, List.length_append, List.length_drop, List.length_take]; omega)))) rfl rfl rfl ?_
           refine WL.q (oq_move rfl) rfl rfl rfl ?_
           refine WL.nil ?_
           refine WE.again (i + 1, m + 1, _) ?_ ?_ ⟨rfl, rfl, (gti rfl (by dsimp only; omega)), rfl, rfl, rfl, trivial⟩ (List.Perm.refl _)
           ·try dsimp only
            exact ⟨by omega, by rw [hst2.1]; omega, by simp only [List.length_set]; exact hL2⟩
           ·(try dsimp only); omega
          ·
           try simp only [Z1, Z2, Z3, Z4, Z5, Z6, Z7, Z8, Z9, Z0] at q35
           refine WC.seq ?_
           rw [if_neg (by rw [q35]; decide)] at hst2
           refine WC.region ?_
           refine WL.q (oq_move rfl) rfl rfl rfl ?_
           refine WL.q (oq_move rfl) rfl rfl rfl ?_
           refine WL.q (oq_move rfl) rfl rfl rfl ?_
           refine WL.q (oq_ixSl (i := (i + 2 * m)) Tryd.underlying55 ty5 rfl rfl (by first | omega | (simp only [List.length_set]; omega))) rfl rfl rfl ?_
           refine WL.storeB ty5 rfl rfl (by omega) (by first | omega | (simp only [List.length_set]; omega)) rfl ?_
           refine WL.nil (WE.then_normal (WC.sub (fr' := [(1, _), (10, _), (13, _), (76, _), (77, _), (78, _)]) ?_ ⟨rfl, rfl, rfl, rfl, rfl, rfl, trivial⟩))
           refine WC.region ?_
           refine WL.q (oq_move rfl) rfl rfl rfl ?_
           refine WL.q (oq_add rfl rfl (by rw [i64_lo, i64_hi]; (first | omega | (simp only [List.length_cons, List.length_nil, List.length_append, List.length_drop, List.length_take]; omega)))) rfl rfl rfl ?_
           refine WL.q (oq_assign rfl) rfl rfl rfl ?_
           refine WL.nil (WE.block_normal (WE.block_normal (WE.then_normal (WC.sub (fr' := [(1, _), (10, _), (13, _), (76, _), (77, _), (78, _)]) ?_ ⟨rfl, rfl, rfl, rfl, rfl, rfl, trivial⟩))))
           refine WC.region ?_
           refine WL.q (oq_add rfl rfl (by rw [i64_lo, i64_hi]; (first | omega | (simp only [List.length_cons, List.length_nil, List.length_append, List.length_drop, List.length_take]; omega)))) rfl rfl rfl ?_
           refine WL.q (oq_move rfl) rfl rfl rfl ?_
           refine WL.nil ?_
           refine WE.again (i + 1, m, _) ?_ ?_ ⟨rfl, rfl, (gti rfl (by dsimp only; omega)), rfl, rfl, rfl, trivial⟩ (List.Perm.refl _)
           ·try dsimp only
            exact ⟨by omega, by rw [hst2.1]; omega, by simp only [List.length_set]; exact hL2⟩
           ·(try dsimp only); omega
        ·
         try simp only [Z1, Z2, Z3, Z4, Z5, Z6, Z7, Z8, Z9, Z0] at s32_2
         refine WL.skip rfl rfl rfl ?_
         refine WL.skip rfl rfl rfl ?_
         refine WL.q (oq_pick_f rfl rfl) rfl rfl rfl ?_
         refine WL.q (oq_assign rfl) rfl rfl rfl ?_
         refine WL.nil (WE.then_normal (WC.sub (fr' := [(1, _), (10, _), (13, _), (15, _), (76, _), (77, _), (78, _), (88, _)]) ?_ ⟨rfl, rfl, rfl, rfl, rfl, rfl, rfl, rfl, trivial⟩))
         refine WC.cond_f rfl ?_
         refine WC.seq (WC.region ?_)
         refine WL.q (oq_move rfl) rfl rfl rfl ?_
         refine WL.q (oq_move rfl) rfl rfl rfl ?_
         refine WL.qc (oq_callRm (shEsc G hG _ 1 (by omega)) (.tail _ (.tail _ (.head _))) call56 rfl) rfl rfl rfl ?_
         refine WL.q (oq_assign rfl) rfl rfl rfl ?_
         refine WL.nil (WE.then_normal (WC.sub (fr' := [(1, _), (10, _), (13, _), (15, _), (76, _), (77, _), (78, _), (100, _)]) ?_ ⟨rfl, rfl, rfl, rfl, rfl, rfl, rfl, rfl, trivial⟩))
         refine WC.cond rfl (fun q35 => ?_) (fun q35 => ?_)
         ·
          try simp only [Z1, Z2, Z3, Z4, Z5, Z6, Z7, Z8, Z9, Z0] at q35
          refine WC.seq ?_
          rw [if_pos q35] at hst2
          refine WC.region ?_
          refine WL.q (oq_move rfl) rfl rfl rfl ?_
          refine WL.q (oq_move rfl) rfl rfl rfl ?_
          refine WL.q (oq_ixSl (i := (i + 2 * m)) Tryd.underlying55 ty5 rfl rfl (by first | omega | (simp only [List.length_set]; omega))) rfl rfl rfl ?_
          refine WL.storeB ty5 rfl rfl (by omega) (by first | omega | (simp only [List.length_set]; omega)) rfl ?_
          refine WL.nil (WE.then_normal (WC.sub (fr' := [(1, _), (10, _), (13, _), (15, _), (76, _), (77, _), (78, _)]) ?_ ⟨rfl, rfl, rfl, rfl, rfl, rfl, rfl, trivial⟩))
          refine WC.seq (WC.region ?_)
          refine WL.q (oq_move rfl) rfl rfl rfl ?_
          refine WL.q (oq_move rfl) rfl rfl rfl ?_
          refine WL.q (oq_add rfl rfl (by rw [i64_lo, i64_hi]; (first | omega | (simp only [List.length_cons, List.length_nil, List.length_append, List.length_drop, List.length_take]; omega)))) rfl rfl rfl ?_
          refine WL.q (oq_move rfl) rfl rfl rfl ?_
          refine WL.q (oq_shrl 16 rfl rfl (by decide) (by decide)) rfl rfl rfl ?_
          refine WL.index_s Tryd.underlying9 rfl rfl (by first | omega | exact ⟨by omega, Int.lt_of_lt_of_le (b := 16) (by omega) (by decide)⟩) rfl rfl fun c37_5 hc37_5 hc37_5l hc37_5u => ?_
          refine WL.q (oq_ixSl (i := (i + 2 * m + 1)) Tryd.underlying55 ty5 rfl rfl (by first | omega | (simp only [List.length_set]; omega))) rfl rfl rfl ?_
          refine WL.storeB ty5 rfl rfl (by omega) (by first | omega | (simp only [List.length_set]; omega)) rfl ?_
          refine WL.nil (WE.then_normal (WC.sub (fr' := [(1, _), (10, _), (13, _), (15, _), (76, _), (77, _), (78, _)]) ?_ ⟨rfl, rfl, rfl, rfl, rfl, rfl, rfl, trivial⟩))
          refine WC.seq (WC.region ?_)
          refine WL.q (oq_move rfl) rfl rfl rfl ?_
          refine WL.q (oq_move rfl) rfl rfl rfl ?_
          refine WL.q (oq_add rfl rfl (by rw [i64_lo, i64_hi]; (first | omega | (simp only [List.length_cons, List.length_nil, List.length_append, List.length_drop, List.length_take]; omega)))) rfl rfl rfl ?_
          refine WL.q (oq_move rfl) rfl rfl rfl ?_
          refine WL.q (oq_mask 4 16 rfl rfl (by rw [u8_hi]; omega) (by decide) (by decide) (by decide)) rfl rfl rfl ?_
          refine WL.index_s Tryd.underlying9 rfl rfl (by first | omega | exact ⟨by omega, Int.lt_of_lt_of_le (b := 16) (by omega) (by decide)⟩) rfl rfl fun c38_5 hc38_5 hc38_5l hc38_5u => ?_
          refine WL.q (oq_ixSl (i := (i + 2 * m + 2)) Tryd.underlying55 ty5 rfl rfl (by first | omega | (simp only [List.length_set]; omega))) rfl rfl rfl ?_
          refine WL.storeB ty5 rfl rfl (by omega) (by first | omega | (simp only [List.length_set]; omega)) rfl ?_
          refine WL.nil (WE.then_normal (WC.sub (fr' := [(1, _), (10, _), (13, _), (76, _), (77, _), (78, _)]) ?_ ⟨rfl, rfl, rfl, rfl, rfl, rfl, trivial⟩))
          refine WC.region ?_
          refine WL.q (oq_move rfl) rfl rfl rfl ?_
          refine WL.q (oq_add rfl rfl (by rw [i64_lo, i64_hi]; (first | omega | (simp only [List.length_cons, List.length_nil, List.length_append, List.length_drop, List.length_take]; omega)))) rfl rfl rfl ?_
          refine WL.q (oq_assign rfl) rfl rfl rfl ?_
          refine WL.nil (WE.block_normal (WE.block_normal (WE.then_normal (WC.sub (fr' := [(1, _), (10, _), (13, _), (76, _), (77, _), (78, _)]) ?_ ⟨rfl, rfl, rfl, rfl, rfl, rfl, trivial⟩))))
          refine WC.region ?_
          refine WL.q (oq_add rfl rfl (by rw [i64_lo, i64_hi]; (first | omega | (simp only [List.length_cons, List.length_nil, List.length_append, List.length_drop, List.length_take]; omega)))) rfl rfl rfl ?_
          refine WL.q (oq_move rfl) rfl rfl rfl ?_
          refine WL.nil ?_
          refine WE.again (i + 1, m + 1, _) ?_ ?_ ⟨rfl, rfl, (gti rfl (by dsimp only; omega)), rfl, rfl, rfl, trivial⟩ (List.Perm.refl _)
          ·try dsimp only
           exact ⟨by omega, by rw [hst2.1]; omega, by simp only [List.length_set]; exact hL2⟩
          ·(try dsimp only); omega
         ·
          try simp only [Z1, Z2, Z3, Z4, Z5, Z6, Z7, Z8, Z9, Z0] at q35
          refine WC.seq ?_
          rw [if_neg (by rw [q35]; decide)] at hst2
          refine WC.region ?_
          refine WL.q (oq_move rfl) rfl rfl rfl ?_
          refine WL.q (oq_move rfl) rfl rfl rfl ?_
          refine WL.q (oq_move rfl) rfl rfl rfl ?_
          refine WL.q (oq_ixSl (i := (i + 2 * m)) Tryd.underlying55 ty5 rfl rfl (by first | omega | (simp only [List.length_set]; omega))) rfl rfl rfl ?_
          refine WL.storeB ty5 rfl rfl (by omega) (by first | omega | (simp only [List.length_set]; omega)) rfl ?_
          refine WL.nil (WE.then_normal (WC.sub (fr' := [(1, _), (10, _), (13, _), (76, _), (77, _), (78, _)]) ?_ ⟨rfl, rfl, rfl, rfl, rfl, rfl, trivial⟩))
          refine WC.region ?_
          refine WL.q (oq_move rfl) rfl rfl rfl ?_
          refine WL.q (oq_add rfl rfl (by rw [i64_lo, i64_hi]; (first | omega | (simp only [List.length_cons, List.length_nil, List.length_append, List.length_drop, List.length_take]; omega)))) rfl rfl rfl ?_
          refine WL.q (oq_assign rfl) rfl rfl rfl ?_
          refine WL.nil (WE.block_normal (WE.block_normal (WE.then_normal (WC.sub (fr' := [(1, _), (10, _), (13, _), (76, _), (77, _), (78, _)]) ?_ ⟨rfl, rfl, rfl, rfl, rfl, rfl, trivial⟩))))
          refine WC.region ?_
          refine WL.q (oq_add rfl rfl (by rw [i64_lo, i64_hi]; (first | omega | (simp only [List.length_cons, List.length_nil, List.length_append, List.length_drop, List.length_take]; omega)))) rfl rfl rfl ?_
          refine WL.q (oq_move rfl) rfl rfl rfl ?_
          refine WL.nil ?_
          refine WE.again (i + 1, m, _) ?_ ?_ ⟨rfl, rfl, (gti rfl (by dsimp only; omega)), rfl, rfl, rfl, trivial⟩ (List.Perm.refl _)
          ·try dsimp only
           exact ⟨by omega, by rw [hst2.1]; omega, by simp only [List.length_set]; exact hL2⟩
          ·(try dsimp only); omega
       ·
        try simp only [Z1, Z2, Z3, Z4, Z5, Z6, Z7, Z8, Z9, Z0] at q28
        refine WC.exit (WE.then_exit (WE.then_exit (WE.block_same (WE.then_normal (WC.sub (fr' := [(10, _)]) ?_ ⟨rfl, trivial⟩)))))
        refine WC.seq (WC.region ?_)
        refine WL.q (oq_move rfl) rfl rfl rfl ?_
        refine WL.q (oq_bytesStr (Sl.rd (by first | omega | (simp only [List.length_set]; omega)) (by first | omega | (simp only [List.length_set]; omega))) (.head _) Tryd.underlying9 Tryd.underlying55 Tryd.underlying5 rfl) rfl rfl rfl ?_
        refine WL.q (oq_assign rfl) rfl rfl rfl ?_
        refine WL.nil (WE.then_normal (WC.sub (fr' := [(4, _)]) ?_ ⟨rfl, trivial⟩))
        refine WC.ret ?_
        refine WE.lose hbb ?_
        refine WE.forget hA27_1 ?_
        refine WE.add0 ?_
        refine WE.endA (.inl rfl) (res1 Tryd.results42 rfl) ?_ fresh0
        exact ⟨_, rfl⟩
end M3
end Go.Proofs.YtefaegocllppkaaDoor
/- Hosts and paths of addresses. -/
namespace Go.Proofs.YtefaegocllppkaaDoor
open Go Go.RowKit V L0 L1 L2 M0 M1 M2 M3
set_option linter.unusedSimpArgs false
set_option linter.unusedVariables false
set_option maxRecDepth 10000
namespace M4
theorem call32 : Callable Tryd.prog 32 := ⟨_, Tryd.func32, rfl, by kernel_rfl⟩
theorem call41 : Callable Tryd.prog 41 := ⟨_, Tryd.func41, rfl, by kernel_rfl⟩
theorem call42 : Callable Tryd.prog 42 := ⟨_, Tryd.func42, rfl, by kernel_rfl⟩
theorem call49 : Callable Tryd.prog 49 := ⟨_, Tryd.func49, rfl, by kernel_rfl⟩
theorem call50 : Callable Tryd.prog 50 := ⟨_, Tryd.func50, rfl, by kernel_rfl⟩
theorem call66 : Callable Tryd.prog 66 := ⟨_, Tryd.func66, rfl, by kernel_rfl⟩
theorem ty9 : Ty Tryd.prog 9 (S []) 1 16 := ty_of (by kernel_rfl)
theorem fld44_4 : Fld Tryd.prog 44 4 4 9 := fld_of Tryd.underlying44 rfl rfl rfl ty9 (by decide)
theorem fld44_7 : Fld Tryd.prog 44 7 7 9 := fld_of Tryd.underlying44 rfl rfl rfl ty9 (by decide)
theorem mem_set {set s : List UInt8} (h : allIn set s = true) {c : UInt8} (hc : c ∈ s) : c ∈ set := by
 have := List.all_eq_true.1 h c hc
 simpa using this
def ASET : List UInt8 := 58 :: 63 :: PSET
theorem host_sub : ∀ c ∈ 58 :: HSET, c ∈ ASET ∧ c ≠ 37 ∧ c ≠ 64 ∧ c ≠ 91 ∧ c ≠ 93 ∧ c ≠ 47 ∧ c ≠ 63 ∧ c ≠ 35 := by decide +kernel
theorem dset_sub : ∀ c ∈ DSET, c ∈ 58 :: HSET := by decide +kernel
theorem hset_no : ∀ c ∈ HSET, c ≠ 58 := by decide +kernel
theorem dset_no : ∀ c ∈ DSET, c ≠ 58 := by decide +kernel
theorem path_sub : ∀ c ∈ PSET, c ∈ ASET ∧ c ≠ 37 ∧ c ≠ 63 ∧ c ≠ 35 := by decide +kernel
theorem aset_ok : ∀ c ∈ ASET, (32 ≤ c.toNat ∧ c.toNat ≠ 127) ∧ c ≠ 35 := by decide +kernel
theorem low_sub {c : UInt8} (h : 97 ≤ c.toNat ∧ c.toNat ≤ 122) : c ∈ ASET ∧ c ≠ 63 := by
 have key : ∀ n : Fin 256, 97 ≤ n.val ∧ n.val ≤ 122 → UInt8.ofNat n.val ∈ ASET ∧ UInt8.ofNat n.val ≠ 63 := by decide +kernel
 have := key ⟨c.toNat, c.toNat_lt⟩ h
 rwa [UInt8.ofNat_toNat] at this
structure UOk (sc au pa qq h : List UInt8) : Prop where
 low : Low sc
 port : ∃ pp, au = h ++ pp ∧ PortOk pp
 host : HostOk h
 path : PathOk pa
 q : qq = [] ∨ ∃ q, qq = 63 :: q ∧ Low q
abbrev UT (sc au pa qq : List UInt8) : List UInt8 := sc ++ 58 :: (47 :: 47 :: (au ++ pa) ++ qq)
theorem au_mem {au h : List UInt8} (hp : ∃ pp, au = h ++ pp ∧ PortOk pp) (hh : HostOk h) : ∀ c ∈ au, c ∈ 58 :: HSET := by
 obtain ⟨pp, rfl, hpp⟩ := hp
 intro c hc
 rcases List.mem_append.1 hc with h1 | h1
 ·exact .tail _ (mem_set hh.2 h1)
 ·rcases hpp with rfl | ⟨d, rfl, _, hd⟩
  ·cases h1
  ·rcases List.mem_cons.1 h1 with rfl | h2
   ·exact .head _
   ·exact dset_sub c (mem_set hd h2)
section
variable {sc au pa qq h : List UInt8} (hu : UOk sc au pa qq h)
include hu
theorem UOk.aum : ∀ c ∈ au, c ∈ 58 :: HSET := au_mem hu.port hu.host
theorem UOk.no37 : (37 : UInt8) ∉ au := fun e => (host_sub _ (hu.aum _ e)).2.1 rfl
theorem UOk.no64 : (64 : UInt8) ∉ au := fun e => (host_sub _ (hu.aum _ e)).2.2.1 rfl
theorem UOk.no91 : (91 : UInt8) ∉ au := fun e => (host_sub _ (hu.aum _ e)).2.2.2.1 rfl
theorem UOk.no47 : (47 : UInt8) ∉ au := fun e => (host_sub _ (hu.aum _ e)).2.2.2.2.2.1 rfl
theorem UOk.esc : ∀ c ∈ au, esc 4 c.toNat = false := fun c hc => host_esc c (hu.aum c hc)
theorem UOk.pa37 : (37 : UInt8) ∉ pa := fun e => (path_sub _ (mem_set hu.path.2 e)).2.1 rfl
theorem UOk.no63 : (63 : UInt8) ∉ 47 :: 47 :: (au ++ pa) := by
 intro e
 rcases List.mem_cons.1 e with h | e
 ·exact absurd h (by decide)
 rcases List.mem_cons.1 e with h | e
 ·exact absurd h (by decide)
 rcases List.mem_append.1 e with e | e
 ·exact (host_sub _ (hu.aum _ e)).2.2.2.2.2.2.1 rfl
 ·exact (path_sub _ (mem_set hu.path.2 e)).2.2.1 rfl
theorem UOk.all : ∀ c ∈ UT sc au pa qq, c ∈ ASET := by
 intro c hc
 rcases List.mem_append.1 hc with h1 | h1
 ·exact (low_sub (hu.low.2 c h1)).1
 rcases List.mem_cons.1 h1 with rfl | h1
 ·decide
 rcases List.mem_append.1 h1 with h1 | h1
 ·rcases List.mem_cons.1 h1 with rfl | h1
  ·decide
  rcases List.mem_cons.1 h1 with rfl | h1
  ·decide
  rcases List.mem_append.1 h1 with h1 | h1
  ·exact (host_sub c (hu.aum c h1)).1
  ·exact (path_sub c (mem_set hu.path.2 h1)).1
 ·rcases hu.q with rfl | ⟨q, rfl, hq⟩
  ·cases h1
  ·rcases List.mem_cons.1 h1 with rfl | h1
   ·decide
   ·exact (low_sub (hq.2 c h1)).1
theorem UOk.ctl : ∀ c ∈ UT sc au pa qq, 32 ≤ c.toNat ∧ c.toNat ≠ 127 := fun c hc => (aset_ok c (hu.all c hc)).1
theorem UOk.no35 : (35 : UInt8) ∉ UT sc au pa qq := fun e => (aset_ok _ (hu.all _ e)).2 rfl
theorem UOk.len : 1 ≤ sc.length ∧ 1 ≤ au.length := by
 refine ⟨low_pos hu.low, ?_⟩
 obtain ⟨pp, rfl, _⟩ := hu.port
 have := List.length_pos_iff.2 hu.host.1
 rw [List.length_append]; omega
theorem UOk.col : findI [58] au = -1 ∨ (0 ≤ findI [58] au ∧ (findI [58] au).toNat ≤ au.length ∧ lidx 58 au au.length = findI [58] au ∧ PortOk (au.drop (findI [58] au).toNat) ∧ au.take (findI [58] au).toNat = h) := by
 obtain ⟨pp, rfl, hpp⟩ := hu.port
 have hn : (58 : UInt8) ∉ h := fun e => hset_no _ (mem_set hu.host.2 e) rfl
 rcases hpp with rfl | ⟨d, rfl, hd0, hd⟩
 ·left; rw [List.append_nil]; exact findI_no hn
 ·right
  have hd2 : (58 : UInt8) ∉ d := fun e => dset_no _ (mem_set hd e) rfl
  rw [findI_app hn, lidx_all hd2]
  refine ⟨by omega, by simp, rfl, ?_, by simp⟩
  rw [Int.toNat_natCast, List.drop_left]
  exact .inr ⟨d, rfl, hd0, hd⟩
theorem UOk.slash : (0 ≤ findI [47] (au ++ pa) → (findI [47] (au ++ pa)).toNat ≤ (au ++ pa).length ∧ (au ++ pa).take (findI [47] (au ++ pa)).toNat = au ∧ (au ++ pa).drop (findI [47] (au ++ pa)).toNat = pa) ∧ (findI [47] (au ++ pa) < 0 → au ++ pa = au ∧ [] = pa) := by
 rcases hu.path.1 with rfl | ⟨t, rfl⟩
 ·rw [List.append_nil, findI_no hu.no47]; exact ⟨fun h => absurd h (by decide), fun _ => ⟨rfl, rfl⟩⟩
 ·rw [findI_app hu.no47]; exact ⟨fun _ => ⟨by simp, by simp, by simp⟩, fun h => by omega⟩
theorem UOk.cut : cl 63 (47 :: 47 :: (au ++ pa) ++ qq) = 47 :: 47 :: (au ++ pa) ∧ cr 63 (47 :: 47 :: (au ++ pa) ++ qq) = qq.tail := by
 rcases hu.q with rfl | ⟨q, rfl, _⟩
 ·rw [List.append_nil]; exact cl_no hu.no63
 ·exact cl_app hu.no63
theorem UOk.suf : ¬ (([63] : List UInt8).length ≤ (47 :: 47 :: (au ++ pa) ++ qq).length ∧ (47 :: 47 :: (au ++ pa) ++ qq).drop ((47 :: 47 :: (au ++ pa) ++ qq).length - ([63] : List UInt8).length) = [63]) := by
 rintro ⟨_, e⟩
 have hm : ∀ t : List UInt8, t.drop (t.length - 1) = [63] → ∃ u, t = u ++ [63] := fun t ht => ⟨t.take (t.length - 1), by rw [← ht, List.take_append_drop]⟩
 obtain ⟨u, hu2⟩ := hm _ e
 rcases hu.q with rfl | ⟨q, rfl, hq⟩
 ·rw [List.append_nil] at hu2
  exact hu.no63 (by rw [hu2]; simp)
 ·have hl : q ≠ [] := hq.1
  have h1 : (47 :: 47 :: (au ++ pa) ++ 63 :: q).getLast? = some 63 := by rw [hu2]; simp
  have h2 : (47 :: 47 :: (au ++ pa) ++ 63 :: q).getLast? = q.getLast? := by
   rw [List.getLast?_append, List.getLast?_cons]
   cases q with
   | nil => exact absurd rfl hl
   | cons a r => simp [List.getLast?_cons]
  rw [h2] at h1
  exact (low_sub (hq.2 63 (List.mem_of_getLast? h1))).2 rfl
end
theorem slastNo (s : List UInt8) (k : UInt8) (hs : s.length ≤ 4000000000) (h : k ∉ s) : Fn0 Tryd.prog 49 [S s, S [k]] (I (-1)) := by
 have := slast s k hs; rwa [lidx_no h _ (Nat.le_refl _)] at this
theorem hasPreY (s p : List UInt8) (hs : s.length ≤ 4000000000) (hp : p.length ≤ 4000000000) (h : s.take p.length = p) : Fn0 Tryd.prog 15 [S s, S p] (.bool true) := by
 have := hasPre s p hs hp; rwa [decide_eq_true h] at this
theorem hasSufN (s p : List UInt8) (hs : s.length ≤ 4000000000) (hp : p.length ≤ 4000000000) (h : ¬ (p.length ≤ s.length ∧ s.drop (s.length - p.length) = p)) : Fn0 Tryd.prog 16 [S s, S p] (.bool false) := by
 have := hasSuf s p hs hp; rwa [decide_eq_false h] at this
abbrev UC (p : Nat) (sc au pa rq rp : List UInt8) : Hp := [(p, .cells #[S sc, S [], .pointer none, S au, S pa, S [], S rq, S rp, S [], .bool false, .bool false] 44 (0, 0))]
theorem parseHost (G : Hp) (hG : Tb G) {sc au pa qq h : List UInt8} (hu : UOk sc au pa qq h) (hal : (UT sc au pa qq).length ≤ 100000) (sch : List UInt8) : FnR Tryd.prog 50 [S sch, S au] G (.tuple #[S au, .nilIface]) := by
 have hlen := hal
 simp only [UT, List.length_append, List.length_cons] at hlen
 have hul := hu.len
 have hcol := hu.col
 refine FnR.enter (n := 142) Tryd.func50 rfl rfl fun w0 => ?_
 refine WC.sub (fr' := [(0, _), (1, _)]) ?_ ⟨rfl, rfl, trivial⟩
 refine WC.seq (WC.region ?_)
 refine WL.q (oq_assign rfl) rfl rfl rfl ?_
 refine WL.q (oq_assign rfl) rfl rfl rfl ?_
 refine WL.nil (WE.then_normal (WC.sub (fr' := [(0, _), (1, _)]) ?_ ⟨rfl, rfl, trivial⟩))
 refine WC.seq (WC.seq (WC.region ?_))
 refine WL.q (oq_move rfl) rfl rfl rfl ?_
 refine WL.qc (oq_call (slastNo au 91 (by omega) hu.no91) call49 rfl) rfl rfl rfl ?_
 refine WL.q (oq_assign rfl) rfl rfl rfl ?_
 refine WL.nil (WE.then_normal (WC.sub (fr' := [(0, _), (1, _), (6, _)]) ?_ ⟨rfl, rfl, rfl, trivial⟩))
 refine WC.seq (WC.region ?_)
 refine WL.q (oq_move rfl) rfl rfl rfl ?_
 refine WL.q (oq_gtr rfl rfl) rfl rfl rfl ?_
 refine WL.nil (WE.then_normal (WC.sub (fr' := [(0, _), (1, _), (6, _), (26, _)]) ?_ ⟨rfl, rfl, rfl, rfl, trivial⟩))
 refine WC.cond rfl (fun q2 => ?_) (fun q2 => ?_)
 ·
  try simp only [Z1, Z2, Z3, Z4, Z5, Z6, Z7, Z8, Z9, Z0] at q2
  refine WC.seq ?_
  first | contradiction | omega | (exfalso; simp_all; done)
 ·
  try simp only [Z1, Z2, Z3, Z4, Z5, Z6, Z7, Z8, Z9, Z0] at q2
  refine WC.seq (WC.region ?_)
  refine WL.q (oq_move rfl) rfl rfl rfl ?_
  refine WL.q (oq_eql rfl rfl) rfl rfl rfl ?_
  refine WL.nil (WE.then_normal (WC.sub (fr' := [(0, _), (1, _), (6, _), (29, _)]) ?_ ⟨rfl, rfl, rfl, rfl, trivial⟩))
  refine WC.cond rfl (fun q4 => ?_) (fun q4 => ?_)
  ·
   try simp only [Z1, Z2, Z3, Z4, Z5, Z6, Z7, Z8, Z9, Z0] at q4
   refine WC.seq ?_
   first | contradiction | omega | (exfalso; simp_all; done)
  ·
   try simp only [Z1, Z2, Z3, Z4, Z5, Z6, Z7, Z8, Z9, Z0] at q4
   refine WC.seq (WC.region ?_)
   refine WL.q (oq_move rfl) rfl rfl rfl ?_
   refine WL.qc (oq_call (nIndex au [58] (by omega) (by decide)) call32 rfl) rfl rfl rfl ?_
   refine WL.q (oq_assign rfl) rfl rfl rfl ?_
   refine WL.nil (WE.then_normal (WC.sub (fr' := [(0, _), (1, _), (19, _)]) ?_ ⟨rfl, rfl, rfl, trivial⟩))
   refine WC.seq (WC.region ?_)
   refine WL.q (oq_move rfl) rfl rfl rfl ?_
   refine WL.q (oq_neq rfl rfl) rfl rfl rfl ?_
   refine WL.nil (WE.then_normal (WC.sub (fr' := [(0, _), (1, _), (19, _), (113, _)]) ?_ ⟨rfl, rfl, rfl, rfl, trivial⟩))
   refine WC.cond rfl (fun q36 => ?_) (fun q36 => ?_)
   ·
    try simp only [Z1, Z2, Z3, Z4, Z5, Z6, Z7, Z8, Z9, Z0] at q36
    refine WC.seq (WC.region ?_)
    refine WL.q (oq_move rfl) rfl rfl rfl ?_
    refine WL.qc (oq_call (slast au 58 (by omega)) call49 rfl) rfl rfl rfl ?_
    refine WL.q (oq_assign rfl) rfl rfl rfl ?_
    refine WL.nil (WE.then_normal (WC.sub (fr' := [(0, _), (1, _), (19, _), (20, _)]) ?_ ⟨rfl, rfl, rfl, rfl, trivial⟩))
    refine WC.seq (WC.seq (WC.region ?_))
    refine WL.q (oq_move rfl) rfl rfl rfl ?_
    refine WL.q (oq_move rfl) rfl rfl rfl ?_
    refine WL.q (oq_neq rfl rfl) rfl rfl rfl ?_
    refine WL.nil (WE.then_normal (WC.sub (fr' := [(0, _), (1, _), (19, _), (20, _), (118, _)]) ?_ ⟨rfl, rfl, rfl, rfl, rfl, trivial⟩))
    refine WC.cond rfl (fun q38 => ?_) (fun q38 => ?_)
    ·
     try simp only [Z1, Z2, Z3, Z4, Z5, Z6, Z7, Z8, Z9, Z0] at q38
     refine WC.seq ?_
     omega
    ·
     try simp only [Z1, Z2, Z3, Z4, Z5, Z6, Z7, Z8, Z9, Z0] at q38
     refine WC.skip (WE.then_normal (WC.sub (fr' := [(1, _), (19, _)]) ?_ ⟨rfl, rfl, trivial⟩))
     refine WC.seq (WC.region ?_)
     refine WL.q (oq_move rfl) rfl rfl rfl ?_
     refine WL.q (oq_move rfl) rfl rfl rfl ?_
     refine WL.q (oq_slice_s1 Tryd.underlying9 rfl rfl (by first | omega | (have := hcol.resolve_left q36; omega))) rfl rfl rfl ?_
     refine WL.q (oq_assign rfl) rfl rfl rfl ?_
     refine WL.nil (WE.then_normal (WC.sub (fr' := [(1, _), (21, _)]) ?_ ⟨rfl, rfl, trivial⟩))
     refine WC.seq (WC.region ?_)
     refine WL.q (oq_move rfl) rfl rfl rfl ?_
     refine WL.qc (oq_call (validPort _ (hcol.resolve_left q36).2.2.2.1 (by simp; omega)) call66 rfl) rfl rfl rfl ?_
     refine WL.q (oq_not rfl) rfl rfl rfl ?_
     refine WL.nil (WE.then_normal (WC.sub (fr' := [(1, _), (131, _)]) ?_ ⟨rfl, rfl, trivial⟩))
     refine WC.cond rfl (fun q42 => ?_) (fun q42 => ?_)
     ·
      try simp only [Z1, Z2, Z3, Z4, Z5, Z6, Z7, Z8, Z9, Z0] at q42
      refine WC.seq ?_
      first | contradiction | omega | (exfalso; simp_all; done)
     ·
      try simp only [Z1, Z2, Z3, Z4, Z5, Z6, Z7, Z8, Z9, Z0] at q42
      refine WC.skip (WE.then_normal (WC.sub (fr' := [(1, _)]) ?_ ⟨rfl, trivial⟩))
      refine WC.seq (WC.region ?_)
      refine WL.q (oq_assign rfl) rfl rfl rfl ?_
      refine WL.nil (WE.then_normal (WC.sub (fr' := [(1, _)]) ?_ ⟨rfl, trivial⟩))
      refine WC.seq (WC.seq (WC.region ?_))
      refine WL.q (oq_move rfl) rfl rfl rfl ?_
      refine WL.qc (oq_callRm (unesc4 G hG au (by omega) hu.no37 hu.esc) (.head _) call41 rfl) rfl rfl rfl ?_
      refine WL.q (oq_move rfl) rfl rfl rfl ?_
      refine WL.q (oq_extract rfl rfl) rfl rfl rfl ?_
      refine WL.q (oq_extract rfl rfl) rfl rfl rfl ?_
      refine WL.q (oq_assign rfl) rfl rfl rfl ?_
      refine WL.q (oq_assign rfl) rfl rfl rfl ?_
      refine WL.nil (WE.then_normal (WC.sub (fr' := [(1, _), (22, _)]) ?_ ⟨rfl, rfl, trivial⟩))
      refine WC.seq (WC.region ?_)
      refine WL.q (oq_move rfl) rfl rfl rfl ?_
      refine WL.q (oq_ineq Tryd.underlying39 rfl (.inl rfl)) rfl rfl rfl ?_
      refine WL.nil (WE.then_normal (WC.sub (fr' := [(1, _), (22, _), (139, _)]) ?_ ⟨rfl, rfl, rfl, trivial⟩))
      refine WC.cond rfl (fun q46 => ?_) (fun q46 => ?_)
      ·
       try simp only [Z1, Z2, Z3, Z4, Z5, Z6, Z7, Z8, Z9, Z0] at q46
       refine WC.seq ?_
       first | contradiction | omega | (exfalso; simp_all; done)
      ·
       try simp only [Z1, Z2, Z3, Z4, Z5, Z6, Z7, Z8, Z9, Z0] at q46
       refine WC.skip (WE.then_normal (WC.sub (fr' := [(1, _)]) ?_ ⟨rfl, trivial⟩))
       refine WC.seq (WC.region ?_)
       refine WL.q (oq_move rfl) rfl rfl rfl ?_
       refine WL.q (oq_assign rfl) rfl rfl rfl ?_
       refine WL.q (oq_assign rfl) rfl rfl rfl ?_
       refine WL.nil (WE.then_normal (WC.sub (fr' := [(4, _), (5, _)]) ?_ ⟨rfl, rfl, trivial⟩))
       refine WC.ret ?_
       refine WE.endR (.inl rfl) (res2 Tryd.results50 rfl rfl) ?_
       rfl
   ·
    try simp only [Z1, Z2, Z3, Z4, Z5, Z6, Z7, Z8, Z9, Z0] at q36
    refine WC.skip (WE.then_normal (WC.sub (fr' := [(1, _)]) ?_ ⟨rfl, trivial⟩))
    refine WC.seq (WC.region ?_)
    refine WL.q (oq_assign rfl) rfl rfl rfl ?_
    refine WL.nil (WE.then_normal (WC.sub (fr' := [(1, _)]) ?_ ⟨rfl, trivial⟩))
    refine WC.seq (WC.seq (WC.region ?_))
    refine WL.q (oq_move rfl) rfl rfl rfl ?_
    refine WL.qc (oq_callRm (unesc4 G hG au (by omega) hu.no37 hu.esc) (.head _) call41 rfl) rfl rfl rfl ?_
    refine WL.q (oq_move rfl) rfl rfl rfl ?_
    refine WL.q (oq_extract rfl rfl) rfl rfl rfl ?_
    refine WL.q (oq_extract rfl rfl) rfl rfl rfl ?_
    refine WL.q (oq_assign rfl) rfl rfl rfl ?_
    refine WL.q (oq_assign rfl) rfl rfl rfl ?_
    refine WL.nil (WE.then_normal (WC.sub (fr' := [(1, _), (22, _)]) ?_ ⟨rfl, rfl, trivial⟩))
    refine WC.seq (WC.region ?_)
    refine WL.q (oq_move rfl) rfl rfl rfl ?_
    refine WL.q (oq_ineq Tryd.underlying39 rfl (.inl rfl)) rfl rfl rfl ?_
    refine WL.nil (WE.then_normal (WC.sub (fr' := [(1, _), (22, _), (139, _)]) ?_ ⟨rfl, rfl, rfl, trivial⟩))
    refine WC.cond rfl (fun q46 => ?_) (fun q46 => ?_)
    ·
     try simp only [Z1, Z2, Z3, Z4, Z5, Z6, Z7, Z8, Z9, Z0] at q46
     refine WC.seq ?_
     first | contradiction | omega | (exfalso; simp_all; done)
    ·
     try simp only [Z1, Z2, Z3, Z4, Z5, Z6, Z7, Z8, Z9, Z0] at q46
     refine WC.skip (WE.then_normal (WC.sub (fr' := [(1, _)]) ?_ ⟨rfl, trivial⟩))
     refine WC.seq (WC.region ?_)
     refine WL.q (oq_move rfl) rfl rfl rfl ?_
     refine WL.q (oq_assign rfl) rfl rfl rfl ?_
     refine WL.q (oq_assign rfl) rfl rfl rfl ?_
     refine WL.nil (WE.then_normal (WC.sub (fr' := [(4, _), (5, _)]) ?_ ⟨rfl, rfl, trivial⟩))
     refine WC.ret ?_
     refine WE.endR (.inl rfl) (res2 Tryd.results50 rfl rfl) ?_
     rfl
theorem parseAuth (G : Hp) (hG : Tb G) {sc au pa qq h : List UInt8} (hu : UOk sc au pa qq h) (hal : (UT sc au pa qq).length ≤ 100000) (sch : List UInt8) : FnR Tryd.prog 39 [S sch, S au] G (.tuple #[.pointer none, S au, .nilIface]) := by
 have hlen := hal
 simp only [UT, List.length_append, List.length_cons] at hlen
 have hul := hu.len
 refine FnR.enter (n := 84) Tryd.func39 rfl rfl fun w0 => ?_
 refine WC.sub (fr' := [(0, _), (1, _)]) ?_ ⟨rfl, rfl, trivial⟩
 refine WC.seq (WC.region ?_)
 refine WL.q (oq_assign rfl) rfl rfl rfl ?_
 refine WL.q (oq_assign rfl) rfl rfl rfl ?_
 refine WL.q (oq_assign rfl) rfl rfl rfl ?_
 refine WL.nil (WE.then_normal (WC.sub (fr' := [(0, _), (1, _)]) ?_ ⟨rfl, rfl, trivial⟩))
 refine WC.seq (WC.region ?_)
 refine WL.q (oq_move rfl) rfl rfl rfl ?_
 refine WL.qc (oq_call (slastNo au 64 (by omega) hu.no64) call49 rfl) rfl rfl rfl ?_
 refine WL.q (oq_assign rfl) rfl rfl rfl ?_
 refine WL.nil (WE.then_normal (WC.sub (fr' := [(0, _), (1, _), (7, _)]) ?_ ⟨rfl, rfl, rfl, trivial⟩))
 refine WC.seq (WC.seq (WC.region ?_))
 refine WL.q (oq_move rfl) rfl rfl rfl ?_
 refine WL.q (oq_lss rfl rfl) rfl rfl rfl ?_
 refine WL.nil (WE.then_normal (WC.sub (fr' := [(0, _), (1, _), (7, _), (15, _)]) ?_ ⟨rfl, rfl, rfl, rfl, trivial⟩))
 refine WC.cond rfl (fun q2 => ?_) (fun q2 => ?_)
 ·
  try simp only [Z1, Z2, Z3, Z4, Z5, Z6, Z7, Z8, Z9, Z0] at q2
  refine WC.region ?_
  refine WL.q (oq_move rfl) rfl rfl rfl ?_
  refine WL.q (oq_move rfl) rfl rfl rfl ?_
  refine WL.qc (oq_callRm (parseHost G hG hu hal sch) (.head _) call50 rfl) rfl rfl rfl ?_
  refine WL.q (oq_move rfl) rfl rfl rfl ?_
  refine WL.q (oq_extract rfl rfl) rfl rfl rfl ?_
  refine WL.q (oq_extract rfl rfl) rfl rfl rfl ?_
  refine WL.q (oq_assign rfl) rfl rfl rfl ?_
  refine WL.q (oq_assign rfl) rfl rfl rfl ?_
  refine WL.nil (WE.then_normal (WC.sub (fr' := [(1, _), (5, _), (6, _), (7, _)]) ?_ ⟨rfl, rfl, rfl, rfl, trivial⟩))
  refine WC.seq (WC.seq (WC.region ?_))
  refine WL.q (oq_move rfl) rfl rfl rfl ?_
  refine WL.q (oq_ineq Tryd.underlying39 rfl (.inl rfl)) rfl rfl rfl ?_
  refine WL.nil (WE.then_normal (WC.sub (fr' := [(1, _), (5, _), (6, _), (7, _), (32, _)]) ?_ ⟨rfl, rfl, rfl, rfl, rfl, trivial⟩))
  refine WC.cond rfl (fun q5 => ?_) (fun q5 => ?_)
  ·
   try simp only [Z1, Z2, Z3, Z4, Z5, Z6, Z7, Z8, Z9, Z0] at q5
   refine WC.seq ?_
   first | contradiction | omega | (exfalso; simp_all; done)
  ·
   try simp only [Z1, Z2, Z3, Z4, Z5, Z6, Z7, Z8, Z9, Z0] at q5
   refine WC.skip (WE.then_normal (WC.sub (fr' := [(1, _), (5, _), (7, _)]) ?_ ⟨rfl, rfl, rfl, trivial⟩))
   refine WC.seq (WC.seq (WC.region ?_))
   refine WL.q (oq_move rfl) rfl rfl rfl ?_
   refine WL.q (oq_lss rfl rfl) rfl rfl rfl ?_
   refine WL.nil (WE.then_normal (WC.sub (fr' := [(1, _), (5, _), (7, _), (35, _)]) ?_ ⟨rfl, rfl, rfl, rfl, trivial⟩))
   refine WC.cond rfl (fun q7 => ?_) (fun q7 => ?_)
   ·
    try simp only [Z1, Z2, Z3, Z4, Z5, Z6, Z7, Z8, Z9, Z0] at q7
    refine WC.seq (WC.region ?_)
    refine WL.q (oq_move rfl) rfl rfl rfl ?_
    refine WL.q (oq_assign rfl) rfl rfl rfl ?_
    refine WL.q (oq_assign rfl) rfl rfl rfl ?_
    refine WL.q (oq_assign rfl) rfl rfl rfl ?_
    refine WL.nil (WE.then_normal (WC.sub (fr' := [(4, _), (5, _), (6, _)]) ?_ ⟨rfl, rfl, rfl, trivial⟩))
    refine WC.ret (WE.then_ret ?_)
    refine WE.endR (.inl rfl) (res3 Tryd.results39 rfl rfl rfl) ?_
    rfl
   ·
    try simp only [Z1, Z2, Z3, Z4, Z5, Z6, Z7, Z8, Z9, Z0] at q7
    refine WC.skip (WE.then_normal (WC.sub (fr' := [(1, _), (5, _), (7, _)]) ?_ ⟨rfl, rfl, rfl, trivial⟩))
    refine WC.seq ?_
    first | contradiction | omega | (exfalso; simp_all; done)
 ·
  try simp only [Z1, Z2, Z3, Z4, Z5, Z6, Z7, Z8, Z9, Z0] at q2
  first | contradiction | omega | (exfalso; simp_all; done)
theorem setPath (base p : Nat) (G : Hp) (hG : Tb G) (sc au pa rq : List UInt8) (hp : (37 : UInt8) ∉ pa) (hl : pa.length ≤ 100000) : FnW Tryd.prog 40 [Pt p 0, S pa] base [UC p sc au [] rq [], G] (fun v Hs => v = .nilIface ∧ ∃ rp, Hs = [UC p sc au pa rq rp, G]) := by
 refine FnW.enter (n := 32) Tryd.func40 rfl rfl fun w0 R0 hbase => ?_
 subst hbase
 show WC _ _ _ _ _ _ _ ([UC p sc au [] rq [], G, R0])
 refine WC.sub (fr' := [(0, _), (1, _)]) ?_ ⟨rfl, rfl, trivial⟩
 refine WC.seq (WC.region ?_)
 refine WL.q (oq_assign rfl) rfl rfl rfl ?_
 refine WL.nil (WE.then_normal (WC.sub (fr' := [(0, _), (1, _)]) ?_ ⟨rfl, rfl, trivial⟩))
 refine WC.seq (WC.region ?_)
 refine WL.q (oq_move rfl) rfl rfl rfl ?_
 refine WL.qc (oq_callRm (unesc1 G hG pa (by omega) hp) (.tail _ (.head _)) call41 rfl) rfl rfl rfl ?_
 refine WL.q (oq_move rfl) rfl rfl rfl ?_
 refine WL.q (oq_extract rfl rfl) rfl rfl rfl ?_
 refine WL.q (oq_extract rfl rfl) rfl rfl rfl ?_
 refine WL.q (oq_assign rfl) rfl rfl rfl ?_
 refine WL.q (oq_assign rfl) rfl rfl rfl ?_
 refine WL.nil (WE.then_normal (WC.sub (fr' := [(0, _), (1, _), (5, _), (6, _)]) ?_ ⟨rfl, rfl, rfl, rfl, trivial⟩))
 refine WC.seq (WC.seq (WC.region ?_))
 refine WL.q (oq_move rfl) rfl rfl rfl ?_
 refine WL.q (oq_ineq Tryd.underlying39 rfl (.inl rfl)) rfl rfl rfl ?_
 refine WL.nil (WE.then_normal (WC.sub (fr' := [(0, _), (1, _), (5, _), (6, _), (14, _)]) ?_ ⟨rfl, rfl, rfl, rfl, rfl, trivial⟩))
 refine WC.cond rfl (fun q2 => ?_) (fun q2 => ?_)
 ·
  try simp only [Z1, Z2, Z3, Z4, Z5, Z6, Z7, Z8, Z9, Z0] at q2
  refine WC.seq ?_
  first | contradiction | omega | (exfalso; simp_all; done)
 ·
  try simp only [Z1, Z2, Z3, Z4, Z5, Z6, Z7, Z8, Z9, Z0] at q2
  refine WC.skip (WE.then_normal (WC.sub (fr' := [(0, _), (1, _), (5, _)]) ?_ ⟨rfl, rfl, rfl, trivial⟩))
  refine WC.seq (WC.region ?_)
  refine WL.q (oq_move rfl) rfl rfl rfl ?_
  refine WL.q (oq_move rfl) rfl rfl rfl ?_
  refine WL.q (oq_nilCheck rfl) rfl rfl rfl ?_
  refine WL.q (oq_fieldAddr fld44_4 rfl) rfl rfl rfl ?_
  refine WL.store1 #[_, _, _, _, _, _, _, _, _, _, _] ty9 rfl rfl (by first | rfl | exact OwS.one one_) (Nat.lt_of_lt_of_le (Nat.lt_succ_self _) (Nat.le_of_ble_eq_true rfl)) rfl rfl ?_
  refine WL.nil (WE.then_normal (WC.sub (fr' := [(0, _), (1, _), (5, _)]) ?_ ⟨rfl, rfl, rfl, trivial⟩))
  refine WC.seq (WC.seq (WC.region ?_))
  refine WL.q (oq_move rfl) rfl rfl rfl ?_
  refine WL.f1 ?_
  refine WL.callA (escape1 G hG pa (by omega)) call42 rfl rfl rfl fun v5_1 N5_1 hR5_1 hN5_1 => ?_
  obtain ⟨r, rfl⟩ := hR5_1
  refine WL.q (oq_assign rfl) rfl rfl rfl ?_
  refine WL.nil (WE.then_normal (WC.sub (fr' := [(0, _), (1, _), (7, _)]) ?_ ⟨rfl, rfl, rfl, trivial⟩))
  refine WC.seq (WC.region ?_)
  refine WL.q (oq_move rfl) rfl rfl rfl ?_
  refine WL.q (oq_move rfl) rfl rfl rfl ?_
  refine WL.q (oq_seql rfl rfl) rfl rfl rfl ?_
  refine WL.nil (WE.then_normal (WC.sub (fr' := [(0, _), (1, _), (24, _)]) ?_ ⟨rfl, rfl, rfl, trivial⟩))
  refine WC.cond rfl (fun q6 => ?_) (fun q6 => ?_)
  ·
   try simp only [Z1, Z2, Z3, Z4, Z5, Z6, Z7, Z8, Z9, Z0] at q6
   refine WC.region ?_
   refine WL.q (oq_move rfl) rfl rfl rfl ?_
   refine WL.q (oq_nilCheck rfl) rfl rfl rfl ?_
   refine WL.q (oq_fieldAddr fld44_7 rfl) rfl rfl rfl ?_
   refine WL.f2 ?_
   refine WL.store1 #[_, _, _, _, _, _, _, _, _, _, _] ty9 rfl rfl (by first | rfl | exact OwS.one one_) (Nat.lt_of_lt_of_le (Nat.lt_succ_self _) (Nat.le_of_ble_eq_true rfl)) rfl rfl ?_
   refine WL.nil (WE.then_normal (WC.sub (fr' := []) ?_ trivial))
   refine WC.seq (WC.region ?_)
   refine WL.q (oq_assign rfl) rfl rfl rfl ?_
   refine WL.nil (WE.then_normal (WC.sub (fr' := [(4, _)]) ?_ ⟨rfl, trivial⟩))
   refine WC.ret ?_
   refine WE.f1 ?_
   refine WE.forget hN5_1 ?_
   refine WE.endW2 (.inl rfl) (res1 Tryd.results40 rfl) ?_
   exact ⟨rfl, _, rfl⟩
  ·
   try simp only [Z1, Z2, Z3, Z4, Z5, Z6, Z7, Z8, Z9, Z0] at q6
   refine WC.region ?_
   refine WL.q (oq_move rfl) rfl rfl rfl ?_
   refine WL.q (oq_move rfl) rfl rfl rfl ?_
   refine WL.q (oq_nilCheck rfl) rfl rfl rfl ?_
   refine WL.q (oq_fieldAddr fld44_7 rfl) rfl rfl rfl ?_
   refine WL.f2 ?_
   refine WL.store1 #[_, _, _, _, _, _, _, _, _, _, _] ty9 rfl rfl (by first | rfl | exact OwS.one one_) (Nat.lt_of_lt_of_le (Nat.lt_succ_self _) (Nat.le_of_ble_eq_true rfl)) rfl rfl ?_
   refine WL.nil (WE.then_normal (WC.sub (fr' := []) ?_ trivial))
   refine WC.seq (WC.region ?_)
   refine WL.q (oq_assign rfl) rfl rfl rfl ?_
   refine WL.nil (WE.then_normal (WC.sub (fr' := [(4, _)]) ?_ ⟨rfl, trivial⟩))
   refine WC.ret ?_
   refine WE.f1 ?_
   refine WE.forget hN5_1 ?_
   refine WE.endW2 (.inl rfl) (res1 Tryd.results40 rfl) ?_
   exact ⟨rfl, _, rfl⟩
end M4
end Go.Proofs.YtefaegocllppkaaDoor
/- The reading of an address. -/
namespace Go.Proofs.YtefaegocllppkaaDoor
open Go Go.RowKit V L0 L1 L2 M0 M1 M2 M3 M4
set_option linter.unusedSimpArgs false
set_option linter.unusedVariables false
set_option maxRecDepth 10000
namespace M5
theorem call15 : Callable Tryd.prog 15 := ⟨_, Tryd.func15, rfl, by kernel_rfl⟩
theorem call16 : Callable Tryd.prog 16 := ⟨_, Tryd.func16, rfl, by kernel_rfl⟩
theorem call22 : Callable Tryd.prog 22 := ⟨_, Tryd.func22, rfl, by kernel_rfl⟩
theorem call32 : Callable Tryd.prog 32 := ⟨_, Tryd.func32, rfl, by kernel_rfl⟩
theorem call33 : Callable Tryd.prog 33 := ⟨_, Tryd.func33, rfl, by kernel_rfl⟩
theorem call35 : Callable Tryd.prog 35 := ⟨_, Tryd.func35, rfl, by kernel_rfl⟩
theorem call36 : Callable Tryd.prog 36 := ⟨_, Tryd.func36, rfl, by kernel_rfl⟩
theorem call39 : Callable Tryd.prog 39 := ⟨_, Tryd.func39, rfl, by kernel_rfl⟩
theorem call40 : Callable Tryd.prog 40 := ⟨_, Tryd.func40, rfl, by kernel_rfl⟩
theorem flat9 : Flat Tryd.prog 9 := ⟨_, Tryd.underlying9, by simp⟩
theorem ty9 : Ty Tryd.prog 9 (S []) 1 16 := ty_of (by kernel_rfl)
theorem ty42 : Ty Tryd.prog 42 (.pointer none) 1 8 := ty_of (by kernel_rfl)
theorem ty44 : Ty Tryd.prog 44 (.agg #[(S []), (S []), (.pointer none), (S []), (S []), (S []), (S []), (S []), (S []), (.bool false), (.bool false)]) 11 144 := ty_of (by kernel_rfl)
theorem fld44_0 : Fld Tryd.prog 44 0 0 9 := fld_of Tryd.underlying44 rfl rfl rfl ty9 (by decide)
theorem fld44_2 : Fld Tryd.prog 44 2 2 42 := fld_of Tryd.underlying44 rfl rfl rfl ty42 (by decide)
theorem fld44_3 : Fld Tryd.prog 44 3 3 9 := fld_of Tryd.underlying44 rfl rfl rfl ty9 (by decide)
theorem fld44_6 : Fld Tryd.prog 44 6 6 9 := fld_of Tryd.underlying44 rfl rfl rfl ty9 (by decide)
theorem ap_len {sc au pa qq : List UInt8} (h : (UT sc au pa qq).length ≤ 100000) : (47 :: 47 :: (au ++ pa) ++ qq).length ≤ 100000 := by
 simp only [UT, List.length_append, List.length_cons] at h ⊢; omega
theorem nCutQ {sc au pa qq h : List UInt8} (hu : UOk sc au pa qq h) (hl : (47 :: 47 :: (au ++ pa) ++ qq).length ≤ 100000) : Fn0 Tryd.prog 22 [S (47 :: 47 :: (au ++ pa) ++ qq), S [63]] (.tuple #[S (47 :: 47 :: (au ++ pa)), S qq.tail, .bool (decide (0 ≤ findI [63] (47 :: 47 :: (au ++ pa) ++ qq)))]) := by
 have := nCut (47 :: 47 :: (au ++ pa) ++ qq) 63 (by omega)
 rwa [hu.cut.1, hu.cut.2] at this
theorem nCutH {sc au pa qq h : List UInt8} (hu : UOk sc au pa qq h) (hl : (UT sc au pa qq).length ≤ 100000) : Fn0 Tryd.prog 22 [S (UT sc au pa qq), S [35]] (.tuple #[S (UT sc au pa qq), S [], .bool false]) := by
 have := nCut (UT sc au pa qq) 35 (by omega)
 rw [(cl_no hu.no35).1, (cl_no hu.no35).2, findI_no hu.no35] at this
 exact this
set_option maxHeartbeats 2000000 in
theorem parse (G : Hp) (hG : Tb G) {sc au pa qq h : List UInt8} (hu : UOk sc au pa qq h) (hal : (UT sc au pa qq).length ≤ 100000) : FnA Tryd.prog 23 [S (UT sc au pa qq), .bool false] G (fun v N => ∃ p rp, v = .tuple #[Pt p 0, .nilIface] ∧ N = UC p sc au pa qq.tail rp) := by
 have hlen := hal
 simp only [UT, List.length_append, List.length_cons] at hlen
 have hul := hu.len
 have hap := ap_len hal
 have hsl := hu.slash
 have hst : UT sc au pa qq ≠ [42] := fun e => by have := congrArg List.length e; simp only [UT, List.length_append, List.length_cons, List.length_nil] at this; omega
 have hst0 : UT sc au pa qq ≠ [] := fun e => by have := congrArg List.length e; simp only [UT, List.length_append, List.length_cons, List.length_nil] at this; omega
 refine FnA.enter (n := 167) Tryd.func23 rfl rfl fun w0 => ?_
 refine WC.sub (fr' := [(0, _), (1, _)]) ?_ ⟨rfl, rfl, trivial⟩
 refine WC.seq (WC.region ?_)
 refine WL.q (oq_assign rfl) rfl rfl rfl ?_
 refine WL.q (oq_assign rfl) rfl rfl rfl ?_
 refine WL.nil (WE.then_normal (WC.sub (fr' := [(0, _), (1, _)]) ?_ ⟨rfl, rfl, trivial⟩))
 refine WC.seq (WC.region ?_)
 refine WL.q (oq_assign rfl) rfl rfl rfl ?_
 refine WL.nil (WE.then_normal (WC.sub (fr' := [(0, _), (1, _)]) ?_ ⟨rfl, rfl, trivial⟩))
 refine WC.seq (WC.region ?_)
 refine WL.q (oq_assign rfl) rfl rfl rfl ?_
 refine WL.nil (WE.then_normal (WC.sub (fr' := [(0, _), (1, _)]) ?_ ⟨rfl, rfl, trivial⟩))
 refine WC.seq (WC.seq (WC.region ?_))
 refine WL.q (oq_move rfl) rfl rfl rfl ?_
 refine WL.qc (oq_call (ctl _ (Nat.le_trans hal (by decide)) hu.ctl) call33 rfl) rfl rfl rfl ?_
 refine WL.nil (WE.then_normal (WC.sub (fr' := [(0, _), (1, _), (16, _)]) ?_ ⟨rfl, rfl, rfl, trivial⟩))
 refine WC.cond rfl (fun q3 => ?_) (fun q3 => ?_)
 ·
  try simp only [Z1, Z2, Z3, Z4, Z5, Z6, Z7, Z8, Z9, Z0] at q3
  refine WC.seq ?_
  first | contradiction | omega | (exfalso; simp_all; done)
 ·
  try simp only [Z1, Z2, Z3, Z4, Z5, Z6, Z7, Z8, Z9, Z0] at q3
  refine WC.skip (WE.then_normal (WC.sub (fr' := [(0, _), (1, _)]) ?_ ⟨rfl, rfl, trivial⟩))
  refine WC.seq (WC.seq (WC.region ?_))
  refine WL.q (oq_move rfl) rfl rfl rfl ?_
  refine WL.q (oq_seql rfl rfl) rfl rfl rfl ?_
  refine WL.q (oq_move rfl) rfl rfl rfl ?_
  refine WL.split 20 rfl (fun s5_2 => ?_) (fun s5_2 => ?_)
  ·
   try simp only [Z1, Z2, Z3, Z4, Z5, Z6, Z7, Z8, Z9, Z0] at s5_2
   refine WL.q (oq_move rfl) rfl rfl rfl ?_
   refine WL.q (oq_pick_t rfl rfl) rfl rfl rfl ?_
   refine WL.nil (WE.then_normal (WC.sub (fr' := [(0, _), (1, _), (22, _)]) ?_ ⟨rfl, rfl, rfl, trivial⟩))
   refine WC.cond rfl (fun q5 => ?_) (fun q5 => ?_)
   ·
    try simp only [Z1, Z2, Z3, Z4, Z5, Z6, Z7, Z8, Z9, Z0] at q5
    refine WC.seq ?_
    first | contradiction | omega | (exfalso; simp_all; done)
   ·
    try simp only [Z1, Z2, Z3, Z4, Z5, Z6, Z7, Z8, Z9, Z0] at q5
    refine WC.skip (WE.then_normal (WC.sub (fr' := [(0, _), (1, _)]) ?_ ⟨rfl, rfl, trivial⟩))
    refine WC.seq (WC.region ?_)
    refine WL.alloc ty44 rfl rfl fun ub hub => ?_
    refine WL.q (oq_assign rfl) rfl rfl rfl ?_
    refine WL.nil (WE.then_normal (WC.sub (fr' := [(0, _), (1, _), (8, _)]) ?_ ⟨rfl, rfl, rfl, trivial⟩))
    refine WC.seq (WC.seq (WC.region ?_))
    refine WL.q (oq_move rfl) rfl rfl rfl ?_
    refine WL.q (oq_seql rfl rfl) rfl rfl rfl ?_
    refine WL.nil (WE.then_normal (WC.sub (fr' := [(0, _), (1, _), (8, _), (26, _)]) ?_ ⟨rfl, rfl, rfl, rfl, trivial⟩))
    refine WC.cond rfl (fun q8 => ?_) (fun q8 => ?_)
    ·
     try simp only [Z1, Z2, Z3, Z4, Z5, Z6, Z7, Z8, Z9, Z0] at q8
     refine WC.seq ?_
     exact absurd q8 hst
    ·
     try simp only [Z1, Z2, Z3, Z4, Z5, Z6, Z7, Z8, Z9, Z0] at q8
     refine WC.skip (WE.then_normal (WC.sub (fr' := [(0, _), (1, _), (8, _)]) ?_ ⟨rfl, rfl, rfl, trivial⟩))
     refine WC.seq (WC.seq (WC.region ?_))
     refine WL.q (oq_move rfl) rfl rfl rfl ?_
     refine WL.q (oq_move rfl) rfl rfl rfl ?_
     refine WL.qc (oq_call (getScheme sc (47 :: 47 :: (au ++ pa) ++ qq) hu.low (Nat.le_trans hal (by decide))) call35 rfl) rfl rfl rfl ?_
     refine WL.q (oq_move rfl) rfl rfl rfl ?_
     refine WL.q (oq_extract rfl rfl) rfl rfl rfl ?_
     refine WL.q (oq_extract rfl rfl) rfl rfl rfl ?_
     refine WL.q (oq_extract rfl rfl) rfl rfl rfl ?_
     refine WL.q (oq_nilCheck rfl) rfl rfl rfl ?_
     refine WL.q (oq_fieldAddr fld44_0 rfl) rfl rfl rfl ?_
     refine WL.store1 #[_, _, _, _, _, _, _, _, _, _, _] ty9 rfl rfl (by first | rfl | exact OwS.one one_) (Nat.lt_of_lt_of_le (Nat.lt_succ_self _) (Nat.le_of_ble_eq_true rfl)) rfl rfl ?_
     refine WL.q (oq_assign rfl) rfl rfl rfl ?_
     refine WL.q (oq_assign rfl) rfl rfl rfl ?_
     refine WL.nil (WE.then_normal (WC.sub (fr' := [(1, _), (6, _), (7, _), (8, _)]) ?_ ⟨rfl, rfl, rfl, rfl, trivial⟩))
     refine WC.seq (WC.region ?_)
     refine WL.q (oq_move rfl) rfl rfl rfl ?_
     refine WL.q (oq_ineq Tryd.underlying39 rfl (.inl rfl)) rfl rfl rfl ?_
     refine WL.nil (WE.then_normal (WC.sub (fr' := [(1, _), (6, _), (7, _), (8, _), (41, _)]) ?_ ⟨rfl, rfl, rfl, rfl, rfl, trivial⟩))
     refine WC.cond rfl (fun q12 => ?_) (fun q12 => ?_)
     ·
      try simp only [Z1, Z2, Z3, Z4, Z5, Z6, Z7, Z8, Z9, Z0] at q12
      refine WC.seq ?_
      first | contradiction | omega | (exfalso; simp_all; done)
     ·
      try simp only [Z1, Z2, Z3, Z4, Z5, Z6, Z7, Z8, Z9, Z0] at q12
      refine WC.skip (WE.then_normal (WC.sub (fr' := [(1, _), (6, _), (8, _)]) ?_ ⟨rfl, rfl, rfl, trivial⟩))
      refine WC.seq (WC.region ?_)
      refine WL.q (oq_move rfl) rfl rfl rfl ?_
      refine WL.q (oq_move rfl) rfl rfl rfl ?_
      refine WL.q (oq_nilCheck rfl) rfl rfl rfl ?_
      refine WL.q (oq_fieldAddr fld44_0 rfl) rfl rfl rfl ?_
      refine WL.q (oq_load flat9 rfl (.head _) (List.mem_singleton.2 rfl) rfl) rfl rfl rfl ?_
      refine WL.callA0 (lower sc hu.low (by omega)) call36 rfl rfl rfl fun v14_5 N14_5 hR14_5 hN14_5 => ?_
      subst hR14_5
      refine WL.q (oq_nilCheck rfl) rfl rfl rfl ?_
      refine WL.q (oq_fieldAddr fld44_0 rfl) rfl rfl rfl ?_
      refine WL.f1 ?_
      refine WL.store1 #[_, _, _, _, _, _, _, _, _, _, _] ty9 rfl rfl (by first | rfl | exact OwS.one one_) (Nat.lt_of_lt_of_le (Nat.lt_succ_self _) (Nat.le_of_ble_eq_true rfl)) rfl rfl ?_
      refine WL.nil (WE.then_normal (WC.sub (fr' := [(1, _), (6, _), (8, _)]) ?_ ⟨rfl, rfl, rfl, trivial⟩))
      refine WC.seq (WC.seq (WC.region ?_))
      refine WL.q (oq_move rfl) rfl rfl rfl ?_
      refine WL.qc (oq_call (hasSufN (47 :: 47 :: (au ++ pa) ++ qq) [63] (by omega) (by decide) hu.suf) call16 rfl) rfl rfl rfl ?_
      refine WL.q (oq_move rfl) rfl rfl rfl ?_
      refine WL.skip rfl rfl rfl ?_
      refine WL.skip rfl rfl rfl ?_
      refine WL.skip rfl rfl rfl ?_
      refine WL.q (oq_pick_f rfl rfl) rfl rfl rfl ?_
      refine WL.nil (WE.then_normal (WC.sub (fr' := [(1, _), (6, _), (8, _), (57, _)]) ?_ ⟨rfl, rfl, rfl, rfl, trivial⟩))
      refine WC.cond_f rfl ?_
      refine WC.region ?_
      refine WL.q (oq_move rfl) rfl rfl rfl ?_
      refine WL.q (oq_move rfl) rfl rfl rfl ?_
      refine WL.qc (oq_call (nCutQ hu hap) call22 rfl) rfl rfl rfl ?_
      refine WL.q (oq_move rfl) rfl rfl rfl ?_
      refine WL.q (oq_extract rfl rfl) rfl rfl rfl ?_
      refine WL.q (oq_extract rfl rfl) rfl rfl rfl ?_
      refine WL.q (oq_extract rfl rfl) rfl rfl rfl ?_
      refine WL.q (oq_assign rfl) rfl rfl rfl ?_
      refine WL.q (oq_nilCheck rfl) rfl rfl rfl ?_
      refine WL.q (oq_fieldAddr fld44_6 rfl) rfl rfl rfl ?_
      refine WL.store1 #[_, _, _, _, _, _, _, _, _, _, _] ty9 rfl rfl (by first | rfl | exact OwS.one one_) (Nat.lt_of_lt_of_le (Nat.lt_succ_self _) (Nat.le_of_ble_eq_true rfl)) rfl rfl ?_
      refine WL.nil (WE.then_normal (WC.sub (fr' := [(1, _), (6, _), (8, _)]) ?_ ⟨rfl, rfl, rfl, trivial⟩))
      refine WC.seq (WC.seq (WC.region ?_))
      refine WL.q (oq_move rfl) rfl rfl rfl ?_
      refine WL.qc (oq_call (hasPreY (47 :: 47 :: (au ++ pa)) [47] (by simp; omega) (by decide) rfl) call15 rfl) rfl rfl rfl ?_
      refine WL.q (oq_not rfl) rfl rfl rfl ?_
      refine WL.nil (WE.then_normal (WC.sub (fr' := [(1, _), (6, _), (8, _), (77, _)]) ?_ ⟨rfl, rfl, rfl, rfl, trivial⟩))
      refine WC.cond rfl (fun q19 => ?_) (fun q19 => ?_)
      ·
       try simp only [Z1, Z2, Z3, Z4, Z5, Z6, Z7, Z8, Z9, Z0] at q19
       refine WC.seq (WC.seq ?_)
       first | contradiction | omega | (exfalso; simp_all; done)
      ·
       try simp only [Z1, Z2, Z3, Z4, Z5, Z6, Z7, Z8, Z9, Z0] at q19
       refine WC.skip (WE.then_normal (WC.sub (fr' := [(1, _), (6, _), (8, _)]) ?_ ⟨rfl, rfl, rfl, trivial⟩))
       refine WC.seq (WC.seq (WC.region ?_))
       refine WL.q (oq_move rfl) rfl rfl rfl ?_
       refine WL.q (oq_nilCheck rfl) rfl rfl rfl ?_
       refine WL.q (oq_fieldAddr fld44_0 rfl) rfl rfl rfl ?_
       refine WL.q (oq_load flat9 rfl (.head _) (List.mem_singleton.2 rfl) rfl) rfl rfl rfl ?_
       refine WL.q ((oq_sneq rfl rfl).to (v' := .bool true) (congrArg Value.bool (decide_eq_true hu.low.1))) rfl rfl rfl ?_
       refine WL.q (oq_move rfl) rfl rfl rfl ?_
       refine WL.skip rfl rfl rfl ?_
       refine WL.skip rfl rfl rfl ?_
       refine WL.skip rfl rfl rfl ?_
       refine WL.skip rfl rfl rfl ?_
       refine WL.skip rfl rfl rfl ?_
       refine WL.skip rfl rfl rfl ?_
       refine WL.skip rfl rfl rfl ?_
       refine WL.q (oq_pick_t rfl rfl) rfl rfl rfl ?_
       refine WL.q (oq_move rfl) rfl rfl rfl ?_
       refine WL.q (oq_move rfl) rfl rfl rfl ?_
       refine WL.qc (oq_call (hasPreY (47 :: 47 :: (au ++ pa)) [47, 47] (by simp; omega) (by decide) rfl) call15 rfl) rfl rfl rfl ?_
       refine WL.q (oq_pick_t rfl rfl) rfl rfl rfl ?_
       refine WL.nil (WE.then_normal (WC.sub (fr' := [(6, _), (8, _), (116, _)]) ?_ ⟨rfl, rfl, rfl, trivial⟩))
       refine WC.cond rfl (fun q28 => ?_) (fun q28 => ?_)
       ·
        try simp only [Z1, Z2, Z3, Z4, Z5, Z6, Z7, Z8, Z9, Z0] at q28
        refine WC.seq (WC.region ?_)
        refine WL.q (oq_assign rfl) rfl rfl rfl ?_
        refine WL.nil (WE.then_normal (WC.sub (fr' := [(6, _), (8, _)]) ?_ ⟨rfl, rfl, trivial⟩))
        refine WC.seq (WC.region ?_)
        refine WL.q (oq_move rfl) rfl rfl rfl ?_
        refine WL.q ((oq_slice_s1 Tryd.underlying9 rfl rfl (by simp only [List.length_cons, List.length_append]; omega)).to (v' := S (au ++ pa)) rfl) rfl rfl rfl ?_
        refine WL.q (oq_assign rfl) rfl rfl rfl ?_
        refine WL.q (oq_assign rfl) rfl rfl rfl ?_
        refine WL.nil (WE.then_normal (WC.sub (fr' := [(6, _), (8, _), (12, _)]) ?_ ⟨rfl, rfl, rfl, trivial⟩))
        refine WC.cut (ι := Unit) (fun _ => [(6, S pa), (8, Pt ub 0), (12, S au)]) (fun _ => [UC ub sc [] [] qq.tail [], G]) (fun _ => True) ?_ ?_
        ·
         refine WC.seq (WC.region ?_)
         refine WL.q (oq_move rfl) rfl rfl rfl ?_
         refine WL.qc (oq_call (nIndex (au ++ pa) [47] (by simp; omega) (by decide)) call32 rfl) rfl rfl rfl ?_
         refine WL.q (oq_assign rfl) rfl rfl rfl ?_
         refine WL.nil (WE.then_normal (WC.sub (fr' := [(6, _), (8, _), (12, _), (13, _)]) ?_ ⟨rfl, rfl, rfl, rfl, trivial⟩))
         refine WC.seq (WC.region ?_)
         refine WL.q (oq_move rfl) rfl rfl rfl ?_
         refine WL.q (oq_geq rfl rfl) rfl rfl rfl ?_
         refine WL.nil (WE.then_normal (WC.sub (fr' := [(6, _), (8, _), (12, _), (13, _), (122, _)]) ?_ ⟨rfl, rfl, rfl, rfl, rfl, trivial⟩))
         refine WC.cond rfl (fun q32 => ?_) (fun q32 => ?_)
         ·
          try simp only [Z1, Z2, Z3, Z4, Z5, Z6, Z7, Z8, Z9, Z0] at q32
          have hs1 := hsl.1 q32
          refine WC.quiet (by kernel_rfl) (by kernel_rfl) ?_
          refine WQ.q (oq_move rfl) rfl rfl rfl ?_
          refine WQ.q (oq_move rfl) rfl rfl rfl ?_
          refine WQ.q (oq_slice_s0 Tryd.underlying9 rfl rfl (by (first | omega | (simp only [List.length_cons, List.length_nil, List.length_append, List.length_drop, List.length_take]; omega)))) rfl rfl rfl ?_
          refine WQ.q (oq_move rfl) rfl rfl rfl ?_
          refine WQ.q (oq_move rfl) rfl rfl rfl ?_
          refine WQ.q (oq_slice_s1 Tryd.underlying9 rfl rfl (by (first | omega | (simp only [List.length_cons, List.length_nil, List.length_append, List.length_drop, List.length_take]; omega)))) rfl rfl rfl ?_
          refine WQ.q (oq_assign rfl) rfl rfl rfl ?_
          refine WQ.q (oq_assign rfl) rfl rfl rfl ?_
          refine WQ.nil ?_
          refine WE.f1 ?_
          refine WE.forget hN14_5 ?_
          refine WE.meet () ?_ ⟨(gtv rfl (by first | exact congrArg S (hsl.1 q32).2.2 | exact congrArg S (hsl.2 q32).2)), rfl, (gtv rfl (by first | exact congrArg S (hsl.1 q32).2.1 | exact congrArg S (hsl.2 q32).1)), trivial⟩ (List.Perm.refl _)
          try dsimp only
          all_goals trivial
         ·
          try simp only [Z1, Z2, Z3, Z4, Z5, Z6, Z7, Z8, Z9, Z0] at q32
          refine WC.skip ?_
          refine WE.f1 ?_
          refine WE.forget hN14_5 ?_
          refine WE.meet () ?_ ⟨(gtv rfl (by first | exact congrArg S (hsl.1 q32).2.2 | exact congrArg S (hsl.2 q32).2)), rfl, (gtv rfl (by first | exact congrArg S (hsl.1 q32).2.1 | exact congrArg S (hsl.2 q32).1)), trivial⟩ (List.Perm.refl _)
          try dsimp only
          all_goals trivial
        ·rintro _ hp
         try dsimp only at hp
         show WC _ _ _ _ _ _ ([(6, S pa), (8, Pt ub 0), (12, S au)]) ([UC ub sc [] [] qq.tail [], G])
         refine WC.seq (WC.region ?_)
         refine WL.q (oq_move rfl) rfl rfl rfl ?_
         refine WL.q (oq_move rfl) rfl rfl rfl ?_
         refine WL.q (oq_move rfl) rfl rfl rfl ?_
         refine WL.q (oq_nilCheck rfl) rfl rfl rfl ?_
         refine WL.q (oq_fieldAddr fld44_0 rfl) rfl rfl rfl ?_
         refine WL.q (oq_load flat9 rfl (.head _) (List.mem_singleton.2 rfl) rfl) rfl rfl rfl ?_
         refine WL.q (oq_move rfl) rfl rfl rfl ?_
         refine WL.qc (oq_callRm (parseAuth G hG hu hal sc) (.tail _ (.head _)) call39 rfl) rfl rfl rfl ?_
         refine WL.q (oq_move rfl) rfl rfl rfl ?_
         refine WL.q (oq_extract rfl rfl) rfl rfl rfl ?_
         refine WL.q (oq_extract rfl rfl) rfl rfl rfl ?_
         refine WL.q (oq_extract rfl rfl) rfl rfl rfl ?_
         refine WL.q (oq_nilCheck rfl) rfl rfl rfl ?_
         refine WL.q (oq_fieldAddr fld44_2 rfl) rfl rfl rfl ?_
         refine WL.store1 #[_, _, _, _, _, _, _, _, _, _, _] ty42 rfl rfl (by first | rfl | exact OwS.one one_) (Nat.lt_of_lt_of_le (Nat.lt_succ_self _) (Nat.le_of_ble_eq_true rfl)) rfl rfl ?_
         refine WL.q (oq_nilCheck rfl) rfl rfl rfl ?_
         refine WL.q (oq_fieldAddr fld44_3 rfl) rfl rfl rfl ?_
         refine WL.store1 #[_, _, _, _, _, _, _, _, _, _, _] ty9 rfl rfl (by first | rfl | exact OwS.one one_) (Nat.lt_of_lt_of_le (Nat.lt_succ_self _) (Nat.le_of_ble_eq_true rfl)) rfl rfl ?_
         refine WL.q (oq_assign rfl) rfl rfl rfl ?_
         refine WL.nil (WE.then_normal (WC.sub (fr' := [(6, _), (7, _), (8, _)]) ?_ ⟨rfl, rfl, rfl, trivial⟩))
         refine WC.seq (WC.region ?_)
         refine WL.q (oq_move rfl) rfl rfl rfl ?_
         refine WL.q (oq_ineq Tryd.underlying39 rfl (.inl rfl)) rfl rfl rfl ?_
         refine WL.nil (WE.then_normal (WC.sub (fr' := [(6, _), (7, _), (8, _), (146, _)]) ?_ ⟨rfl, rfl, rfl, rfl, trivial⟩))
         refine WC.cond rfl (fun q35 => ?_) (fun q35 => ?_)
         ·
          try simp only [Z1, Z2, Z3, Z4, Z5, Z6, Z7, Z8, Z9, Z0] at q35
          refine WC.seq ?_
          first | contradiction | omega | (exfalso; simp_all; done)
         ·
          try simp only [Z1, Z2, Z3, Z4, Z5, Z6, Z7, Z8, Z9, Z0] at q35
          refine WC.skip (WE.then_normal (WC.sub (fr' := [(6, _), (8, _)]) ?_ ⟨rfl, rfl, trivial⟩))
          refine WC.seq (WC.seq (WC.region ?_))
          refine WL.q (oq_move rfl) rfl rfl rfl ?_
          refine WL.q (oq_move rfl) rfl rfl rfl ?_
          refine WL.f1 ?_
          refine WL.f1 ?_
          refine WL.callW2 (setPath _ ub G hG sc au pa qq.tail hu.pa37 (by omega)) call40 rfl rfl rfl fun v39_2 Hs39_2 hR39_2 => ?_
          obtain ⟨rfl, rp, rfl⟩ := hR39_2
          refine WL.to2 ?_
          refine WL.q (oq_assign rfl) rfl rfl rfl ?_
          refine WL.nil (WE.then_normal (WC.sub (fr' := [(8, _), (14, _)]) ?_ ⟨rfl, rfl, trivial⟩))
          refine WC.seq (WC.region ?_)
          refine WL.q (oq_move rfl) rfl rfl rfl ?_
          refine WL.q (oq_ineq Tryd.underlying39 rfl (.inl rfl)) rfl rfl rfl ?_
          refine WL.nil (WE.then_normal (WC.sub (fr' := [(8, _), (14, _), (164, _)]) ?_ ⟨rfl, rfl, rfl, trivial⟩))
          refine WC.cond rfl (fun q40 => ?_) (fun q40 => ?_)
          ·
           try simp only [Z1, Z2, Z3, Z4, Z5, Z6, Z7, Z8, Z9, Z0] at q40
           refine WC.seq ?_
           first | contradiction | omega | (exfalso; simp_all; done)
          ·
           try simp only [Z1, Z2, Z3, Z4, Z5, Z6, Z7, Z8, Z9, Z0] at q40
           refine WC.skip (WE.then_normal (WC.sub (fr' := [(8, _)]) ?_ ⟨rfl, trivial⟩))
           refine WC.seq (WC.region ?_)
           refine WL.q (oq_move rfl) rfl rfl rfl ?_
           refine WL.q (oq_assign rfl) rfl rfl rfl ?_
           refine WL.q (oq_assign rfl) rfl rfl rfl ?_
           refine WL.nil (WE.then_normal (WC.sub (fr' := [(4, _), (5, _)]) ?_ ⟨rfl, rfl, trivial⟩))
           refine WC.ret ?_
           refine WE.endA (.inl rfl) (res2 Tryd.results23 rfl rfl) ?_ (fresh1 hub)
           exact ⟨_, _, rfl, rfl⟩
       ·
        try simp only [Z1, Z2, Z3, Z4, Z5, Z6, Z7, Z8, Z9, Z0] at q28
        refine WC.seq ?_
        first | contradiction | omega | (exfalso; simp_all; done)
  ·
   try simp only [Z1, Z2, Z3, Z4, Z5, Z6, Z7, Z8, Z9, Z0] at s5_2
   refine WL.skip rfl rfl rfl ?_
   refine WL.q (oq_pick_f rfl rfl) rfl rfl rfl ?_
   refine WL.nil (WE.then_normal (WC.sub (fr' := [(0, _), (1, _), (22, _)]) ?_ ⟨rfl, rfl, rfl, trivial⟩))
   refine WC.cond_f rfl ?_
   refine WC.skip (WE.then_normal (WC.sub (fr' := [(0, _), (1, _)]) ?_ ⟨rfl, rfl, trivial⟩))
   refine WC.seq (WC.region ?_)
   refine WL.alloc ty44 rfl rfl fun ub hub => ?_
   refine WL.q (oq_assign rfl) rfl rfl rfl ?_
   refine WL.nil (WE.then_normal (WC.sub (fr' := [(0, _), (1, _), (8, _)]) ?_ ⟨rfl, rfl, rfl, trivial⟩))
   refine WC.seq (WC.seq (WC.region ?_))
   refine WL.q (oq_move rfl) rfl rfl rfl ?_
   refine WL.q (oq_seql rfl rfl) rfl rfl rfl ?_
   refine WL.nil (WE.then_normal (WC.sub (fr' := [(0, _), (1, _), (8, _), (26, _)]) ?_ ⟨rfl, rfl, rfl, rfl, trivial⟩))
   refine WC.cond rfl (fun q8 => ?_) (fun q8 => ?_)
   ·
    try simp only [Z1, Z2, Z3, Z4, Z5, Z6, Z7, Z8, Z9, Z0] at q8
    refine WC.seq ?_
    exact absurd q8 hst
   ·
    try simp only [Z1, Z2, Z3, Z4, Z5, Z6, Z7, Z8, Z9, Z0] at q8
    refine WC.skip (WE.then_normal (WC.sub (fr' := [(0, _), (1, _), (8, _)]) ?_ ⟨rfl, rfl, rfl, trivial⟩))
    refine WC.seq (WC.seq (WC.region ?_))
    refine WL.q (oq_move rfl) rfl rfl rfl ?_
    refine WL.q (oq_move rfl) rfl rfl rfl ?_
    refine WL.qc (oq_call (getScheme sc (47 :: 47 :: (au ++ pa) ++ qq) hu.low (Nat.le_trans hal (by decide))) call35 rfl) rfl rfl rfl ?_
    refine WL.q (oq_move rfl) rfl rfl rfl ?_
    refine WL.q (oq_extract rfl rfl) rfl rfl rfl ?_
    refine WL.q (oq_extract rfl rfl) rfl rfl rfl ?_
    refine WL.q (oq_extract rfl rfl) rfl rfl rfl ?_
    refine WL.q (oq_nilCheck rfl) rfl rfl rfl ?_
    refine WL.q (oq_fieldAddr fld44_0 rfl) rfl rfl rfl ?_
    refine WL.store1 #[_, _, _, _, _, _, _, _, _, _, _] ty9 rfl rfl (by first | rfl | exact OwS.one one_) (Nat.lt_of_lt_of_le (Nat.lt_succ_self _) (Nat.le_of_ble_eq_true rfl)) rfl rfl ?_
    refine WL.q (oq_assign rfl) rfl rfl rfl ?_
    refine WL.q (oq_assign rfl) rfl rfl rfl ?_
    refine WL.nil (WE.then_normal (WC.sub (fr' := [(1, _), (6, _), (7, _), (8, _)]) ?_ ⟨rfl, rfl, rfl, rfl, trivial⟩))
    refine WC.seq (WC.region ?_)
    refine WL.q (oq_move rfl) rfl rfl rfl ?_
    refine WL.q (oq_ineq Tryd.underlying39 rfl (.inl rfl)) rfl rfl rfl ?_
    refine WL.nil (WE.then_normal (WC.sub (fr' := [(1, _), (6, _), (7, _), (8, _), (41, _)]) ?_ ⟨rfl, rfl, rfl, rfl, rfl, trivial⟩))
    refine WC.cond rfl (fun q12 => ?_) (fun q12 => ?_)
    ·
     try simp only [Z1, Z2, Z3, Z4, Z5, Z6, Z7, Z8, Z9, Z0] at q12
     refine WC.seq ?_
     first | contradiction | omega | (exfalso; simp_all; done)
    ·
     try simp only [Z1, Z2, Z3, Z4, Z5, Z6, Z7, Z8, Z9, Z0] at q12
     refine WC.skip (WE.then_normal (WC.sub (fr' := [(1, _), (6, _), (8, _)]) ?_ ⟨rfl, rfl, rfl, trivial⟩))
     refine WC.seq (WC.region ?_)
     refine WL.q (oq_move rfl) rfl rfl rfl ?_
     refine WL.q (oq_move rfl) rfl rfl rfl ?_
     refine WL.q (oq_nilCheck rfl) rfl rfl rfl ?_
     refine WL.q (oq_fieldAddr fld44_0 rfl) rfl rfl rfl ?_
     refine WL.q (oq_load flat9 rfl (.head _) (List.mem_singleton.2 rfl) rfl) rfl rfl rfl ?_
     refine WL.callA0 (lower sc hu.low (by omega)) call36 rfl rfl rfl fun v14_5 N14_5 hR14_5 hN14_5 => ?_
     subst hR14_5
     refine WL.q (oq_nilCheck rfl) rfl rfl rfl ?_
     refine WL.q (oq_fieldAddr fld44_0 rfl) rfl rfl rfl ?_
     refine WL.f1 ?_
     refine WL.store1 #[_, _, _, _, _, _, _, _, _, _, _] ty9 rfl rfl (by first | rfl | exact OwS.one one_) (Nat.lt_of_lt_of_le (Nat.lt_succ_self _) (Nat.le_of_ble_eq_true rfl)) rfl rfl ?_
     refine WL.nil (WE.then_normal (WC.sub (fr' := [(1, _), (6, _), (8, _)]) ?_ ⟨rfl, rfl, rfl, trivial⟩))
     refine WC.seq (WC.seq (WC.region ?_))
     refine WL.q (oq_move rfl) rfl rfl rfl ?_
     refine WL.qc (oq_call (hasSufN (47 :: 47 :: (au ++ pa) ++ qq) [63] (by omega) (by decide) hu.suf) call16 rfl) rfl rfl rfl ?_
     refine WL.q (oq_move rfl) rfl rfl rfl ?_
     refine WL.skip rfl rfl rfl ?_
     refine WL.skip rfl rfl rfl ?_
     refine WL.skip rfl rfl rfl ?_
     refine WL.q (oq_pick_f rfl rfl) rfl rfl rfl ?_
     refine WL.nil (WE.then_normal (WC.sub (fr' := [(1, _), (6, _), (8, _), (57, _)]) ?_ ⟨rfl, rfl, rfl, rfl, trivial⟩))
     refine WC.cond_f rfl ?_
     refine WC.region ?_
     refine WL.q (oq_move rfl) rfl rfl rfl ?_
     refine WL.q (oq_move rfl) rfl rfl rfl ?_
     refine WL.qc (oq_call (nCutQ hu hap) call22 rfl) rfl rfl rfl ?_
     refine WL.q (oq_move rfl) rfl rfl rfl ?_
     refine WL.q (oq_extract rfl rfl) rfl rfl rfl ?_
     refine WL.q (oq_extract rfl rfl) rfl rfl rfl ?_
     refine WL.q (oq_extract rfl rfl) rfl rfl rfl ?_
     refine WL.q (oq_assign rfl) rfl rfl rfl ?_
     refine WL.q (oq_nilCheck rfl) rfl rfl rfl ?_
     refine WL.q (oq_fieldAddr fld44_6 rfl) rfl rfl rfl ?_
     refine WL.store1 #[_, _, _, _, _, _, _, _, _, _, _] ty9 rfl rfl (by first | rfl | exact OwS.one one_) (Nat.lt_of_lt_of_le (Nat.lt_succ_self _) (Nat.le_of_ble_eq_true rfl)) rfl rfl ?_
     refine WL.nil (WE.then_normal (WC.sub (fr' := [(1, _), (6, _), (8, _)]) ?_ ⟨rfl, rfl, rfl, trivial⟩))
     refine WC.seq (WC.seq (WC.region ?_))
     refine WL.q (oq_move rfl) rfl rfl rfl ?_
     refine WL.qc (oq_call (hasPreY (47 :: 47 :: (au ++ pa)) [47] (by simp; omega) (by decide) rfl) call15 rfl) rfl rfl rfl ?_
     refine WL.q (oq_not rfl) rfl rfl rfl ?_
     refine WL.nil (WE.then_normal (WC.sub (fr' := [(1, _), (6, _), (8, _), (77, _)]) ?_ ⟨rfl, rfl, rfl, rfl, trivial⟩))
     refine WC.cond rfl (fun q19 => ?_) (fun q19 => ?_)
     ·
      try simp only [Z1, Z2, Z3, Z4, Z5, Z6, Z7, Z8, Z9, Z0] at q19
      refine WC.seq (WC.seq ?_)
      first | contradiction | omega | (exfalso; simp_all; done)
     ·
      try simp only [Z1, Z2, Z3, Z4, Z5, Z6, Z7, Z8, Z9, Z0] at q19
      refine WC.skip (WE.then_normal (WC.sub (fr' := [(1, _), (6, _), (8, _)]) ?_ ⟨rfl, rfl, rfl, trivial⟩))
      refine WC.seq (WC.seq (WC.region ?_))
      refine WL.q (oq_move rfl) rfl rfl rfl ?_
      refine WL.q (oq_nilCheck rfl) rfl rfl rfl ?_
      refine WL.q (oq_fieldAddr fld44_0 rfl) rfl rfl rfl ?_
      refine WL.q (oq_load flat9 rfl (.head _) (List.mem_singleton.2 rfl) rfl) rfl rfl rfl ?_
      refine WL.q ((oq_sneq rfl rfl).to (v' := .bool true) (congrArg Value.bool (decide_eq_true hu.low.1))) rfl rfl rfl ?_
      refine WL.q (oq_move rfl) rfl rfl rfl ?_
      refine WL.skip rfl rfl rfl ?_
      refine WL.skip rfl rfl rfl ?_
      refine WL.skip rfl rfl rfl ?_
      refine WL.skip rfl rfl rfl ?_
      refine WL.skip rfl rfl rfl ?_
      refine WL.skip rfl rfl rfl ?_
      refine WL.skip rfl rfl rfl ?_
      refine WL.q (oq_pick_t rfl rfl) rfl rfl rfl ?_
      refine WL.q (oq_move rfl) rfl rfl rfl ?_
      refine WL.q (oq_move rfl) rfl rfl rfl ?_
      refine WL.qc (oq_call (hasPreY (47 :: 47 :: (au ++ pa)) [47, 47] (by simp; omega) (by decide) rfl) call15 rfl) rfl rfl rfl ?_
      refine WL.q (oq_pick_t rfl rfl) rfl rfl rfl ?_
      refine WL.nil (WE.then_normal (WC.sub (fr' := [(6, _), (8, _), (116, _)]) ?_ ⟨rfl, rfl, rfl, trivial⟩))
      refine WC.cond rfl (fun q28 => ?_) (fun q28 => ?_)
      ·
       try simp only [Z1, Z2, Z3, Z4, Z5, Z6, Z7, Z8, Z9, Z0] at q28
       refine WC.seq (WC.region ?_)
       refine WL.q (oq_assign rfl) rfl rfl rfl ?_
       refine WL.nil (WE.then_normal (WC.sub (fr' := [(6, _), (8, _)]) ?_ ⟨rfl, rfl, trivial⟩))
       refine WC.seq (WC.region ?_)
       refine WL.q (oq_move rfl) rfl rfl rfl ?_
       refine WL.q ((oq_slice_s1 Tryd.underlying9 rfl rfl (by simp only [List.length_cons, List.length_append]; omega)).to (v' := S (au ++ pa)) rfl) rfl rfl rfl ?_
       refine WL.q (oq_assign rfl) rfl rfl rfl ?_
       refine WL.q (oq_assign rfl) rfl rfl rfl ?_
       refine WL.nil (WE.then_normal (WC.sub (fr' := [(6, _), (8, _), (12, _)]) ?_ ⟨rfl, rfl, rfl, trivial⟩))
       refine WC.cut (ι := Unit) (fun _ => [(6, S pa), (8, Pt ub 0), (12, S au)]) (fun _ => [UC ub sc [] [] qq.tail [], G]) (fun _ => True) ?_ ?_
       ·
        refine WC.seq (WC.region ?_)
        refine WL.q (oq_move rfl) rfl rfl rfl ?_
        refine WL.qc (oq_call (nIndex (au ++ pa) [47] (by simp; omega) (by decide)) call32 rfl) rfl rfl rfl ?_
        refine WL.q (oq_assign rfl) rfl rfl rfl ?_
        refine WL.nil (WE.then_normal (WC.sub (fr' := [(6, _), (8, _), (12, _), (13, _)]) ?_ ⟨rfl, rfl, rfl, rfl, trivial⟩))
        refine WC.seq (WC.region ?_)
        refine WL.q (oq_move rfl) rfl rfl rfl ?_
        refine WL.q (oq_geq rfl rfl) rfl rfl rfl ?_
        refine WL.nil (WE.then_normal (WC.sub (fr' := [(6, _), (8, _), (12, _), (13, _), (122, _)]) ?_ ⟨rfl, rfl, rfl, rfl, rfl, trivial⟩))
        refine WC.cond rfl (fun q32 => ?_) (fun q32 => ?_)
        ·
         try simp only [Z1, Z2, Z3, Z4, Z5, Z6, Z7, Z8, Z9, Z0] at q32
         have hs1 := hsl.1 q32
         refine WC.quiet (by kernel_rfl) (by kernel_rfl) ?_
         refine WQ.q (oq_move rfl) rfl rfl rfl ?_
         refine WQ.q (oq_move rfl) rfl rfl rfl ?_
         refine WQ.q (oq_slice_s0 Tryd.underlying9 rfl rfl (by (first | omega | (simp only [List.length_cons, List.length_nil, List.length_append, List.length_drop, List.length_take]; omega)))) rfl rfl rfl ?_
         refine WQ.q (oq_move rfl) rfl rfl rfl ?_
         refine WQ.q (oq_move rfl) rfl rfl rfl ?_
         refine WQ.q (oq_slice_s1 Tryd.underlying9 rfl rfl (by (first | omega | (simp only [List.length_cons, List.length_nil, List.length_append, List.length_drop, List.length_take]; omega)))) rfl rfl rfl ?_
         refine WQ.q (oq_assign rfl) rfl rfl rfl ?_
         refine WQ.q (oq_assign rfl) rfl rfl rfl ?_
         refine WQ.nil ?_
         refine WE.f1 ?_
         refine WE.forget hN14_5 ?_
         refine WE.meet () ?_ ⟨(gtv rfl (by first | exact congrArg S (hsl.1 q32).2.2 | exact congrArg S (hsl.2 q32).2)), rfl, (gtv rfl (by first | exact congrArg S (hsl.1 q32).2.1 | exact congrArg S (hsl.2 q32).1)), trivial⟩ (List.Perm.refl _)
         try dsimp only
         all_goals trivial
        ·
         try simp only [Z1, Z2, Z3, Z4, Z5, Z6, Z7, Z8, Z9, Z0] at q32
         refine WC.skip ?_
         refine WE.f1 ?_
         refine WE.forget hN14_5 ?_
         refine WE.meet () ?_ ⟨(gtv rfl (by first | exact congrArg S (hsl.1 q32).2.2 | exact congrArg S (hsl.2 q32).2)), rfl, (gtv rfl (by first | exact congrArg S (hsl.1 q32).2.1 | exact congrArg S (hsl.2 q32).1)), trivial⟩ (List.Perm.refl _)
         try dsimp only
         all_goals trivial
       ·rintro _ hp
        try dsimp only at hp
        show WC _ _ _ _ _ _ ([(6, S pa), (8, Pt ub 0), (12, S au)]) ([UC ub sc [] [] qq.tail [], G])
        refine WC.seq (WC.region ?_)
        refine WL.q (oq_move rfl) rfl rfl rfl ?_
        refine WL.q (oq_move rfl) rfl rfl rfl ?_
        refine WL.q (oq_move rfl) rfl rfl rfl ?_
        refine WL.q (oq_nilCheck rfl) rfl rfl rfl ?_
        refine WL.q (oq_fieldAddr fld44_0 rfl) rfl rfl rfl ?_
        refine WL.q (oq_load flat9 rfl (.head _) (List.mem_singleton.2 rfl) rfl) rfl rfl rfl ?_
        refine WL.q (oq_move rfl) rfl rfl rfl ?_
        refine WL.qc (oq_callRm (parseAuth G hG hu hal sc) (.tail _ (.head _)) call39 rfl) rfl rfl rfl ?_
        refine WL.q (oq_move rfl) rfl rfl rfl ?_
        refine WL.q (oq_extract rfl rfl) rfl rfl rfl ?_
        refine WL.q (oq_extract rfl rfl) rfl rfl rfl ?_
        refine WL.q (oq_extract rfl rfl) rfl rfl rfl ?_
        refine WL.q (oq_nilCheck rfl) rfl rfl rfl ?_
        refine WL.q (oq_fieldAddr fld44_2 rfl) rfl rfl rfl ?_
        refine WL.store1 #[_, _, _, _, _, _, _, _, _, _, _] ty42 rfl rfl (by first | rfl | exact OwS.one one_) (Nat.lt_of_lt_of_le (Nat.lt_succ_self _) (Nat.le_of_ble_eq_true rfl)) rfl rfl ?_
        refine WL.q (oq_nilCheck rfl) rfl rfl rfl ?_
        refine WL.q (oq_fieldAddr fld44_3 rfl) rfl rfl rfl ?_
        refine WL.store1 #[_, _, _, _, _, _, _, _, _, _, _] ty9 rfl rfl (by first | rfl | exact OwS.one one_) (Nat.lt_of_lt_of_le (Nat.lt_succ_self _) (Nat.le_of_ble_eq_true rfl)) rfl rfl ?_
        refine WL.q (oq_assign rfl) rfl rfl rfl ?_
        refine WL.nil (WE.then_normal (WC.sub (fr' := [(6, _), (7, _), (8, _)]) ?_ ⟨rfl, rfl, rfl, trivial⟩))
        refine WC.seq (WC.region ?_)
        refine WL.q (oq_move rfl) rfl rfl rfl ?_
        refine WL.q (oq_ineq Tryd.underlying39 rfl (.inl rfl)) rfl rfl rfl ?_
        refine WL.nil (WE.then_normal (WC.sub (fr' := [(6, _), (7, _), (8, _), (146, _)]) ?_ ⟨rfl, rfl, rfl, rfl, trivial⟩))
        refine WC.cond rfl (fun q35 => ?_) (fun q35 => ?_)
        ·
         try simp only [Z1, Z2, Z3, Z4, Z5, Z6, Z7, Z8, Z9, Z0] at q35
         refine WC.seq ?_
         first | contradiction | omega | (exfalso; simp_all; done)
        ·
         try simp only [Z1, Z2, Z3, Z4, Z5, Z6, Z7, Z8, Z9, Z0] at q35
         refine WC.skip (WE.then_normal (WC.sub (fr' := [(6, _), (8, _)]) ?_ ⟨rfl, rfl, trivial⟩))
         refine WC.seq (WC.seq (WC.region ?_))
         refine WL.q (oq_move rfl) rfl rfl rfl ?_
         refine WL.q (oq_move rfl) rfl rfl rfl ?_
         refine WL.f1 ?_
         refine WL.f1 ?_
         refine WL.callW2 (setPath _ ub G hG sc au pa qq.tail hu.pa37 (by omega)) call40 rfl rfl rfl fun v39_2 Hs39_2 hR39_2 => ?_
         obtain ⟨rfl, rp, rfl⟩ := hR39_2
         refine WL.to2 ?_
         refine WL.q (oq_assign rfl) rfl rfl rfl ?_
         refine WL.nil (WE.then_normal (WC.sub (fr' := [(8, _), (14, _)]) ?_ ⟨rfl, rfl, trivial⟩))
         refine WC.seq (WC.region ?_)
         refine WL.q (oq_move rfl) rfl rfl rfl ?_
         refine WL.q (oq_ineq Tryd.underlying39 rfl (.inl rfl)) rfl rfl rfl ?_
         refine WL.nil (WE.then_normal (WC.sub (fr' := [(8, _), (14, _), (164, _)]) ?_ ⟨rfl, rfl, rfl, trivial⟩))
         refine WC.cond rfl (fun q40 => ?_) (fun q40 => ?_)
         ·
          try simp only [Z1, Z2, Z3, Z4, Z5, Z6, Z7, Z8, Z9, Z0] at q40
          refine WC.seq ?_
          first | contradiction | omega | (exfalso; simp_all; done)
         ·
          try simp only [Z1, Z2, Z3, Z4, Z5, Z6, Z7, Z8, Z9, Z0] at q40
          refine WC.skip (WE.then_normal (WC.sub (fr' := [(8, _)]) ?_ ⟨rfl, trivial⟩))
          refine WC.seq (WC.region ?_)
          refine WL.q (oq_move rfl) rfl rfl rfl ?_
          refine WL.q (oq_assign rfl) rfl rfl rfl ?_
          refine WL.q (oq_assign rfl) rfl rfl rfl ?_
          refine WL.nil (WE.then_normal (WC.sub (fr' := [(4, _), (5, _)]) ?_ ⟨rfl, rfl, trivial⟩))
          refine WC.ret ?_
          refine WE.endA (.inl rfl) (res2 Tryd.results23 rfl rfl) ?_ (fresh1 hub)
          exact ⟨_, _, rfl, rfl⟩
      ·
       try simp only [Z1, Z2, Z3, Z4, Z5, Z6, Z7, Z8, Z9, Z0] at q28
       refine WC.seq ?_
       first | contradiction | omega | (exfalso; simp_all; done)
end M5
end Go.Proofs.YtefaegocllppkaaDoor
/- Around the reading of an address. -/
namespace Go.Proofs.YtefaegocllppkaaDoor
open Go Go.RowKit V L0 L1 L2 M0 M1 M2 M3 M4 M5
set_option linter.unusedSimpArgs false
set_option linter.unusedVariables false
set_option maxRecDepth 10000
namespace M6
theorem call15 : Callable Tryd.prog 15 := ⟨_, Tryd.func15, rfl, by kernel_rfl⟩
theorem call22 : Callable Tryd.prog 22 := ⟨_, Tryd.func22, rfl, by kernel_rfl⟩
theorem call23 : Callable Tryd.prog 23 := ⟨_, Tryd.func23, rfl, by kernel_rfl⟩
theorem call27 : Callable Tryd.prog 27 := ⟨_, Tryd.func27, rfl, by kernel_rfl⟩
theorem call66 : Callable Tryd.prog 66 := ⟨_, Tryd.func66, rfl, by kernel_rfl⟩
theorem flat9 : Flat Tryd.prog 9 := ⟨_, Tryd.underlying9, by simp⟩
theorem ty5 : Ty Tryd.prog 5 (.int .u8 0) 1 1 := ty_of (by kernel_rfl)
theorem ty9 : Ty Tryd.prog 9 (S []) 1 16 := ty_of (by kernel_rfl)
theorem fld44_3 : Fld Tryd.prog 44 3 3 9 := fld_of Tryd.underlying44 rfl rfl rfl ty9 (by decide)
theorem h_mem {sc au pa qq h : List UInt8} (hu : UOk sc au pa qq h) : ∀ c ∈ h, c ∈ HSET := fun c hc => mem_set hu.host.2 hc
theorem h37 {sc au pa qq h : List UInt8} (hu : UOk sc au pa qq h) : (37 : UInt8) ∉ h := fun e => (host_sub _ (.tail _ (h_mem hu _ e))).2.1 rfl
theorem parseU (G : Hp) (hG : Tb G) {sc au pa qq h : List UInt8} (hu : UOk sc au pa qq h) (hal : (UT sc au pa qq).length ≤ 100000) : FnA Tryd.prog 14 [S (UT sc au pa qq)] G (fun v N => ∃ p rp, v = .tuple #[Pt p 0, .nilIface] ∧ N = UC p sc au pa qq.tail rp) := by
 refine FnA.enter (n := 41) Tryd.func14 rfl rfl fun w0 => ?_
 refine WC.sub (fr' := [(0, _)]) ?_ ⟨rfl, trivial⟩
 refine WC.seq (WC.region ?_)
 refine WL.q (oq_assign rfl) rfl rfl rfl ?_
 refine WL.q (oq_assign rfl) rfl rfl rfl ?_
 refine WL.nil (WE.then_normal (WC.sub (fr' := [(0, _)]) ?_ ⟨rfl, trivial⟩))
 refine WC.seq (WC.region ?_)
 refine WL.q (oq_move rfl) rfl rfl rfl ?_
 refine WL.qc (oq_call (nCutH hu hal) call22 rfl) rfl rfl rfl ?_
 refine WL.q (oq_move rfl) rfl rfl rfl ?_
 refine WL.q (oq_extract rfl rfl) rfl rfl rfl ?_
 refine WL.q (oq_extract rfl rfl) rfl rfl rfl ?_
 refine WL.q (oq_extract rfl rfl) rfl rfl rfl ?_
 refine WL.q (oq_assign rfl) rfl rfl rfl ?_
 refine WL.q (oq_assign rfl) rfl rfl rfl ?_
 refine WL.q (oq_assign rfl) rfl rfl rfl ?_
 refine WL.nil (WE.then_normal (WC.sub (fr' := [(0, _), (4, _), (5, _)]) ?_ ⟨rfl, rfl, rfl, trivial⟩))
 refine WC.seq (WC.region ?_)
 refine WL.q (oq_move rfl) rfl rfl rfl ?_
 refine WL.callA (parse G hG hu hal) call23 rfl rfl rfl fun v2_1 N2_1 hR2_1 hN2_1 => ?_
 obtain ⟨p, rp, rfl, rfl⟩ := hR2_1
 refine WL.q (oq_move rfl) rfl rfl rfl ?_
 refine WL.q (oq_extract rfl rfl) rfl rfl rfl ?_
 refine WL.q (oq_extract rfl rfl) rfl rfl rfl ?_
 refine WL.q (oq_assign rfl) rfl rfl rfl ?_
 refine WL.q (oq_assign rfl) rfl rfl rfl ?_
 refine WL.nil (WE.then_normal (WC.sub (fr' := [(0, _), (4, _), (5, _), (7, _), (8, _)]) ?_ ⟨rfl, rfl, rfl, rfl, rfl, trivial⟩))
 refine WC.seq (WC.seq (WC.region ?_))
 refine WL.q (oq_move rfl) rfl rfl rfl ?_
 refine WL.q (oq_ineq Tryd.underlying39 rfl (.inl rfl)) rfl rfl rfl ?_
 refine WL.nil (WE.then_normal (WC.sub (fr' := [(0, _), (4, _), (5, _), (7, _), (8, _), (21, _)]) ?_ ⟨rfl, rfl, rfl, rfl, rfl, rfl, trivial⟩))
 refine WC.cond rfl (fun q3 => ?_) (fun q3 => ?_)
 ·
  try simp only [Z1, Z2, Z3, Z4, Z5, Z6, Z7, Z8, Z9, Z0] at q3
  refine WC.seq ?_
  first | contradiction | omega | (exfalso; simp_all; done)
 ·
  try simp only [Z1, Z2, Z3, Z4, Z5, Z6, Z7, Z8, Z9, Z0] at q3
  refine WC.skip (WE.then_normal (WC.sub (fr' := [(0, _), (5, _), (7, _)]) ?_ ⟨rfl, rfl, rfl, trivial⟩))
  refine WC.seq (WC.seq (WC.region ?_))
  refine WL.q (oq_move rfl) rfl rfl rfl ?_
  refine WL.q (oq_seql rfl rfl) rfl rfl rfl ?_
  refine WL.nil (WE.then_normal (WC.sub (fr' := [(0, _), (5, _), (7, _), (28, _)]) ?_ ⟨rfl, rfl, rfl, rfl, trivial⟩))
  refine WC.cond rfl (fun q5 => ?_) (fun q5 => ?_)
  ·
   try simp only [Z1, Z2, Z3, Z4, Z5, Z6, Z7, Z8, Z9, Z0] at q5
   refine WC.seq (WC.region ?_)
   refine WL.q (oq_move rfl) rfl rfl rfl ?_
   refine WL.q (oq_assign rfl) rfl rfl rfl ?_
   refine WL.q (oq_assign rfl) rfl rfl rfl ?_
   refine WL.nil (WE.then_normal (WC.sub (fr' := [(2, _), (3, _)]) ?_ ⟨rfl, rfl, trivial⟩))
   refine WC.ret (WE.then_ret ?_)
   refine WE.endA (.inl rfl) (res2 Tryd.results14 rfl rfl) ?_ (hN2_1)
   exact ⟨_, _, rfl, rfl⟩
  ·
   try simp only [Z1, Z2, Z3, Z4, Z5, Z6, Z7, Z8, Z9, Z0] at q5
   refine WC.skip (WE.then_normal (WC.sub (fr' := [(0, _), (5, _), (7, _)]) ?_ ⟨rfl, rfl, rfl, trivial⟩))
   refine WC.seq (WC.seq ?_)
   first | contradiction | omega | (exfalso; simp_all; done)
end M6
end Go.Proofs.YtefaegocllppkaaDoor
/- Four numbers with dots between: the walks. -/
namespace Go.Proofs.YtefaegocllppkaaDoor
open Go Go.RowKit V L0 L1 L2 M0 M1 M2 M3 M4 M5 M6 M7 MQ
set_option linter.unusedSimpArgs false
set_option linter.unusedVariables false
set_option maxRecDepth 10000
namespace M8
theorem ty5 : Ty Tryd.prog 5 (.int .u8 0) 1 1 := ty_of (by kernel_rfl)
section
variable {n : Nat} {w0 : World} {ds : List Deferred} {fr : Fr} {H : List Hp} {dst : Option Tmp} {ty t' : TypeId} {pos : String} {aft : Array Edge} {g : Option (Nat × Bool)} {x y : Operand}
end
end M8
end Go.Proofs.YtefaegocllppkaaDoor
/- Addresses of four numbers: what is made of them. -/
namespace Go.Proofs.YtefaegocllppkaaDoor
open Go Go.RowKit V L0 L1 L2 M0 M1 M2 M3 M4 M5 M6 M7 MQ M8
set_option linter.unusedSimpArgs false
set_option linter.unusedVariables false
set_option maxRecDepth 10000
namespace M9
theorem flat5 : Flat Tryd.prog 5 := ⟨_, Tryd.underlying5, by simp⟩
theorem flat9 : Flat Tryd.prog 9 := ⟨_, Tryd.underlying9, by simp⟩
theorem ty5 : Ty Tryd.prog 5 (.int .u8 0) 1 1 := ty_of (by kernel_rfl)
theorem ty9 : Ty Tryd.prog 9 (S []) 1 16 := ty_of (by kernel_rfl)
end M9
end Go.Proofs.YtefaegocllppkaaDoor
/- Addresses as the rules read them. -/
namespace Go.Proofs.YtefaegocllppkaaDoor
open Go Go.RowKit V L0 L1 L2 M0 M1 M2 M3 M4 M5 M6 M7 MQ M8 M9
set_option linter.unusedSimpArgs false
set_option linter.unusedVariables false
set_option maxRecDepth 10000
namespace MA
theorem call14 : Callable Tryd.prog 14 := ⟨_, Tryd.func14, rfl, by kernel_rfl⟩
theorem call15 : Callable Tryd.prog 15 := ⟨_, Tryd.func15, rfl, by kernel_rfl⟩
theorem call16 : Callable Tryd.prog 16 := ⟨_, Tryd.func16, rfl, by kernel_rfl⟩
theorem flat9 : Flat Tryd.prog 9 := ⟨_, Tryd.underlying9, by simp⟩
theorem ty9 : Ty Tryd.prog 9 (S []) 1 16 := ty_of (by kernel_rfl)
theorem fld44_0 : Fld Tryd.prog 44 0 0 9 := fld_of Tryd.underlying44 rfl rfl rfl ty9 (by decide)
theorem fld44_3 : Fld Tryd.prog 44 3 3 9 := fld_of Tryd.underlying44 rfl rfl rfl ty9 (by decide)
theorem fld44_4 : Fld Tryd.prog 44 4 4 9 := fld_of Tryd.underlying44 rfl rfl rfl ty9 (by decide)
theorem fld44_6 : Fld Tryd.prog 44 6 6 9 := fld_of Tryd.underlying44 rfl rfl rfl ty9 (by decide)
def Web (sc : List UInt8) : Prop := sc = [104, 116, 116, 112] ∨ sc = [104, 116, 116, 112, 115]
theorem no_web {sc qq : List UInt8} (hb : qq ≠ [] ∨ ¬ Web sc) (hq : qq = [] ∨ ∃ q, qq = 63 :: q ∧ Low q) (h4 : qq.tail.length = 0) (hw : Web sc) : False := by
 rcases hb with hb | hb
 ·rcases hq with h | ⟨q, rfl, hl⟩
  ·exact hb h
  ·exact hl.1 (List.eq_nil_of_length_eq_zero h4)
 ·exact hb hw
theorem parseURLno (G : Hp) (hG : Tb G) {sc au pa qq h : List UInt8} (hu : UOk sc au pa qq h) (hal : (UT sc au pa qq).length ≤ 100000) (hb : qq ≠ [] ∨ ¬ Web sc) : FnA Tryd.prog 12 [S (UT sc au pa qq)] G (fun v N => v = .pointer none) := by
 have hq := hu.q
 refine FnA.enter (n := 65) Tryd.func12 rfl rfl fun w0 => ?_
 refine WC.sub (fr' := [(0, _)]) ?_ ⟨rfl, trivial⟩
 refine WC.seq (WC.region ?_)
 refine WL.q (oq_assign rfl) rfl rfl rfl ?_
 refine WL.nil (WE.then_normal (WC.sub (fr' := [(0, _)]) ?_ ⟨rfl, trivial⟩))
 refine WC.seq (WC.region ?_)
 refine WL.q (oq_move rfl) rfl rfl rfl ?_
 refine WL.callA (parseU G hG hu hal) call14 rfl rfl rfl fun v1_1 N1_1 hR1_1 hN1_1 => ?_
 obtain ⟨p, rp, rfl, rfl⟩ := hR1_1
 refine WL.q (oq_move rfl) rfl rfl rfl ?_
 refine WL.q (oq_extract rfl rfl) rfl rfl rfl ?_
 refine WL.q (oq_extract rfl rfl) rfl rfl rfl ?_
 refine WL.q (oq_assign rfl) rfl rfl rfl ?_
 refine WL.q (oq_assign rfl) rfl rfl rfl ?_
 refine WL.nil (WE.then_normal (WC.sub (fr' := [(3, _), (4, _)]) ?_ ⟨rfl, rfl, trivial⟩))
 refine WC.seq (WC.seq (WC.region ?_))
 refine WL.q (oq_move rfl) rfl rfl rfl ?_
 refine WL.q (oq_ineq Tryd.underlying39 rfl (.inl rfl)) rfl rfl rfl ?_
 refine WL.nil (WE.then_normal (WC.sub (fr' := [(3, _), (13, _)]) ?_ ⟨rfl, rfl, trivial⟩))
 refine WC.cond rfl (fun q2 => ?_) (fun q2 => ?_)
 ·
  try simp only [Z1, Z2, Z3, Z4, Z5, Z6, Z7, Z8, Z9, Z0] at q2
  refine WC.seq ?_
  first | contradiction | omega | (exfalso; simp_all; done)
 ·
  try simp only [Z1, Z2, Z3, Z4, Z5, Z6, Z7, Z8, Z9, Z0] at q2
  refine WC.skip (WE.then_normal (WC.sub (fr' := [(3, _)]) ?_ ⟨rfl, trivial⟩))
  refine WC.seq (WC.seq (WC.region ?_))
  refine WL.q (oq_move rfl) rfl rfl rfl ?_
  refine WL.q (oq_nilCheck rfl) rfl rfl rfl ?_
  refine WL.q (oq_fieldAddr fld44_6 rfl) rfl rfl rfl ?_
  refine WL.q (oq_load flat9 rfl (.head _) (List.mem_singleton.2 rfl) rfl) rfl rfl rfl ?_
  refine WL.q (oq_sneq rfl rfl) rfl rfl rfl ?_
  refine WL.nil (WE.then_normal (WC.sub (fr' := [(3, _), (18, _)]) ?_ ⟨rfl, rfl, trivial⟩))
  refine WC.cond rfl (fun q4 => ?_) (fun q4 => ?_)
  ·
   try simp only [Z1, Z2, Z3, Z4, Z5, Z6, Z7, Z8, Z9, Z0] at q4
   refine WC.seq (WC.region ?_)
   refine WL.q (oq_assign rfl) rfl rfl rfl ?_
   refine WL.nil (WE.then_normal (WC.sub (fr' := [(2, _)]) ?_ ⟨rfl, trivial⟩))
   refine WC.ret (WE.then_ret ?_)
   refine WE.forget hN1_1 ?_
   refine WE.add0 ?_
   refine WE.endA (.inl rfl) (res1 Tryd.results12 rfl) ?_ fresh0
   rfl
  ·
   try simp only [Z1, Z2, Z3, Z4, Z5, Z6, Z7, Z8, Z9, Z0] at q4
   refine WC.skip (WE.then_normal (WC.sub (fr' := [(3, _)]) ?_ ⟨rfl, trivial⟩))
   refine WC.seq (WC.seq (WC.region ?_))
   refine WL.q (oq_move rfl) rfl rfl rfl ?_
   refine WL.q (oq_nilCheck rfl) rfl rfl rfl ?_
   refine WL.q (oq_fieldAddr fld44_0 rfl) rfl rfl rfl ?_
   refine WL.q (oq_load flat9 rfl (.head _) (List.mem_singleton.2 rfl) rfl) rfl rfl rfl ?_
   refine WL.q (oq_sneq rfl rfl) rfl rfl rfl ?_
   refine WL.q (oq_move rfl) rfl rfl rfl ?_
   refine WL.split 24 rfl (fun s6_5 => ?_) (fun s6_5 => ?_)
   ·
    try simp only [Z1, Z2, Z3, Z4, Z5, Z6, Z7, Z8, Z9, Z0] at s6_5
    refine WL.q (oq_move rfl) rfl rfl rfl ?_
    refine WL.q (oq_nilCheck rfl) rfl rfl rfl ?_
    refine WL.q (oq_fieldAddr fld44_0 rfl) rfl rfl rfl ?_
    refine WL.q (oq_load flat9 rfl (.head _) (List.mem_singleton.2 rfl) rfl) rfl rfl rfl ?_
    refine WL.q (oq_sneq rfl rfl) rfl rfl rfl ?_
    refine WL.q (oq_pick_t rfl rfl) rfl rfl rfl ?_
    refine WL.nil (WE.then_normal (WC.sub (fr' := [(3, _), (30, _)]) ?_ ⟨rfl, rfl, trivial⟩))
    refine WC.cond rfl (fun q6 => ?_) (fun q6 => ?_)
    ·
     try simp only [Z1, Z2, Z3, Z4, Z5, Z6, Z7, Z8, Z9, Z0] at q6
     refine WC.seq (WC.region ?_)
     refine WL.q (oq_assign rfl) rfl rfl rfl ?_
     refine WL.nil (WE.then_normal (WC.sub (fr' := [(2, _)]) ?_ ⟨rfl, trivial⟩))
     refine WC.ret (WE.then_ret ?_)
     refine WE.forget hN1_1 ?_
     refine WE.add0 ?_
     refine WE.endA (.inl rfl) (res1 Tryd.results12 rfl) ?_ fresh0
     rfl
    ·
     try simp only [Z1, Z2, Z3, Z4, Z5, Z6, Z7, Z8, Z9, Z0] at q6
     refine WC.skip (WE.then_normal (WC.sub (fr' := [(3, _)]) ?_ ⟨rfl, trivial⟩))
     refine WC.seq ?_
     exact (no_web hb hq q4 (by first | exact .inr q6 | exact .inl s6_5)).elim
   ·
    try simp only [Z1, Z2, Z3, Z4, Z5, Z6, Z7, Z8, Z9, Z0] at s6_5
    refine WL.skip rfl rfl rfl ?_
    refine WL.skip rfl rfl rfl ?_
    refine WL.skip rfl rfl rfl ?_
    refine WL.skip rfl rfl rfl ?_
    refine WL.skip rfl rfl rfl ?_
    refine WL.q (oq_pick_f rfl rfl) rfl rfl rfl ?_
    refine WL.nil (WE.then_normal (WC.sub (fr' := [(3, _), (30, _)]) ?_ ⟨rfl, rfl, trivial⟩))
    refine WC.cond_f rfl ?_
    refine WC.skip (WE.then_normal (WC.sub (fr' := [(3, _)]) ?_ ⟨rfl, trivial⟩))
    refine WC.seq ?_
    exact (no_web hb hq q4 (by first | exact .inr q6 | exact .inl s6_5)).elim
end MA
end Go.Proofs.YtefaegocllppkaaDoor
/- Addresses as they are read, and equal ones. -/
namespace Go.Proofs.YtefaegocllppkaaDoor
open Go Go.RowKit V L0 L1 L2 M0 M1 M2 M3 M4 M5 M6 M7 MQ M8 M9 MA
set_option linter.unusedSimpArgs false
set_option linter.unusedVariables false
set_option maxRecDepth 10000
namespace MB
theorem call12 : Callable Tryd.prog 12 := ⟨_, Tryd.func12, rfl, by kernel_rfl⟩
theorem flat9 : Flat Tryd.prog 9 := ⟨_, Tryd.underlying9, by simp⟩
theorem ty4 : Ty Tryd.prog 4 (.bool false) 1 1 := ty_of (by kernel_rfl)
theorem ty9 : Ty Tryd.prog 9 (S []) 1 16 := ty_of (by kernel_rfl)
theorem ty23 : Ty Tryd.prog 23 (.agg #[(S []), (S []), (S []), (S []), (.bool false)]) 5 72 := ty_of (by kernel_rfl)
theorem agg23 : Agg Tryd.prog 23 := agg_of Tryd.underlying23
theorem str23 : Str Tryd.prog 23 #[(0, 1), (1, 1), (2, 1), (3, 1), (4, 1)] := ⟨_, Tryd.underlying23, fun w => by kernel_rfl⟩
theorem good_uok {s sc au pa h : List UInt8} (hg : M1.Good s sc au pa h) : UOk sc au pa [] h ∧ s = UT sc au pa [] ∧ Web sc := by
 obtain ⟨h1, h2, h3, h4, h5⟩ := hg
 refine ⟨⟨?_, h3, h4, h5, .inl rfl⟩, by rw [h2]; simp [UT], h1⟩
 rcases h1 with rfl | rfl
 ·exact ⟨by simp, by decide⟩
 ·exact ⟨by simp, by decide⟩
section
variable {n : Nat} {w0 : World} {ds : List Deferred} {fr : Fr} {H : List Hp} {dst : Option Tmp} {ty t' : TypeId} {pos : String} {aft : Array Edge} {g : Option (Nat × Bool)} {x y : Operand}
end
theorem eParseNo (G : Hp) (hG : Tb G) {sc au pa qq h : List UInt8} (hu : UOk sc au pa qq h) (hal : (UT sc au pa qq).length ≤ 100000) (hb : qq ≠ [] ∨ ¬ Web sc) : FnA Tryd.prog 7 [S (UT sc au pa qq)] G (fun v N => v = .tuple #[.agg #[S [], S [], S [], S [], .bool false], .bool false]) := by
 refine FnA.enter (n := 31) Tryd.func7 rfl rfl fun w0 => ?_
 refine WC.sub (fr' := [(0, _)]) ?_ ⟨rfl, trivial⟩
 refine WC.seq (WC.region ?_)
 refine WL.alloc ty23 rfl rfl fun r2 hr2 => ?_
 refine WL.q (oq_assign rfl) rfl rfl rfl ?_
 refine WL.nil (WE.then_normal (WC.sub (fr' := [(0, _), (2, _)]) ?_ ⟨rfl, rfl, trivial⟩))
 refine WC.seq (WC.region ?_)
 refine WL.q (oq_move rfl) rfl rfl rfl ?_
 refine WL.f1 ?_
 refine WL.callA (parseURLno G hG hu hal hb) call12 rfl rfl rfl fun v1_1 N1_1 hR1_1 hN1_1 => ?_
 subst hR1_1
 refine WL.q (oq_assign rfl) rfl rfl rfl ?_
 refine WL.nil (WE.then_normal (WC.sub (fr' := [(2, _), (4, _)]) ?_ ⟨rfl, rfl, trivial⟩))
 refine WC.seq (WC.seq (WC.region ?_))
 refine WL.q (oq_move rfl) rfl rfl rfl ?_
 refine WL.q (oq_peql Tryd.underlying33 rfl rfl) rfl rfl rfl ?_
 refine WL.nil (WE.then_normal (WC.sub (fr' := [(2, _), (4, _), (8, _)]) ?_ ⟨rfl, rfl, rfl, trivial⟩))
 refine WC.cond rfl (fun q2 => ?_) (fun q2 => ?_)
 ·
  try simp only [Z1, Z2, Z3, Z4, Z5, Z6, Z7, Z8, Z9, Z0] at q2
  refine WC.seq (WC.region ?_)
  refine WL.q (oq_build #[_, _, _, _, _] str23 ty23 rfl rfl) rfl rfl rfl ?_
  refine WL.f2 ?_
  refine WL.storeS #[_, _, _, _, _] ty23 rfl rfl rfl rfl (Nat.le_of_ble_eq_true rfl) rfl rfl ?_
  refine WL.q (oq_assign rfl) rfl rfl rfl ?_
  refine WL.nil (WE.then_normal (WC.sub (fr' := [(2, _), (3, _)]) ?_ ⟨rfl, rfl, trivial⟩))
  refine WC.ret (WE.then_ret ?_)
  refine WE.endDA (.inl rfl) (rs2 Tryd.results7 (rv_cellS [_, _, _, _, _] agg23 ty23 rfl (.head _) (List.mem_singleton.2 rfl) rfl rfl) (rv_tmp rfl)) (dr_lose hr2 (dr_forget hN1_1 (dr_add0 dr_refl))) fresh0 ?_
  rfl
 ·
  try simp only [Z1, Z2, Z3, Z4, Z5, Z6, Z7, Z8, Z9, Z0] at q2
  refine WC.skip (WE.then_normal (WC.sub (fr' := [(2, _), (4, _)]) ?_ ⟨rfl, rfl, trivial⟩))
  refine WC.seq ?_
  first | contradiction | omega | (exfalso; simp_all; done)
end MB
end Go.Proofs.YtefaegocllppkaaDoor
/- The law: an address is read as the reference says. -/
namespace Go.Proofs.YtefaegocllppkaaDoor
open Go Go.RowKit V L0 L1 L2 M0 M1 M2 M3 M4 M5 M6 M7 MQ M8 M9 MA MB
set_option linter.unusedSimpArgs false
set_option linter.unusedVariables false
set_option maxRecDepth 10000
namespace MC
theorem call5 : Callable Tryd.prog 5 := ⟨_, Tryd.func5, rfl, by kernel_rfl⟩
theorem call6 : Callable Tryd.prog 6 := ⟨_, Tryd.func6, rfl, by kernel_rfl⟩
theorem call7 : Callable Tryd.prog 7 := ⟨_, Tryd.func7, rfl, by kernel_rfl⟩
theorem ty23 : Ty Tryd.prog 23 (.agg #[(S []), (S []), (S []), (S []), (.bool false)]) 5 72 := ty_of (by kernel_rfl)
theorem agg23 : Agg Tryd.prog 23 := agg_of Tryd.underlying23
theorem ut_len (sc au pa qq : List UInt8) : (UT sc au pa qq).length = sc.length + au.length + pa.length + qq.length + 3 := by
 simp only [UT, List.length_append, List.length_cons]; omega
theorem low_mk {q : List UInt8} (h0 : q ≠ []) (h : ∀ j : Nat, j < q.length → 97 ≤ byteAt q j ∧ byteAt q j ≤ 122) : Low q := by
 refine ⟨h0, fun c hc => ?_⟩
 obtain ⟨j, hj, rfl⟩ := List.mem_iff_getElem.1 hc
 have := h j hj
 rw [byteAt_get q j hj] at this; omega
theorem uok_q {sc au pa h q : List UInt8} (hu : UOk sc au pa [] h) (hq : Low q) : UOk sc au pa (63 :: q) h := ⟨hu.low, hu.port, hu.host, hu.path, .inr ⟨q, rfl, hq⟩⟩
theorem uok_sc {sc sc2 au pa h : List UInt8} (hu : UOk sc au pa [] h) (hq : Low sc2) : UOk sc2 au pa [] h := ⟨hq, hu.port, hu.host, hu.path, hu.q⟩
end MC
end Go.Proofs.YtefaegocllppkaaDoor
