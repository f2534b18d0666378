/- The sum of a stream. -/
import Derived.Test.YtodlhaghdplclaaDoorEB
import Derived.Test.YtodlhaghdplclaaDoorVT
namespace Go.Proofs.YtodlhaghdplclaaDoor
open Go Go.RowKit V EA EB
set_option linter.unusedSimpArgs false
set_option linter.unusedVariables false
set_option maxRecDepth 10000
namespace EC
theorem flat5 : Flat Tryd.prog 5 := ⟨_, Tryd.underlying5, by simp⟩
theorem flat54 : Flat Tryd.prog 54 := ⟨_, Tryd.underlying54, by simp⟩
theorem ty5 : Ty Tryd.prog 5 (.int .u8 0) 1 1 := ty_of (by kernel_rfl)
theorem ty54 : Ty Tryd.prog 54 (.int .u32 0) 1 4 := ty_of (by kernel_rfl)
theorem fld66_0 : Fld Tryd.prog 66 0 0 54 := fld_of Tryd.underlying66 rfl rfl rfl ty54 (by decide)
/-- given.example/pub-tinwright/spec.VSumOf -/
theorem sumOf (v : Value) (A : Hp) (l : List UInt8) (hr : RdS 1 v A l.length (bytesV l)) (hl : l.length ≤ 1000000) : FnR Tryd.prog 18 [v] A (U32 (crc l)) := by
  refine FnR.enter (n := 33) Tryd.func18 rfl rfl fun w0 => ?_
  refine WC.sub (fr' := [(0, _)]) ?_ ⟨rfl, trivial⟩
  refine WC.seq (WC.region ?_)
  refine WL.q (oq_assign rfl) rfl rfl rfl ?_
  refine WL.nil (WE.then_normal (WC.sub (fr' := [(0, _)]) ?_ ⟨rfl, trivial⟩))
  refine WC.seq (WC.region ?_)
  refine WL.q (oq_assign rfl) rfl rfl rfl ?_
  refine WL.nil (WE.then_normal (WC.sub (fr' := [(0, _), (3, _)]) ?_ ⟨rfl, rfl, trivial⟩))
  refine WC.seq (WC.seq (WC.region ?_))
  refine WL.q (oq_assign rfl) rfl rfl rfl ?_
  refine WL.nil (WE.then_normal (WC.sub (fr' := [(0, _), (3, _), (4, _)]) ?_ ⟨rfl, rfl, rfl, trivial⟩))
  refine WC.block ?_
  refine WC.loop (ι := Nat) (fun (i : Nat) => [(0, v), (3, U32 (crcRaw (~~~ 0#32) (l.take i))), (4, I (i : Int))]) (fun (i : Nat) => [A]) (fun (i : Nat) => i ≤ l.length) (fun (i : Nat) => l.length - i) (0) ?_ ⟨rfl, rfl, rfl, trivial⟩ (List.Perm.refl _) ?_
  · try dsimp only
    omega
  · rintro i hp
    try dsimp only at hp
    obtain hi := hp
    show WC _ _ _ _ _ _ ([(0, v), (3, U32 (crcRaw (~~~ 0#32) (l.take i))), (4, I (i : Int))]) ([A])
    refine WC.seq (WC.seq (WC.region ?_))
    refine WL.q (oq_move rfl) rfl rfl rfl ?_
    refine WL.q (oq_move rfl) rfl rfl rfl ?_
    refine WL.q (oq_len_rd hr Tryd.underlying23 rfl) rfl rfl rfl ?_
    refine WL.q (oq_lss rfl rfl) rfl rfl rfl ?_
    refine WL.nil (WE.then_normal (WC.sub (fr' := [(0, _), (3, _), (4, _), (9, _)]) ?_ ⟨rfl, rfl, rfl, rfl, trivial⟩))
    refine WC.cond rfl (fun q3 => ?_) (fun q3 => ?_)
    ·
      try simp only [Z1, Z2, Z3, Z4, Z5, Z6, Z7, Z8, Z9, Z0] at q3
      refine WC.skip (WE.then_normal (WC.sub (fr' := [(0, _), (3, _), (4, _)]) ?_ ⟨rfl, rfl, rfl, trivial⟩))
      refine WC.seq (WC.block (WC.seq ?_))
      have hlt : i < l.length := by omega
      refine WC.region ?_
      refine WL.q (oq_move rfl) rfl rfl rfl ?_
      refine WL.q (oq_move rfl) rfl rfl rfl ?_
      refine WL.q (oq_move rfl) rfl rfl rfl ?_
      refine WL.q (oq_ixaddr hr Tryd.underlying23 ty5 rfl rfl (by (first | omega | (simp only [List.length_cons, List.length_nil, List.length_append, List.length_drop, List.length_take]; omega)))) rfl rfl rfl ?_
      refine WL.load_byte hr (.head _) flat5 rfl (by (first | omega | (simp only [List.length_cons, List.length_nil, List.length_append, List.length_drop, List.length_take]; omega))) rfl rfl fun c5_4 hc5_4 hc5_4l hc5_4u => ?_
      refine WL.q (oq_conv Tryd.underlying5 Tryd.underlying54 rfl (by rw [u32_lo, u32_hi]; (first | omega | (simp only [List.length_cons, List.length_nil, List.length_append, List.length_drop, List.length_take]; omega)))) rfl rfl rfl ?_
      refine WL.q (oq_x32 _ (BitVec.ofNat 32 l[i].toNat) rfl rfl rfl (by rw [byte32, hc5_4, byteAt_get hlt])) rfl rfl rfl ?_
      refine WL.q (oq_assign rfl) rfl rfl rfl ?_
      refine WL.nil (WE.then_normal (WC.sub (fr' := [(0, _), (3, _), (4, _)]) ?_ ⟨rfl, rfl, rfl, trivial⟩))
      refine WC.seq (WC.region ?_)
      refine WL.q (oq_assign rfl) rfl rfl rfl ?_
      refine WL.nil (WE.then_normal (WC.sub (fr' := [(0, _), (3, _), (4, _), (5, _)]) ?_ ⟨rfl, rfl, rfl, rfl, trivial⟩))
      refine WC.block ?_
      refine WC.loop (ι := Nat) (fun (k : Nat) => [(0, v), (3, U32 (crcBits k (crcRaw (~~~ 0#32) (l.take i) ^^^ BitVec.ofNat 32 l[i].toNat))), (4, I (i : Int)), (5, I (k : Int))]) (fun (k : Nat) => [A]) (fun (k : Nat) => k ≤ 8) (fun (k : Nat) => 8 - k) (0) ?_ ⟨rfl, rfl, rfl, rfl, trivial⟩ (List.Perm.refl _) ?_
      · try dsimp only
        omega
      · rintro k hp
        try dsimp only at hp
        obtain hk := hp
        show WC _ _ _ _ _ _ ([(0, v), (3, U32 (crcBits k (crcRaw (~~~ 0#32) (l.take i) ^^^ BitVec.ofNat 32 l[i].toNat))), (4, I (i : Int)), (5, I (k : Int))]) ([A])
        refine WC.seq (WC.seq (WC.region ?_))
        refine WL.q (oq_move rfl) rfl rfl rfl ?_
        refine WL.q (oq_lss rfl rfl) rfl rfl rfl ?_
        refine WL.nil (WE.then_normal (WC.sub (fr' := [(0, _), (3, _), (4, _), (5, _), (20, _)]) ?_ ⟨rfl, rfl, rfl, rfl, rfl, trivial⟩))
        refine WC.cond rfl (fun q7 => ?_) (fun q7 => ?_)
        ·
          try simp only [Z1, Z2, Z3, Z4, Z5, Z6, Z7, Z8, Z9, Z0] at q7
          refine WC.skip (WE.then_normal (WC.sub (fr' := [(0, _), (3, _), (4, _), (5, _)]) ?_ ⟨rfl, rfl, rfl, rfl, trivial⟩))
          refine WC.seq (WC.block (WC.seq (WC.region ?_)))
          refine WL.q (oq_move rfl) rfl rfl rfl ?_
          refine WL.q (oq_a32 _ 1#32 rfl rfl rfl rfl) rfl rfl rfl ?_
          refine WL.q (oq_neq rfl rfl) rfl rfl rfl ?_
          refine WL.nil (WE.then_normal (WC.sub (fr' := [(0, _), (3, _), (4, _), (5, _), (25, _)]) ?_ ⟨rfl, rfl, rfl, rfl, rfl, trivial⟩))
          refine WC.cond rfl (fun q9 => ?_) (fun q9 => ?_)
          ·
            try simp only [Z1, Z2, Z3, Z4, Z5, Z6, Z7, Z8, Z9, Z0] at q9
            refine WC.region ?_
            refine WL.q (oq_move rfl) rfl rfl rfl ?_
            refine WL.q (oq_s32 _ rfl rfl) rfl rfl rfl ?_
            refine WL.q ((oq_x32 _ 3988292384#32 rfl rfl rfl rfl).to (crcBits_odd q9)) rfl rfl rfl ?_
            refine WL.q (oq_assign rfl) rfl rfl rfl ?_
            refine WL.nil (WE.block_normal (WE.then_normal (WC.sub (fr' := [(0, _), (3, _), (4, _), (5, _)]) ?_ ⟨rfl, rfl, rfl, rfl, trivial⟩)))
            refine WC.region ?_
            refine WL.q (oq_move rfl) rfl rfl rfl ?_
            refine WL.q (oq_add rfl rfl (by rw [i64_lo, i64_hi]; (first | omega | (simp only [List.length_cons, List.length_nil, List.length_append, List.length_drop, List.length_take]; omega)))) rfl rfl rfl ?_
            refine WL.q (oq_assign rfl) rfl rfl rfl ?_
            refine WL.nil ?_
            refine WE.again (k + 1) ?_ ?_ ⟨rfl, rfl, rfl, rfl, trivial⟩ (List.Perm.refl _)
            · try dsimp only   -- again 0
              omega
            · (try dsimp only); omega
          ·
            try simp only [Z1, Z2, Z3, Z4, Z5, Z6, Z7, Z8, Z9, Z0] at q9
            refine WC.region ?_
            refine WL.q (oq_move rfl) rfl rfl rfl ?_
            refine WL.q ((oq_s32 _ rfl rfl).to (crcBits_even q9)) rfl rfl rfl ?_
            refine WL.q (oq_assign rfl) rfl rfl rfl ?_
            refine WL.nil (WE.block_normal (WE.then_normal (WC.sub (fr' := [(0, _), (3, _), (4, _), (5, _)]) ?_ ⟨rfl, rfl, rfl, rfl, trivial⟩)))
            refine WC.region ?_
            refine WL.q (oq_move rfl) rfl rfl rfl ?_
            refine WL.q (oq_add rfl rfl (by rw [i64_lo, i64_hi]; (first | omega | (simp only [List.length_cons, List.length_nil, List.length_append, List.length_drop, List.length_take]; omega)))) rfl rfl rfl ?_
            refine WL.q (oq_assign rfl) rfl rfl rfl ?_
            refine WL.nil ?_
            refine WE.again (k + 1) ?_ ?_ ⟨rfl, rfl, rfl, rfl, trivial⟩ (List.Perm.refl _)
            · try dsimp only   -- again 1
              omega
            · (try dsimp only); omega
        ·
          try simp only [Z1, Z2, Z3, Z4, Z5, Z6, Z7, Z8, Z9, Z0] at q7
          refine WC.exit (WE.then_exit (WE.then_exit (WE.block_same (WE.block_normal (WE.then_normal (WC.sub (fr' := [(0, _), (3, _), (4, _)]) ?_ ⟨rfl, rfl, rfl, trivial⟩))))))
          obtain rfl : k = 8 := by omega
          rw [show crcBits 8 (crcRaw (~~~ 0#32) (l.take i) ^^^ BitVec.ofNat 32 l[i].toNat) = crcRaw (~~~ 0#32) (l.take (i + 1)) from (crcRaw_step _ l i _).symm]
          refine WC.region ?_
          refine WL.q (oq_move rfl) rfl rfl rfl ?_
          refine WL.q (oq_add rfl rfl (by rw [i64_lo, i64_hi]; (first | omega | (simp only [List.length_cons, List.length_nil, List.length_append, List.length_drop, List.length_take]; omega)))) rfl rfl rfl ?_
          refine WL.q (oq_assign rfl) rfl rfl rfl ?_
          refine WL.nil ?_
          refine WE.again (i + 1) ?_ ?_ ⟨rfl, rfl, rfl, trivial⟩ (List.Perm.refl _)
          · try dsimp only   -- again 0
            omega
          · (try dsimp only); omega
    ·
      try simp only [Z1, Z2, Z3, Z4, Z5, Z6, Z7, Z8, Z9, Z0] at q3
      refine WC.exit (WE.then_exit (WE.then_exit (WE.block_same (WE.then_normal (WC.sub (fr' := [(3, _)]) ?_ ⟨rfl, trivial⟩)))))
      refine WC.seq ?_
      obtain rfl : i = l.length := by omega
      rw [List.take_length]
      refine WC.region ?_
      refine WL.q (oq_move rfl) rfl rfl rfl ?_
      refine WL.q (oq_c32 _ rfl) rfl rfl rfl ?_
      refine WL.q (oq_assign rfl) rfl rfl rfl ?_
      refine WL.nil (WE.then_normal (WC.sub (fr' := [(2, _)]) ?_ ⟨rfl, trivial⟩))
      refine WC.ret ?_
      refine WE.endR (.inl rfl) (res1 Tryd.results18 rfl) ?_
      -- end 0
      rfl

/-- (*given.example/pub-tinwright/pub/smithy/eventstream.zzCRC).Write -/
theorem crcWrite (base hb : Nat) (acc : List UInt8) (v : Value) (A : Hp) (l : List UInt8) (hr : RdS 1 v A l.length (bytesV l)) (hl : l.length ≤ 1000000) : FnW Tryd.prog 63 [Pt hb 0, v] base [[(hb, .cells #[U32 (crc acc)] 66 (0, 0))], A] (fun w Hs => w = .tuple #[I (l.length : Int), .nilIface] ∧ Hs = [[(hb, .cells #[U32 (crc (acc ++ l))] 66 (0, 0))], A]) := by
  refine FnW.enter (n := 43) Tryd.func63 rfl rfl fun w0 R0 hbase => ?_
  subst hbase
  show WC _ _ _ _ _ _ _ ([[(hb, .cells #[U32 (crc acc)] 66 (0, 0))], A, R0])
  refine WC.sub (fr' := [(0, _), (1, _)]) ?_ ⟨rfl, rfl, trivial⟩
  refine WC.seq (WC.region ?_)
  refine WL.q (oq_assign rfl) rfl rfl rfl ?_
  refine WL.q (oq_assign rfl) rfl rfl rfl ?_
  refine WL.nil (WE.then_normal (WC.sub (fr' := [(0, _), (1, _)]) ?_ ⟨rfl, rfl, trivial⟩))
  refine WC.seq (WC.region ?_)
  refine WL.q (oq_move rfl) rfl rfl rfl ?_
  refine WL.q (oq_nilCheck rfl) rfl rfl rfl ?_
  refine WL.q (oq_fieldAddr fld66_0 rfl) rfl rfl rfl ?_
  refine WL.q (oq_load flat54 rfl (.head _) (List.mem_singleton.2 rfl) rfl) rfl rfl rfl ?_
  refine WL.q (oq_c32 _ rfl) rfl rfl rfl ?_
  refine WL.q (oq_assign rfl) rfl rfl rfl ?_
  refine WL.nil (WE.then_normal (WC.sub (fr' := [(0, _), (1, _), (6, _)]) ?_ ⟨rfl, rfl, rfl, trivial⟩))
  refine WC.seq (WC.seq (WC.region ?_))
  refine WL.q (oq_move rfl) rfl rfl rfl ?_
  refine WL.q (oq_len_rd hr Tryd.underlying23 rfl) rfl rfl rfl ?_
  refine WL.q (oq_move rfl) rfl rfl rfl ?_
  refine WL.nil (WE.then_normal (WC.sub (fr' := [(0, _), (1, _), (6, _), (14, _), (15, _), (16, _)]) ?_ ⟨rfl, rfl, rfl, rfl, rfl, rfl, trivial⟩))
  refine WC.block ?_
  refine WC.loop (ι := Nat) (fun (i : Nat) => [(0, Pt hb 0), (1, v), (6, U32 (crcRaw (~~~ crc acc) (l.take i))), (14, v), (15, I (l.length : Int)), (16, I (i : Int))]) (fun (i : Nat) => [[(hb, .cells #[U32 (crc acc)] 66 (0, 0))], A, R0]) (fun (i : Nat) => i ≤ l.length) (fun (i : Nat) => l.length - i) (0) ?_ ⟨rfl, rfl, rfl, rfl, rfl, rfl, trivial⟩ (List.Perm.refl _) ?_
  · try dsimp only
    omega
  · rintro i hp
    try dsimp only at hp
    obtain hi := hp
    show WC _ _ _ _ _ _ ([(0, Pt hb 0), (1, v), (6, U32 (crcRaw (~~~ crc acc) (l.take i))), (14, v), (15, I (l.length : Int)), (16, I (i : Int))]) ([[(hb, .cells #[U32 (crc acc)] 66 (0, 0))], A, R0])
    refine WC.seq (WC.region ?_)
    refine WL.q (oq_lss rfl rfl) rfl rfl rfl ?_
    refine WL.nil (WE.then_normal (WC.sub (fr' := [(0, _), (1, _), (6, _), (14, _), (15, _), (16, _), (17, _)]) ?_ ⟨rfl, rfl, rfl, rfl, rfl, rfl, rfl, trivial⟩))
    refine WC.seq ?_
    refine WC.cond rfl (fun q3 => ?_) (fun q3 => ?_)
    ·
      try simp only [Z1, Z2, Z3, Z4, Z5, Z6, Z7, Z8, Z9, Z0] at q3
      refine WC.skip (WE.then_normal (WC.sub (fr' := [(0, _), (1, _), (6, _), (14, _), (15, _), (16, _)]) ?_ ⟨rfl, rfl, rfl, rfl, rfl, rfl, trivial⟩))
      refine WC.seq (WC.block (WC.seq ?_))
      have hlt : i < l.length := by omega
      refine WC.region ?_
      refine WL.q (oq_ixaddr hr Tryd.underlying23 ty5 rfl rfl (by (first | omega | (simp only [List.length_cons, List.length_nil, List.length_append, List.length_drop, List.length_take]; omega)))) rfl rfl rfl ?_
      refine WL.load_byte hr (.tail _ (.head _)) flat5 rfl (by (first | omega | (simp only [List.length_cons, List.length_nil, List.length_append, List.length_drop, List.length_take]; omega))) rfl rfl fun c4_1 hc4_1 hc4_1l hc4_1u => ?_
      refine WL.q (oq_assign rfl) rfl rfl rfl ?_
      refine WL.nil (WE.then_normal (WC.sub (fr' := [(0, _), (1, _), (6, _), (8, _), (14, _), (15, _), (16, _)]) ?_ ⟨rfl, rfl, rfl, rfl, rfl, rfl, rfl, trivial⟩))
      refine WC.seq (WC.region ?_)
      refine WL.q (oq_move rfl) rfl rfl rfl ?_
      refine WL.q (oq_move rfl) rfl rfl rfl ?_
      refine WL.q (oq_conv Tryd.underlying5 Tryd.underlying54 rfl (by rw [u32_lo, u32_hi]; (first | omega | (simp only [List.length_cons, List.length_nil, List.length_append, List.length_drop, List.length_take]; omega)))) rfl rfl rfl ?_
      refine WL.q (oq_x32 _ (BitVec.ofNat 32 l[i].toNat) rfl rfl rfl (by rw [byte32, hc4_1, byteAt_get hlt])) rfl rfl rfl ?_
      refine WL.q (oq_assign rfl) rfl rfl rfl ?_
      refine WL.nil (WE.then_normal (WC.sub (fr' := [(0, _), (1, _), (6, _), (14, _), (15, _), (16, _)]) ?_ ⟨rfl, rfl, rfl, rfl, rfl, rfl, trivial⟩))
      refine WC.seq (WC.region ?_)
      refine WL.q (oq_move rfl) rfl rfl rfl ?_
      refine WL.nil (WE.then_normal (WC.sub (fr' := [(0, _), (1, _), (6, _), (14, _), (15, _), (16, _), (24, _)]) ?_ ⟨rfl, rfl, rfl, rfl, rfl, rfl, rfl, trivial⟩))
      refine WC.block ?_
      refine WC.loop (ι := Nat) (fun (k : Nat) => [(0, Pt hb 0), (1, v), (6, U32 (crcBits k (crcRaw (~~~ crc acc) (l.take i) ^^^ BitVec.ofNat 32 l[i].toNat))), (14, v), (15, I (l.length : Int)), (16, I (i : Int)), (24, I (k : Int))]) (fun (k : Nat) => [[(hb, .cells #[U32 (crc acc)] 66 (0, 0))], A, R0]) (fun (k : Nat) => k ≤ 8) (fun (k : Nat) => 8 - k) (0) ?_ ⟨rfl, rfl, rfl, rfl, rfl, rfl, rfl, trivial⟩ (List.Perm.refl _) ?_
      · try dsimp only
        omega
      · rintro k hp
        try dsimp only at hp
        obtain hk := hp
        show WC _ _ _ _ _ _ ([(0, Pt hb 0), (1, v), (6, U32 (crcBits k (crcRaw (~~~ crc acc) (l.take i) ^^^ BitVec.ofNat 32 l[i].toNat))), (14, v), (15, I (l.length : Int)), (16, I (i : Int)), (24, I (k : Int))]) ([[(hb, .cells #[U32 (crc acc)] 66 (0, 0))], A, R0])
        refine WC.seq (WC.region ?_)
        refine WL.q (oq_lss rfl rfl) rfl rfl rfl ?_
        refine WL.nil (WE.then_normal (WC.sub (fr' := [(0, _), (1, _), (6, _), (14, _), (15, _), (16, _), (24, _), (25, _)]) ?_ ⟨rfl, rfl, rfl, rfl, rfl, rfl, rfl, rfl, trivial⟩))
        refine WC.seq ?_
        refine WC.cond rfl (fun q7 => ?_) (fun q7 => ?_)
        ·
          try simp only [Z1, Z2, Z3, Z4, Z5, Z6, Z7, Z8, Z9, Z0] at q7
          refine WC.skip (WE.then_normal (WC.sub (fr' := [(0, _), (1, _), (6, _), (14, _), (15, _), (16, _), (24, _)]) ?_ ⟨rfl, rfl, rfl, rfl, rfl, rfl, rfl, trivial⟩))
          refine WC.seq (WC.block (WC.seq (WC.region ?_)))
          refine WL.q (oq_move rfl) rfl rfl rfl ?_
          refine WL.q (oq_a32 _ 1#32 rfl rfl rfl rfl) rfl rfl rfl ?_
          refine WL.q (oq_neq rfl rfl) rfl rfl rfl ?_
          refine WL.nil (WE.then_normal (WC.sub (fr' := [(0, _), (1, _), (6, _), (14, _), (15, _), (16, _), (24, _), (28, _)]) ?_ ⟨rfl, rfl, rfl, rfl, rfl, rfl, rfl, rfl, trivial⟩))
          refine WC.cond rfl (fun q8 => ?_) (fun q8 => ?_)
          ·
            try simp only [Z1, Z2, Z3, Z4, Z5, Z6, Z7, Z8, Z9, Z0] at q8
            refine WC.region ?_
            refine WL.q (oq_move rfl) rfl rfl rfl ?_
            refine WL.q (oq_s32 _ rfl rfl) rfl rfl rfl ?_
            refine WL.q ((oq_x32 _ 3988292384#32 rfl rfl rfl rfl).to (crcBits_odd q8)) rfl rfl rfl ?_
            refine WL.q (oq_assign rfl) rfl rfl rfl ?_
            refine WL.nil (WE.block_normal (WE.then_normal (WC.sub (fr' := [(0, _), (1, _), (6, _), (14, _), (15, _), (16, _), (24, _)]) ?_ ⟨rfl, rfl, rfl, rfl, rfl, rfl, rfl, trivial⟩)))
            refine WC.region ?_
            refine WL.q (oq_add rfl rfl (by rw [i64_lo, i64_hi]; (first | omega | (simp only [List.length_cons, List.length_nil, List.length_append, List.length_drop, List.length_take]; omega)))) rfl rfl rfl ?_
            refine WL.q (oq_move rfl) rfl rfl rfl ?_
            refine WL.nil ?_
            refine WE.again (k + 1) ?_ ?_ ⟨rfl, rfl, rfl, rfl, rfl, rfl, rfl, trivial⟩ (List.Perm.refl _)
            · try dsimp only   -- again 0
              omega
            · (try dsimp only); omega
          ·
            try simp only [Z1, Z2, Z3, Z4, Z5, Z6, Z7, Z8, Z9, Z0] at q8
            refine WC.region ?_
            refine WL.q (oq_move rfl) rfl rfl rfl ?_
            refine WL.q ((oq_s32 _ rfl rfl).to (crcBits_even q8)) rfl rfl rfl ?_
            refine WL.q (oq_assign rfl) rfl rfl rfl ?_
            refine WL.nil (WE.block_normal (WE.then_normal (WC.sub (fr' := [(0, _), (1, _), (6, _), (14, _), (15, _), (16, _), (24, _)]) ?_ ⟨rfl, rfl, rfl, rfl, rfl, rfl, rfl, trivial⟩)))
            refine WC.region ?_
            refine WL.q (oq_add rfl rfl (by rw [i64_lo, i64_hi]; (first | omega | (simp only [List.length_cons, List.length_nil, List.length_append, List.length_drop, List.length_take]; omega)))) rfl rfl rfl ?_
            refine WL.q (oq_move rfl) rfl rfl rfl ?_
            refine WL.nil ?_
            refine WE.again (k + 1) ?_ ?_ ⟨rfl, rfl, rfl, rfl, rfl, rfl, rfl, trivial⟩ (List.Perm.refl _)
            · try dsimp only   -- again 1
              omega
            · (try dsimp only); omega
        ·
          try simp only [Z1, Z2, Z3, Z4, Z5, Z6, Z7, Z8, Z9, Z0] at q7
          refine WC.exit (WE.then_exit (WE.then_exit (WE.block_same (WE.block_normal (WE.then_normal (WC.sub (fr' := [(0, _), (1, _), (6, _), (14, _), (15, _), (16, _)]) ?_ ⟨rfl, rfl, rfl, rfl, rfl, rfl, trivial⟩))))))
          obtain rfl : k = 8 := by omega
          rw [show crcBits 8 (crcRaw (~~~ crc acc) (l.take i) ^^^ BitVec.ofNat 32 l[i].toNat) = crcRaw (~~~ crc acc) (l.take (i + 1)) from (crcRaw_step _ l i _).symm]
          refine WC.region ?_
          refine WL.q (oq_add rfl rfl (by rw [i64_lo, i64_hi]; (first | omega | (simp only [List.length_cons, List.length_nil, List.length_append, List.length_drop, List.length_take]; omega)))) rfl rfl rfl ?_
          refine WL.q (oq_move rfl) rfl rfl rfl ?_
          refine WL.nil ?_
          refine WE.again (i + 1) ?_ ?_ ⟨rfl, rfl, rfl, rfl, rfl, rfl, trivial⟩ (List.Perm.refl _)
          · try dsimp only   -- again 0
            omega
          · (try dsimp only); omega
    ·
      try simp only [Z1, Z2, Z3, Z4, Z5, Z6, Z7, Z8, Z9, Z0] at q3
      refine WC.exit (WE.then_exit (WE.then_exit (WE.block_same (WE.then_normal (WC.sub (fr' := [(0, _), (1, _), (6, _)]) ?_ ⟨rfl, rfl, rfl, trivial⟩)))))
      refine WC.seq ?_
      obtain rfl : i = l.length := by omega
      rw [List.take_length]
      refine WC.region ?_
      refine WL.q (oq_move rfl) rfl rfl rfl ?_
      refine WL.q (oq_move rfl) rfl rfl rfl ?_
      refine WL.q (oq_c32 _ rfl) rfl rfl rfl ?_
      refine WL.q (oq_nilCheck rfl) rfl rfl rfl ?_
      refine WL.q (oq_fieldAddr fld66_0 rfl) rfl rfl rfl ?_
      refine WL.store ty54 rfl rfl rfl (by exact Nat.zero_lt_one) (by simp) rfl ?_
      refine WL.nil (WE.then_normal (WC.sub (fr' := [(1, _)]) ?_ ⟨rfl, trivial⟩))
      refine WC.seq (WC.region ?_)
      refine WL.q (oq_move rfl) rfl rfl rfl ?_
      refine WL.q (oq_len_rd hr Tryd.underlying23 rfl) rfl rfl rfl ?_
      refine WL.q (oq_assign rfl) rfl rfl rfl ?_
      refine WL.q (oq_assign rfl) rfl rfl rfl ?_
      refine WL.nil (WE.then_normal (WC.sub (fr' := [(4, _), (5, _)]) ?_ ⟨rfl, rfl, trivial⟩))
      refine WC.ret ?_
      refine WE.endW2 (.inl rfl) (res2 Tryd.results63 rfl rfl) ?_
      -- end 0
      exact ⟨rfl, by rw [crc_append]; rfl⟩

/-- (*given.example/pub-tinwright/pub/smithy/eventstream.zzCRC).Sum32 -/
theorem sum32 (hb : Nat) (c : BitVec 32) : FnR Tryd.prog 27 [Pt hb 0] [(hb, .cells #[U32 c] 66 (0, 0))] (U32 c) := by
  refine FnR.enter (n := 7) Tryd.func27 rfl rfl fun w0 => ?_
  refine WC.sub (fr' := [(0, _)]) ?_ ⟨rfl, trivial⟩
  refine WC.seq (WC.region ?_)
  refine WL.q (oq_assign rfl) rfl rfl rfl ?_
  refine WL.nil (WE.then_normal (WC.sub (fr' := [(0, _)]) ?_ ⟨rfl, trivial⟩))
  refine WC.seq (WC.region ?_)
  refine WL.q (oq_move rfl) rfl rfl rfl ?_
  refine WL.q (oq_nilCheck rfl) rfl rfl rfl ?_
  refine WL.q (oq_fieldAddr fld66_0 rfl) rfl rfl rfl ?_
  refine WL.q (oq_load flat54 rfl (.head _) (List.mem_singleton.2 rfl) rfl) rfl rfl rfl ?_
  refine WL.q (oq_assign rfl) rfl rfl rfl ?_
  refine WL.nil (WE.then_normal (WC.sub (fr' := [(2, _)]) ?_ ⟨rfl, trivial⟩))
  refine WC.ret ?_
  refine WE.endR (.inl rfl) (res1 Tryd.results27 rfl) ?_
  -- end 0
  rfl

end EC
end Go.Proofs.YtodlhaghdplclaaDoor
