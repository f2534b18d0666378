/- Walks of the searching of bytes, and of a host with its port. -/
import Derived.Test.YtbcmbmmnpnbakaaDoorHB
import Derived.Test.YtbcmbmmnpnbakaaDoorL0
import Derived.Test.YtbcmbmmnpnbakaaDoorVK
import Derived.Test.YtbcmbmmnpnbakaaDoorVB
namespace Go.Proofs.YtbcmbmmnpnbakaaDoor
open Go Go.RowKit V L0 HB
set_option linter.unusedSimpArgs false
set_option linter.unusedVariables false
set_option maxRecDepth 10000
namespace N0
theorem call22 : Callable Tryd.prog 22 := ⟨_, Tryd.func22, rfl, by kernel_rfl⟩
theorem call24 : Callable Tryd.prog 24 := ⟨_, Tryd.func24, rfl, by kernel_rfl⟩
theorem call27 : Callable Tryd.prog 27 := ⟨_, Tryd.func27, rfl, by kernel_rfl⟩
theorem call28 : Callable Tryd.prog 28 := ⟨_, Tryd.func28, rfl, by kernel_rfl⟩
theorem call29 : Callable Tryd.prog 29 := ⟨_, Tryd.func29, rfl, by kernel_rfl⟩
theorem call31 : Callable Tryd.prog 31 := ⟨_, Tryd.func31, rfl, by kernel_rfl⟩
theorem call37 : Callable Tryd.prog 37 := ⟨_, Tryd.func37, rfl, by kernel_rfl⟩
theorem flat9 : Flat Tryd.prog 9 := ⟨_, Tryd.underlying9, by simp⟩
theorem ty9 : Ty Tryd.prog 9 (S []) 1 16 := ty_of (by kernel_rfl)
theorem ty47 : Ty Tryd.prog 47 (.agg #[(S [])]) 1 16 := ty_of (by kernel_rfl)
theorem conc45 : Conc Tryd.prog 45 := ⟨_, Tryd.underlying45, by simp⟩
theorem str47 : Str Tryd.prog 47 #[(0, 1)] := ⟨_, Tryd.underlying47, fun w => by kernel_rfl⟩
theorem fld47_0 : Fld Tryd.prog 47 0 0 9 := fld_of Tryd.underlying47 rfl rfl rfl ty9 (by decide)

theorem by_c {s : List UInt8} {i : Nat} {c : UInt8} {x : Int} (h : x = byteAt s (i : Int)) (he : x = (c.toNat : Int)) : s.getD i 0 = c := by
  rw [h, byteAt_nat] at he
  exact UInt8.toNat_inj.1 (by omega)
theorem by_n {s : List UInt8} {i : Nat} {c : UInt8} {x : Int} (h : x = byteAt s (i : Int)) (he : ¬ x = (c.toNat : Int)) : ¬ s.getD i 0 = c := fun e => he (by rw [h, byteAt_nat, e])
theorem cut_all (s : List UInt8) : cut s 0 (s.length : Int) = s := by unfold cut; simp
theorem cut_tk (s : List UInt8) (i : Nat) : cut s 0 (i : Int) = s.take i := by unfold cut; simp
theorem cut_dr (s : List UInt8) (i : Nat) : cut s ((i : Int) + 1) (s.length : Int) = s.drop (i + 1) := by
  unfold cut
  rw [Int.toNat_natCast, List.take_length, show ((i : Int) + 1).toNat = i + 1 by omega]
theorem findI_mem {c : UInt8} {s : List UInt8} (h : 0 ≤ findI [c] s) : c ∈ s := by
  refine Classical.byContradiction fun hn => ?_
  have := find_mem.2 hn
  unfold findI at h; rw [this] at h; simp at h
theorem findI_no {c : UInt8} {s : List UInt8} (h : findI [c] s < 0) : c ∉ s := find_mem.1 (findI_neg _ _ h)
/-- cut at colons: a host with a port; or too many -/
def SHP (s : List UInt8) (v : Value) (N : Hp) : Prop :=
  (∃ h p, split [58] s = [h, p] ∧ v = .tuple #[S h, S p, .nilIface] ∧ N = [] ∧ h.length ≤ s.length ∧ p.length ≤ s.length) ∨
  (3 ≤ (split [58] s).length ∧ ∃ p why, v = .tuple #[S [], S [], .iface 45 (Pt p 0)] ∧ N = [(p, .cells #[S why] 47 (0, 0))] ∧ why.length ≤ 100)
/-- internal/stringslite.IndexByte -/
theorem ibyte (s : List UInt8) (c : Int) (k : UInt8) (hk : c = (k.toNat : Int)) : Fn0 Tryd.prog 31 [S s, .int .u8 c] (I (findI [k] s)) := by
  refine Fn0.enter (n := 8) Tryd.func31 rfl rfl fun w0 => ?_
  refine WC.sub (fr' := [(0, _), (1, _)]) ?_ ⟨rfl, rfl, trivial⟩
  refine WC.seq ?_
  refine WC.region ?_
  refine WL.q (oq_assign rfl) rfl rfl rfl ?_
  refine WL.nil ?_
  refine WE.then_normal ?_
  refine WC.sub (fr' := [(0, _), (1, _)]) ?_ ⟨rfl, rfl, trivial⟩
  refine WC.seq ?_
  refine WC.region ?_
  refine WL.q (oq_move rfl) rfl rfl rfl ?_
  refine WL.q (oq_move rfl) rfl rfl rfl ?_
  refine WL.q (oq_extIB Tryd.func39 (by kernel_rfl) (by kernel_rfl) (by kernel_rfl) (by kernel_rfl) rfl rfl) rfl rfl rfl ?_
  refine WL.q (oq_assign rfl) rfl rfl rfl ?_
  refine WL.nil ?_
  refine WE.then_normal ?_
  refine WC.sub (fr' := [(4, _)]) ?_ ⟨rfl, trivial⟩
  refine WC.ret ?_
  refine WE.end0 (.inl rfl) (res1 Tryd.results31 rfl) ?_
  -- end 0
  rw [hk, ← ib_find]; congr 2; simp

/-- strings.IndexByte -/
theorem sbyte (s : List UInt8) (c : Int) (k : UInt8) (hk : c = (k.toNat : Int)) : Fn0 Tryd.prog 22 [S s, .int .u8 c] (I (findI [k] s)) := by
  refine Fn0.enter (n := 8) Tryd.func22 rfl rfl fun w0 => ?_
  refine WC.sub (fr' := [(0, _), (1, _)]) ?_ ⟨rfl, rfl, trivial⟩
  refine WC.seq ?_
  refine WC.region ?_
  refine WL.q (oq_assign rfl) rfl rfl rfl ?_
  refine WL.nil ?_
  refine WE.then_normal ?_
  refine WC.sub (fr' := [(0, _), (1, _)]) ?_ ⟨rfl, rfl, trivial⟩
  refine WC.seq ?_
  refine WC.region ?_
  refine WL.q (oq_move rfl) rfl rfl rfl ?_
  refine WL.q (oq_move rfl) rfl rfl rfl ?_
  refine WL.qc (oq_call (ibyte s c k hk) call31 rfl) rfl rfl rfl ?_
  refine WL.q (oq_assign rfl) rfl rfl rfl ?_
  refine WL.nil ?_
  refine WE.then_normal ?_
  refine WC.sub (fr' := [(4, _)]) ?_ ⟨rfl, trivial⟩
  refine WC.ret ?_
  refine WE.end0 (.inl rfl) (res1 Tryd.results22 rfl) ?_
  -- end 0
  rfl

/-- internal/bytealg.LastIndexByteString -/
theorem lbyte (s : List UInt8) (c : Int) (k : UInt8) (hk : c = (k.toNat : Int)) (hs : s.length ≤ 1000000) : Fn0 Tryd.prog 37 [S s, .int .u8 c] (I (lidx k s s.length)) := by
  refine Fn0.enter (n := 19) Tryd.func37 rfl rfl fun w0 => ?_
  refine WC.sub (fr' := [(0, _), (1, _)]) ?_ ⟨rfl, rfl, trivial⟩
  refine WC.seq ?_
  refine WC.region ?_
  refine WL.q (oq_assign rfl) rfl rfl rfl ?_
  refine WL.nil ?_
  refine WE.then_normal ?_
  refine WC.sub (fr' := [(0, _), (1, _)]) ?_ ⟨rfl, rfl, trivial⟩
  refine WC.seq ?_
  refine WC.seq ?_
  refine WC.region ?_
  refine WL.q (oq_move rfl) rfl rfl rfl ?_
  refine WL.q (oq_len_s Tryd.underlying9 rfl) rfl rfl rfl ?_
  refine WL.q (oq_sub rfl rfl (by rw [i64_lo, i64_hi]; (first | omega | (simp only [List.length_cons, List.length_nil, List.length_append, List.length_drop, List.length_take]; omega)))) rfl rfl rfl ?_
  refine WL.q (oq_assign rfl) rfl rfl rfl ?_
  refine WL.nil ?_
  refine WE.then_normal ?_
  refine WC.sub (fr' := [(0, _), (1, _), (5, _)]) ?_ ⟨rfl, rfl, rfl, trivial⟩
  refine WC.block ?_
  refine WC.loop (ι := Nat) (fun (j : Nat) => [(0, S s), (1, .int .u8 c), (5, I ((j : Int) - 1))]) (fun (j : Nat) => []) (fun (j : Nat) => j ≤ s.length ∧ lidx k s s.length = lidx k s j) (fun (j : Nat) => j) (s.length) ?_ ⟨rfl, rfl, rfl, trivial⟩ (List.Perm.refl _) ?_
  · try dsimp only
    exact ⟨by omega, rfl⟩
  · rintro j hp
    try dsimp only at hp
    obtain ⟨hj, hl⟩ := hp
    show WC _ _ _ _ _ _ ([(0, S s), (1, .int .u8 c), (5, I ((j : Int) - 1))]) ([])
    refine WC.seq ?_
    refine WC.seq ?_
    refine WC.region ?_
    refine WL.q (oq_move rfl) rfl rfl rfl ?_
    refine WL.q (oq_geq rfl rfl) rfl rfl rfl ?_
    refine WL.nil ?_
    refine WE.then_normal ?_
    refine WC.sub (fr' := [(0, _), (1, _), (5, _), (10, _)]) ?_ ⟨rfl, rfl, rfl, rfl, trivial⟩
    refine WC.cond rfl (fun q2 => ?_) (fun q2 => ?_)
    ·
      try simp only [Bool.not_eq_eq_eq_not, Bool.not_true, Bool.not_false, decide_eq_true_eq, decide_eq_false_iff_not, Int.not_lt, Int.not_le, ne_eq, Decidable.not_not, ← List.length_eq_zero_iff] at q2
      refine WC.skip ?_
      refine WE.then_normal ?_
      refine WC.sub (fr' := [(0, _), (1, _), (5, _)]) ?_ ⟨rfl, rfl, rfl, trivial⟩
      refine WC.seq ?_
      refine WC.block ?_
      refine WC.seq ?_
      refine WC.region ?_
      refine WL.q (oq_move rfl) rfl rfl rfl ?_
      refine WL.q (oq_move rfl) rfl rfl rfl ?_
      refine WL.index_s Tryd.underlying9 rfl rfl (by (first | omega | (simp only [List.length_cons, List.length_nil, List.length_append, List.length_drop, List.length_take]; omega))) rfl rfl fun c4_2 hc4_2 hc4_2l hc4_2u => ?_
      refine WL.q (oq_move rfl) rfl rfl rfl ?_
      refine WL.q (oq_eql rfl rfl) rfl rfl rfl ?_
      refine WL.nil ?_
      refine WE.then_normal ?_
      refine WC.sub (fr' := [(0, _), (1, _), (5, _), (17, _)]) ?_ ⟨rfl, rfl, rfl, rfl, trivial⟩
      refine WC.cond rfl (fun q4 => ?_) (fun q4 => ?_)
      ·
        try simp only [Bool.not_eq_eq_eq_not, Bool.not_true, Bool.not_false, decide_eq_true_eq, decide_eq_false_iff_not, Int.not_lt, Int.not_le, ne_eq, Decidable.not_not, ← List.length_eq_zero_iff] at q4
        refine WC.seq ?_
        refine WC.region ?_
        refine WL.q (oq_move rfl) rfl rfl rfl ?_
        refine WL.q (oq_assign rfl) rfl rfl rfl ?_
        refine WL.nil ?_
        refine WE.then_normal ?_
        refine WC.sub (fr' := [(4, _)]) ?_ ⟨rfl, trivial⟩
        refine WC.ret ?_
        refine WE.block_ret ?_
        refine WE.then_ret ?_
        refine WE.then_ret ?_
        refine WE.block_ret ?_
        refine WE.then_ret ?_
        refine WE.end0 (.inl rfl) (res1 Tryd.results37 rfl) ?_
        -- end 0
        obtain ⟨m, rfl⟩ : ∃ m, j = m + 1 := ⟨j - 1, by omega⟩
        rw [show (((m + 1 : Nat) : Int) - 1) = (m : Int) by omega] at hc4_2 ⊢
        rw [hl]; congr 1; exact (if_pos (by_c hc4_2 (by rw [q4, hk]))).symm
      ·
        try simp only [Bool.not_eq_eq_eq_not, Bool.not_true, Bool.not_false, decide_eq_true_eq, decide_eq_false_iff_not, Int.not_lt, Int.not_le, ne_eq, Decidable.not_not, ← List.length_eq_zero_iff] at q4
        refine WC.skip ?_
        refine WE.block_normal ?_
        refine WE.then_normal ?_
        refine WC.sub (fr' := [(0, _), (1, _), (5, _)]) ?_ ⟨rfl, rfl, rfl, trivial⟩
        refine WC.region ?_
        refine WL.q (oq_move rfl) rfl rfl rfl ?_
        refine WL.q (oq_sub rfl rfl (by rw [i64_lo, i64_hi]; (first | omega | (simp only [List.length_cons, List.length_nil, List.length_append, List.length_drop, List.length_take]; omega)))) rfl rfl rfl ?_
        refine WL.q (oq_assign rfl) rfl rfl rfl ?_
        refine WL.nil ?_
        obtain ⟨m, rfl⟩ : ∃ m, j = m + 1 := ⟨j - 1, by omega⟩
        rw [show (((m + 1 : Nat) : Int) - 1) = (m : Int) by omega] at hc4_2
        have hne := by_n hc4_2 (fun e => q4 (by rw [e, hk]))
        refine WE.again m ?_ ?_ ⟨rfl, rfl, (gti rfl (by omega)), trivial⟩ (List.Perm.refl _)
        · try dsimp only   -- again 0
          exact ⟨by omega, by rw [hl]; exact if_neg hne⟩
        · (try dsimp only); omega
    ·
      try simp only [Bool.not_eq_eq_eq_not, Bool.not_true, Bool.not_false, decide_eq_true_eq, decide_eq_false_iff_not, Int.not_lt, Int.not_le, ne_eq, Decidable.not_not, ← List.length_eq_zero_iff] at q2
      refine WC.exit ?_
      refine WE.then_exit ?_
      refine WE.then_exit ?_
      refine WE.block_same ?_
      refine WE.then_normal ?_
      refine WC.sub (fr' := []) ?_ trivial
      refine WC.seq ?_
      refine WC.region ?_
      refine WL.q (oq_assign rfl) rfl rfl rfl ?_
      refine WL.nil ?_
      refine WE.then_normal ?_
      refine WC.sub (fr' := [(4, _)]) ?_ ⟨rfl, trivial⟩
      refine WC.ret ?_
      refine WE.end0 (.inl rfl) (res1 Tryd.results37 rfl) ?_
      -- end 1
      rw [show j = 0 by omega] at hl
      rw [hl]; rfl

/-- strings.LastIndexByte -/
theorem slbyte (s : List UInt8) (c : Int) (k : UInt8) (hk : c = (k.toNat : Int)) (hs : s.length ≤ 1000000) : Fn0 Tryd.prog 29 [S s, .int .u8 c] (I (lidx k s s.length)) := by
  refine Fn0.enter (n := 8) Tryd.func29 rfl rfl fun w0 => ?_
  refine WC.sub (fr' := [(0, _), (1, _)]) ?_ ⟨rfl, rfl, trivial⟩
  refine WC.seq ?_
  refine WC.region ?_
  refine WL.q (oq_assign rfl) rfl rfl rfl ?_
  refine WL.nil ?_
  refine WE.then_normal ?_
  refine WC.sub (fr' := [(0, _), (1, _)]) ?_ ⟨rfl, rfl, trivial⟩
  refine WC.seq ?_
  refine WC.region ?_
  refine WL.q (oq_move rfl) rfl rfl rfl ?_
  refine WL.q (oq_move rfl) rfl rfl rfl ?_
  refine WL.qc (oq_call (lbyte s c k hk hs) call37 rfl) rfl rfl rfl ?_
  refine WL.q (oq_assign rfl) rfl rfl rfl ?_
  refine WL.nil ?_
  refine WE.then_normal ?_
  refine WC.sub (fr' := [(4, _)]) ?_ ⟨rfl, trivial⟩
  refine WC.ret ?_
  refine WE.end0 (.inl rfl) (res1 Tryd.results29 rfl) ?_
  -- end 0
  rfl

/-- given.example/pub-tinwright/pub/smithy/transport/http.zzIndex -/
theorem hIndex (s sub : List UInt8) (hs : s.length ≤ 4000000000) (hb : sub.length ≤ 4000000000) : Fn0 Tryd.prog 27 [S s, S sub] (I (findI sub s)) := by
  refine Fn0.enter (n := 25) Tryd.func27 rfl rfl fun w0 => ?_
  refine WC.sub (fr' := [(0, _), (1, _)]) ?_ ⟨rfl, rfl, trivial⟩
  refine WC.seq ?_
  refine WC.region ?_
  refine WL.q (oq_assign rfl) rfl rfl rfl ?_
  refine WL.nil ?_
  refine WE.then_normal ?_
  refine WC.sub (fr' := [(0, _), (1, _)]) ?_ ⟨rfl, rfl, trivial⟩
  refine WC.seq ?_
  refine WC.seq ?_
  refine WC.region ?_
  refine WL.q (oq_assign rfl) rfl rfl rfl ?_
  refine WL.nil ?_
  refine WE.then_normal ?_
  refine WC.sub (fr' := [(0, _), (1, _), (5, _)]) ?_ ⟨rfl, rfl, rfl, trivial⟩
  refine WC.block ?_
  refine WC.loop (ι := Nat) (fun (k : Nat) => [(0, S s), (1, S sub), (5, I k)]) (fun (k : Nat) => []) (fun (k : Nat) => k ≤ s.length ∧ find sub s = (find sub (s.drop k)).map (· + k)) (fun (k : Nat) => s.length + 1 - k) (0) ?_ ⟨rfl, rfl, rfl, trivial⟩ (List.Perm.refl _) ?_
  · try dsimp only
    exact ⟨by omega, by simp⟩
  · rintro k hp
    try dsimp only at hp
    obtain ⟨hk, hf⟩ := hp
    show WC _ _ _ _ _ _ ([(0, S s), (1, S sub), (5, I k)]) ([])
    refine WC.seq ?_
    refine WC.seq ?_
    refine WC.region ?_
    refine WL.q (oq_move rfl) rfl rfl rfl ?_
    refine WL.q (oq_move rfl) rfl rfl rfl ?_
    refine WL.q (oq_len_s Tryd.underlying9 rfl) rfl rfl rfl ?_
    refine WL.q (oq_add rfl rfl (by rw [i64_lo, i64_hi]; (first | omega | (simp only [List.length_cons, List.length_nil, List.length_append, List.length_drop, List.length_take]; omega)))) rfl rfl rfl ?_
    refine WL.q (oq_move rfl) rfl rfl rfl ?_
    refine WL.q (oq_len_s Tryd.underlying9 rfl) rfl rfl rfl ?_
    refine WL.q (oq_leq rfl rfl) rfl rfl rfl ?_
    refine WL.nil ?_
    refine WE.then_normal ?_
    refine WC.sub (fr' := [(0, _), (1, _), (5, _), (12, _)]) ?_ ⟨rfl, rfl, rfl, rfl, trivial⟩
    refine WC.cond rfl (fun q2 => ?_) (fun q2 => ?_)
    ·
      try simp only [Bool.not_eq_eq_eq_not, Bool.not_true, Bool.not_false, decide_eq_true_eq, decide_eq_false_iff_not, Int.not_lt, Int.not_le, ne_eq, Decidable.not_not, ← List.length_eq_zero_iff] at q2
      refine WC.skip ?_
      refine WE.then_normal ?_
      refine WC.sub (fr' := [(0, _), (1, _), (5, _)]) ?_ ⟨rfl, rfl, rfl, trivial⟩
      refine WC.seq ?_
      refine WC.block ?_
      refine WC.seq ?_
      refine WC.region ?_
      refine WL.q (oq_move rfl) rfl rfl rfl ?_
      refine WL.q (oq_move rfl) rfl rfl rfl ?_
      refine WL.q (oq_move rfl) rfl rfl rfl ?_
      refine WL.q (oq_move rfl) rfl rfl rfl ?_
      refine WL.q (oq_len_s Tryd.underlying9 rfl) rfl rfl rfl ?_
      refine WL.q (oq_add rfl rfl (by rw [i64_lo, i64_hi]; (first | omega | (simp only [List.length_cons, List.length_nil, List.length_append, List.length_drop, List.length_take]; omega)))) rfl rfl rfl ?_
      refine WL.q (oq_slice_s2 Tryd.underlying9 rfl rfl rfl (by (first | omega | (simp only [List.length_cons, List.length_nil, List.length_append, List.length_drop, List.length_take]; omega)))) rfl rfl rfl ?_
      refine WL.q (oq_move rfl) rfl rfl rfl ?_
      refine WL.q (oq_seql rfl rfl) rfl rfl rfl ?_
      refine WL.nil ?_
      refine WE.then_normal ?_
      refine WC.sub (fr' := [(0, _), (1, _), (5, _), (23, _)]) ?_ ⟨rfl, rfl, rfl, rfl, trivial⟩
      refine WC.cond rfl (fun q4 => ?_) (fun q4 => ?_)
      ·
        try simp only [Bool.not_eq_eq_eq_not, Bool.not_true, Bool.not_false, decide_eq_true_eq, decide_eq_false_iff_not, Int.not_lt, Int.not_le, ne_eq, Decidable.not_not, ← List.length_eq_zero_iff] at q4
        refine WC.seq ?_
        refine WC.region ?_
        refine WL.q (oq_move rfl) rfl rfl rfl ?_
        refine WL.q (oq_assign rfl) rfl rfl rfl ?_
        refine WL.nil ?_
        refine WE.then_normal ?_
        refine WC.sub (fr' := [(4, _)]) ?_ ⟨rfl, trivial⟩
        refine WC.ret ?_
        refine WE.block_ret ?_
        refine WE.then_ret ?_
        refine WE.then_ret ?_
        refine WE.block_ret ?_
        refine WE.then_ret ?_
        refine WE.end0 (.inl rfl) (res1 Tryd.results27 rfl) ?_
        -- end 0
        rw [cut_nat] at q4; rw [findI, hf, find_here _ _ q4]; simp
      ·
        try simp only [Bool.not_eq_eq_eq_not, Bool.not_true, Bool.not_false, decide_eq_true_eq, decide_eq_false_iff_not, Int.not_lt, Int.not_le, ne_eq, Decidable.not_not, ← List.length_eq_zero_iff] at q4
        refine WC.skip ?_
        refine WE.block_normal ?_
        refine WE.then_normal ?_
        refine WC.sub (fr' := [(0, _), (1, _), (5, _)]) ?_ ⟨rfl, rfl, rfl, trivial⟩
        refine WC.region ?_
        refine WL.q (oq_move rfl) rfl rfl rfl ?_
        refine WL.q (oq_add rfl rfl (by rw [i64_lo, i64_hi]; (first | omega | (simp only [List.length_cons, List.length_nil, List.length_append, List.length_drop, List.length_take]; omega)))) rfl rfl rfl ?_
        refine WL.q (oq_assign rfl) rfl rfl rfl ?_
        refine WL.nil ?_
        rw [cut_nat] at q4
        have hlt : k < s.length := by
          rcases Nat.lt_or_ge k s.length with h | h
          · exact h
          · exfalso; apply q4
            have : sub = [] := List.eq_nil_of_length_eq_zero (by omega)
            rw [this]; simp
        refine WE.again (k + 1) ?_ ?_ ⟨rfl, rfl, rfl, trivial⟩ (List.Perm.refl _)
        · try dsimp only   -- again 0
          exact ⟨by omega, by rw [hf, find_step sub s k hlt, if_neg q4, Option.map_map]; congr 1; funext x; simp; omega⟩
        · (try dsimp only); omega
    ·
      try simp only [Bool.not_eq_eq_eq_not, Bool.not_true, Bool.not_false, decide_eq_true_eq, decide_eq_false_iff_not, Int.not_lt, Int.not_le, ne_eq, Decidable.not_not, ← List.length_eq_zero_iff] at q2
      refine WC.exit ?_
      refine WE.then_exit ?_
      refine WE.then_exit ?_
      refine WE.block_same ?_
      refine WE.then_normal ?_
      refine WC.sub (fr' := []) ?_ trivial
      refine WC.seq ?_
      refine WC.region ?_
      refine WL.q (oq_assign rfl) rfl rfl rfl ?_
      refine WL.nil ?_
      refine WE.then_normal ?_
      refine WC.sub (fr' := [(4, _)]) ?_ ⟨rfl, trivial⟩
      refine WC.ret ?_
      refine WE.end0 (.inl rfl) (res1 Tryd.results27 rfl) ?_
      -- end 1
      rw [findI, hf, find_short sub (s.drop k) (by simp; omega)]; rfl

/-- given.example/pub-tinwright/pub/smithy/transport/http.zzContains -/
theorem hContains (s sub : List UInt8) (hs : s.length ≤ 4000000000) (hb : sub.length ≤ 4000000000) : Fn0 Tryd.prog 19 [S s, S sub] (.bool (decide (0 ≤ findI sub s))) := by
  refine Fn0.enter (n := 9) Tryd.func19 rfl rfl fun w0 => ?_
  refine WC.sub (fr' := [(0, _), (1, _)]) ?_ ⟨rfl, rfl, trivial⟩
  refine WC.seq ?_
  refine WC.region ?_
  refine WL.q (oq_assign rfl) rfl rfl rfl ?_
  refine WL.nil ?_
  refine WE.then_normal ?_
  refine WC.sub (fr' := [(0, _), (1, _)]) ?_ ⟨rfl, rfl, trivial⟩
  refine WC.seq ?_
  refine WC.region ?_
  refine WL.q (oq_move rfl) rfl rfl rfl ?_
  refine WL.q (oq_move rfl) rfl rfl rfl ?_
  refine WL.qc (oq_call (hIndex s sub hs hb) call27 rfl) rfl rfl rfl ?_
  refine WL.q (oq_geq rfl rfl) rfl rfl rfl ?_
  refine WL.q (oq_assign rfl) rfl rfl rfl ?_
  refine WL.nil ?_
  refine WE.then_normal ?_
  refine WC.sub (fr' := [(4, _)]) ?_ ⟨rfl, trivial⟩
  refine WC.ret ?_
  refine WE.end0 (.inl rfl) (res1 Tryd.results19 rfl) ?_
  -- end 0
  rfl

/-- errors.New -/
theorem errNew (m : List UInt8) : FnA Tryd.prog 24 [S m] [] (fun v N => ∃ p, v = .iface 45 (Pt p 0) ∧ N = [(p, .cells #[S m] 47 (0, 0))]) := by
  refine FnA.enter0 (n := 7) Tryd.func24 rfl rfl fun w0 => ?_
  refine WC.sub (fr' := [(0, _)]) ?_ ⟨rfl, trivial⟩
  refine WC.seq ?_
  refine WC.region ?_
  refine WL.q (oq_assign rfl) rfl rfl rfl ?_
  refine WL.nil ?_
  refine WE.then_normal ?_
  refine WC.sub (fr' := [(0, _)]) ?_ ⟨rfl, trivial⟩
  refine WC.seq ?_
  refine WC.region ?_
  refine WL.q (oq_move rfl) rfl rfl rfl ?_
  refine WL.q (oq_build #[_] str47 ty47 rfl rfl) rfl rfl rfl ?_
  refine WL.box rfl rfl rfl fun p hp => ?_
  refine WL.q (oq_makeI conc45 rfl) rfl rfl rfl ?_
  refine WL.q (oq_assign rfl) rfl rfl rfl ?_
  refine WL.nil ?_
  refine WE.then_normal ?_
  refine WC.sub (fr' := [(2, _)]) ?_ ⟨rfl, trivial⟩
  refine WC.ret ?_
  refine WE.endA0 (.inl rfl) (res1 Tryd.results24 rfl) ?_ (fresh1 hp)
  -- end 0
  exact ⟨p, rfl, rfl⟩

/-- (*errors.errorString).Error -/
theorem errText (base p : Nat) (m : List UInt8) : FnW Tryd.prog 74 [Pt p 0] base [[(p, .cells #[S m] 47 (0, 0))]] (fun v Hs => v = S m ∧ Hs = [[(p, .cells #[S m] 47 (0, 0))]]) := by
  refine FnW.enter (n := 7) Tryd.func74 rfl rfl fun w0 R0 hbase => ?_
  subst hbase
  show WC _ _ _ _ _ _ _ ([[(p, .cells #[S m] 47 (0, 0))], R0])
  refine WC.sub (fr' := [(0, _)]) ?_ ⟨rfl, trivial⟩
  refine WC.seq ?_
  refine WC.region ?_
  refine WL.q (oq_assign rfl) rfl rfl rfl ?_
  refine WL.nil ?_
  refine WE.then_normal ?_
  refine WC.sub (fr' := [(0, _)]) ?_ ⟨rfl, trivial⟩
  refine WC.seq ?_
  refine WC.region ?_
  refine WL.q (oq_move rfl) rfl rfl rfl ?_
  refine WL.q (oq_nilCheck rfl) rfl rfl rfl ?_
  refine WL.q (oq_fieldAddr fld47_0 rfl) rfl rfl rfl ?_
  refine WL.q (oq_load flat9 rfl (.head _) (List.mem_singleton.2 rfl) rfl) rfl rfl rfl ?_
  refine WL.q (oq_assign rfl) rfl rfl rfl ?_
  refine WL.nil ?_
  refine WE.then_normal ?_
  refine WC.sub (fr' := [(2, _)]) ?_ ⟨rfl, trivial⟩
  refine WC.ret ?_
  refine WE.endW1 (.inl rfl) (res1 Tryd.results74 rfl) ?_
  -- end 0
  exact ⟨rfl, rfl⟩

/-- given.example/pub-tinwright/pub/smithy/transport/http.zzSplitHostPort$1 -/
theorem shpErr (a m : List UInt8) : FnA Tryd.prog 28 [S a, S m] [] (fun v N => ∃ p, v = .tuple #[S [], S [], .iface 45 (Pt p 0)] ∧ N = [(p, .cells #[S m] 47 (0, 0))]) := by
  refine FnA.enter0 (n := 9) Tryd.func28 rfl rfl fun w0 => ?_
  refine WC.sub (fr' := [(1, _)]) ?_ ⟨rfl, trivial⟩
  refine WC.seq ?_
  refine WC.region ?_
  refine WL.q (oq_assign rfl) rfl rfl rfl ?_
  refine WL.q (oq_assign rfl) rfl rfl rfl ?_
  refine WL.q (oq_assign rfl) rfl rfl rfl ?_
  refine WL.nil ?_
  refine WE.then_normal ?_
  refine WC.sub (fr' := [(1, _)]) ?_ ⟨rfl, trivial⟩
  refine WC.seq ?_
  refine WC.region ?_
  refine WL.q (oq_move rfl) rfl rfl rfl ?_
  refine WL.callA0 (errNew m) call24 rfl rfl rfl fun v1_1 N1_1 hR1_1 hN1_1 => ?_
  obtain ⟨p, rfl, rfl⟩ := hR1_1
  refine WL.q (oq_assign rfl) rfl rfl rfl ?_
  refine WL.q (oq_assign rfl) rfl rfl rfl ?_
  refine WL.q (oq_assign rfl) rfl rfl rfl ?_
  refine WL.nil ?_
  refine WE.then_normal ?_
  refine WC.sub (fr' := [(4, _), (5, _), (6, _)]) ?_ ⟨rfl, rfl, rfl, trivial⟩
  refine WC.ret ?_
  refine WE.endA0 (.inl rfl) (res3 Tryd.results28 rfl rfl rfl) ?_ (hN1_1)
  -- end 0
  exact ⟨p, rfl, rfl⟩

/-- given.example/pub-tinwright/pub/smithy/transport/http.zzSplitHostPort -/
theorem shp (s : List UInt8) (hs : s.length ≤ 100000) (hb1 : (91 : UInt8) ∉ s) (hb2 : (93 : UInt8) ∉ s) (hc : (58 : UInt8) ∈ s) : FnA Tryd.prog 20 [S s] [] (SHP s) := by
  refine FnA.enter0 (n := 110) Tryd.func20 rfl rfl fun w0 => ?_
  refine WC.sub (fr' := [(0, _)]) ?_ ⟨rfl, trivial⟩
  refine WC.seq ?_
  refine WC.region ?_
  refine WL.q (oq_assign rfl) rfl rfl rfl ?_
  refine WL.q (oq_assign rfl) rfl rfl rfl ?_
  refine WL.q (oq_assign rfl) rfl rfl rfl ?_
  refine WL.nil ?_
  refine WE.then_normal ?_
  refine WC.sub (fr' := [(0, _)]) ?_ ⟨rfl, trivial⟩
  refine WC.seq ?_
  refine WC.region ?_
  refine WL.q (oq_assign rfl) rfl rfl rfl ?_
  refine WL.nil ?_
  refine WE.then_normal ?_
  refine WC.sub (fr' := [(0, _), (5, _)]) ?_ ⟨rfl, rfl, trivial⟩
  refine WC.seq ?_
  refine WC.region ?_
  refine WL.q (oq_assign rfl) rfl rfl rfl ?_
  refine WL.q (oq_assign rfl) rfl rfl rfl ?_
  refine WL.nil ?_
  refine WE.then_normal ?_
  refine WC.sub (fr' := [(0, _), (5, _), (6, _), (7, _)]) ?_ ⟨rfl, rfl, rfl, rfl, trivial⟩
  refine WC.seq ?_
  refine WC.region ?_
  refine WL.q (oq_move rfl) rfl rfl rfl ?_
  refine WL.qc (oq_call (slbyte _ 58 58 (by decide) (by omega)) call29 rfl) rfl rfl rfl ?_
  refine WL.q (oq_assign rfl) rfl rfl rfl ?_
  refine WL.nil ?_
  refine WE.then_normal ?_
  refine WC.sub (fr' := [(0, _), (5, _), (6, _), (7, _), (8, _)]) ?_ ⟨rfl, rfl, rfl, rfl, rfl, trivial⟩
  refine WC.seq ?_
  refine WC.seq ?_
  refine WC.region ?_
  refine WL.q (oq_move rfl) rfl rfl rfl ?_
  refine WL.q (oq_lss rfl rfl) rfl rfl rfl ?_
  refine WL.nil ?_
  refine WE.then_normal ?_
  refine WC.sub (fr' := [(0, _), (5, _), (6, _), (7, _), (8, _), (13, _)]) ?_ ⟨rfl, rfl, rfl, rfl, rfl, rfl, trivial⟩
  refine WC.cond rfl (fun q4 => ?_) (fun q4 => ?_)
  ·
    try simp only [Bool.not_eq_eq_eq_not, Bool.not_true, Bool.not_false, decide_eq_true_eq, decide_eq_false_iff_not, Int.not_lt, Int.not_le, ne_eq, Decidable.not_not, ← List.length_eq_zero_iff] at q4
    refine WC.seq ?_
    exfalso; obtain ⟨i, hi, he⟩ := mem_getD hc; exact lidx_neg _ q4 i hi he
  ·
    try simp only [Bool.not_eq_eq_eq_not, Bool.not_true, Bool.not_false, decide_eq_true_eq, decide_eq_false_iff_not, Int.not_lt, Int.not_le, ne_eq, Decidable.not_not, ← List.length_eq_zero_iff] at q4
    refine WC.skip ?_
    refine WE.then_normal ?_
    refine WC.sub (fr' := [(0, _), (5, _), (6, _), (7, _), (8, _)]) ?_ ⟨rfl, rfl, rfl, rfl, rfl, trivial⟩
    refine WC.seq ?_
    refine WC.seq ?_
    obtain ⟨i, hi, hil, hic, hlast⟩ := lidx_pos _ q4
    rw [hi]
    obtain ⟨sl1, sl2⟩ := split_last hil hic hlast
    refine WC.region ?_
    refine WL.q (oq_move rfl) rfl rfl rfl ?_
    refine WL.index_s Tryd.underlying9 rfl rfl (by (first | omega | (simp only [List.length_cons, List.length_nil, List.length_append, List.length_drop, List.length_take]; omega))) rfl rfl fun c6_1 hc6_1 hc6_1l hc6_1u => ?_
    refine WL.q (oq_eql rfl rfl) rfl rfl rfl ?_
    refine WL.nil ?_
    refine WE.then_normal ?_
    refine WC.sub (fr' := [(0, _), (5, _), (6, _), (7, _), (8, _), (22, _)]) ?_ ⟨rfl, rfl, rfl, rfl, rfl, rfl, trivial⟩
    refine WC.cond rfl (fun q6 => ?_) (fun q6 => ?_)
    ·
      try simp only [Bool.not_eq_eq_eq_not, Bool.not_true, Bool.not_false, decide_eq_true_eq, decide_eq_false_iff_not, Int.not_lt, Int.not_le, ne_eq, Decidable.not_not, ← List.length_eq_zero_iff] at q6
      refine WC.seq ?_
      exfalso; exact hb1 (getD_mem (i := 0) (by omega) (by_c (i := 0) hc6_1 (by rw [q6]; rfl)))
    ·
      try simp only [Bool.not_eq_eq_eq_not, Bool.not_true, Bool.not_false, decide_eq_true_eq, decide_eq_false_iff_not, Int.not_lt, Int.not_le, ne_eq, Decidable.not_not, ← List.length_eq_zero_iff] at q6
      refine WC.seq ?_
      refine WC.region ?_
      refine WL.q (oq_move rfl) rfl rfl rfl ?_
      refine WL.q (oq_move rfl) rfl rfl rfl ?_
      refine WL.q (oq_slice_s0 Tryd.underlying9 rfl rfl (by (first | omega | (simp only [List.length_cons, List.length_nil, List.length_append, List.length_drop, List.length_take]; omega)))) rfl rfl rfl ?_
      refine WL.q (oq_assign rfl) rfl rfl rfl ?_
      refine WL.nil ?_
      refine WE.then_normal ?_
      refine WC.sub (fr' := [(0, _), (2, _), (5, _), (6, _), (7, _), (8, _)]) ?_ ⟨rfl, rfl, rfl, rfl, rfl, rfl, trivial⟩
      refine WC.seq ?_
      refine WC.region ?_
      refine WL.q (oq_move rfl) rfl rfl rfl ?_
      refine WL.qc (oq_call (sbyte (s.take i) 58 58 (by decide)) call22 rfl) rfl rfl rfl ?_
      refine WL.q (oq_geq rfl rfl) rfl rfl rfl ?_
      refine WL.nil ?_
      refine WE.then_normal ?_
      refine WC.sub (fr' := [(0, _), (2, _), (5, _), (6, _), (7, _), (8, _), (75, _)]) ?_ ⟨rfl, rfl, rfl, rfl, rfl, rfl, rfl, trivial⟩
      refine WC.cond rfl (fun q20 => ?_) (fun q20 => ?_)
      ·
        try simp only [Bool.not_eq_eq_eq_not, Bool.not_true, Bool.not_false, decide_eq_true_eq, decide_eq_false_iff_not, Int.not_lt, Int.not_le, ne_eq, Decidable.not_not, ← List.length_eq_zero_iff] at q20
        refine WC.seq ?_
        refine WC.region ?_
        refine WL.q (oq_move rfl) rfl rfl rfl ?_
        refine WL.q (oq_move rfl) rfl rfl rfl ?_
        refine WL.callAv0 (shpErr _ _) call28 rfl rfl rfl rfl fun v21_2 N21_2 hR21_2 hN21_2 => ?_
        obtain ⟨p, rfl, rfl⟩ := hR21_2
        refine WL.q (oq_extract rfl rfl) rfl rfl rfl ?_
        refine WL.q (oq_extract rfl rfl) rfl rfl rfl ?_
        refine WL.q (oq_extract rfl rfl) rfl rfl rfl ?_
        refine WL.q (oq_assign rfl) rfl rfl rfl ?_
        refine WL.q (oq_assign rfl) rfl rfl rfl ?_
        refine WL.q (oq_assign rfl) rfl rfl rfl ?_
        refine WL.nil ?_
        refine WE.then_normal ?_
        refine WC.sub (fr' := [(2, _), (3, _), (4, _)]) ?_ ⟨rfl, rfl, rfl, trivial⟩
        refine WC.ret ?_
        refine WE.then_ret ?_
        refine WE.endA0 (.inl rfl) (res3 Tryd.results20 rfl rfl rfl) ?_ (hN21_2)
        -- end 0
        have h := findI_mem q20
        exact .inr ⟨sl2 h, p, _, rfl, rfl, by decide⟩
      ·
        try simp only [Bool.not_eq_eq_eq_not, Bool.not_true, Bool.not_false, decide_eq_true_eq, decide_eq_false_iff_not, Int.not_lt, Int.not_le, ne_eq, Decidable.not_not, ← List.length_eq_zero_iff] at q20
        refine WC.skip ?_
        refine WE.then_normal ?_
        refine WC.sub (fr' := [(0, _), (2, _), (5, _), (6, _), (7, _), (8, _)]) ?_ ⟨rfl, rfl, rfl, rfl, rfl, rfl, trivial⟩
        refine WC.seq ?_
        refine WC.seq ?_
        refine WC.region ?_
        refine WL.q (oq_move rfl) rfl rfl rfl ?_
        refine WL.q (oq_move rfl) rfl rfl rfl ?_
        refine WL.q (oq_slice_s1 Tryd.underlying9 rfl rfl (by (first | omega | (simp only [List.length_cons, List.length_nil, List.length_append, List.length_drop, List.length_take]; omega)))) rfl rfl rfl ?_
        refine WL.qc (oq_call (sbyte (s.drop 0) 91 91 (by decide)) call22 rfl) rfl rfl rfl ?_
        refine WL.q (oq_geq rfl rfl) rfl rfl rfl ?_
        refine WL.nil ?_
        refine WE.then_normal ?_
        refine WC.sub (fr' := [(0, _), (2, _), (5, _), (7, _), (8, _), (86, _)]) ?_ ⟨rfl, rfl, rfl, rfl, rfl, rfl, trivial⟩
        refine WC.cond rfl (fun q22 => ?_) (fun q22 => ?_)
        ·
          try simp only [Bool.not_eq_eq_eq_not, Bool.not_true, Bool.not_false, decide_eq_true_eq, decide_eq_false_iff_not, Int.not_lt, Int.not_le, ne_eq, Decidable.not_not, ← List.length_eq_zero_iff] at q22
          refine WC.seq ?_
          exfalso; have h := findI_mem q22; rw [List.drop_zero] at h; exact hb1 h
        ·
          try simp only [Bool.not_eq_eq_eq_not, Bool.not_true, Bool.not_false, decide_eq_true_eq, decide_eq_false_iff_not, Int.not_lt, Int.not_le, ne_eq, Decidable.not_not, ← List.length_eq_zero_iff] at q22
          refine WC.skip ?_
          refine WE.then_normal ?_
          refine WC.sub (fr' := [(0, _), (2, _), (5, _), (7, _), (8, _)]) ?_ ⟨rfl, rfl, rfl, rfl, rfl, trivial⟩
          refine WC.seq ?_
          refine WC.seq ?_
          refine WC.region ?_
          refine WL.q (oq_move rfl) rfl rfl rfl ?_
          refine WL.q (oq_move rfl) rfl rfl rfl ?_
          refine WL.q (oq_slice_s1 Tryd.underlying9 rfl rfl (by (first | omega | (simp only [List.length_cons, List.length_nil, List.length_append, List.length_drop, List.length_take]; omega)))) rfl rfl rfl ?_
          refine WL.qc (oq_call (sbyte (s.drop 0) 93 93 (by decide)) call22 rfl) rfl rfl rfl ?_
          refine WL.q (oq_geq rfl rfl) rfl rfl rfl ?_
          refine WL.nil ?_
          refine WE.then_normal ?_
          refine WC.sub (fr' := [(0, _), (2, _), (5, _), (8, _), (97, _)]) ?_ ⟨rfl, rfl, rfl, rfl, rfl, trivial⟩
          refine WC.cond rfl (fun q24 => ?_) (fun q24 => ?_)
          ·
            try simp only [Bool.not_eq_eq_eq_not, Bool.not_true, Bool.not_false, decide_eq_true_eq, decide_eq_false_iff_not, Int.not_lt, Int.not_le, ne_eq, Decidable.not_not, ← List.length_eq_zero_iff] at q24
            refine WC.seq ?_
            exfalso; have h := findI_mem q24; rw [List.drop_zero] at h; exact hb2 h
          ·
            try simp only [Bool.not_eq_eq_eq_not, Bool.not_true, Bool.not_false, decide_eq_true_eq, decide_eq_false_iff_not, Int.not_lt, Int.not_le, ne_eq, Decidable.not_not, ← List.length_eq_zero_iff] at q24
            refine WC.skip ?_
            refine WE.then_normal ?_
            refine WC.sub (fr' := [(0, _), (2, _), (8, _)]) ?_ ⟨rfl, rfl, rfl, trivial⟩
            refine WC.seq ?_
            refine WC.region ?_
            refine WL.q (oq_move rfl) rfl rfl rfl ?_
            refine WL.q (oq_move rfl) rfl rfl rfl ?_
            refine WL.q (oq_add rfl rfl (by rw [i64_lo, i64_hi]; (first | omega | (simp only [List.length_cons, List.length_nil, List.length_append, List.length_drop, List.length_take]; omega)))) rfl rfl rfl ?_
            refine WL.q (oq_slice_s1 Tryd.underlying9 rfl rfl (by (first | omega | (simp only [List.length_cons, List.length_nil, List.length_append, List.length_drop, List.length_take]; omega)))) rfl rfl rfl ?_
            refine WL.q (oq_assign rfl) rfl rfl rfl ?_
            refine WL.nil ?_
            refine WE.then_normal ?_
            refine WC.sub (fr' := [(2, _), (3, _)]) ?_ ⟨rfl, rfl, trivial⟩
            refine WC.seq ?_
            refine WC.region ?_
            refine WL.q (oq_move rfl) rfl rfl rfl ?_
            refine WL.q (oq_move rfl) rfl rfl rfl ?_
            refine WL.q (oq_assign rfl) rfl rfl rfl ?_
            refine WL.q (oq_assign rfl) rfl rfl rfl ?_
            refine WL.q (oq_assign rfl) rfl rfl rfl ?_
            refine WL.nil ?_
            refine WE.then_normal ?_
            refine WC.sub (fr' := [(2, _), (3, _), (4, _)]) ?_ ⟨rfl, rfl, rfl, trivial⟩
            refine WC.ret ?_
            refine WE.add0 ?_
            refine WE.endA0 (.inl rfl) (res3 Tryd.results20 rfl rfl rfl) ?_ fresh0
            -- end 1
            have h := findI_no q20
            exact .inl ⟨_, _, sl1 h, by rw [show ((i : Int) + 1).toNat = i + 1 by omega]; rfl, rfl, by simp; omega, by simp⟩

end N0
end Go.Proofs.YtbcmbmmnpnbakaaDoor
