/- The law: what is no address of the web is refused. -/
import Derived.Test.YtefaegocllppkaaDoorN2
import Derived.Test.YtefaegocllppkaaDoorN0
import Derived.Lay
import Derived.Test.YtefaegocllppkaaDoorRows
import Derived.Lib.LaidTab
import Derived.LaidLaws
import Derived.LaidHandle
import Derived.MakeChecks
namespace Go.Proofs.YtefaegocllppkaaDoor
open Go Go.RowKit V L0 L1 L2 M0 M1 M2 M3 M4 M5 M6 M7 MQ M8 M9 MA MB MC
set_option linter.unusedSimpArgs false
set_option linter.unusedVariables false
set_option maxRecDepth 10000
namespace MD
theorem call5 : Callable Tryd.prog 5 := ⟨_, Tryd.func5, rfl, by kernel_rfl⟩
theorem call6 : Callable Tryd.prog 6 := ⟨_, Tryd.func6, rfl, by kernel_rfl⟩
theorem call7 : Callable Tryd.prog 7 := ⟨_, Tryd.func7, rfl, by kernel_rfl⟩
theorem flat9 : Flat Tryd.prog 9 := ⟨_, Tryd.underlying9, by simp⟩
theorem ty9 : Ty Tryd.prog 9 (S []) 1 16 := ty_of (by kernel_rfl)
theorem ty23 : Ty Tryd.prog 23 (.agg #[(S []), (S []), (S []), (S []), (.bool false)]) 5 72 := ty_of (by kernel_rfl)
theorem low_ext {s : List UInt8} {j : Nat} {x : Int} (h : ∀ k : Nat, k < j → 97 ≤ byteAt s k ∧ byteAt s k ≤ 122) (hx : x = byteAt s (j : Int)) (h2 : 97 ≤ x ∧ x ≤ 122) : ∀ k : Nat, k < j + 1 → 97 ≤ byteAt s k ∧ byteAt s k ≤ 122 := by
 intro k hk
 rcases Nat.lt_or_ge k j with h3 | h3
 ·exact h k h3
 ·rw [show k = j by omega, ← hx]; exact h2
def lowP (s : List UInt8) : Prop := ∀ k : Nat, k < s.length → 97 ≤ byteAt s k ∧ byteAt s k ≤ 122
theorem lows_ext {ls : List (List UInt8)} {i j : Nat} (h : ∀ m : Nat, m < i → lowP (ls.getD m [])) (h2 : ∀ k : Nat, k < j → 97 ≤ byteAt (ls.getD i []) k ∧ byteAt (ls.getD i []) k ≤ 122) (hj : (ls.getD i []).length ≤ j) : ∀ m : Nat, m < i + 1 → lowP (ls.getD m []) := by
 intro m hm
 rcases Nat.lt_or_ge m i with h3 | h3
 ·exact h m h3
 ·rw [show m = i by omega]; intro k hk; exact h2 k (by omega)
theorem ut_q (a b c q : List UInt8) : UT a b c [] ++ [63] ++ q = UT a b c (63 :: q) := by simp [UT]
theorem ut_sc (a b c sc : List UInt8) : sc ++ (UT a b c []).drop a.length = UT sc b c [] := by simp [UT]
set_option maxHeartbeats 4000000 in
theorem lawRefuse (G : Hp) (hG : Tb G) (s q sc : List UInt8) : FnR Tryd.prog 4 [S s, S q, S sc] G (.bool true) := by
 refine FnR.enter (n := 122) Tryd.func4 rfl rfl fun w0 => ?_
 refine WC.sub (fr' := [(0, _), (1, _), (2, _)]) ?_ ⟨rfl, rfl, rfl, trivial⟩
 refine WC.seq (WC.region ?_)
 refine WL.q (oq_assign rfl) rfl rfl rfl ?_
 refine WL.nil (WE.then_normal (WC.sub (fr' := [(0, _), (1, _), (2, _)]) ?_ ⟨rfl, rfl, rfl, trivial⟩))
 refine WC.cut (ι := Unit) (fun _ => [(0, S s), (1, S q), (2, S sc)]) (fun _ => [G]) (fun _ => (s.length : Int) ≤ 2147483647 ∧ (q.length : Int) ≤ 2147483647 ∧ (sc.length : Int) ≤ 2147483647) ?_ ?_
 ·
  refine WC.seq (WC.region ?_)
  refine WL.q (oq_move rfl) rfl rfl rfl ?_
  refine WL.q (oq_len_s Tryd.underlying9 rfl) rfl rfl rfl ?_
  refine WL.q (oq_gtr rfl rfl) rfl rfl rfl ?_
  refine WL.q (oq_move rfl) rfl rfl rfl ?_
  refine WL.split 20 rfl (fun s1_3 => ?_) (fun s1_3 => ?_)
  ·
   try simp only [Z1, Z2, Z3, Z4, Z5, Z6, Z7, Z8, Z9, Z0] at s1_3
   refine WL.skip rfl rfl rfl ?_
   refine WL.skip rfl rfl rfl ?_
   refine WL.skip rfl rfl rfl ?_
   refine WL.q (oq_pick_t rfl rfl) rfl rfl rfl ?_
   refine WL.q (oq_move rfl) rfl rfl rfl ?_
   refine WL.skip rfl rfl rfl ?_
   refine WL.skip rfl rfl rfl ?_
   refine WL.skip rfl rfl rfl ?_
   refine WL.q (oq_pick_t rfl rfl) rfl rfl rfl ?_
   refine WL.nil (WE.then_normal (WC.sub (fr' := [(0, _), (1, _), (2, _), (29, _)]) ?_ ⟨rfl, rfl, rfl, rfl, trivial⟩))
   refine WC.cond_t rfl ?_
   refine WC.seq (WC.region ?_)
   refine WL.q (oq_assign rfl) rfl rfl rfl ?_
   refine WL.nil (WE.then_normal (WC.sub (fr' := [(6, _)]) ?_ ⟨rfl, trivial⟩))
   refine WC.ret (WE.then_ret ?_)
   refine WE.endR (.inl rfl) (res1 Tryd.results4 rfl) ?_
   first | rfl | (exfalso; simp_all; done)
  ·
   try simp only [Z1, Z2, Z3, Z4, Z5, Z6, Z7, Z8, Z9, Z0] at s1_3
   refine WL.q (oq_move rfl) rfl rfl rfl ?_
   refine WL.q (oq_len_s Tryd.underlying9 rfl) rfl rfl rfl ?_
   refine WL.q (oq_gtr rfl rfl) rfl rfl rfl ?_
   refine WL.q (oq_pick_f rfl rfl) rfl rfl rfl ?_
   refine WL.q (oq_move rfl) rfl rfl rfl ?_
   refine WL.split 25 rfl (fun s1_8 => ?_) (fun s1_8 => ?_)
   ·
    try simp only [Z1, Z2, Z3, Z4, Z5, Z6, Z7, Z8, Z9, Z0] at s1_8
    refine WL.skip rfl rfl rfl ?_
    refine WL.skip rfl rfl rfl ?_
    refine WL.skip rfl rfl rfl ?_
    refine WL.q (oq_pick_t rfl rfl) rfl rfl rfl ?_
    refine WL.nil (WE.then_normal (WC.sub (fr' := [(0, _), (1, _), (2, _), (29, _)]) ?_ ⟨rfl, rfl, rfl, rfl, trivial⟩))
    refine WC.cond_t rfl ?_
    refine WC.seq (WC.region ?_)
    refine WL.q (oq_assign rfl) rfl rfl rfl ?_
    refine WL.nil (WE.then_normal (WC.sub (fr' := [(6, _)]) ?_ ⟨rfl, trivial⟩))
    refine WC.ret (WE.then_ret ?_)
    refine WE.endR (.inl rfl) (res1 Tryd.results4 rfl) ?_
    first | rfl | (exfalso; simp_all; done)
   ·
    try simp only [Z1, Z2, Z3, Z4, Z5, Z6, Z7, Z8, Z9, Z0] at s1_8
    refine WL.q (oq_move rfl) rfl rfl rfl ?_
    refine WL.q (oq_len_s Tryd.underlying9 rfl) rfl rfl rfl ?_
    refine WL.q (oq_gtr rfl rfl) rfl rfl rfl ?_
    refine WL.q (oq_pick_f rfl rfl) rfl rfl rfl ?_
    refine WL.nil (WE.then_normal (WC.sub (fr' := [(0, _), (1, _), (2, _), (29, _)]) ?_ ⟨rfl, rfl, rfl, rfl, trivial⟩))
    refine WC.cond rfl (fun q1 => ?_) (fun q1 => ?_)
    ·
     try simp only [Z1, Z2, Z3, Z4, Z5, Z6, Z7, Z8, Z9, Z0] at q1
     refine WC.seq (WC.region ?_)
     refine WL.q (oq_assign rfl) rfl rfl rfl ?_
     refine WL.nil (WE.then_normal (WC.sub (fr' := [(6, _)]) ?_ ⟨rfl, trivial⟩))
     refine WC.ret (WE.then_ret ?_)
     refine WE.endR (.inl rfl) (res1 Tryd.results4 rfl) ?_
     first | rfl | (exfalso; simp_all; done)
    ·
     try simp only [Z1, Z2, Z3, Z4, Z5, Z6, Z7, Z8, Z9, Z0] at q1
     refine WC.skip ?_
     refine WE.meet () ?_ ⟨rfl, rfl, rfl, trivial⟩ (List.Perm.refl _)
     try dsimp only
     first | exact ⟨by omega, by omega, by omega⟩ | (exfalso; simp_all; done)
 ·rintro _ hp
  try dsimp only at hp
  obtain ⟨hl1, hl2, hl3⟩ := hp
  show WC _ _ _ _ _ _ ([(0, S s), (1, S q), (2, S sc)]) ([G])
  refine WC.seq (WC.seq (WC.region ?_))
  refine WL.q (oq_move rfl) rfl rfl rfl ?_
  refine WL.callA0 (eURLOf s (by omega)) call5 rfl rfl rfl fun v3_1 N3_1 hR3_1 hN3_1 => ?_
  obtain ⟨a, b, c, d, e, ok, rfl, hok⟩ := hR3_1
  refine WL.q (oq_move rfl) rfl rfl rfl ?_
  refine WL.q (oq_extract rfl rfl) rfl rfl rfl ?_
  refine WL.q (oq_extract rfl rfl) rfl rfl rfl ?_
  refine WL.alloc ty23 rfl rfl fun b7 hb7 => ?_
  refine WL.storeS #[_, _, _, _, _] ty23 rfl rfl rfl rfl (Nat.le_of_ble_eq_true rfl) rfl rfl ?_
  refine WL.q (oq_assign rfl) rfl rfl rfl ?_
  refine WL.nil (WE.then_normal (WC.sub (fr' := [(0, _), (1, _), (2, _), (8, _)]) ?_ ⟨rfl, rfl, rfl, rfl, trivial⟩))
  refine WC.seq (WC.region ?_)
  refine WL.q (oq_move rfl) rfl rfl rfl ?_
  refine WL.q (oq_len_s Tryd.underlying9 rfl) rfl rfl rfl ?_
  refine WL.q (oq_move rfl) rfl rfl rfl ?_
  refine WL.q (oq_len_s Tryd.underlying9 rfl) rfl rfl rfl ?_
  refine WL.q (oq_add rfl rfl (by rw [i64_lo, i64_hi]; (first | omega | (simp only [List.length_cons, List.length_nil, List.length_append, List.length_drop, List.length_take]; omega)))) rfl rfl rfl ?_
  refine WL.q (oq_move rfl) rfl rfl rfl ?_
  refine WL.q (oq_len_s Tryd.underlying9 rfl) rfl rfl rfl ?_
  refine WL.q (oq_add rfl rfl (by rw [i64_lo, i64_hi]; (first | omega | (simp only [List.length_cons, List.length_nil, List.length_append, List.length_drop, List.length_take]; omega)))) rfl rfl rfl ?_
  refine WL.q (oq_gtr rfl rfl) rfl rfl rfl ?_
  refine WL.q (oq_move rfl) rfl rfl rfl ?_
  refine WL.split 44 rfl (fun s4_9 => ?_) (fun s4_9 => ?_)
  ·
   try simp only [Z1, Z2, Z3, Z4, Z5, Z6, Z7, Z8, Z9, Z0] at s4_9
   refine WL.skip rfl rfl rfl ?_
   refine WL.skip rfl rfl rfl ?_
   refine WL.q (oq_pick_t rfl rfl) rfl rfl rfl ?_
   refine WL.nil (WE.then_normal (WC.sub (fr' := [(0, _), (1, _), (2, _), (47, _)]) ?_ ⟨rfl, rfl, rfl, rfl, trivial⟩))
   refine WC.cond_t rfl ?_
   refine WC.seq (WC.region ?_)
   refine WL.qc (oq_call (eAwake) call6 rfl) rfl rfl rfl ?_
   refine WL.q (oq_assign rfl) rfl rfl rfl ?_
   refine WL.nil (WE.then_normal (WC.sub (fr' := [(6, _)]) ?_ ⟨rfl, trivial⟩))
   refine WC.ret (WE.then_ret ?_)
   refine WE.lose hb7 ?_
   refine WE.forget hN3_1 ?_
   refine WE.endR (.inl rfl) (res1 Tryd.results4 rfl) ?_
   first | rfl | (exfalso; simp_all; done)
  ·
   try simp only [Z1, Z2, Z3, Z4, Z5, Z6, Z7, Z8, Z9, Z0] at s4_9
   refine WL.q (oq_move rfl) rfl rfl rfl ?_
   refine WL.q (oq_not rfl) rfl rfl rfl ?_
   refine WL.q (oq_pick_f rfl rfl) rfl rfl rfl ?_
   refine WL.nil (WE.then_normal (WC.sub (fr' := [(0, _), (1, _), (2, _), (47, _)]) ?_ ⟨rfl, rfl, rfl, rfl, trivial⟩))
   refine WC.cond rfl (fun q4 => ?_) (fun q4 => ?_)
   ·
    try simp only [Z1, Z2, Z3, Z4, Z5, Z6, Z7, Z8, Z9, Z0] at q4
    refine WC.seq (WC.region ?_)
    refine WL.qc (oq_call (eAwake) call6 rfl) rfl rfl rfl ?_
    refine WL.q (oq_assign rfl) rfl rfl rfl ?_
    refine WL.nil (WE.then_normal (WC.sub (fr' := [(6, _)]) ?_ ⟨rfl, trivial⟩))
    refine WC.ret (WE.then_ret ?_)
    refine WE.lose hb7 ?_
    refine WE.forget hN3_1 ?_
    refine WE.endR (.inl rfl) (res1 Tryd.results4 rfl) ?_
    first | rfl | (exfalso; simp_all; done)
   ·
    try simp only [Z1, Z2, Z3, Z4, Z5, Z6, Z7, Z8, Z9, Z0] at q4
    refine WC.skip (WE.then_normal (WC.sub (fr' := [(0, _), (1, _), (2, _)]) ?_ ⟨rfl, rfl, rfl, trivial⟩))
    refine WC.seq (WC.seq ?_)
    obtain ⟨h, hg, _, _⟩ := hok (by simpa using q4)
    obtain ⟨hu, hse, hsc⟩ := good_uok hg
    have hul := ut_len a b c []
    rw [← hse] at hul
    refine WC.region ?_
    refine WL.q (oq_move rfl) rfl rfl rfl ?_
    refine WL.q (oq_move rfl) rfl rfl rfl ?_
    refine WL.buildL Tryd.underlying28 ty9 rfl rfl (by decide) (by decide) rfl rfl rfl fun v6 A6 ho6 hne6 => ?_
    refine WL.q (oq_len_rd ho6.rd Tryd.underlying28 rfl) rfl rfl rfl ?_
    refine WL.q (oq_move rfl) rfl rfl rfl ?_
    refine WL.nil (WE.then_normal (WC.sub (fr' := [(0, _), (1, _), (2, _), (51, _), (52, _), (53, _)]) ?_ ⟨rfl, rfl, rfl, rfl, rfl, rfl, trivial⟩))
    refine WC.block ?_
    have hos : OwS w0.heap.size 9 1 v6 A6 2 (strsV [q, sc]) := ho6
    refine WC.f1 ?_
    refine WC.lose hb7 ?_
    refine WC.f1 ?_
    refine WC.forget hN3_1 ?_
    refine WC.loop (ι := Nat) (fun (i : Nat) => [(0, S s), (1, S q), (2, S sc), (51, v6), (52, I 2), (53, I (i : Int))]) (fun (i : Nat) => [A6, G]) (fun (i : Nat) => i ≤ 2 ∧ ∀ m : Nat, m < i → lowP ([q, sc].getD m [])) (fun (i : Nat) => 2 - i) (0) ?_ ⟨rfl, rfl, rfl, rfl, rfl, rfl, trivial⟩ (List.Perm.refl _) ?_
    ·try dsimp only
     exact ⟨by omega, fun m h => by omega⟩
    ·rintro i hp
     try dsimp only at hp
     obtain ⟨hi, hlw⟩ := hp
     show WC _ _ _ _ _ _ ([(0, S s), (1, S q), (2, S sc), (51, v6), (52, I 2), (53, I (i : Int))]) ([A6, G])
     refine WC.seq (WC.region ?_)
     refine WL.q (oq_lss rfl rfl) rfl rfl rfl ?_
     refine WL.nil (WE.then_normal (WC.sub (fr' := [(0, _), (1, _), (2, _), (51, _), (52, _), (53, _), (54, _)]) ?_ ⟨rfl, rfl, rfl, rfl, rfl, rfl, rfl, trivial⟩))
     refine WC.seq ?_
     refine WC.cond rfl (fun q7 => ?_) (fun q7 => ?_)
     ·
      try simp only [Z1, Z2, Z3, Z4, Z5, Z6, Z7, Z8, Z9, Z0] at q7
      refine WC.skip (WE.then_normal (WC.sub (fr' := [(0, _), (1, _), (2, _), (51, _), (52, _), (53, _)]) ?_ ⟨rfl, rfl, rfl, rfl, rfl, rfl, trivial⟩))
      refine WC.seq (WC.block (WC.seq (WC.region ?_)))
      refine WL.q (oq_ixaddr hos.rd Tryd.underlying28 ty9 rfl rfl (by (first | omega | (simp only [List.length_cons, List.length_nil, List.length_append, List.length_drop, List.length_take]; omega)))) rfl rfl rfl ?_
      refine WL.q (oq_load_str hos.rd (.head _) flat9 rfl (by (first | omega | (simp only [List.length_cons, List.length_nil, List.length_append, List.length_drop, List.length_take]; omega))) (by first | exact Int.toNat_natCast _ | exact rfl)) rfl rfl rfl ?_
      refine WL.q (oq_assign rfl) rfl rfl rfl ?_
      refine WL.nil (WE.then_normal (WC.sub (fr' := [(0, _), (1, _), (2, _), (10, _), (51, _), (52, _), (53, _)]) ?_ ⟨rfl, rfl, rfl, rfl, rfl, rfl, rfl, trivial⟩))
      refine WC.seq (WC.region ?_)
      refine WL.q (oq_assign rfl) rfl rfl rfl ?_
      refine WL.nil (WE.then_normal (WC.sub (fr' := [(0, _), (1, _), (2, _), (10, _), (11, _), (51, _), (52, _), (53, _)]) ?_ ⟨rfl, rfl, rfl, rfl, rfl, rfl, rfl, rfl, trivial⟩))
      refine WC.block ?_
      refine WC.loop (ι := Nat) (fun (j : Nat) => [(0, S s), (1, S q), (2, S sc), (10, S ([q, sc].getD i [])), (11, I (j : Int)), (51, v6), (52, I 2), (53, I (i : Int))]) (fun (j : Nat) => [A6, G]) (fun (j : Nat) => j ≤ ([q, sc].getD i []).length ∧ ∀ k : Nat, k < j → 97 ≤ byteAt ([q, sc].getD i []) k ∧ byteAt ([q, sc].getD i []) k ≤ 122) (fun (j : Nat) => ([q, sc].getD i []).length - j) (0) ?_ ⟨rfl, rfl, rfl, rfl, rfl, rfl, rfl, rfl, trivial⟩ (List.Perm.refl _) ?_
      ·try dsimp only
       exact ⟨by omega, fun k h => by omega⟩
      ·rintro j hp
       try dsimp only at hp
       obtain ⟨hj, hj2⟩ := hp
       show WC _ _ _ _ _ _ ([(0, S s), (1, S q), (2, S sc), (10, S ([q, sc].getD i [])), (11, I (j : Int)), (51, v6), (52, I 2), (53, I (i : Int))]) ([A6, G])
       have hjl := getD_le (ls := [q, sc]) (n := 500) (fun x hx => by simp at hx; rcases hx with rfl | rfl <;> omega) i
       refine WC.seq (WC.seq (WC.region ?_))
       refine WL.q (oq_move rfl) rfl rfl rfl ?_
       refine WL.q (oq_move rfl) rfl rfl rfl ?_
       refine WL.q (oq_len_s Tryd.underlying9 rfl) rfl rfl rfl ?_
       refine WL.q (oq_lss rfl rfl) rfl rfl rfl ?_
       refine WL.nil (WE.then_normal (WC.sub (fr' := [(0, _), (1, _), (2, _), (10, _), (11, _), (51, _), (52, _), (53, _), (60, _)]) ?_ ⟨rfl, rfl, rfl, rfl, rfl, rfl, rfl, rfl, rfl, trivial⟩))
       refine WC.cond rfl (fun q10 => ?_) (fun q10 => ?_)
       ·
        try simp only [Z1, Z2, Z3, Z4, Z5, Z6, Z7, Z8, Z9, Z0] at q10
        refine WC.skip (WE.then_normal (WC.sub (fr' := [(0, _), (1, _), (2, _), (10, _), (11, _), (51, _), (52, _), (53, _)]) ?_ ⟨rfl, rfl, rfl, rfl, rfl, rfl, rfl, rfl, trivial⟩))
        refine WC.seq (WC.block (WC.seq (WC.region ?_)))
        refine WL.q (oq_move rfl) rfl rfl rfl ?_
        refine WL.q (oq_move rfl) rfl rfl rfl ?_
        refine WL.index_s Tryd.underlying9 rfl rfl (by (first | omega | (simp only [List.length_cons, List.length_nil, List.length_append, List.length_drop, List.length_take]; omega))) rfl rfl fun c12_2 hc12_2 hc12_2l hc12_2u => ?_
        refine WL.q (oq_lss rfl rfl) rfl rfl rfl ?_
        refine WL.q (oq_move rfl) rfl rfl rfl ?_
        refine WL.split 67 rfl (fun s12_4 => ?_) (fun s12_4 => ?_)
        ·
         try simp only [Z1, Z2, Z3, Z4, Z5, Z6, Z7, Z8, Z9, Z0] at s12_4
         refine WL.skip rfl rfl rfl ?_
         refine WL.skip rfl rfl rfl ?_
         refine WL.skip rfl rfl rfl ?_
         refine WL.skip rfl rfl rfl ?_
         refine WL.q (oq_pick_t rfl rfl) rfl rfl rfl ?_
         refine WL.nil (WE.then_normal (WC.sub (fr' := [(0, _), (1, _), (2, _), (10, _), (11, _), (51, _), (52, _), (53, _), (72, _)]) ?_ ⟨rfl, rfl, rfl, rfl, rfl, rfl, rfl, rfl, rfl, trivial⟩))
         refine WC.cond_t rfl ?_
         refine WC.seq (WC.region ?_)
         refine WL.qc (oq_call (eAwake) call6 rfl) rfl rfl rfl ?_
         refine WL.q (oq_assign rfl) rfl rfl rfl ?_
         refine WL.nil (WE.then_normal (WC.sub (fr' := [(6, _)]) ?_ ⟨rfl, trivial⟩))
         refine WC.ret (WE.block_ret (WE.then_ret (WE.then_ret (WE.block_ret (WE.block_ret (WE.then_ret (WE.then_ret (WE.block_ret (WE.then_ret ?_)))))))))
         refine WE.forget ho6.fresh ?_
         refine WE.endR (.inl rfl) (res1 Tryd.results4 rfl) ?_
         first | rfl | (exfalso; simp_all; done)
        ·
         try simp only [Z1, Z2, Z3, Z4, Z5, Z6, Z7, Z8, Z9, Z0] at s12_4
         refine WL.q (oq_move rfl) rfl rfl rfl ?_
         refine WL.q (oq_move rfl) rfl rfl rfl ?_
         refine WL.index_s Tryd.underlying9 rfl rfl (by (first | omega | (simp only [List.length_cons, List.length_nil, List.length_append, List.length_drop, List.length_take]; omega))) rfl rfl fun c12_7 hc12_7 hc12_7l hc12_7u => ?_
         refine WL.q (oq_gtr rfl rfl) rfl rfl rfl ?_
         refine WL.q (oq_pick_f rfl rfl) rfl rfl rfl ?_
         refine WL.nil (WE.then_normal (WC.sub (fr' := [(0, _), (1, _), (2, _), (10, _), (11, _), (51, _), (52, _), (53, _), (72, _)]) ?_ ⟨rfl, rfl, rfl, rfl, rfl, rfl, rfl, rfl, rfl, trivial⟩))
         refine WC.cond rfl (fun q12 => ?_) (fun q12 => ?_)
         ·
          try simp only [Z1, Z2, Z3, Z4, Z5, Z6, Z7, Z8, Z9, Z0] at q12
          refine WC.seq (WC.region ?_)
          refine WL.qc (oq_call (eAwake) call6 rfl) rfl rfl rfl ?_
          refine WL.q (oq_assign rfl) rfl rfl rfl ?_
          refine WL.nil (WE.then_normal (WC.sub (fr' := [(6, _)]) ?_ ⟨rfl, trivial⟩))
          refine WC.ret (WE.block_ret (WE.then_ret (WE.then_ret (WE.block_ret (WE.block_ret (WE.then_ret (WE.then_ret (WE.block_ret (WE.then_ret ?_)))))))))
          refine WE.forget ho6.fresh ?_
          refine WE.endR (.inl rfl) (res1 Tryd.results4 rfl) ?_
          first | rfl | (exfalso; simp_all; done)
         ·
          try simp only [Z1, Z2, Z3, Z4, Z5, Z6, Z7, Z8, Z9, Z0] at q12
          refine WC.skip (WE.block_normal (WE.then_normal (WC.sub (fr' := [(0, _), (1, _), (2, _), (10, _), (11, _), (51, _), (52, _), (53, _)]) ?_ ⟨rfl, rfl, rfl, rfl, rfl, rfl, rfl, rfl, trivial⟩)))
          refine WC.region ?_
          refine WL.q (oq_move rfl) rfl rfl rfl ?_
          refine WL.q (oq_add rfl rfl (by rw [i64_lo, i64_hi]; (first | omega | (simp only [List.length_cons, List.length_nil, List.length_append, List.length_drop, List.length_take]; omega)))) rfl rfl rfl ?_
          refine WL.q (oq_assign rfl) rfl rfl rfl ?_
          refine WL.nil ?_
          refine WE.again (j + 1) ?_ ?_ ⟨rfl, rfl, rfl, rfl, rfl, rfl, rfl, rfl, trivial⟩ (List.Perm.refl _)
          ·try dsimp only
           exact ⟨by omega, low_ext hj2 hc12_2 (by omega)⟩
          ·(try dsimp only); omega
       ·
        try simp only [Z1, Z2, Z3, Z4, Z5, Z6, Z7, Z8, Z9, Z0] at q10
        refine WC.exit (WE.then_exit (WE.then_exit (WE.block_same (WE.block_normal (WE.then_normal (WC.sub (fr' := [(0, _), (1, _), (2, _), (51, _), (52, _), (53, _)]) ?_ ⟨rfl, rfl, rfl, rfl, rfl, rfl, trivial⟩))))))
        refine WC.region ?_
        refine WL.q (oq_add rfl rfl (by rw [i64_lo, i64_hi]; (first | omega | (simp only [List.length_cons, List.length_nil, List.length_append, List.length_drop, List.length_take]; omega)))) rfl rfl rfl ?_
        refine WL.q (oq_move rfl) rfl rfl rfl ?_
        refine WL.nil ?_
        refine WE.again (i + 1) ?_ ?_ ⟨rfl, rfl, rfl, rfl, rfl, rfl, trivial⟩ (List.Perm.refl _)
        ·try dsimp only
         exact ⟨by omega, lows_ext hlw hj2 (by omega)⟩
        ·(try dsimp only); omega
     ·
      try simp only [Z1, Z2, Z3, Z4, Z5, Z6, Z7, Z8, Z9, Z0] at q7
      refine WC.exit (WE.then_exit (WE.then_exit (WE.block_same (WE.then_normal (WC.sub (fr' := [(0, _), (1, _), (2, _)]) ?_ ⟨rfl, rfl, rfl, trivial⟩)))))
      refine WC.cut (ι := Unit) (fun _ => [(0, S s), (1, S q), (2, S sc)]) (fun _ => [G]) (fun _ => Low q ∧ Low sc ∧ ¬ sc = [104, 116, 116, 112] ∧ ¬ sc = [104, 116, 116, 112, 115]) ?_ ?_
      ·
       refine WC.seq (WC.region ?_)
       refine WL.q (oq_move rfl) rfl rfl rfl ?_
       refine WL.q (oq_seql rfl rfl) rfl rfl rfl ?_
       refine WL.q (oq_move rfl) rfl rfl rfl ?_
       refine WL.split 77 rfl (fun s15_2 => ?_) (fun s15_2 => ?_)
       ·
        try simp only [Z1, Z2, Z3, Z4, Z5, Z6, Z7, Z8, Z9, Z0] at s15_2
        refine WL.skip rfl rfl rfl ?_
        refine WL.skip rfl rfl rfl ?_
        refine WL.q (oq_pick_t rfl rfl) rfl rfl rfl ?_
        refine WL.q (oq_move rfl) rfl rfl rfl ?_
        refine WL.skip rfl rfl rfl ?_
        refine WL.skip rfl rfl rfl ?_
        refine WL.q (oq_pick_t rfl rfl) rfl rfl rfl ?_
        refine WL.q (oq_move rfl) rfl rfl rfl ?_
        refine WL.skip rfl rfl rfl ?_
        refine WL.skip rfl rfl rfl ?_
        refine WL.q (oq_pick_t rfl rfl) rfl rfl rfl ?_
        refine WL.nil (WE.then_normal (WC.sub (fr' := [(0, _), (1, _), (2, _), (88, _)]) ?_ ⟨rfl, rfl, rfl, rfl, trivial⟩))
        refine WC.cond_t rfl ?_
        refine WC.seq (WC.region ?_)
        refine WL.qc (oq_call (eAwake) call6 rfl) rfl rfl rfl ?_
        refine WL.q (oq_assign rfl) rfl rfl rfl ?_
        refine WL.nil (WE.then_normal (WC.sub (fr' := [(6, _)]) ?_ ⟨rfl, trivial⟩))
        refine WC.ret (WE.then_ret ?_)
        refine WE.forget ho6.fresh ?_
        refine WE.endR (.inl rfl) (res1 Tryd.results4 rfl) ?_
        first | rfl | (exfalso; simp_all; done)
       ·
        try simp only [Z1, Z2, Z3, Z4, Z5, Z6, Z7, Z8, Z9, Z0] at s15_2
        refine WL.q (oq_move rfl) rfl rfl rfl ?_
        refine WL.q (oq_seql rfl rfl) rfl rfl rfl ?_
        refine WL.q (oq_pick_f rfl rfl) rfl rfl rfl ?_
        refine WL.q (oq_move rfl) rfl rfl rfl ?_
        refine WL.split 81 rfl (fun s15_6 => ?_) (fun s15_6 => ?_)
        ·
         try simp only [Z1, Z2, Z3, Z4, Z5, Z6, Z7, Z8, Z9, Z0] at s15_6
         refine WL.skip rfl rfl rfl ?_
         refine WL.skip rfl rfl rfl ?_
         refine WL.q (oq_pick_t rfl rfl) rfl rfl rfl ?_
         refine WL.q (oq_move rfl) rfl rfl rfl ?_
         refine WL.skip rfl rfl rfl ?_
         refine WL.skip rfl rfl rfl ?_
         refine WL.q (oq_pick_t rfl rfl) rfl rfl rfl ?_
         refine WL.nil (WE.then_normal (WC.sub (fr' := [(0, _), (1, _), (2, _), (88, _)]) ?_ ⟨rfl, rfl, rfl, rfl, trivial⟩))
         refine WC.cond_t rfl ?_
         refine WC.seq (WC.region ?_)
         refine WL.qc (oq_call (eAwake) call6 rfl) rfl rfl rfl ?_
         refine WL.q (oq_assign rfl) rfl rfl rfl ?_
         refine WL.nil (WE.then_normal (WC.sub (fr' := [(6, _)]) ?_ ⟨rfl, trivial⟩))
         refine WC.ret (WE.then_ret ?_)
         refine WE.forget ho6.fresh ?_
         refine WE.endR (.inl rfl) (res1 Tryd.results4 rfl) ?_
         first | rfl | (exfalso; simp_all; done)
        ·
         try simp only [Z1, Z2, Z3, Z4, Z5, Z6, Z7, Z8, Z9, Z0] at s15_6
         refine WL.q (oq_move rfl) rfl rfl rfl ?_
         refine WL.q (oq_seql rfl rfl) rfl rfl rfl ?_
         refine WL.q (oq_pick_f rfl rfl) rfl rfl rfl ?_
         refine WL.q (oq_move rfl) rfl rfl rfl ?_
         refine WL.split 85 rfl (fun s15_10 => ?_) (fun s15_10 => ?_)
         ·
          try simp only [Z1, Z2, Z3, Z4, Z5, Z6, Z7, Z8, Z9, Z0] at s15_10
          refine WL.skip rfl rfl rfl ?_
          refine WL.skip rfl rfl rfl ?_
          refine WL.q (oq_pick_t rfl rfl) rfl rfl rfl ?_
          refine WL.nil (WE.then_normal (WC.sub (fr' := [(0, _), (1, _), (2, _), (88, _)]) ?_ ⟨rfl, rfl, rfl, rfl, trivial⟩))
          refine WC.cond_t rfl ?_
          refine WC.seq (WC.region ?_)
          refine WL.qc (oq_call (eAwake) call6 rfl) rfl rfl rfl ?_
          refine WL.q (oq_assign rfl) rfl rfl rfl ?_
          refine WL.nil (WE.then_normal (WC.sub (fr' := [(6, _)]) ?_ ⟨rfl, trivial⟩))
          refine WC.ret (WE.then_ret ?_)
          refine WE.forget ho6.fresh ?_
          refine WE.endR (.inl rfl) (res1 Tryd.results4 rfl) ?_
          first | rfl | (exfalso; simp_all; done)
         ·
          try simp only [Z1, Z2, Z3, Z4, Z5, Z6, Z7, Z8, Z9, Z0] at s15_10
          refine WL.q (oq_move rfl) rfl rfl rfl ?_
          refine WL.q (oq_seql rfl rfl) rfl rfl rfl ?_
          refine WL.q (oq_pick_f rfl rfl) rfl rfl rfl ?_
          refine WL.nil (WE.then_normal (WC.sub (fr' := [(0, _), (1, _), (2, _), (88, _)]) ?_ ⟨rfl, rfl, rfl, rfl, trivial⟩))
          refine WC.cond rfl (fun q15 => ?_) (fun q15 => ?_)
          ·
           try simp only [Z1, Z2, Z3, Z4, Z5, Z6, Z7, Z8, Z9, Z0] at q15
           refine WC.seq (WC.region ?_)
           refine WL.qc (oq_call (eAwake) call6 rfl) rfl rfl rfl ?_
           refine WL.q (oq_assign rfl) rfl rfl rfl ?_
           refine WL.nil (WE.then_normal (WC.sub (fr' := [(6, _)]) ?_ ⟨rfl, trivial⟩))
           refine WC.ret (WE.then_ret ?_)
           refine WE.forget ho6.fresh ?_
           refine WE.endR (.inl rfl) (res1 Tryd.results4 rfl) ?_
           first | rfl | (exfalso; simp_all; done)
          ·
           try simp only [Z1, Z2, Z3, Z4, Z5, Z6, Z7, Z8, Z9, Z0] at q15
           refine WC.skip ?_
           refine WE.forget ho6.fresh ?_
           refine WE.meet () ?_ ⟨rfl, rfl, rfl, trivial⟩ (List.Perm.refl _)
           try dsimp only
           exact ⟨low_mk (fun e => s15_2 (by rw [e]; rfl)) (hlw 0 (by omega)), low_mk (fun e => s15_6 (by rw [e]; rfl)) (hlw 1 (by omega)), s15_10, q15⟩
      ·rintro _ hp
       try dsimp only at hp
       obtain ⟨hlq, hls, hs1, hs2⟩ := hp
       show WC _ _ _ _ _ _ ([(0, S s), (1, S q), (2, S sc)]) ([G])
       refine WC.seq (WC.region ?_)
       refine WL.q (oq_assign rfl) rfl rfl rfl ?_
       refine WL.nil (WE.then_normal (WC.sub (fr' := [(0, _), (1, _), (2, _), (12, _)]) ?_ ⟨rfl, rfl, rfl, rfl, trivial⟩))
       refine WC.seq (WC.block ?_)
       refine WC.loop (ι := Nat) (fun (k : Nat) => [(0, S s), (1, S q), (2, S sc), (12, I (k : Int))]) (fun (k : Nat) => [G]) (fun (k : Nat) => k ≤ a.length) (fun (k : Nat) => a.length + 1 - k) (0) ?_ ⟨rfl, rfl, rfl, rfl, trivial⟩ (List.Perm.refl _) ?_
       ·try dsimp only
        omega
       ·rintro k hp
        try dsimp only at hp
        show WC _ _ _ _ _ _ ([(0, S s), (1, S q), (2, S sc), (12, I (k : Int))]) ([G])
        refine WC.seq (WC.seq (WC.region ?_))
        refine WL.q (oq_move rfl) rfl rfl rfl ?_
        refine WL.q (oq_move rfl) rfl rfl rfl ?_
        refine WL.index_s Tryd.underlying9 rfl rfl (by (first | omega | (simp only [List.length_cons, List.length_nil, List.length_append, List.length_drop, List.length_take]; omega))) rfl rfl fun c18_2 hc18_2 hc18_2l hc18_2u => ?_
        refine WL.q (oq_neq rfl rfl) rfl rfl rfl ?_
        refine WL.nil (WE.then_normal (WC.sub (fr' := [(0, _), (1, _), (2, _), (12, _), (93, _)]) ?_ ⟨rfl, rfl, rfl, rfl, rfl, trivial⟩))
        refine WC.cond rfl (fun q18 => ?_) (fun q18 => ?_)
        ·
         try simp only [Z1, Z2, Z3, Z4, Z5, Z6, Z7, Z8, Z9, Z0] at q18
         refine WC.skip (WE.then_normal (WC.sub (fr' := [(0, _), (1, _), (2, _), (12, _)]) ?_ ⟨rfl, rfl, rfl, rfl, trivial⟩))
         refine WC.block (WC.region ?_)
         refine WL.q (oq_move rfl) rfl rfl rfl ?_
         refine WL.q (oq_add rfl rfl (by rw [i64_lo, i64_hi]; (first | omega | (simp only [List.length_cons, List.length_nil, List.length_append, List.length_drop, List.length_take]; omega)))) rfl rfl rfl ?_
         refine WL.q (oq_assign rfl) rfl rfl rfl ?_
         refine WL.nil (WE.block_normal ?_)
         have hka := low_at (x := c18_2) hu.low hp (by rw [hc18_2, hse])
         refine WE.again (k + 1) ?_ ?_ ⟨rfl, rfl, rfl, rfl, trivial⟩ (List.Perm.refl _)
         ·try dsimp only
          omega
         ·(try dsimp only); omega
        ·
         try simp only [Z1, Z2, Z3, Z4, Z5, Z6, Z7, Z8, Z9, Z0] at q18
         refine WC.exit (WE.then_exit (WE.then_exit (WE.block_same (WE.then_normal (WC.sub (fr' := [(0, _), (1, _), (2, _), (12, _)]) ?_ ⟨rfl, rfl, rfl, rfl, trivial⟩)))))
         refine WC.seq ?_
         have hka := low_at (x := c18_2) hu.low hp (by rw [hc18_2, hse])
         have hk : k = a.length := by omega
         refine WC.region ?_
         refine WL.q (oq_move rfl) rfl rfl rfl ?_
         refine WL.q (oq_concat rfl rfl (by (first | omega | (simp only [List.length_cons, List.length_nil, List.length_append, List.length_drop, List.length_take]; omega)))) rfl rfl rfl ?_
         refine WL.q (oq_move rfl) rfl rfl rfl ?_
         refine WL.q ((oq_concat rfl rfl (by simp only [List.length_append, List.length_cons, List.length_nil]; omega)).to (v' := S (UT a b c (63 :: q))) (congrArg S (by rw [hse]; exact ut_q a b c q))) rfl rfl rfl ?_
         refine WL.callA (eParseNo G hG (uok_q hu hlq) (by rw [ut_len] at *; simp only [List.length_cons]; omega) (.inl (by simp))) call7 rfl rfl rfl fun v20_4 N20_4 hR20_4 hN20_4 => ?_
         subst hR20_4
         refine WL.q (oq_move rfl) rfl rfl rfl ?_
         refine WL.q (oq_extract rfl rfl) rfl rfl rfl ?_
         refine WL.q (oq_extract rfl rfl) rfl rfl rfl ?_
         refine WL.alloc ty23 rfl rfl fun b13 hb13 => ?_
         refine WL.storeS #[_, _, _, _, _] ty23 rfl rfl rfl rfl (Nat.le_of_ble_eq_true rfl) rfl rfl ?_
         refine WL.q (oq_assign rfl) rfl rfl rfl ?_
         refine WL.nil (WE.then_normal (WC.sub (fr' := [(0, _), (2, _), (12, _), (14, _)]) ?_ ⟨rfl, rfl, rfl, rfl, trivial⟩))
         refine WC.seq (WC.region ?_)
         refine WL.q (oq_move rfl) rfl rfl rfl ?_
         refine WL.q (oq_move rfl) rfl rfl rfl ?_
         refine WL.q (oq_move rfl) rfl rfl rfl ?_
         refine WL.q (oq_slice_s1 Tryd.underlying9 rfl rfl (by (first | omega | (simp only [List.length_cons, List.length_nil, List.length_append, List.length_drop, List.length_take]; omega)))) rfl rfl rfl ?_
         refine WL.q ((oq_concat rfl rfl (by simp only [List.length_append, List.length_drop]; omega)).to (v' := S (UT sc b c [])) (congrArg S (by rw [hse, hk]; exact ut_sc a b c sc))) rfl rfl rfl ?_
         refine WL.f2 ?_
         refine WL.callA (eParseNo G hG (uok_sc hu hls) (by rw [ut_len] at *; omega) (.inr (fun h => h.elim hs1 hs2))) call7 rfl rfl rfl fun v21_5 N21_5 hR21_5 hN21_5 => ?_
         subst hR21_5
         refine WL.q (oq_move rfl) rfl rfl rfl ?_
         refine WL.q (oq_extract rfl rfl) rfl rfl rfl ?_
         refine WL.q (oq_extract rfl rfl) rfl rfl rfl ?_
         refine WL.alloc ty23 rfl rfl fun b15 hb15 => ?_
         refine WL.storeS #[_, _, _, _, _] ty23 rfl rfl rfl rfl (Nat.le_of_ble_eq_true rfl) rfl rfl ?_
         refine WL.q (oq_assign rfl) rfl rfl rfl ?_
         refine WL.nil (WE.then_normal (WC.sub (fr' := [(14, _), (16, _)]) ?_ ⟨rfl, rfl, trivial⟩))
         refine WC.seq (WC.region ?_)
         refine WL.q (oq_move rfl) rfl rfl rfl ?_
         refine WL.q (oq_not rfl) rfl rfl rfl ?_
         refine WL.q (oq_move rfl) rfl rfl rfl ?_
         refine WL.split 115 rfl (fun s22_2 => ?_) (fun s22_2 => ?_)
         ·
          try simp only [Z1, Z2, Z3, Z4, Z5, Z6, Z7, Z8, Z9, Z0] at s22_2
          refine WL.q (oq_move rfl) rfl rfl rfl ?_
          refine WL.q (oq_not rfl) rfl rfl rfl ?_
          refine WL.q (oq_pick_t rfl rfl) rfl rfl rfl ?_
          refine WL.q (oq_move rfl) rfl rfl rfl ?_
          refine WL.split 119 rfl (fun s22_6 => ?_) (fun s22_6 => ?_)
          ·
           try simp only [Z1, Z2, Z3, Z4, Z5, Z6, Z7, Z8, Z9, Z0] at s22_6
           refine WL.qc (oq_call (eAwake) call6 rfl) rfl rfl rfl ?_
           refine WL.q (oq_pick_t rfl rfl) rfl rfl rfl ?_
           refine WL.q (oq_assign rfl) rfl rfl rfl ?_
           refine WL.nil (WE.then_normal (WC.sub (fr' := [(6, _)]) ?_ ⟨rfl, trivial⟩))
           refine WC.ret ?_
           refine WE.lose hb15 ?_
           refine WE.forget hN21_5 ?_
           refine WE.f1 ?_
           refine WE.lose hb13 ?_
           refine WE.f1 ?_
           refine WE.forget hN20_4 ?_
           refine WE.endR (.inl rfl) (res1 Tryd.results4 rfl) ?_
           first | rfl | (exfalso; simp_all; done)
          ·
           try simp only [Z1, Z2, Z3, Z4, Z5, Z6, Z7, Z8, Z9, Z0] at s22_6
           refine WL.skip rfl rfl rfl ?_
           refine WL.q (oq_pick_f rfl rfl) rfl rfl rfl ?_
           refine WL.q (oq_assign rfl) rfl rfl rfl ?_
           refine WL.nil (WE.then_normal (WC.sub (fr' := [(6, _)]) ?_ ⟨rfl, trivial⟩))
           refine WC.ret ?_
           refine WE.lose hb15 ?_
           refine WE.forget hN21_5 ?_
           refine WE.f1 ?_
           refine WE.lose hb13 ?_
           refine WE.f1 ?_
           refine WE.forget hN20_4 ?_
           refine WE.endR (.inl rfl) (res1 Tryd.results4 rfl) ?_
           first | rfl | (exfalso; simp_all; done)
         ·
          try simp only [Z1, Z2, Z3, Z4, Z5, Z6, Z7, Z8, Z9, Z0] at s22_2
          refine WL.skip rfl rfl rfl ?_
          refine WL.skip rfl rfl rfl ?_
          refine WL.q (oq_pick_f rfl rfl) rfl rfl rfl ?_
          refine WL.q (oq_move rfl) rfl rfl rfl ?_
          refine WL.skip rfl rfl rfl ?_
          refine WL.q (oq_pick_f rfl rfl) rfl rfl rfl ?_
          refine WL.q (oq_assign rfl) rfl rfl rfl ?_
          refine WL.nil (WE.then_normal (WC.sub (fr' := [(6, _)]) ?_ ⟨rfl, trivial⟩))
          refine WC.ret ?_
          refine WE.lose hb15 ?_
          refine WE.forget hN21_5 ?_
          refine WE.f1 ?_
          refine WE.lose hb13 ?_
          refine WE.f1 ?_
          refine WE.forget hN20_4 ?_
          refine WE.endR (.inl rfl) (res1 Tryd.results4 rfl) ?_
          first | rfl | (exfalso; simp_all; done)
end MD
end Go.Proofs.YtefaegocllppkaaDoor
/- The engine, part 18: package variables that hold sentinels, or tables of numbers; slices of bytes that come in. Over any program. -/
namespace Go.Proofs.YtefaegocllppkaaDoor.V
open Go Go.RowKit Go.ChangeShapes Go.WideShapes
set_option linter.unusedSimpArgs false
set_option linter.unusedVariables false
theorem var_heap {P : Program} {w : World} {n : String} {g : Nat} {cs : Array Value} (hg : P.globalNamed n = some g) (hv : w.var? P n = some cs) : ∃ t f, w.heap[g]? = some (.cells cs t f) := by
 simp only [World.var?, hg, Option.bind_some] at hv
 split at hv
 ·rename_i c t f h; simp at hv; subst hv; exact ⟨_, _, h⟩
 ·cases hv
section
variable {H : Type} {enc : TypeId × Value → H} {P : Program} {w : World} {base : Nat}
end
end Go.Proofs.YtefaegocllppkaaDoor.V
/- What the listed table of the addresses' rows holds. -/
namespace Go.Proofs.YtefaegocllppkaaDoor
open Go V M3 Go.RowKit Go.ChangeShapes Go.WideShapes
set_option linter.unusedVariables false
set_option linter.unusedSimpArgs false
set_option maxRecDepth 100000
namespace ML
theorem laid_tab {P : Program} {w : World} {n : String} {g : Nat} {t e : TypeId} {m : Nat} {k : IntKind} {zs : List Int} {r : List (String × DataW Unit)} {ps : List MemPlace} (hg : P.globalNamed n = some g) (hty : (P.globals[g]?).map (·.type) = some t) (ht : P.underlying t = some (.array m e)) (he : P.underlying e = some (.int k)) (hce : P.cellsOf e = 1) (hct : P.cellsOf t = m) (h : DataW.LaidVars P w ((n, Lib.tabData k zs) :: r) ps) :
  (∃ t f, w.heap[g]? = some (.cells (zs.map fun z => Value.int k z).toArray t f)) ∧ ∃ q, DataW.LaidVars P w r q := by
 obtain ⟨g', t', cs, fuel, p, q, hg', ht', hvar, hd, hr, rfl⟩ := h
 obtain rfl := Option.some.inj (hg.symm.trans hg')
 obtain rfl := Option.some.inj (hty.symm.trans ht')
 have e1 := Lib.cells_of_tab ht he hce hct hd
 have e2 : cs = (zs.map fun z => Value.int k z).toArray := by rw [← e1]
 rw [e2] at hvar
 exact ⟨var_heap hg hvar, q, hr⟩
theorem isTab : (Rows.laid_given_example_pub_tinwright_pub_neturl_table : DataW Unit) = Lib.tabData .u8 tabZ := by kernel_rfl
theorem g1 : Tryd.prog.globalNamed "given.example/pub-tinwright/pub/neturl.table" = some 1 := by kernel_rfl
theorem t1 : (Tryd.prog.globals[1]?).map (·.type) = some 116 := by kernel_rfl
theorem tab_len : tabZ.length = 256 := by kernel_rfl
theorem eparse_laid {W : World} (h : laidMetH Tryd.prog Rows.fnEParsesRow.laid W) : ∃ G, Has G W ∧ Tb G := by
 rw [Go.MakeChecks.laidMetH_plain _ _ _ (by kernel_rfl)] at h
 obtain ⟨ps, hl, _, hall⟩ := h
 have hl : DataW.LaidVars Tryd.prog W [("given.example/pub-tinwright/pub/neturl.table", Rows.laid_given_example_pub_tinwright_pub_neturl_table)] ps := hl
 rw [isTab] at hl
 obtain ⟨⟨ty1, f1, h1⟩, q1, hl⟩ := laid_tab g1 t1 Tryd.underlying116 Tryd.underlying77 (by kernel_rfl) (by kernel_rfl) hl
 refine ⟨[(1, .cells (tabZ.map fun z => Value.int .u8 z).toArray ty1 f1)], ⟨fun b o hb => ?_, by simp⟩, _, _, _, .head _, fun c hc => ?_⟩
 ·simp only [List.mem_cons, Prod.mk.injEq, List.not_mem_nil, or_false] at hb
  obtain ⟨rfl, rfl⟩ := hb
  exact h1
 ·have hl2 : c < tabZ.length := by rw [tab_len]; exact hc
  unfold tz
  simp [List.getElem?_map, List.getD_eq_getElem?_getD, List.getElem?_eq_getElem hl2]
theorem weaken {G C : Hp} (h : Tb G) (hs : ∀ x ∈ G, x ∈ C) : Tb C := by
 obtain ⟨cs, e, fz, hm, hc⟩ := h
 exact ⟨cs, e, fz, hs _ hm, hc⟩
end ML
end Go.Proofs.YtefaegocllppkaaDoor
