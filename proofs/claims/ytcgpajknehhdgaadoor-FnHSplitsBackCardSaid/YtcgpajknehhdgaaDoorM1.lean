/- The walk of the law on values with commas between them. -/
import Derived.Test.YtcgpajknehhdgaaDoorM0
import Derived.Test.YtcgpajknehhdgaaDoorMP
import Derived.Test.YtcgpajknehhdgaaDoorVK
namespace Go.Proofs.YtcgpajknehhdgaaDoor
open Go Go.RowKit V L2 L1 KP KQ H1 H2 H0 KX KY KZ MP
set_option linter.unusedSimpArgs false
set_option linter.unusedVariables false
set_option maxRecDepth 10000
namespace M1
theorem call15 : Callable Tryd.prog 15 := ⟨_, Tryd.func15, rfl, by kernel_rfl⟩
theorem call21 : Callable Tryd.prog 21 := ⟨_, Tryd.func21, rfl, by kernel_rfl⟩
theorem call22 : Callable Tryd.prog 22 := ⟨_, Tryd.func22, rfl, by kernel_rfl⟩
theorem call24 : Callable Tryd.prog 24 := ⟨_, Tryd.func24, rfl, by kernel_rfl⟩
theorem call25 : Callable Tryd.prog 25 := ⟨_, Tryd.func25, rfl, by kernel_rfl⟩
theorem flat4 : Flat Tryd.prog 4 := ⟨_, Tryd.underlying4, by simp⟩
theorem flat9 : Flat Tryd.prog 9 := ⟨_, Tryd.underlying9, by simp⟩
theorem ty4 : Ty Tryd.prog 4 (.bool false) 1 1 := ty_of (by kernel_rfl)
theorem ty9 : Ty Tryd.prog 9 (S []) 1 16 := ty_of (by kernel_rfl)
open M0 (wSame)

def plc (c : UInt8) : Bool := decide (c ≠ 44 ∧ c ≠ 34)
theorem uncat {n : Nat} {w0 : World} {ds : List Deferred} {fr : Fr} {H : List Hp} {ops : Array Oper} {Q : Post} {l : List Oper} {A B : Hp} (h : WL Tryd.prog n w0 ops Q l ds fr (A :: B :: H)) : WL Tryd.prog n w0 ops Q l ds fr ((A ++ B) :: H) := fun a w hf hw => h a w hf (by simpa using hw)
theorem byte_eq {u : List UInt8} {k : Nat} (h : k < u.length) (n : Nat) (hn : n < 256) : (byteAt u (k : Int) = (n : Int) ↔ u[k] = UInt8.ofNat n) := by
  rw [byteAt_get u k h]
  constructor
  · intro e; apply UInt8.toNat_inj.1; simp; omega
  · intro e; rw [e]; simp; omega
theorem own_step {u : List UInt8} {k : Nat} (h : k < u.length) {c : Int} (hc : c = byteAt u k) : own (u.take (k + 1)) = own (u.take k) ++ (if c = 34 ∨ c = 92 then [92] else []) ++ cut u (k : Int) ((k : Int) + 1) := by
  rw [List.take_succ_eq_append_getElem h, own_snoc1, cut1 u k h, List.append_assoc]
  congr 1
  have h1 := byte_eq h 34 (by decide)
  have h2 := byte_eq h 92 (by decide)
  unfold esc
  by_cases hh : c = 34 ∨ c = 92
  · rw [if_pos hh, if_pos (by rcases hh with e | e; exact .inl (h1.1 (by rw [← hc, e]; rfl)); exact .inr (h2.1 (by rw [← hc, e]; rfl)))]; rfl
  · rw [if_neg hh, if_neg (fun e => hh (by rcases e with e | e; exact .inl (by rw [hc]; exact h1.2 e); exact .inr (by rw [hc]; exact h2.2 e)))]; rfl
theorem plc_step {u : List UInt8} {k : Nat} (h : k < u.length) {c : Int} (hc : c = byteAt u k) : (u.take (k + 1)).all plc = ((u.take k).all plc && decide (c ≠ 44 ∧ c ≠ 34)) := by
  rw [List.take_succ_eq_append_getElem h, List.all_append]
  congr 1
  have h1 := byte_eq h 34 (by decide)
  have h2 := byte_eq h 44 (by decide)
  rw [List.all_cons, List.all_nil, Bool.and_true]
  unfold plc
  refine decide_eq_decide.2 ⟨fun e => ⟨fun e2 => e.1 (h2.1 (by rw [← hc, e2]; rfl)), fun e2 => e.2 (h1.1 (by rw [← hc, e2]; rfl))⟩, fun e => ⟨fun e2 => e.1 (by rw [hc]; exact h2.2 e2), fun e2 => e.2 (by rw [hc]; exact h1.2 e2)⟩⟩
theorem no10 {u : List UInt8} (h : ∀ j : Nat, j < u.length → byteAt u j ≠ 10) : (10 : UInt8) ∉ u := fun hm => by
  obtain ⟨k, hk, e⟩ := List.mem_iff_getElem.1 hm
  exact h k hk (by rw [byteAt_get u k hk, e]; rfl)
theorem encQ {u s1 : List UInt8} (h : ¬ u.length = 0) (h10 : (10 : UInt8) ∉ u) (hl : u.length ≤ 100) : ∃ e, EncOk u e ∧ s1 ++ [34] ++ own u ++ [34] = s1 ++ e ∧ e.length ≤ 202 :=
  ⟨34 :: (own u ++ [34]), .inl ⟨fun e => h (by rw [e]; rfl), h10, rfl⟩, by simp, by have := own_len u; simp; omega⟩
theorem encU0 {u s1 : List UInt8} (h : u.length = 0) : ∃ e, EncOk u e ∧ s1 ++ u = s1 ++ e ∧ e.length ≤ 202 := by
  have := List.eq_nil_of_length_eq_zero h
  subst this
  exact ⟨[], .inr ⟨by simp, by simp, rfl, rfl⟩, rfl, by simp⟩
theorem encU1 {u s1 : List UInt8} (hp : u.all plc = true) (ht : trim u = u) (hl : u.length ≤ 100) : ∃ e, EncOk u e ∧ s1 ++ u = s1 ++ e ∧ e.length ≤ 202 := by
  rw [List.all_eq_true] at hp
  exact ⟨u, .inr ⟨fun h => (of_decide_eq_true (hp 44 h)).1 rfl, fun h => (of_decide_eq_true (hp 34 h)).2 rfl, ht, rfl⟩, rfl, by omega⟩
theorem encE {i : Nat} {u x s1 : List UInt8} {es : List (List UInt8)} (hs1 : s1 = J es ++ (if i = 0 then [] else [44, 32])) (hs1l : s1.length ≤ i * 206 + 2) (hau : Asc u) (hul : u.length ≤ 100) (h : ∃ e, EncOk u e ∧ x = s1 ++ e ∧ e.length ≤ 202) : ∃ e, EncOk u e ∧ x = J es ++ (if i = 0 then [] else [44, 32]) ++ e ∧ x.length ≤ (i + 1) * 206 ∧ Asc u ∧ u.length ≤ 100 := by
  obtain ⟨e, he, hx, hl⟩ := h
  exact ⟨e, he, by rw [hx, hs1], by rw [hx, List.length_append]; omega, hau, hul⟩
theorem gath_one {s : List UInt8} {l : List (List UInt8)} (h : hpar s = (some l, true)) : gath [s] = some l := by
  unfold gath allOk allV
  simp [ok1, val1, h]
/-- given.example/pub-tinwright/laws.FnHSplitsBack -/
theorem law (v vq : Value) (A : Hp) (ls : List (List UInt8)) (qs : List Bool) (hr : RdS 1 v A ls.length (strsV ls)) (hrq : RdS 1 vq A qs.length (boolsV qs)) : FnR Tryd.prog 8 [v, vq] A (.bool true) := by
  refine FnR.enter (n := 153) Tryd.func8 rfl rfl fun w0 => ?_
  refine WC.sub (fr' := [(0, _), (1, _)]) ?_ ⟨rfl, rfl, trivial⟩
  refine WC.seq ?_
  refine WC.region ?_
  refine WL.q (oq_assign rfl) rfl rfl rfl ?_
  refine WL.nil ?_
  refine WE.then_normal ?_
  refine WC.sub (fr' := [(0, _), (1, _)]) ?_ ⟨rfl, rfl, trivial⟩
  refine WC.seq ?_
  refine WC.seq ?_
  refine WC.region ?_
  refine WL.q (oq_move rfl) rfl rfl rfl ?_
  refine WL.qc (oq_callRm (E0.fits2 v A ls hr) (.head _) call22 rfl) rfl rfl rfl ?_
  refine WL.q (oq_not rfl) rfl rfl rfl ?_
  refine WL.q (oq_move rfl) rfl rfl rfl ?_
  refine WL.split 16 rfl (fun s1_3 => ?_) (fun s1_3 => ?_)
  ·
    try simp only [Bool.not_eq_eq_eq_not, Bool.not_true, Bool.not_false, decide_eq_true_eq, decide_eq_false_iff_not, Int.not_lt, Int.not_le, ne_eq, Decidable.not_not, ← List.length_eq_zero_iff] at s1_3
    refine WL.skip rfl rfl rfl ?_
    refine WL.skip rfl rfl rfl ?_
    refine WL.skip rfl rfl rfl ?_
    refine WL.q (oq_pick_t rfl rfl) rfl rfl rfl ?_
    refine WL.nil ?_
    refine WE.then_normal ?_
    refine WC.sub (fr' := [(0, _), (1, _), (20, _)]) ?_ ⟨rfl, rfl, rfl, trivial⟩
    refine WC.cond_t rfl ?_
    refine WC.seq ?_
    refine WC.region ?_
    refine WL.q (oq_assign rfl) rfl rfl rfl ?_
    refine WL.nil ?_
    refine WE.then_normal ?_
    refine WC.sub (fr' := [(4, _)]) ?_ ⟨rfl, trivial⟩
    refine WC.ret ?_
    refine WE.then_ret ?_
    refine WE.endR (.inl rfl) (res1 Tryd.results8 rfl) ?_
    -- end 0
    first | rfl | (exfalso; simp_all; done) | (simp; done) | trace_state
  ·
    try simp only [Bool.not_eq_eq_eq_not, Bool.not_true, Bool.not_false, decide_eq_true_eq, decide_eq_false_iff_not, Int.not_lt, Int.not_le, ne_eq, Decidable.not_not, ← List.length_eq_zero_iff] at s1_3
    refine WL.q (oq_move rfl) rfl rfl rfl ?_
    refine WL.q (oq_len_rd hrq Tryd.underlying47 rfl) rfl rfl rfl ?_
    refine WL.q (oq_gtr rfl rfl) rfl rfl rfl ?_
    refine WL.q (oq_pick_f rfl rfl) rfl rfl rfl ?_
    refine WL.nil ?_
    refine WE.then_normal ?_
    refine WC.sub (fr' := [(0, _), (1, _), (20, _)]) ?_ ⟨rfl, rfl, rfl, trivial⟩
    refine WC.cond rfl (fun q1 => ?_) (fun q1 => ?_)
    ·
      try simp only [Bool.not_eq_eq_eq_not, Bool.not_true, Bool.not_false, decide_eq_true_eq, decide_eq_false_iff_not, Int.not_lt, Int.not_le, ne_eq, Decidable.not_not, ← List.length_eq_zero_iff] at q1
      refine WC.seq ?_
      refine WC.region ?_
      refine WL.q (oq_assign rfl) rfl rfl rfl ?_
      refine WL.nil ?_
      refine WE.then_normal ?_
      refine WC.sub (fr' := [(4, _)]) ?_ ⟨rfl, trivial⟩
      refine WC.ret ?_
      refine WE.then_ret ?_
      refine WE.endR (.inl rfl) (res1 Tryd.results8 rfl) ?_
      -- end 1
      first | rfl | (exfalso; simp_all; done) | (simp; done) | trace_state
    ·
      try simp only [Bool.not_eq_eq_eq_not, Bool.not_true, Bool.not_false, decide_eq_true_eq, decide_eq_false_iff_not, Int.not_lt, Int.not_le, ne_eq, Decidable.not_not, ← List.length_eq_zero_iff] at q1
      refine WC.skip ?_
      refine WE.then_normal ?_
      refine WC.sub (fr' := [(0, _), (1, _)]) ?_ ⟨rfl, rfl, trivial⟩
      refine WC.seq ?_
      refine WC.seq ?_
      refine WC.region ?_
      refine WL.q (oq_move rfl) rfl rfl rfl ?_
      refine WL.q (oq_len_rd hr Tryd.underlying36 rfl) rfl rfl rfl ?_
      refine WL.q (oq_gtr rfl rfl) rfl rfl rfl ?_
      refine WL.q (oq_move rfl) rfl rfl rfl ?_
      refine WL.split 24 rfl (fun s3_3 => ?_) (fun s3_3 => ?_)
      ·
        try simp only [Bool.not_eq_eq_eq_not, Bool.not_true, Bool.not_false, decide_eq_true_eq, decide_eq_false_iff_not, Int.not_lt, Int.not_le, ne_eq, Decidable.not_not, ← List.length_eq_zero_iff] at s3_3
        refine WL.skip rfl rfl rfl ?_
        refine WL.skip rfl rfl rfl ?_
        refine WL.skip rfl rfl rfl ?_
        refine WL.q (oq_pick_t rfl rfl) rfl rfl rfl ?_
        refine WL.nil ?_
        refine WE.then_normal ?_
        refine WC.sub (fr' := [(0, _), (1, _), (28, _)]) ?_ ⟨rfl, rfl, rfl, trivial⟩
        refine WC.cond_t rfl ?_
        refine WC.seq ?_
        refine WC.region ?_
        refine WL.qc (oq_call (J0.hAwake) call15 rfl) rfl rfl rfl ?_
        refine WL.q (oq_assign rfl) rfl rfl rfl ?_
        refine WL.nil ?_
        refine WE.then_normal ?_
        refine WC.sub (fr' := [(4, _)]) ?_ ⟨rfl, trivial⟩
        refine WC.ret ?_
        refine WE.then_ret ?_
        refine WE.endR (.inl rfl) (res1 Tryd.results8 rfl) ?_
        -- end 2
        first | rfl | (exfalso; simp_all; done) | (simp; done) | trace_state
      ·
        try simp only [Bool.not_eq_eq_eq_not, Bool.not_true, Bool.not_false, decide_eq_true_eq, decide_eq_false_iff_not, Int.not_lt, Int.not_le, ne_eq, Decidable.not_not, ← List.length_eq_zero_iff] at s3_3
        refine WL.q (oq_move rfl) rfl rfl rfl ?_
        refine WL.q (oq_len_rd hr Tryd.underlying36 rfl) rfl rfl rfl ?_
        refine WL.q (oq_eql rfl rfl) rfl rfl rfl ?_
        refine WL.q (oq_pick_f rfl rfl) rfl rfl rfl ?_
        refine WL.nil ?_
        refine WE.then_normal ?_
        refine WC.sub (fr' := [(0, _), (1, _), (28, _)]) ?_ ⟨rfl, rfl, rfl, trivial⟩
        refine WC.cond rfl (fun q3 => ?_) (fun q3 => ?_)
        ·
          try simp only [Bool.not_eq_eq_eq_not, Bool.not_true, Bool.not_false, decide_eq_true_eq, decide_eq_false_iff_not, Int.not_lt, Int.not_le, ne_eq, Decidable.not_not, ← List.length_eq_zero_iff] at q3
          refine WC.seq ?_
          refine WC.region ?_
          refine WL.qc (oq_call (J0.hAwake) call15 rfl) rfl rfl rfl ?_
          refine WL.q (oq_assign rfl) rfl rfl rfl ?_
          refine WL.nil ?_
          refine WE.then_normal ?_
          refine WC.sub (fr' := [(4, _)]) ?_ ⟨rfl, trivial⟩
          refine WC.ret ?_
          refine WE.then_ret ?_
          refine WE.endR (.inl rfl) (res1 Tryd.results8 rfl) ?_
          -- end 3
          first | rfl | (exfalso; simp_all; done) | (simp; done) | trace_state
        ·
          try simp only [Bool.not_eq_eq_eq_not, Bool.not_true, Bool.not_false, decide_eq_true_eq, decide_eq_false_iff_not, Int.not_lt, Int.not_le, ne_eq, Decidable.not_not, ← List.length_eq_zero_iff] at q3
          refine WC.skip ?_
          refine WE.then_normal ?_
          refine WC.sub (fr' := [(0, _), (1, _)]) ?_ ⟨rfl, rfl, trivial⟩
          refine WC.seq ?_
          refine WC.region ?_
          refine WL.q (oq_assign rfl) rfl rfl rfl ?_
          refine WL.nil ?_
          refine WE.then_normal ?_
          refine WC.sub (fr' := [(0, _), (1, _), (5, _)]) ?_ ⟨rfl, rfl, rfl, trivial⟩
          refine WC.seq ?_
          refine WC.seq ?_
          refine WC.region ?_
          refine WL.q (oq_assign rfl) rfl rfl rfl ?_
          refine WL.nil ?_
          refine WE.then_normal ?_
          refine WC.sub (fr' := [(0, _), (1, _), (5, _), (6, _)]) ?_ ⟨rfl, rfl, rfl, rfl, trivial⟩
          refine WC.block ?_
          refine WC.loop (ι := Nat × (List (List UInt8))) (fun i_ => (fun (i : Nat) (es : List (List UInt8)) => [(0, v), (1, vq), (5, S (J es)), (6, I (i : Int))]) i_.1 i_.2) (fun i_ => (fun (i : Nat) (es : List (List UInt8)) => [A]) i_.1 i_.2) (fun i_ => (fun (i : Nat) (es : List (List UInt8)) => i ≤ ls.length ∧ es.length = i ∧ (∀ k, k < i → EncOk (ls.getD k []) (es.getD k []) ∧ Asc (ls.getD k []) ∧ (ls.getD k []).length ≤ 100) ∧ (J es).length ≤ i * 206) i_.1 i_.2) (fun i_ => (fun (i : Nat) (es : List (List UInt8)) => ls.length - i) i_.1 i_.2) ((0, [])) ?_ ⟨rfl, rfl, rfl, rfl, trivial⟩ (List.Perm.refl _) ?_
          · try dsimp only
            exact ⟨by omega, rfl, fun k hk => by omega, by simp [J]⟩
          · rintro ⟨i, es⟩ hp
            try dsimp only at hp
            obtain ⟨hi, hes, hok, hjl⟩ := hp
            show WC _ _ _ _ _ _ ([(0, v), (1, vq), (5, S (J es)), (6, I (i : Int))]) ([A])
            refine WC.seq ?_
            refine WC.seq ?_
            refine WC.region ?_
            refine WL.q (oq_move rfl) rfl rfl rfl ?_
            refine WL.q (oq_move rfl) rfl rfl rfl ?_
            refine WL.q (oq_len_rd hr Tryd.underlying36 rfl) rfl rfl rfl ?_
            refine WL.q (oq_lss rfl rfl) rfl rfl rfl ?_
            refine WL.nil ?_
            refine WE.then_normal ?_
            refine WC.sub (fr' := [(0, _), (1, _), (5, _), (6, _), (33, _)]) ?_ ⟨rfl, rfl, rfl, rfl, rfl, trivial⟩
            refine WC.cond rfl (fun q7 => ?_) (fun q7 => ?_)
            ·
              try simp only [Bool.not_eq_eq_eq_not, Bool.not_true, Bool.not_false, decide_eq_true_eq, decide_eq_false_iff_not, Int.not_lt, Int.not_le, ne_eq, Decidable.not_not, ← List.length_eq_zero_iff] at q7
              refine WC.skip ?_
              refine WE.then_normal ?_
              refine WC.sub (fr' := [(0, _), (1, _), (5, _), (6, _)]) ?_ ⟨rfl, rfl, rfl, rfl, trivial⟩
              refine WC.cut (ι := (List UInt8)) (fun (x : List UInt8) => [(0, v), (1, vq), (5, S x), (6, I (i : Int))]) (fun (x : List UInt8) => [A]) (fun (x : List UInt8) => ∃ e, EncOk (ls.getD i []) e ∧ x = J es ++ (if i = 0 then [] else [44, 32]) ++ e ∧ x.length ≤ (i + 1) * 206 ∧ Asc (ls.getD i []) ∧ (ls.getD i []).length ≤ 100) ?_ ?_
              ·
                refine WC.block ?_
                refine WC.seq ?_
                refine WC.region ?_
                refine WL.q (oq_assign rfl) rfl rfl rfl ?_
                refine WL.q (oq_assign rfl) rfl rfl rfl ?_
                refine WL.nil ?_
                refine WE.then_normal ?_
                refine WC.sub (fr' := [(0, _), (1, _), (5, _), (6, _), (7, _), (8, _)]) ?_ ⟨rfl, rfl, rfl, rfl, rfl, rfl, trivial⟩
                refine WC.cut (ι := Unit) (fun _ => [(0, v), (1, vq), (5, S (J es)), (6, I (i : Int)), (7, .bool ((ls.getD i []).all plc)), (8, S (own (ls.getD i [])))]) (fun _ => [A]) (fun _ => (ls.getD i []).length ≤ 100 ∧ Asc (ls.getD i []) ∧ (10 : UInt8) ∉ (ls.getD i [])) ?_ ?_
                ·
                  refine WC.seq ?_
                  refine WC.region ?_
                  refine WL.q (oq_assign rfl) rfl rfl rfl ?_
                  refine WL.nil ?_
                  refine WE.then_normal ?_
                  refine WC.sub (fr' := [(0, _), (1, _), (5, _), (6, _), (7, _), (8, _), (9, _)]) ?_ ⟨rfl, rfl, rfl, rfl, rfl, rfl, rfl, trivial⟩
                  refine WC.block ?_
                  refine WC.loop (ι := Nat × Bool × (List UInt8)) (fun i_ => (fun (k : Nat) (pl : Bool) (ow : List UInt8) => [(0, v), (1, vq), (5, S (J es)), (6, I (i : Int)), (7, .bool pl), (8, S ow), (9, I (k : Int))]) i_.1 i_.2.1 i_.2.2) (fun i_ => (fun (k : Nat) (pl : Bool) (ow : List UInt8) => [A]) i_.1 i_.2.1 i_.2.2) (fun i_ => (fun (k : Nat) (pl : Bool) (ow : List UInt8) => k ≤ (ls.getD i []).length ∧ (0 < k → (ls.getD i []).length ≤ 100) ∧ (∀ j : Nat, j < k → byteAt (ls.getD i []) j < 128 ∧ byteAt (ls.getD i []) j ≠ 10) ∧ pl = ((ls.getD i []).take k).all plc ∧ ow = own ((ls.getD i []).take k)) i_.1 i_.2.1 i_.2.2) (fun i_ => (fun (k : Nat) (pl : Bool) (ow : List UInt8) => (ls.getD i []).length - k) i_.1 i_.2.1 i_.2.2) ((0, true, [])) ?_ ⟨rfl, rfl, rfl, rfl, rfl, rfl, rfl, trivial⟩ (List.Perm.refl _) ?_
                  · try dsimp only
                    exact ⟨by omega, fun h => by omega, fun j hj => by omega, by simp, by simp [own]⟩
                  · rintro ⟨k, pl, ow⟩ hp
                    try dsimp only at hp
                    obtain ⟨hk, hk1, hkb, hpl, how⟩ := hp
                    show WC _ _ _ _ _ _ ([(0, v), (1, vq), (5, S (J es)), (6, I (i : Int)), (7, .bool pl), (8, S ow), (9, I (k : Int))]) ([A])
                    refine WC.seq ?_
                    refine WC.seq ?_
                    refine WC.region ?_
                    refine WL.q (oq_move rfl) rfl rfl rfl ?_
                    refine WL.q (oq_move rfl) rfl rfl rfl ?_
                    refine WL.q (oq_move rfl) rfl rfl rfl ?_
                    refine WL.q (oq_ixaddr hr Tryd.underlying36 ty9 rfl rfl (by (first | omega | (simp only [List.length_cons, List.length_nil, List.length_append, List.length_drop, List.length_take]; omega)))) rfl rfl rfl ?_
                    refine WL.q (oq_load_str hr (.head _) flat9 rfl (by (first | omega | (simp only [List.length_cons, List.length_nil, List.length_append, List.length_drop, List.length_take]; omega))) (by first | exact Int.toNat_natCast _ | exact rfl)) rfl rfl rfl ?_
                    refine WL.q (oq_len_s Tryd.underlying9 rfl) rfl rfl rfl ?_
                    refine WL.q (oq_lss rfl rfl) rfl rfl rfl ?_
                    refine WL.nil ?_
                    refine WE.then_normal ?_
                    refine WC.sub (fr' := [(0, _), (1, _), (5, _), (6, _), (7, _), (8, _), (9, _), (42, _)]) ?_ ⟨rfl, rfl, rfl, rfl, rfl, rfl, rfl, rfl, trivial⟩
                    refine WC.cond rfl (fun q11 => ?_) (fun q11 => ?_)
                    ·
                      try simp only [Bool.not_eq_eq_eq_not, Bool.not_true, Bool.not_false, decide_eq_true_eq, decide_eq_false_iff_not, Int.not_lt, Int.not_le, ne_eq, Decidable.not_not, ← List.length_eq_zero_iff] at q11
                      refine WC.skip ?_
                      refine WE.then_normal ?_
                      refine WC.sub (fr' := [(0, _), (1, _), (5, _), (6, _), (7, _), (8, _), (9, _)]) ?_ ⟨rfl, rfl, rfl, rfl, rfl, rfl, rfl, trivial⟩
                      refine WC.seq ?_
                      refine WC.block ?_
                      refine WC.seq ?_
                      refine WC.region ?_
                      refine WL.q (oq_move rfl) rfl rfl rfl ?_
                      refine WL.q (oq_move rfl) rfl rfl rfl ?_
                      refine WL.q (oq_ixaddr hr Tryd.underlying36 ty9 rfl rfl (by (first | omega | (simp only [List.length_cons, List.length_nil, List.length_append, List.length_drop, List.length_take]; omega)))) rfl rfl rfl ?_
                      refine WL.q (oq_load_str hr (.head _) flat9 rfl (by (first | omega | (simp only [List.length_cons, List.length_nil, List.length_append, List.length_drop, List.length_take]; omega))) (by first | exact Int.toNat_natCast _ | exact rfl)) rfl rfl rfl ?_
                      refine WL.q (oq_move rfl) rfl rfl rfl ?_
                      refine WL.index_s Tryd.underlying9 rfl rfl (by (first | omega | (simp only [List.length_cons, List.length_nil, List.length_append, List.length_drop, List.length_take]; omega))) rfl rfl fun c13_5 hc13_5 hc13_5l hc13_5u => ?_
                      refine WL.q (oq_assign rfl) rfl rfl rfl ?_
                      refine WL.nil ?_
                      refine WE.then_normal ?_
                      refine WC.sub (fr' := [(0, _), (1, _), (5, _), (6, _), (7, _), (8, _), (9, _), (10, _)]) ?_ ⟨rfl, rfl, rfl, rfl, rfl, rfl, rfl, rfl, trivial⟩
                      refine WC.cut (ι := Unit) (fun _ => [(0, v), (1, vq), (5, S (J es)), (6, I (i : Int)), (7, .bool pl), (8, S ow), (9, I (k : Int)), (10, .int .u8 c13_5)]) (fun _ => [A]) (fun _ => c13_5 < 128 ∧ ¬ c13_5 = 10 ∧ (ls.getD i []).length ≤ 100) ?_ ?_
                      ·
                        refine WC.seq ?_
                        refine WC.region ?_
                        refine WL.q (oq_move rfl) rfl rfl rfl ?_
                        refine WL.q (oq_geq rfl rfl) rfl rfl rfl ?_
                        refine WL.q (oq_move rfl) rfl rfl rfl ?_
                        refine WL.split 53 rfl (fun s14_2 => ?_) (fun s14_2 => ?_)
                        ·
                          try simp only [Bool.not_eq_eq_eq_not, Bool.not_true, Bool.not_false, decide_eq_true_eq, decide_eq_false_iff_not, Int.not_lt, Int.not_le, ne_eq, Decidable.not_not, ← List.length_eq_zero_iff] at s14_2
                          refine WL.skip rfl rfl rfl ?_
                          refine WL.skip rfl rfl rfl ?_
                          refine WL.q (oq_pick_t rfl rfl) rfl rfl rfl ?_
                          refine WL.q (oq_move rfl) rfl rfl rfl ?_
                          refine WL.skip rfl rfl rfl ?_
                          refine WL.skip rfl rfl rfl ?_
                          refine WL.skip rfl rfl rfl ?_
                          refine WL.skip rfl rfl rfl ?_
                          refine WL.skip rfl rfl rfl ?_
                          refine WL.skip rfl rfl rfl ?_
                          refine WL.q (oq_pick_t rfl rfl) rfl rfl rfl ?_
                          refine WL.nil ?_
                          refine WE.then_normal ?_
                          refine WC.sub (fr' := [(0, _), (1, _), (5, _), (6, _), (7, _), (8, _), (9, _), (10, _), (64, _)]) ?_ ⟨rfl, rfl, rfl, rfl, rfl, rfl, rfl, rfl, rfl, trivial⟩
                          refine WC.cond_t rfl ?_
                          refine WC.seq ?_
                          refine WC.region ?_
                          refine WL.qc (oq_call (J0.hAwake) call15 rfl) rfl rfl rfl ?_
                          refine WL.q (oq_assign rfl) rfl rfl rfl ?_
                          refine WL.nil ?_
                          refine WE.then_normal ?_
                          refine WC.sub (fr' := [(4, _)]) ?_ ⟨rfl, trivial⟩
                          refine WC.ret ?_
                          refine WE.then_ret ?_
                          refine WE.block_ret ?_
                          refine WE.then_ret ?_
                          refine WE.then_ret ?_
                          refine WE.block_ret ?_
                          refine WE.then_ret ?_
                          refine WE.block_ret ?_
                          refine WE.then_ret ?_
                          refine WE.then_ret ?_
                          refine WE.block_ret ?_
                          refine WE.then_ret ?_
                          refine WE.endR (.inl rfl) (res1 Tryd.results8 rfl) ?_
                          -- end 4
                          first | rfl | (exfalso; simp_all; done) | (simp; done) | trace_state
                        ·
                          try simp only [Bool.not_eq_eq_eq_not, Bool.not_true, Bool.not_false, decide_eq_true_eq, decide_eq_false_iff_not, Int.not_lt, Int.not_le, ne_eq, Decidable.not_not, ← List.length_eq_zero_iff] at s14_2
                          refine WL.q (oq_move rfl) rfl rfl rfl ?_
                          refine WL.q (oq_eql rfl rfl) rfl rfl rfl ?_
                          refine WL.q (oq_pick_f rfl rfl) rfl rfl rfl ?_
                          refine WL.q (oq_move rfl) rfl rfl rfl ?_
                          refine WL.split 57 rfl (fun s14_6 => ?_) (fun s14_6 => ?_)
                          ·
                            try simp only [Bool.not_eq_eq_eq_not, Bool.not_true, Bool.not_false, decide_eq_true_eq, decide_eq_false_iff_not, Int.not_lt, Int.not_le, ne_eq, Decidable.not_not, ← List.length_eq_zero_iff] at s14_6
                            refine WL.skip rfl rfl rfl ?_
                            refine WL.skip rfl rfl rfl ?_
                            refine WL.skip rfl rfl rfl ?_
                            refine WL.skip rfl rfl rfl ?_
                            refine WL.skip rfl rfl rfl ?_
                            refine WL.skip rfl rfl rfl ?_
                            refine WL.q (oq_pick_t rfl rfl) rfl rfl rfl ?_
                            refine WL.nil ?_
                            refine WE.then_normal ?_
                            refine WC.sub (fr' := [(0, _), (1, _), (5, _), (6, _), (7, _), (8, _), (9, _), (10, _), (64, _)]) ?_ ⟨rfl, rfl, rfl, rfl, rfl, rfl, rfl, rfl, rfl, trivial⟩
                            refine WC.cond_t rfl ?_
                            refine WC.seq ?_
                            refine WC.region ?_
                            refine WL.qc (oq_call (J0.hAwake) call15 rfl) rfl rfl rfl ?_
                            refine WL.q (oq_assign rfl) rfl rfl rfl ?_
                            refine WL.nil ?_
                            refine WE.then_normal ?_
                            refine WC.sub (fr' := [(4, _)]) ?_ ⟨rfl, trivial⟩
                            refine WC.ret ?_
                            refine WE.then_ret ?_
                            refine WE.block_ret ?_
                            refine WE.then_ret ?_
                            refine WE.then_ret ?_
                            refine WE.block_ret ?_
                            refine WE.then_ret ?_
                            refine WE.block_ret ?_
                            refine WE.then_ret ?_
                            refine WE.then_ret ?_
                            refine WE.block_ret ?_
                            refine WE.then_ret ?_
                            refine WE.endR (.inl rfl) (res1 Tryd.results8 rfl) ?_
                            -- end 5
                            first | rfl | (exfalso; simp_all; done) | (simp; done) | trace_state
                          ·
                            try simp only [Bool.not_eq_eq_eq_not, Bool.not_true, Bool.not_false, decide_eq_true_eq, decide_eq_false_iff_not, Int.not_lt, Int.not_le, ne_eq, Decidable.not_not, ← List.length_eq_zero_iff] at s14_6
                            refine WL.q (oq_move rfl) rfl rfl rfl ?_
                            refine WL.q (oq_move rfl) rfl rfl rfl ?_
                            refine WL.q (oq_ixaddr hr Tryd.underlying36 ty9 rfl rfl (by (first | omega | (simp only [List.length_cons, List.length_nil, List.length_append, List.length_drop, List.length_take]; omega)))) rfl rfl rfl ?_
                            refine WL.q (oq_load_str hr (.head _) flat9 rfl (by (first | omega | (simp only [List.length_cons, List.length_nil, List.length_append, List.length_drop, List.length_take]; omega))) (by first | exact Int.toNat_natCast _ | exact rfl)) rfl rfl rfl ?_
                            refine WL.q (oq_len_s Tryd.underlying9 rfl) rfl rfl rfl ?_
                            refine WL.q (oq_gtr rfl rfl) rfl rfl rfl ?_
                            refine WL.q (oq_pick_f rfl rfl) rfl rfl rfl ?_
                            refine WL.nil ?_
                            refine WE.then_normal ?_
                            refine WC.sub (fr' := [(0, _), (1, _), (5, _), (6, _), (7, _), (8, _), (9, _), (10, _), (64, _)]) ?_ ⟨rfl, rfl, rfl, rfl, rfl, rfl, rfl, rfl, rfl, trivial⟩
                            refine WC.cond rfl (fun q14 => ?_) (fun q14 => ?_)
                            ·
                              try simp only [Bool.not_eq_eq_eq_not, Bool.not_true, Bool.not_false, decide_eq_true_eq, decide_eq_false_iff_not, Int.not_lt, Int.not_le, ne_eq, Decidable.not_not, ← List.length_eq_zero_iff] at q14
                              refine WC.seq ?_
                              refine WC.region ?_
                              refine WL.qc (oq_call (J0.hAwake) call15 rfl) rfl rfl rfl ?_
                              refine WL.q (oq_assign rfl) rfl rfl rfl ?_
                              refine WL.nil ?_
                              refine WE.then_normal ?_
                              refine WC.sub (fr' := [(4, _)]) ?_ ⟨rfl, trivial⟩
                              refine WC.ret ?_
                              refine WE.then_ret ?_
                              refine WE.block_ret ?_
                              refine WE.then_ret ?_
                              refine WE.then_ret ?_
                              refine WE.block_ret ?_
                              refine WE.then_ret ?_
                              refine WE.block_ret ?_
                              refine WE.then_ret ?_
                              refine WE.then_ret ?_
                              refine WE.block_ret ?_
                              refine WE.then_ret ?_
                              refine WE.endR (.inl rfl) (res1 Tryd.results8 rfl) ?_
                              -- end 6
                              first | rfl | (exfalso; simp_all; done) | (simp; done) | trace_state
                            ·
                              try simp only [Bool.not_eq_eq_eq_not, Bool.not_true, Bool.not_false, decide_eq_true_eq, decide_eq_false_iff_not, Int.not_lt, Int.not_le, ne_eq, Decidable.not_not, ← List.length_eq_zero_iff] at q14
                              refine WC.skip ?_
                              refine WE.meet () ?_ ⟨rfl, rfl, rfl, rfl, rfl, rfl, rfl, rfl, trivial⟩ (List.Perm.refl _)
                              try dsimp only
                              exact ⟨by omega, by omega, by omega⟩   -- meet 0
                      · rintro _ hp
                        try dsimp only at hp
                        obtain ⟨hc128, hc10, hul⟩ := hp
                        show WC _ _ _ _ _ _ ([(0, v), (1, vq), (5, S (J es)), (6, I (i : Int)), (7, .bool pl), (8, S ow), (9, I (k : Int)), (10, .int .u8 c13_5)]) ([A])
                        refine WC.cut (ι := Bool) (fun (pl2 : Bool) => [(0, v), (1, vq), (5, S (J es)), (6, I (i : Int)), (7, .bool pl2), (8, S ow), (9, I (k : Int)), (10, .int .u8 c13_5)]) (fun (pl2 : Bool) => [A]) (fun (pl2 : Bool) => pl2 = (pl && decide (c13_5 ≠ 44 ∧ c13_5 ≠ 34))) ?_ ?_
                        ·
                          refine WC.region ?_
                          refine WL.q (oq_move rfl) rfl rfl rfl ?_
                          refine WL.q (oq_move rfl) rfl rfl rfl ?_
                          refine WL.split 67 rfl (fun s16_1 => ?_) (fun s16_1 => ?_)
                          ·
                            try simp only [Bool.not_eq_eq_eq_not, Bool.not_true, Bool.not_false, decide_eq_true_eq, decide_eq_false_iff_not, Int.not_lt, Int.not_le, ne_eq, Decidable.not_not, ← List.length_eq_zero_iff] at s16_1
                            refine WL.q (oq_move rfl) rfl rfl rfl ?_
                            refine WL.q (oq_neq rfl rfl) rfl rfl rfl ?_
                            refine WL.q (oq_pick_t rfl rfl) rfl rfl rfl ?_
                            refine WL.q (oq_move rfl) rfl rfl rfl ?_
                            refine WL.split 71 rfl (fun s16_5 => ?_) (fun s16_5 => ?_)
                            ·
                              try simp only [Bool.not_eq_eq_eq_not, Bool.not_true, Bool.not_false, decide_eq_true_eq, decide_eq_false_iff_not, Int.not_lt, Int.not_le, ne_eq, Decidable.not_not, ← List.length_eq_zero_iff] at s16_5
                              refine WL.q (oq_move rfl) rfl rfl rfl ?_
                              refine WL.q (oq_neq rfl rfl) rfl rfl rfl ?_
                              refine WL.q (oq_pick_t rfl rfl) rfl rfl rfl ?_
                              refine WL.q (oq_assign rfl) rfl rfl rfl ?_
                              refine WL.nil ?_
                              refine WE.meet _ ?_ ⟨rfl, rfl, rfl, rfl, rfl, rfl, rfl, rfl, trivial⟩ (List.Perm.refl _)
                              try dsimp only
                              first | (rw [s16_1, Bool.true_and]; exact decide_eq_decide.2 ⟨fun h => ⟨s16_5, h⟩, fun h => h.2⟩) | (rw [s16_1, Bool.true_and]; exact (decide_eq_false (fun h => h.1 s16_5)).symm) | (rw [s16_1]; rfl) | trace_state   -- meet 0
                            ·
                              try simp only [Bool.not_eq_eq_eq_not, Bool.not_true, Bool.not_false, decide_eq_true_eq, decide_eq_false_iff_not, Int.not_lt, Int.not_le, ne_eq, Decidable.not_not, ← List.length_eq_zero_iff] at s16_5
                              refine WL.skip rfl rfl rfl ?_
                              refine WL.skip rfl rfl rfl ?_
                              refine WL.q (oq_pick_f rfl rfl) rfl rfl rfl ?_
                              refine WL.q (oq_assign rfl) rfl rfl rfl ?_
                              refine WL.nil ?_
                              refine WE.meet _ ?_ ⟨rfl, rfl, rfl, rfl, rfl, rfl, rfl, rfl, trivial⟩ (List.Perm.refl _)
                              try dsimp only
                              first | (rw [s16_1, Bool.true_and]; exact decide_eq_decide.2 ⟨fun h => ⟨s16_5, h⟩, fun h => h.2⟩) | (rw [s16_1, Bool.true_and]; exact (decide_eq_false (fun h => h.1 s16_5)).symm) | (rw [s16_1]; rfl) | trace_state   -- meet 1
                          ·
                            try simp only [Bool.not_eq_eq_eq_not, Bool.not_true, Bool.not_false, decide_eq_true_eq, decide_eq_false_iff_not, Int.not_lt, Int.not_le, ne_eq, Decidable.not_not, ← List.length_eq_zero_iff] at s16_1
                            refine WL.skip rfl rfl rfl ?_
                            refine WL.skip rfl rfl rfl ?_
                            refine WL.q (oq_pick_f rfl rfl) rfl rfl rfl ?_
                            refine WL.q (oq_move rfl) rfl rfl rfl ?_
                            refine WL.skip rfl rfl rfl ?_
                            refine WL.skip rfl rfl rfl ?_
                            refine WL.q (oq_pick_f rfl rfl) rfl rfl rfl ?_
                            refine WL.q (oq_assign rfl) rfl rfl rfl ?_
                            refine WL.nil ?_
                            refine WE.meet _ ?_ ⟨rfl, rfl, rfl, rfl, rfl, rfl, rfl, rfl, trivial⟩ (List.Perm.refl _)
                            try dsimp only
                            first | (rw [s16_1, Bool.true_and]; exact decide_eq_decide.2 ⟨fun h => ⟨s16_5, h⟩, fun h => h.2⟩) | (rw [s16_1, Bool.true_and]; exact (decide_eq_false (fun h => h.1 s16_5)).symm) | (rw [s16_1]; rfl) | trace_state   -- meet 2
                        · rintro pl2 hp
                          try dsimp only at hp
                          show WC _ _ _ _ _ _ ([(0, v), (1, vq), (5, S (J es)), (6, I (i : Int)), (7, .bool pl2), (8, S ow), (9, I (k : Int)), (10, .int .u8 c13_5)]) ([A])
                          have hpl2 := hp
                          refine WC.cut (ι := (List UInt8)) (fun (ow2 : List UInt8) => [(0, v), (1, vq), (5, S (J es)), (6, I (i : Int)), (7, .bool pl2), (8, S ow2), (9, I (k : Int))]) (fun (ow2 : List UInt8) => [A]) (fun (ow2 : List UInt8) => ow2 = ow ++ (if c13_5 = 34 ∨ c13_5 = 92 then [92] else [])) ?_ ?_
                          ·
                            refine WC.seq ?_
                            have hol := own_len ((ls.getD i []).take k)
                            rw [← how, List.length_take] at hol
                            refine WC.region ?_
                            refine WL.q (oq_move rfl) rfl rfl rfl ?_
                            refine WL.q (oq_eql rfl rfl) rfl rfl rfl ?_
                            refine WL.q (oq_move rfl) rfl rfl rfl ?_
                            refine WL.split 77 rfl (fun s17_2 => ?_) (fun s17_2 => ?_)
                            ·
                              try simp only [Bool.not_eq_eq_eq_not, Bool.not_true, Bool.not_false, decide_eq_true_eq, decide_eq_false_iff_not, Int.not_lt, Int.not_le, ne_eq, Decidable.not_not, ← List.length_eq_zero_iff] at s17_2
                              refine WL.skip rfl rfl rfl ?_
                              refine WL.skip rfl rfl rfl ?_
                              refine WL.q (oq_pick_t rfl rfl) rfl rfl rfl ?_
                              refine WL.nil ?_
                              refine WE.then_normal ?_
                              refine WC.sub (fr' := [(0, _), (1, _), (5, _), (6, _), (7, _), (8, _), (9, _), (80, _)]) ?_ ⟨rfl, rfl, rfl, rfl, rfl, rfl, rfl, rfl, trivial⟩
                              refine WC.cond_t rfl ?_
                              refine WC.region ?_
                              refine WL.q (oq_move rfl) rfl rfl rfl ?_
                              refine WL.q (oq_concat rfl rfl (by (first | omega | (simp only [List.length_cons, List.length_nil, List.length_append] at *; omega) | (simp only [List.length_cons, List.length_nil, List.length_append]; omega)))) rfl rfl rfl ?_
                              refine WL.q (oq_assign rfl) rfl rfl rfl ?_
                              refine WL.nil ?_
                              refine WE.meet _ ?_ ⟨rfl, rfl, rfl, rfl, rfl, rfl, rfl, trivial⟩ (List.Perm.refl _)
                              try dsimp only
                              first | (rw [if_pos (by omega)]) | (rw [if_neg (by omega), List.append_nil]) | trace_state   -- meet 0
                            ·
                              try simp only [Bool.not_eq_eq_eq_not, Bool.not_true, Bool.not_false, decide_eq_true_eq, decide_eq_false_iff_not, Int.not_lt, Int.not_le, ne_eq, Decidable.not_not, ← List.length_eq_zero_iff] at s17_2
                              refine WL.q (oq_move rfl) rfl rfl rfl ?_
                              refine WL.q (oq_eql rfl rfl) rfl rfl rfl ?_
                              refine WL.q (oq_pick_f rfl rfl) rfl rfl rfl ?_
                              refine WL.nil ?_
                              refine WE.then_normal ?_
                              refine WC.sub (fr' := [(0, _), (1, _), (5, _), (6, _), (7, _), (8, _), (9, _), (80, _)]) ?_ ⟨rfl, rfl, rfl, rfl, rfl, rfl, rfl, rfl, trivial⟩
                              refine WC.cond rfl (fun q17 => ?_) (fun q17 => ?_)
                              ·
                                try simp only [Bool.not_eq_eq_eq_not, Bool.not_true, Bool.not_false, decide_eq_true_eq, decide_eq_false_iff_not, Int.not_lt, Int.not_le, ne_eq, Decidable.not_not, ← List.length_eq_zero_iff] at q17
                                refine WC.region ?_
                                refine WL.q (oq_move rfl) rfl rfl rfl ?_
                                refine WL.q (oq_concat rfl rfl (by (first | omega | (simp only [List.length_cons, List.length_nil, List.length_append] at *; omega) | (simp only [List.length_cons, List.length_nil, List.length_append]; omega)))) rfl rfl rfl ?_
                                refine WL.q (oq_assign rfl) rfl rfl rfl ?_
                                refine WL.nil ?_
                                refine WE.meet _ ?_ ⟨rfl, rfl, rfl, rfl, rfl, rfl, rfl, trivial⟩ (List.Perm.refl _)
                                try dsimp only
                                first | (rw [if_pos (by omega)]) | (rw [if_neg (by omega), List.append_nil]) | trace_state   -- meet 1
                              ·
                                try simp only [Bool.not_eq_eq_eq_not, Bool.not_true, Bool.not_false, decide_eq_true_eq, decide_eq_false_iff_not, Int.not_lt, Int.not_le, ne_eq, Decidable.not_not, ← List.length_eq_zero_iff] at q17
                                refine WC.skip ?_
                                refine WE.meet _ ?_ ⟨rfl, rfl, rfl, rfl, rfl, rfl, rfl, trivial⟩ (List.Perm.refl _)
                                try dsimp only
                                first | (rw [if_pos (by omega)]) | (rw [if_neg (by omega), List.append_nil]) | trace_state   -- meet 2
                          · rintro ow2 hp
                            try dsimp only at hp
                            show WC _ _ _ _ _ _ ([(0, v), (1, vq), (5, S (J es)), (6, I (i : Int)), (7, .bool pl2), (8, S ow2), (9, I (k : Int))]) ([A])
                            have how2 := hp
                            have hol := own_len ((ls.getD i []).take k)
                            rw [← how, List.length_take] at hol
                            have hol2 : ow2.length ≤ ow.length + 1 := by rw [how2]; split <;> simp
                            have hcl : (cut (ls.getD i []) (k : Int) ((k : Int) + 1)).length = 1 := by rw [cut1 _ k (by omega)]; rfl
                            refine WC.region ?_
                            refine WL.q (oq_move rfl) rfl rfl rfl ?_
                            refine WL.q (oq_move rfl) rfl rfl rfl ?_
                            refine WL.q (oq_move rfl) rfl rfl rfl ?_
                            refine WL.q (oq_ixaddr hr Tryd.underlying36 ty9 rfl rfl (by (first | omega | (simp only [List.length_cons, List.length_nil, List.length_append, List.length_drop, List.length_take]; omega)))) rfl rfl rfl ?_
                            refine WL.q (oq_load_str hr (.head _) flat9 rfl (by (first | omega | (simp only [List.length_cons, List.length_nil, List.length_append, List.length_drop, List.length_take]; omega))) (by first | exact Int.toNat_natCast _ | exact rfl)) rfl rfl rfl ?_
                            refine WL.q (oq_move rfl) rfl rfl rfl ?_
                            refine WL.q (oq_move rfl) rfl rfl rfl ?_
                            refine WL.q (oq_add rfl rfl (by rw [i64_lo, i64_hi]; (first | omega | (simp only [List.length_cons, List.length_nil, List.length_append, List.length_drop, List.length_take]; omega)))) rfl rfl rfl ?_
                            refine WL.q (oq_slice_s2 Tryd.underlying9 rfl rfl rfl (by (first | omega | (simp only [List.length_cons, List.length_nil, List.length_append, List.length_drop, List.length_take]; omega)))) rfl rfl rfl ?_
                            refine WL.q (oq_concat rfl rfl (by (first | omega | (simp only [List.length_cons, List.length_nil, List.length_append] at *; omega) | (simp only [List.length_cons, List.length_nil, List.length_append]; omega)))) rfl rfl rfl ?_
                            refine WL.q (oq_assign rfl) rfl rfl rfl ?_
                            refine WL.nil ?_
                            refine WE.block_normal ?_
                            refine WE.then_normal ?_
                            refine WC.sub (fr' := [(0, _), (1, _), (5, _), (6, _), (7, _), (8, _), (9, _)]) ?_ ⟨rfl, rfl, rfl, rfl, rfl, rfl, rfl, trivial⟩
                            refine WC.region ?_
                            refine WL.q (oq_move rfl) rfl rfl rfl ?_
                            refine WL.q (oq_add rfl rfl (by rw [i64_lo, i64_hi]; (first | omega | (simp only [List.length_cons, List.length_nil, List.length_append, List.length_drop, List.length_take]; omega)))) rfl rfl rfl ?_
                            refine WL.q (oq_assign rfl) rfl rfl rfl ?_
                            refine WL.nil ?_
                            refine WE.again (k + 1, pl2, _) ?_ ?_ ⟨rfl, rfl, rfl, rfl, rfl, rfl, rfl, trivial⟩ (List.Perm.refl _)
                            · try dsimp only   -- again 0
                              refine ⟨by omega, fun _ => by omega, fun j hj => ?_, by rw [hpl2, hpl, plc_step (by omega) hc13_5], by rw [how2, how, own_step (by omega) hc13_5]⟩
                              rcases Nat.lt_or_ge j k with h | h
                              · exact hkb j h
                              · rw [show j = k by omega, ← hc13_5]; exact ⟨by omega, by omega⟩
                            · (try dsimp only); omega
                    ·
                      try simp only [Bool.not_eq_eq_eq_not, Bool.not_true, Bool.not_false, decide_eq_true_eq, decide_eq_false_iff_not, Int.not_lt, Int.not_le, ne_eq, Decidable.not_not, ← List.length_eq_zero_iff] at q11
                      refine WC.exit ?_
                      refine WE.then_exit ?_
                      refine WE.then_exit ?_
                      refine WE.block_same ?_
                      refine WE.meet () ?_ ⟨rfl, rfl, rfl, rfl, (gtv rfl (by rw [hpl, List.take_of_length_le (by omega)])), (gtv rfl (by rw [how, List.take_of_length_le (by omega)])), trivial⟩ (List.Perm.refl _)
                      try dsimp only
                      exact ⟨by omega, fun j hj => (hkb j (by omega)).1, no10 (fun j hj => (hkb j (by omega)).2)⟩   -- meet 0
                · rintro _ hp
                  try dsimp only at hp
                  obtain ⟨hul, hau, hu10⟩ := hp
                  show WC _ _ _ _ _ _ ([(0, v), (1, vq), (5, S (J es)), (6, I (i : Int)), (7, .bool ((ls.getD i []).all plc)), (8, S (own (ls.getD i [])))]) ([A])
                  refine WC.cut (ι := (List UInt8)) (fun (s1 : List UInt8) => [(0, v), (1, vq), (5, S s1), (6, I (i : Int)), (7, .bool ((ls.getD i []).all plc)), (8, S (own (ls.getD i [])))]) (fun (s1 : List UInt8) => [A]) (fun (s1 : List UInt8) => s1 = J es ++ (if i = 0 then [] else [44, 32]) ∧ s1.length ≤ i * 206 + 2) ?_ ?_
                  ·
                    refine WC.seq ?_
                    refine WC.region ?_
                    refine WL.q (oq_move rfl) rfl rfl rfl ?_
                    refine WL.q (oq_gtr rfl rfl) rfl rfl rfl ?_
                    refine WL.nil ?_
                    refine WE.then_normal ?_
                    refine WC.sub (fr' := [(0, _), (1, _), (5, _), (6, _), (7, _), (8, _), (94, _)]) ?_ ⟨rfl, rfl, rfl, rfl, rfl, rfl, rfl, trivial⟩
                    refine WC.cond rfl (fun q20 => ?_) (fun q20 => ?_)
                    ·
                      try simp only [Bool.not_eq_eq_eq_not, Bool.not_true, Bool.not_false, decide_eq_true_eq, decide_eq_false_iff_not, Int.not_lt, Int.not_le, ne_eq, Decidable.not_not, ← List.length_eq_zero_iff] at q20
                      refine WC.region ?_
                      refine WL.q (oq_move rfl) rfl rfl rfl ?_
                      refine WL.q (oq_concat rfl rfl (by (first | omega | (simp only [List.length_cons, List.length_nil, List.length_append] at *; omega) | (simp only [List.length_cons, List.length_nil, List.length_append]; omega)))) rfl rfl rfl ?_
                      refine WL.q (oq_assign rfl) rfl rfl rfl ?_
                      refine WL.nil ?_
                      refine WE.meet _ ?_ ⟨rfl, rfl, rfl, rfl, rfl, rfl, trivial⟩ (List.Perm.refl _)
                      try dsimp only
                      first | (exact ⟨by rw [if_neg (by omega)], by simp; omega⟩) | (exact ⟨by rw [if_pos (by omega), List.append_nil], by omega⟩)   -- meet 0
                    ·
                      try simp only [Bool.not_eq_eq_eq_not, Bool.not_true, Bool.not_false, decide_eq_true_eq, decide_eq_false_iff_not, Int.not_lt, Int.not_le, ne_eq, Decidable.not_not, ← List.length_eq_zero_iff] at q20
                      refine WC.skip ?_
                      refine WE.meet _ ?_ ⟨rfl, rfl, rfl, rfl, rfl, rfl, trivial⟩ (List.Perm.refl _)
                      try dsimp only
                      first | (exact ⟨by rw [if_neg (by omega)], by simp; omega⟩) | (exact ⟨by rw [if_pos (by omega), List.append_nil], by omega⟩)   -- meet 1
                  · rintro s1 hp
                    try dsimp only at hp
                    obtain ⟨hs1, hs1l⟩ := hp
                    show WC _ _ _ _ _ _ ([(0, v), (1, vq), (5, S s1), (6, I (i : Int)), (7, .bool ((ls.getD i []).all plc)), (8, S (own (ls.getD i [])))]) ([A])
                    refine WC.seq ?_
                    have hol := own_len (ls.getD i [])
                    refine WC.quiet (by kernel_rfl) (by kernel_rfl) ?_
                    refine WQ.q (oq_move rfl) rfl rfl rfl ?_
                    refine WQ.q (oq_move rfl) rfl rfl rfl ?_
                    refine WQ.q (oq_ixaddr hr Tryd.underlying36 ty9 rfl rfl (by (first | omega | (simp only [List.length_cons, List.length_nil, List.length_append, List.length_drop, List.length_take]; omega)))) rfl rfl rfl ?_
                    refine WQ.q (oq_load_str hr (.head _) flat9 rfl (by (first | omega | (simp only [List.length_cons, List.length_nil, List.length_append, List.length_drop, List.length_take]; omega))) (by first | exact Int.toNat_natCast _ | exact rfl)) rfl rfl rfl ?_
                    refine WQ.q (oq_sneq rfl rfl) rfl rfl rfl ?_
                    refine WQ.q (oq_move rfl) rfl rfl rfl ?_
                    refine WQ.split 102 rfl (fun s22_5 => ?_) (fun s22_5 => ?_)
                    ·
                      try simp only [Bool.not_eq_eq_eq_not, Bool.not_true, Bool.not_false, decide_eq_true_eq, decide_eq_false_iff_not, Int.not_lt, Int.not_le, ne_eq, Decidable.not_not, ← List.length_eq_zero_iff] at s22_5
                      refine WQ.q (oq_move rfl) rfl rfl rfl ?_
                      refine WQ.q (oq_not rfl) rfl rfl rfl ?_
                      refine WQ.q (oq_move rfl) rfl rfl rfl ?_
                      refine WQ.split 105 rfl (fun s22_8 => ?_) (fun s22_8 => ?_)
                      ·
                        try simp only [Bool.not_eq_eq_eq_not, Bool.not_true, Bool.not_false, decide_eq_true_eq, decide_eq_false_iff_not, Int.not_lt, Int.not_le, ne_eq, Decidable.not_not, ← List.length_eq_zero_iff] at s22_8
                        refine WQ.skip rfl rfl rfl ?_
                        refine WQ.skip rfl rfl rfl ?_
                        refine WQ.skip rfl rfl rfl ?_
                        refine WQ.skip rfl rfl rfl ?_
                        refine WQ.skip rfl rfl rfl ?_
                        refine WQ.skip rfl rfl rfl ?_
                        refine WQ.skip rfl rfl rfl ?_
                        refine WQ.skip rfl rfl rfl ?_
                        refine WQ.skip rfl rfl rfl ?_
                        refine WQ.skip rfl rfl rfl ?_
                        refine WQ.q (oq_pick_t rfl rfl) rfl rfl rfl ?_
                        refine WQ.q (oq_move rfl) rfl rfl rfl ?_
                        refine WQ.skip rfl rfl rfl ?_
                        refine WQ.skip rfl rfl rfl ?_
                        refine WQ.skip rfl rfl rfl ?_
                        refine WQ.skip rfl rfl rfl ?_
                        refine WQ.skip rfl rfl rfl ?_
                        refine WQ.skip rfl rfl rfl ?_
                        refine WQ.skip rfl rfl rfl ?_
                        refine WQ.skip rfl rfl rfl ?_
                        refine WQ.skip rfl rfl rfl ?_
                        refine WQ.skip rfl rfl rfl ?_
                        refine WQ.q (oq_pick_t rfl rfl) rfl rfl rfl ?_
                        refine WQ.q (oq_pick_t rfl rfl) rfl rfl rfl ?_
                        refine WQ.nil ?_
                        refine WE.then_normal ?_
                        refine WC.sub (fr' := [(0, _), (1, _), (5, _), (6, _), (8, _), (129, _)]) ?_ ⟨rfl, rfl, rfl, rfl, rfl, rfl, trivial⟩
                        refine WC.cond_t rfl ?_
                        refine WC.region ?_
                        refine WL.q (oq_move rfl) rfl rfl rfl ?_
                        refine WL.q (oq_concat rfl rfl (by (first | omega | (simp only [List.length_cons, List.length_nil, List.length_append] at *; omega) | (simp only [List.length_cons, List.length_nil, List.length_append]; omega)))) rfl rfl rfl ?_
                        refine WL.q (oq_move rfl) rfl rfl rfl ?_
                        refine WL.q (oq_concat rfl rfl (by (first | omega | (simp only [List.length_cons, List.length_nil, List.length_append] at *; omega) | (simp only [List.length_cons, List.length_nil, List.length_append]; omega)))) rfl rfl rfl ?_
                        refine WL.q (oq_concat rfl rfl (by (first | omega | (simp only [List.length_cons, List.length_nil, List.length_append] at *; omega) | (simp only [List.length_cons, List.length_nil, List.length_append]; omega)))) rfl rfl rfl ?_
                        refine WL.q (oq_assign rfl) rfl rfl rfl ?_
                        refine WL.nil ?_
                        refine WE.block_normal ?_
                        refine WE.meet _ ?_ ⟨rfl, rfl, rfl, rfl, trivial⟩ (List.Perm.refl _)
                        try dsimp only
                        first | (exact encE hs1 hs1l hau hul (encQ (by assumption) hu10 hul)) | (exact encE hs1 hs1l hau hul (encU0 (by assumption))) | (exact encE hs1 hs1l hau hul (encU1 (by simp_all) (by simp_all) hul)) | trace_state   -- meet 0
                      ·
                        try simp only [Bool.not_eq_eq_eq_not, Bool.not_true, Bool.not_false, decide_eq_true_eq, decide_eq_false_iff_not, Int.not_lt, Int.not_le, ne_eq, Decidable.not_not, ← List.length_eq_zero_iff] at s22_8
                        refine WQ.q (oq_move rfl) rfl rfl rfl ?_
                        refine WQ.q (oq_move rfl) rfl rfl rfl ?_
                        refine WQ.q (oq_ixaddr hr Tryd.underlying36 ty9 rfl rfl (by (first | omega | (simp only [List.length_cons, List.length_nil, List.length_append, List.length_drop, List.length_take]; omega)))) rfl rfl rfl ?_
                        refine WQ.q (oq_load_str hr (.head _) flat9 rfl (by (first | omega | (simp only [List.length_cons, List.length_nil, List.length_append, List.length_drop, List.length_take]; omega))) (by first | exact Int.toNat_natCast _ | exact rfl)) rfl rfl rfl ?_
                        refine WQ.qc (oq_call (hTrim _ (by omega)) call25 rfl) rfl rfl rfl ?_
                        refine WQ.q (oq_move rfl) rfl rfl rfl ?_
                        refine WQ.q (oq_move rfl) rfl rfl rfl ?_
                        refine WQ.q (oq_ixaddr hr Tryd.underlying36 ty9 rfl rfl (by (first | omega | (simp only [List.length_cons, List.length_nil, List.length_append, List.length_drop, List.length_take]; omega)))) rfl rfl rfl ?_
                        refine WQ.q (oq_load_str hr (.head _) flat9 rfl (by (first | omega | (simp only [List.length_cons, List.length_nil, List.length_append, List.length_drop, List.length_take]; omega))) (by first | exact Int.toNat_natCast _ | exact rfl)) rfl rfl rfl ?_
                        refine WQ.q (oq_sneq rfl rfl) rfl rfl rfl ?_
                        refine WQ.q (oq_pick_f rfl rfl) rfl rfl rfl ?_
                        refine WQ.q (oq_move rfl) rfl rfl rfl ?_
                        refine WQ.split 117 rfl (fun s22_20 => ?_) (fun s22_20 => ?_)
                        ·
                          try simp only [Bool.not_eq_eq_eq_not, Bool.not_true, Bool.not_false, decide_eq_true_eq, decide_eq_false_iff_not, Int.not_lt, Int.not_le, ne_eq, Decidable.not_not, ← List.length_eq_zero_iff] at s22_20
                          refine WQ.skip rfl rfl rfl ?_
                          refine WQ.skip rfl rfl rfl ?_
                          refine WQ.skip rfl rfl rfl ?_
                          refine WQ.skip rfl rfl rfl ?_
                          refine WQ.skip rfl rfl rfl ?_
                          refine WQ.skip rfl rfl rfl ?_
                          refine WQ.skip rfl rfl rfl ?_
                          refine WQ.skip rfl rfl rfl ?_
                          refine WQ.skip rfl rfl rfl ?_
                          refine WQ.skip rfl rfl rfl ?_
                          refine WQ.q (oq_pick_t rfl rfl) rfl rfl rfl ?_
                          refine WQ.q (oq_pick_t rfl rfl) rfl rfl rfl ?_
                          refine WQ.nil ?_
                          refine WE.then_normal ?_
                          refine WC.sub (fr' := [(0, _), (1, _), (5, _), (6, _), (8, _), (129, _)]) ?_ ⟨rfl, rfl, rfl, rfl, rfl, rfl, trivial⟩
                          refine WC.cond_t rfl ?_
                          refine WC.region ?_
                          refine WL.q (oq_move rfl) rfl rfl rfl ?_
                          refine WL.q (oq_concat rfl rfl (by (first | omega | (simp only [List.length_cons, List.length_nil, List.length_append] at *; omega) | (simp only [List.length_cons, List.length_nil, List.length_append]; omega)))) rfl rfl rfl ?_
                          refine WL.q (oq_move rfl) rfl rfl rfl ?_
                          refine WL.q (oq_concat rfl rfl (by (first | omega | (simp only [List.length_cons, List.length_nil, List.length_append] at *; omega) | (simp only [List.length_cons, List.length_nil, List.length_append]; omega)))) rfl rfl rfl ?_
                          refine WL.q (oq_concat rfl rfl (by (first | omega | (simp only [List.length_cons, List.length_nil, List.length_append] at *; omega) | (simp only [List.length_cons, List.length_nil, List.length_append]; omega)))) rfl rfl rfl ?_
                          refine WL.q (oq_assign rfl) rfl rfl rfl ?_
                          refine WL.nil ?_
                          refine WE.block_normal ?_
                          refine WE.meet _ ?_ ⟨rfl, rfl, rfl, rfl, trivial⟩ (List.Perm.refl _)
                          try dsimp only
                          first | (exact encE hs1 hs1l hau hul (encQ (by assumption) hu10 hul)) | (exact encE hs1 hs1l hau hul (encU0 (by assumption))) | (exact encE hs1 hs1l hau hul (encU1 (by simp_all) (by simp_all) hul)) | trace_state   -- meet 1
                        ·
                          try simp only [Bool.not_eq_eq_eq_not, Bool.not_true, Bool.not_false, decide_eq_true_eq, decide_eq_false_iff_not, Int.not_lt, Int.not_le, ne_eq, Decidable.not_not, ← List.length_eq_zero_iff] at s22_20
                          refine WQ.q (oq_move rfl) rfl rfl rfl ?_
                          refine WQ.q (oq_move rfl) rfl rfl rfl ?_
                          refine WQ.q (oq_len_rd hrq Tryd.underlying47 rfl) rfl rfl rfl ?_
                          refine WQ.q (oq_lss rfl rfl) rfl rfl rfl ?_
                          refine WQ.q (oq_move rfl) rfl rfl rfl ?_
                          refine WQ.split 122 rfl (fun s22_25 => ?_) (fun s22_25 => ?_)
                          ·
                            try simp only [Bool.not_eq_eq_eq_not, Bool.not_true, Bool.not_false, decide_eq_true_eq, decide_eq_false_iff_not, Int.not_lt, Int.not_le, ne_eq, Decidable.not_not, ← List.length_eq_zero_iff] at s22_25
                            refine WQ.q (oq_move rfl) rfl rfl rfl ?_
                            refine WQ.q (oq_move rfl) rfl rfl rfl ?_
                            refine WQ.q (oq_ixaddr hrq Tryd.underlying47 ty4 rfl rfl (by (first | omega | (simp only [List.length_cons, List.length_nil, List.length_append, List.length_drop, List.length_take]; omega)))) rfl rfl rfl ?_
                            refine WQ.q (oq_load_bool hrq (.head _) flat4 rfl (by (first | omega | (simp only [List.length_cons, List.length_nil, List.length_append, List.length_drop, List.length_take]; omega))) (by first | exact Int.toNat_natCast _ | exact rfl)) rfl rfl rfl ?_
                            refine WQ.q (oq_pick_t rfl rfl) rfl rfl rfl ?_
                            refine WQ.q (oq_pick_f rfl rfl) rfl rfl rfl ?_
                            refine WQ.q (oq_pick_t rfl rfl) rfl rfl rfl ?_
                            refine WQ.nil ?_
                            refine WE.then_normal ?_
                            refine WC.sub (fr' := [(0, _), (1, _), (5, _), (6, _), (8, _), (129, _)]) ?_ ⟨rfl, rfl, rfl, rfl, rfl, rfl, trivial⟩
                            refine WC.cond rfl (fun q22 => ?_) (fun q22 => ?_)
                            ·
                              try simp only [Bool.not_eq_eq_eq_not, Bool.not_true, Bool.not_false, decide_eq_true_eq, decide_eq_false_iff_not, Int.not_lt, Int.not_le, ne_eq, Decidable.not_not, ← List.length_eq_zero_iff] at q22
                              refine WC.region ?_
                              refine WL.q (oq_move rfl) rfl rfl rfl ?_
                              refine WL.q (oq_concat rfl rfl (by (first | omega | (simp only [List.length_cons, List.length_nil, List.length_append] at *; omega) | (simp only [List.length_cons, List.length_nil, List.length_append]; omega)))) rfl rfl rfl ?_
                              refine WL.q (oq_move rfl) rfl rfl rfl ?_
                              refine WL.q (oq_concat rfl rfl (by (first | omega | (simp only [List.length_cons, List.length_nil, List.length_append] at *; omega) | (simp only [List.length_cons, List.length_nil, List.length_append]; omega)))) rfl rfl rfl ?_
                              refine WL.q (oq_concat rfl rfl (by (first | omega | (simp only [List.length_cons, List.length_nil, List.length_append] at *; omega) | (simp only [List.length_cons, List.length_nil, List.length_append]; omega)))) rfl rfl rfl ?_
                              refine WL.q (oq_assign rfl) rfl rfl rfl ?_
                              refine WL.nil ?_
                              refine WE.block_normal ?_
                              refine WE.meet _ ?_ ⟨rfl, rfl, rfl, rfl, trivial⟩ (List.Perm.refl _)
                              try dsimp only
                              first | (exact encE hs1 hs1l hau hul (encQ (by assumption) hu10 hul)) | (exact encE hs1 hs1l hau hul (encU0 (by assumption))) | (exact encE hs1 hs1l hau hul (encU1 (by simp_all) (by simp_all) hul)) | trace_state   -- meet 2
                            ·
                              try simp only [Bool.not_eq_eq_eq_not, Bool.not_true, Bool.not_false, decide_eq_true_eq, decide_eq_false_iff_not, Int.not_lt, Int.not_le, ne_eq, Decidable.not_not, ← List.length_eq_zero_iff] at q22
                              refine WC.region ?_
                              refine WL.q (oq_move rfl) rfl rfl rfl ?_
                              refine WL.q (oq_move rfl) rfl rfl rfl ?_
                              refine WL.q (oq_move rfl) rfl rfl rfl ?_
                              refine WL.q (oq_ixaddr hr Tryd.underlying36 ty9 rfl rfl (by (first | omega | (simp only [List.length_cons, List.length_nil, List.length_append, List.length_drop, List.length_take]; omega)))) rfl rfl rfl ?_
                              refine WL.q (oq_load_str hr (.head _) flat9 rfl (by (first | omega | (simp only [List.length_cons, List.length_nil, List.length_append, List.length_drop, List.length_take]; omega))) (by first | exact Int.toNat_natCast _ | exact rfl)) rfl rfl rfl ?_
                              refine WL.q (oq_concat rfl rfl (by (first | omega | (simp only [List.length_cons, List.length_nil, List.length_append] at *; omega) | (simp only [List.length_cons, List.length_nil, List.length_append]; omega)))) rfl rfl rfl ?_
                              refine WL.q (oq_assign rfl) rfl rfl rfl ?_
                              refine WL.nil ?_
                              refine WE.block_normal ?_
                              refine WE.meet _ ?_ ⟨rfl, rfl, rfl, rfl, trivial⟩ (List.Perm.refl _)
                              try dsimp only
                              first | (exact encE hs1 hs1l hau hul (encQ (by assumption) hu10 hul)) | (exact encE hs1 hs1l hau hul (encU0 (by assumption))) | (exact encE hs1 hs1l hau hul (encU1 (by simp_all) (by simp_all) hul)) | trace_state   -- meet 3
                          ·
                            try simp only [Bool.not_eq_eq_eq_not, Bool.not_true, Bool.not_false, decide_eq_true_eq, decide_eq_false_iff_not, Int.not_lt, Int.not_le, ne_eq, Decidable.not_not, ← List.length_eq_zero_iff] at s22_25
                            refine WQ.skip rfl rfl rfl ?_
                            refine WQ.skip rfl rfl rfl ?_
                            refine WQ.skip rfl rfl rfl ?_
                            refine WQ.skip rfl rfl rfl ?_
                            refine WQ.q (oq_pick_f rfl rfl) rfl rfl rfl ?_
                            refine WQ.q (oq_pick_f rfl rfl) rfl rfl rfl ?_
                            refine WQ.q (oq_pick_t rfl rfl) rfl rfl rfl ?_
                            refine WQ.nil ?_
                            refine WE.then_normal ?_
                            refine WC.sub (fr' := [(0, _), (1, _), (5, _), (6, _), (8, _), (129, _)]) ?_ ⟨rfl, rfl, rfl, rfl, rfl, rfl, trivial⟩
                            refine WC.cond_f rfl ?_
                            refine WC.region ?_
                            refine WL.q (oq_move rfl) rfl rfl rfl ?_
                            refine WL.q (oq_move rfl) rfl rfl rfl ?_
                            refine WL.q (oq_move rfl) rfl rfl rfl ?_
                            refine WL.q (oq_ixaddr hr Tryd.underlying36 ty9 rfl rfl (by (first | omega | (simp only [List.length_cons, List.length_nil, List.length_append, List.length_drop, List.length_take]; omega)))) rfl rfl rfl ?_
                            refine WL.q (oq_load_str hr (.head _) flat9 rfl (by (first | omega | (simp only [List.length_cons, List.length_nil, List.length_append, List.length_drop, List.length_take]; omega))) (by first | exact Int.toNat_natCast _ | exact rfl)) rfl rfl rfl ?_
                            refine WL.q (oq_concat rfl rfl (by (first | omega | (simp only [List.length_cons, List.length_nil, List.length_append] at *; omega) | (simp only [List.length_cons, List.length_nil, List.length_append]; omega)))) rfl rfl rfl ?_
                            refine WL.q (oq_assign rfl) rfl rfl rfl ?_
                            refine WL.nil ?_
                            refine WE.block_normal ?_
                            refine WE.meet _ ?_ ⟨rfl, rfl, rfl, rfl, trivial⟩ (List.Perm.refl _)
                            try dsimp only
                            first | (exact encE hs1 hs1l hau hul (encQ (by assumption) hu10 hul)) | (exact encE hs1 hs1l hau hul (encU0 (by assumption))) | (exact encE hs1 hs1l hau hul (encU1 (by simp_all) (by simp_all) hul)) | trace_state   -- meet 4
                    ·
                      try simp only [Bool.not_eq_eq_eq_not, Bool.not_true, Bool.not_false, decide_eq_true_eq, decide_eq_false_iff_not, Int.not_lt, Int.not_le, ne_eq, Decidable.not_not, ← List.length_eq_zero_iff] at s22_5
                      refine WQ.skip rfl rfl rfl ?_
                      refine WQ.skip rfl rfl rfl ?_
                      refine WQ.skip rfl rfl rfl ?_
                      refine WQ.skip rfl rfl rfl ?_
                      refine WQ.skip rfl rfl rfl ?_
                      refine WQ.skip rfl rfl rfl ?_
                      refine WQ.skip rfl rfl rfl ?_
                      refine WQ.skip rfl rfl rfl ?_
                      refine WQ.skip rfl rfl rfl ?_
                      refine WQ.skip rfl rfl rfl ?_
                      refine WQ.skip rfl rfl rfl ?_
                      refine WQ.skip rfl rfl rfl ?_
                      refine WQ.skip rfl rfl rfl ?_
                      refine WQ.skip rfl rfl rfl ?_
                      refine WQ.skip rfl rfl rfl ?_
                      refine WQ.skip rfl rfl rfl ?_
                      refine WQ.skip rfl rfl rfl ?_
                      refine WQ.skip rfl rfl rfl ?_
                      refine WQ.skip rfl rfl rfl ?_
                      refine WQ.skip rfl rfl rfl ?_
                      refine WQ.skip rfl rfl rfl ?_
                      refine WQ.skip rfl rfl rfl ?_
                      refine WQ.skip rfl rfl rfl ?_
                      refine WQ.skip rfl rfl rfl ?_
                      refine WQ.skip rfl rfl rfl ?_
                      refine WQ.skip rfl rfl rfl ?_
                      refine WQ.q (oq_pick_f rfl rfl) rfl rfl rfl ?_
                      refine WQ.nil ?_
                      refine WE.then_normal ?_
                      refine WC.sub (fr' := [(0, _), (1, _), (5, _), (6, _), (8, _), (129, _)]) ?_ ⟨rfl, rfl, rfl, rfl, rfl, rfl, trivial⟩
                      refine WC.cond_f rfl ?_
                      refine WC.region ?_
                      refine WL.q (oq_move rfl) rfl rfl rfl ?_
                      refine WL.q (oq_move rfl) rfl rfl rfl ?_
                      refine WL.q (oq_move rfl) rfl rfl rfl ?_
                      refine WL.q (oq_ixaddr hr Tryd.underlying36 ty9 rfl rfl (by (first | omega | (simp only [List.length_cons, List.length_nil, List.length_append, List.length_drop, List.length_take]; omega)))) rfl rfl rfl ?_
                      refine WL.q (oq_load_str hr (.head _) flat9 rfl (by (first | omega | (simp only [List.length_cons, List.length_nil, List.length_append, List.length_drop, List.length_take]; omega))) (by first | exact Int.toNat_natCast _ | exact rfl)) rfl rfl rfl ?_
                      refine WL.q (oq_concat rfl rfl (by (first | omega | (simp only [List.length_cons, List.length_nil, List.length_append] at *; omega) | (simp only [List.length_cons, List.length_nil, List.length_append]; omega)))) rfl rfl rfl ?_
                      refine WL.q (oq_assign rfl) rfl rfl rfl ?_
                      refine WL.nil ?_
                      refine WE.block_normal ?_
                      refine WE.meet _ ?_ ⟨rfl, rfl, rfl, rfl, trivial⟩ (List.Perm.refl _)
                      try dsimp only
                      first | (exact encE hs1 hs1l hau hul (encQ (by assumption) hu10 hul)) | (exact encE hs1 hs1l hau hul (encU0 (by assumption))) | (exact encE hs1 hs1l hau hul (encU1 (by simp_all) (by simp_all) hul)) | trace_state   -- meet 5
              · rintro x hp
                try dsimp only at hp
                show WC _ _ _ _ _ _ ([(0, v), (1, vq), (5, S x), (6, I (i : Int))]) ([A])
                obtain ⟨e, he, hx, hxl, hau, hul⟩ := hp
                refine WC.region ?_
                refine WL.q (oq_move rfl) rfl rfl rfl ?_
                refine WL.q (oq_add rfl rfl (by rw [i64_lo, i64_hi]; (first | omega | (simp only [List.length_cons, List.length_nil, List.length_append, List.length_drop, List.length_take]; omega)))) rfl rfl rfl ?_
                refine WL.q (oq_assign rfl) rfl rfl rfl ?_
                refine WL.nil ?_
                have hJ : x = J (es ++ [e]) := by
                  rw [hx]
                  by_cases h0 : i = 0
                  · rw [if_pos h0, List.eq_nil_of_length_eq_zero (show es.length = 0 by omega)]; rfl
                  · rw [if_neg h0, J_snoc es e (fun h => h0 (by rw [← hes, h]; rfl))]
                subst hJ
                refine WE.again (i + 1, es ++ [e]) ?_ ?_ ⟨rfl, rfl, rfl, rfl, trivial⟩ (List.Perm.refl _)
                · try dsimp only   -- again 0
                  refine ⟨by omega, by simp; omega, fun k hk => ?_, hxl⟩
                  rcases Nat.lt_or_ge k i with h | h
                  · obtain ⟨h1, h2⟩ := hok k h
                    refine ⟨?_, h2⟩
                    rw [List.getD_eq_getElem?_getD (l := es ++ [e]), List.getElem?_append_left (by omega), ← List.getD_eq_getElem?_getD]; exact h1
                  · have hk2 : k = i := by omega
                    subst hk2
                    refine ⟨?_, hau, hul⟩
                    rw [List.getD_eq_getElem?_getD (l := es ++ [e]), List.getElem?_append_right (by omega), hes, Nat.sub_self]; exact he
                · (try dsimp only); omega
            ·
              try simp only [Bool.not_eq_eq_eq_not, Bool.not_true, Bool.not_false, decide_eq_true_eq, decide_eq_false_iff_not, Int.not_lt, Int.not_le, ne_eq, Decidable.not_not, ← List.length_eq_zero_iff] at q7
              refine WC.exit ?_
              refine WE.then_exit ?_
              refine WE.then_exit ?_
              refine WE.block_same ?_
              refine WE.then_normal ?_
              refine WC.sub (fr' := [(0, _), (5, _)]) ?_ ⟨rfl, rfl, trivial⟩
              refine WC.seq ?_
              have hne : ls ≠ [] := fun h => q3 (by rw [h]; rfl)
              have hpj := hpar_join (es := es) hne (by omega) (fun k hk => (hok k (by omega)).1) (fun k hk => (hok k (by omega)).2.1)
              have hgj := gath_one hpj
              have hall : ∀ k, k < [J es].length → ([J es].getD k []).length ≤ 5000 ∧ (hpar ([J es].getD k [])).2 = true := fun k hk => by
                have hk0 : k = 0 := by simpa using hk
                subst hk0
                exact ⟨by show (J es).length ≤ 5000; omega, by show (hpar (J es)).2 = true; rw [hpj]⟩
              refine WC.region ?_
              refine WL.q (oq_move rfl) rfl rfl rfl ?_
              refine WL.buildL Tryd.underlying36 ty9 rfl rfl (by decide) (by decide) rfl rfl rfl fun v25 A25 ho25 hne25 => ?_
              refine WL.callA (hSplit v25 A25 [J es] (by have := ho25.rd; simpa [strsV] using this) (by simp) hall) call24 rfl rfl rfl fun v25_2 N25_2 hR25_2 hN25_2 => ?_
              obtain ⟨ug, rfl, hog0⟩ := hR25_2
              have hog := hog0.rebase hN25_2
              rw [hgj] at hog ⊢
              refine WL.q (oq_move rfl) rfl rfl rfl ?_
              refine WL.q (oq_extract rfl rfl) rfl rfl rfl ?_
              refine WL.q (oq_extract rfl rfl) rfl rfl rfl ?_
              refine WL.q (oq_assign rfl) rfl rfl rfl ?_
              refine WL.q (oq_assign rfl) rfl rfl rfl ?_
              refine WL.nil ?_
              refine WE.then_normal ?_
              refine WC.sub (fr' := [(0, _), (11, _), (12, _)]) ?_ ⟨rfl, rfl, rfl, trivial⟩
              refine WC.seq ?_
              refine WC.region ?_
              refine WL.q (oq_move rfl) rfl rfl rfl ?_
              refine WL.q (oq_move rfl) rfl rfl rfl ?_
              refine WL.split 148 rfl (fun s26_1 => ?_) (fun s26_1 => ?_)
              ·
                try simp only [Bool.not_eq_eq_eq_not, Bool.not_true, Bool.not_false, decide_eq_true_eq, decide_eq_false_iff_not, Int.not_lt, Int.not_le, ne_eq, Decidable.not_not, ← List.length_eq_zero_iff] at s26_1
                refine WL.q (oq_move rfl) rfl rfl rfl ?_
                refine WL.q (oq_move rfl) rfl rfl rfl ?_
                refine WL.f2 ?_
                refine WL.f1 ?_
                refine WL.cat ?_
                refine WL.qc (oq_callRm (wSame _ _ (N25_2 ++ A) ls ls (RdS.weaken hog.rd fun x hx => List.mem_append_left _ hx) (RdS.weaken hr fun x hx => List.mem_append_right _ hx) (by omega)) (.head _) call21 rfl) rfl rfl rfl ?_
                refine uncat ?_
                refine WL.q (oq_pick_t rfl rfl) rfl rfl rfl ?_
                refine WL.q (oq_assign rfl) rfl rfl rfl ?_
                refine WL.nil ?_
                refine WE.then_normal ?_
                refine WC.sub (fr' := [(4, _)]) ?_ ⟨rfl, trivial⟩
                refine WC.ret ?_
                refine WE.forget hN25_2 ?_
                refine WE.f1 ?_
                refine WE.forget ho25.fresh ?_
                refine WE.endR (.inl rfl) (res1 Tryd.results8 rfl) ?_
                -- end 7
                first | rfl | (exfalso; simp_all; done) | (simp; done) | trace_state
              ·
                try simp only [Bool.not_eq_eq_eq_not, Bool.not_true, Bool.not_false, decide_eq_true_eq, decide_eq_false_iff_not, Int.not_lt, Int.not_le, ne_eq, Decidable.not_not, ← List.length_eq_zero_iff] at s26_1
                refine WL.skip rfl rfl rfl ?_
                refine WL.skip rfl rfl rfl ?_
                refine WL.skip rfl rfl rfl ?_
                refine WL.q (oq_pick_f rfl rfl) rfl rfl rfl ?_
                refine WL.q (oq_assign rfl) rfl rfl rfl ?_
                refine WL.nil ?_
                refine WE.then_normal ?_
                refine WC.sub (fr' := [(4, _)]) ?_ ⟨rfl, trivial⟩
                refine WC.ret ?_
                refine WE.forget hN25_2 ?_
                refine WE.forget ho25.fresh ?_
                refine WE.endR (.inl rfl) (res1 Tryd.results8 rfl) ?_
                -- end 8
                first | rfl | (exfalso; simp_all; done) | (simp; done) | trace_state

end M1
end Go.Proofs.YtcgpajknehhdgaaDoor
