/- Walk of the law on hosts. -/
import Derived.Test.YtbcmbmmnpnbakaaDoorN2
import Derived.Test.YtbcmbmmnpnbakaaDoorJ0
namespace Go.Proofs.YtbcmbmmnpnbakaaDoor
open Go Go.RowKit V L0 L1 L2 HB N0 N1 N2
set_option linter.unusedSimpArgs false
set_option linter.unusedVariables false
set_option maxRecDepth 10000
namespace N3
theorem call4 : Callable Tryd.prog 4 := ⟨_, Tryd.func4, rfl, by kernel_rfl⟩
theorem call5 : Callable Tryd.prog 5 := ⟨_, Tryd.func5, rfl, by kernel_rfl⟩
theorem call6 : Callable Tryd.prog 6 := ⟨_, Tryd.func6, rfl, by kernel_rfl⟩
theorem call7 : Callable Tryd.prog 7 := ⟨_, Tryd.func7, rfl, by kernel_rfl⟩
theorem call8 : Callable Tryd.prog 8 := ⟨_, Tryd.func8, rfl, by kernel_rfl⟩
theorem call9 : Callable Tryd.prog 9 := ⟨_, Tryd.func9, rfl, by kernel_rfl⟩
theorem call10 : Callable Tryd.prog 10 := ⟨_, Tryd.func10, rfl, by kernel_rfl⟩
theorem call16 : Callable Tryd.prog 16 := ⟨_, Tryd.func16, rfl, by kernel_rfl⟩
theorem flat9 : Flat Tryd.prog 9 := ⟨_, Tryd.underlying9, by simp⟩
theorem ty9 : Ty Tryd.prog 9 (S []) 1 16 := ty_of (by kernel_rfl)

theorem split_el {c : UInt8} : ∀ (m : Nat) (s : List UInt8), s.length ≤ m → ∀ x ∈ split [c] s, x.length ≤ s.length
  | 0, s, h => fun x hx => by
    have : s = [] := List.eq_nil_of_length_eq_zero (by omega)
    subst this
    rw [split_no (by simp)] at hx
    rw [List.mem_singleton.1 hx]; exact Nat.le_refl _
  | m + 1, s, h => fun x hx => by
    by_cases hc : c ∈ s
    · obtain ⟨i, hi, _, _, e⟩ := split_has hc
      rw [e] at hx
      rcases List.mem_cons.1 hx with h1 | h1
      · rw [h1]; simp; omega
      · have := split_el m (s.drop (i + 1)) (by rw [List.length_drop]; omega) x h1
        rw [List.length_drop] at this; omega
    · rw [split_no hc] at hx
      rw [List.mem_singleton.1 hx]; exact Nat.le_refl _
theorem split_getD {c : UInt8} (s : List UInt8) (i : Nat) : ((split [c] s).getD i []).length ≤ s.length := by
  rcases Nat.lt_or_ge i (split [c] s).length with h | h
  · rw [List.getD_eq_getElem?_getD, List.getElem?_eq_getElem h]
    exact split_el s.length s (Nat.le_refl _) _ (List.getElem_mem h)
  · rw [List.getD_eq_getElem?_getD, List.getElem?_eq_none h]; simp
theorem vhost_pa (s : List UInt8) : vhost s = (decide ((split [58] s).length ≤ 2) && (!decide ((split [58] s).length = 2) || (hnum ((split [58] s).getD 1 []) && !decide ((split [58] s).getD 0 [] = []))) && decide (((split [58] s).getD 0 []).length ≤ 255) && lok (split [46] ((split [58] s).getD 0 []))) := by
  unfold vhost
  have hp := split_pos 58 s
  generalize split [58] s = L at hp ⊢
  match L, hp with
  | [h], _ => simp; rw [Bool.and_comm]
  | [h, p], _ =>
    have : (h == ([] : List UInt8)) = decide (h = []) := by rw [Bool.eq_iff_iff]; simp
    simp [this]
    cases hnum p <;> cases lok (split [46] h) <;> simp
  | a :: b :: c :: r, _ =>
    show false = _
    rw [decide_eq_false (show ¬ (a :: b :: c :: r).length ≤ 2 by simp)]; simp
theorem vh_yes {s : List UInt8} (h : (split [58] s).length ≤ 2 ∧ ((split [58] s).length = 2 → hnum ((split [58] s).getD 1 []) = true ∧ ¬ ((split [58] s).getD 0 []).length = 0) ∧ ((split [58] s).getD 0 []).length ≤ 255) : vhost s = lok (split [46] ((split [58] s).getD 0 [])) := by
  obtain ⟨h1, h2, h3⟩ := h
  rw [vhost_pa, decide_eq_true h1, decide_eq_true h3]
  by_cases hl : (split [58] s).length = 2
  · obtain ⟨a, b⟩ := h2 hl
    rw [decide_eq_true hl, a, decide_eq_false (fun e => b (by rw [e]; rfl))]; simp
  · rw [decide_eq_false hl]; simp
theorem vh_no {s : List UInt8} (h : ¬ ((split [58] s).length ≤ 2 ∧ ((split [58] s).length = 2 → hnum ((split [58] s).getD 1 []) = true ∧ ¬ ((split [58] s).getD 0 []).length = 0) ∧ ((split [58] s).getD 0 []).length ≤ 255)) : vhost s = false := by
  rw [vhost_pa, Bool.eq_false_iff]
  intro e
  simp only [Bool.and_eq_true, Bool.or_eq_true, Bool.not_eq_true', decide_eq_true_eq, decide_eq_false_iff_not] at e
  obtain ⟨⟨⟨h1, h2⟩, h3⟩, _⟩ := e
  refine h ⟨h1, fun hl => ?_, h3⟩
  rcases h2 with h2 | h2
  · exact absurd hl h2
  · exact ⟨h2.1, fun e => h2.2 (List.eq_nil_of_length_eq_zero e)⟩
theorem lok_no (ls : List (List UInt8)) (i : Nat) (h : i < ls.length) (hv : vlabel (ls.getD i []) = false) (hx : ¬ (ls.getD i []).length = 0 ∨ i + 1 < ls.length) : lok (ls.drop i) = false := by
  rw [lok_step ls i h, hv]
  by_cases h1 : i + 1 < ls.length
  · rw [if_pos h1]; rfl
  · rw [if_neg h1]
    have : ls.getD i [] ≠ [] := fun e => hx.elim (fun h => h (by rw [e]; rfl)) h1
    rw [beq_eq_false_iff_ne.2 this]; rfl
theorem lok_go (ls : List (List UInt8)) (i : Nat) (h : i < ls.length) (hv : vlabel (ls.getD i []) = true ∨ ((ls.getD i []).length = 0 ∧ ¬ i + 1 < ls.length)) : lok (ls.drop i) = lok (ls.drop (i + 1)) := by
  rw [lok_step ls i h]
  rcases hv with hv | ⟨h1, h2⟩
  · rw [hv]; split <;> simp
  · rw [if_neg h2, List.eq_nil_of_length_eq_zero h1]; simp
theorem ecut0 (c : UInt8) (s : List UInt8) : ecutR [c] 0 0 s = split [c] s := if_neg (by decide)
theorem iPort2 (A : Hp) (hE : HE A) (s : List UInt8) (hs : s.length ≤ 100000) : FnR Tryd.prog 7 [S s] A (.bool (hnum s)) := by
  have := iPort A hE s hs
  rwa [port_eq] at this
/-- given.example/pub-tinwright/spec.HValid -/
theorem sValid (s : List UInt8) (hs : s.length ≤ 100000) : Fn0 Tryd.prog 10 [S s] (.bool (vhost s)) := by
  have hpp := split_pos 58 s
  refine Fn0.enter (n := 66) Tryd.func10 rfl rfl fun w0 => ?_
  refine WC.sub (fr' := [(0, _)]) ?_ ⟨rfl, trivial⟩
  refine WC.seq ?_
  refine WC.region ?_
  refine WL.q (oq_assign rfl) rfl rfl rfl ?_
  refine WL.nil ?_
  refine WE.then_normal ?_
  refine WC.sub (fr' := [(0, _)]) ?_ ⟨rfl, trivial⟩
  refine WC.seq ?_
  refine WC.region ?_
  refine WL.q (oq_move rfl) rfl rfl rfl ?_
  refine WL.callA0 (eCut s [58] 0 (by have := split_getD (c := 58) s 0; omega) (by decide) (by decide) (by decide)) call16 rfl rfl rfl fun v1_1 N1_1 hR1_1 hN1_1 => ?_
  rw [ecut0] at hR1_1
  have ho1_1 := hR1_1.rebase hN1_1
  refine WL.q (oq_assign rfl) rfl rfl rfl ?_
  refine WL.nil ?_
  refine WE.then_normal ?_
  refine WC.sub (fr' := [(3, _)]) ?_ ⟨rfl, trivial⟩
  refine WC.cut (ι := Value × Hp) (fun i_ => (fun (v : Value) (P : Hp) => [(3, v)]) i_.1 i_.2) (fun i_ => (fun (v : Value) (P : Hp) => [P]) i_.1 i_.2) (fun i_ => (fun (v : Value) (P : Hp) => OwS w0.heap.size 9 1 v P (split [58] s).length (strsV (split [58] s)) ∧ vhost s = lok (split [46] ((split [58] s).getD 0 []))) i_.1 i_.2) ?_ ?_
  ·
    refine WC.seq ?_
    refine WC.region ?_
    refine WL.q (oq_move rfl) rfl rfl rfl ?_
    refine WL.q (oq_len_rd ho1_1.rd Tryd.underlying29 rfl) rfl rfl rfl ?_
    refine WL.q (oq_gtr rfl rfl) rfl rfl rfl ?_
    refine WL.q (oq_move rfl) rfl rfl rfl ?_
    refine WL.split 11 rfl (fun s2_3 => ?_) (fun s2_3 => ?_)
    ·
      try simp only [Bool.not_eq_eq_eq_not, Bool.not_true, Bool.not_false, decide_eq_true_eq, decide_eq_false_iff_not, Int.not_lt, Int.not_le, ne_eq, Decidable.not_not, ← List.length_eq_zero_iff] at s2_3
      refine WL.skip rfl rfl rfl ?_
      refine WL.skip rfl rfl rfl ?_
      refine WL.skip rfl rfl rfl ?_
      refine WL.skip rfl rfl rfl ?_
      refine WL.skip rfl rfl rfl ?_
      refine WL.skip rfl rfl rfl ?_
      refine WL.skip rfl rfl rfl ?_
      refine WL.skip rfl rfl rfl ?_
      refine WL.skip rfl rfl rfl ?_
      refine WL.skip rfl rfl rfl ?_
      refine WL.skip rfl rfl rfl ?_
      refine WL.skip rfl rfl rfl ?_
      refine WL.skip rfl rfl rfl ?_
      refine WL.skip rfl rfl rfl ?_
      refine WL.skip rfl rfl rfl ?_
      refine WL.skip rfl rfl rfl ?_
      refine WL.q (oq_pick_t rfl rfl) rfl rfl rfl ?_
      refine WL.q (oq_move rfl) rfl rfl rfl ?_
      refine WL.skip rfl rfl rfl ?_
      refine WL.skip rfl rfl rfl ?_
      refine WL.skip rfl rfl rfl ?_
      refine WL.skip rfl rfl rfl ?_
      refine WL.skip rfl rfl rfl ?_
      refine WL.q (oq_pick_t rfl rfl) rfl rfl rfl ?_
      refine WL.nil ?_
      refine WE.then_normal ?_
      refine WC.sub (fr' := [(3, _), (35, _)]) ?_ ⟨rfl, rfl, trivial⟩
      refine WC.cond_t rfl ?_
      refine WC.seq ?_
      refine WC.region ?_
      refine WL.q (oq_assign rfl) rfl rfl rfl ?_
      refine WL.nil ?_
      refine WE.then_normal ?_
      refine WC.sub (fr' := [(2, _)]) ?_ ⟨rfl, trivial⟩
      refine WC.ret ?_
      refine WE.then_ret ?_
      refine WE.forget hN1_1 ?_
      refine WE.end0 (.inl rfl) (res1 Tryd.results10 rfl) ?_
      -- end 0
      first | (rw [vh_no (by rintro ⟨h1, h2, h3⟩; first | omega | (have := h2 (by omega); simp_all; done) | (have := h2 (by omega); omega))]; done) | (rw [hvl, hl, List.drop_eq_nil_of_le (by omega)]; rfl) | (rw [hvl, hl, lok_no _ i (by omega) s8_6 (by first | exact .inl s8_12 | exact .inr (by omega))])
    ·
      try simp only [Bool.not_eq_eq_eq_not, Bool.not_true, Bool.not_false, decide_eq_true_eq, decide_eq_false_iff_not, Int.not_lt, Int.not_le, ne_eq, Decidable.not_not, ← List.length_eq_zero_iff] at s2_3
      refine WL.q (oq_move rfl) rfl rfl rfl ?_
      refine WL.q (oq_len_rd ho1_1.rd Tryd.underlying29 rfl) rfl rfl rfl ?_
      refine WL.q (oq_eql rfl rfl) rfl rfl rfl ?_
      refine WL.q (oq_move rfl) rfl rfl rfl ?_
      refine WL.split 15 rfl (fun s2_7 => ?_) (fun s2_7 => ?_)
      ·
        try simp only [Bool.not_eq_eq_eq_not, Bool.not_true, Bool.not_false, decide_eq_true_eq, decide_eq_false_iff_not, Int.not_lt, Int.not_le, ne_eq, Decidable.not_not, ← List.length_eq_zero_iff] at s2_7
        refine WL.q (oq_move rfl) rfl rfl rfl ?_
        refine WL.q (oq_ixaddr ho1_1.rd Tryd.underlying29 ty9 rfl rfl (by (first | omega | (simp only [List.length_cons, List.length_nil, List.length_append, List.length_drop, List.length_take]; omega)))) rfl rfl rfl ?_
        refine WL.q (oq_load_str ho1_1.rd (.head _) flat9 rfl (by (first | omega | (simp only [List.length_cons, List.length_nil, List.length_append, List.length_drop, List.length_take]; omega))) (by first | exact Int.toNat_natCast _ | exact rfl)) rfl rfl rfl ?_
        refine WL.qc (oq_call (sNumber ((split [58] s).getD 1 []) (by have := split_getD (c := 58) s 1; omega)) call8 rfl) rfl rfl rfl ?_
        refine WL.q (oq_not rfl) rfl rfl rfl ?_
        refine WL.q (oq_move rfl) rfl rfl rfl ?_
        refine WL.split 21 rfl (fun s2_13 => ?_) (fun s2_13 => ?_)
        ·
          try simp only [Bool.not_eq_eq_eq_not, Bool.not_true, Bool.not_false, decide_eq_true_eq, decide_eq_false_iff_not, Int.not_lt, Int.not_le, ne_eq, Decidable.not_not, ← List.length_eq_zero_iff] at s2_13
          refine WL.skip rfl rfl rfl ?_
          refine WL.skip rfl rfl rfl ?_
          refine WL.skip rfl rfl rfl ?_
          refine WL.skip rfl rfl rfl ?_
          refine WL.q (oq_pick_t rfl rfl) rfl rfl rfl ?_
          refine WL.q (oq_pick_t rfl rfl) rfl rfl rfl ?_
          refine WL.q (oq_pick_f rfl rfl) rfl rfl rfl ?_
          refine WL.q (oq_move rfl) rfl rfl rfl ?_
          refine WL.skip rfl rfl rfl ?_
          refine WL.skip rfl rfl rfl ?_
          refine WL.skip rfl rfl rfl ?_
          refine WL.skip rfl rfl rfl ?_
          refine WL.skip rfl rfl rfl ?_
          refine WL.q (oq_pick_t rfl rfl) rfl rfl rfl ?_
          refine WL.nil ?_
          refine WE.then_normal ?_
          refine WC.sub (fr' := [(3, _), (35, _)]) ?_ ⟨rfl, rfl, trivial⟩
          refine WC.cond_t rfl ?_
          refine WC.seq ?_
          refine WC.region ?_
          refine WL.q (oq_assign rfl) rfl rfl rfl ?_
          refine WL.nil ?_
          refine WE.then_normal ?_
          refine WC.sub (fr' := [(2, _)]) ?_ ⟨rfl, trivial⟩
          refine WC.ret ?_
          refine WE.then_ret ?_
          refine WE.forget hN1_1 ?_
          refine WE.end0 (.inl rfl) (res1 Tryd.results10 rfl) ?_
          -- end 1
          first | (rw [vh_no (by rintro ⟨h1, h2, h3⟩; first | omega | (have := h2 (by omega); simp_all; done) | (have := h2 (by omega); omega))]; done) | (rw [hvl, hl, List.drop_eq_nil_of_le (by omega)]; rfl) | (rw [hvl, hl, lok_no _ i (by omega) s8_6 (by first | exact .inl s8_12 | exact .inr (by omega))])
        ·
          try simp only [Bool.not_eq_eq_eq_not, Bool.not_true, Bool.not_false, decide_eq_true_eq, decide_eq_false_iff_not, Int.not_lt, Int.not_le, ne_eq, Decidable.not_not, ← List.length_eq_zero_iff] at s2_13
          refine WL.q (oq_move rfl) rfl rfl rfl ?_
          refine WL.q (oq_ixaddr ho1_1.rd Tryd.underlying29 ty9 rfl rfl (by (first | omega | (simp only [List.length_cons, List.length_nil, List.length_append, List.length_drop, List.length_take]; omega)))) rfl rfl rfl ?_
          refine WL.q (oq_load_str ho1_1.rd (.head _) flat9 rfl (by (first | omega | (simp only [List.length_cons, List.length_nil, List.length_append, List.length_drop, List.length_take]; omega))) (by first | exact Int.toNat_natCast _ | exact rfl)) rfl rfl rfl ?_
          refine WL.q (oq_seql rfl rfl) rfl rfl rfl ?_
          refine WL.q (oq_pick_f rfl rfl) rfl rfl rfl ?_
          refine WL.q (oq_pick_t rfl rfl) rfl rfl rfl ?_
          refine WL.q (oq_pick_f rfl rfl) rfl rfl rfl ?_
          refine WL.q (oq_move rfl) rfl rfl rfl ?_
          refine WL.split 29 rfl (fun s2_21 => ?_) (fun s2_21 => ?_)
          ·
            try simp only [Bool.not_eq_eq_eq_not, Bool.not_true, Bool.not_false, decide_eq_true_eq, decide_eq_false_iff_not, Int.not_lt, Int.not_le, ne_eq, Decidable.not_not, ← List.length_eq_zero_iff] at s2_21
            refine WL.skip rfl rfl rfl ?_
            refine WL.skip rfl rfl rfl ?_
            refine WL.skip rfl rfl rfl ?_
            refine WL.skip rfl rfl rfl ?_
            refine WL.skip rfl rfl rfl ?_
            refine WL.q (oq_pick_t rfl rfl) rfl rfl rfl ?_
            refine WL.nil ?_
            refine WE.then_normal ?_
            refine WC.sub (fr' := [(3, _), (35, _)]) ?_ ⟨rfl, rfl, trivial⟩
            refine WC.cond_t rfl ?_
            refine WC.seq ?_
            refine WC.region ?_
            refine WL.q (oq_assign rfl) rfl rfl rfl ?_
            refine WL.nil ?_
            refine WE.then_normal ?_
            refine WC.sub (fr' := [(2, _)]) ?_ ⟨rfl, trivial⟩
            refine WC.ret ?_
            refine WE.then_ret ?_
            refine WE.forget hN1_1 ?_
            refine WE.end0 (.inl rfl) (res1 Tryd.results10 rfl) ?_
            -- end 2
            first | (rw [vh_no (by rintro ⟨h1, h2, h3⟩; first | omega | (have := h2 (by omega); simp_all; done) | (have := h2 (by omega); omega))]; done) | (rw [hvl, hl, List.drop_eq_nil_of_le (by omega)]; rfl) | (rw [hvl, hl, lok_no _ i (by omega) s8_6 (by first | exact .inl s8_12 | exact .inr (by omega))])
          ·
            try simp only [Bool.not_eq_eq_eq_not, Bool.not_true, Bool.not_false, decide_eq_true_eq, decide_eq_false_iff_not, Int.not_lt, Int.not_le, ne_eq, Decidable.not_not, ← List.length_eq_zero_iff] at s2_21
            refine WL.q (oq_move rfl) rfl rfl rfl ?_
            refine WL.q (oq_ixaddr ho1_1.rd Tryd.underlying29 ty9 rfl rfl (by (first | omega | (simp only [List.length_cons, List.length_nil, List.length_append, List.length_drop, List.length_take]; omega)))) rfl rfl rfl ?_
            refine WL.q (oq_load_str ho1_1.rd (.head _) flat9 rfl (by (first | omega | (simp only [List.length_cons, List.length_nil, List.length_append, List.length_drop, List.length_take]; omega))) (by first | exact Int.toNat_natCast _ | exact rfl)) rfl rfl rfl ?_
            refine WL.q (oq_len_s Tryd.underlying9 rfl) rfl rfl rfl ?_
            refine WL.q (oq_gtr rfl rfl) rfl rfl rfl ?_
            refine WL.q (oq_pick_f rfl rfl) rfl rfl rfl ?_
            refine WL.nil ?_
            refine WE.then_normal ?_
            refine WC.sub (fr' := [(3, _), (35, _)]) ?_ ⟨rfl, rfl, trivial⟩
            refine WC.cond rfl (fun q2 => ?_) (fun q2 => ?_)
            ·
              try simp only [Bool.not_eq_eq_eq_not, Bool.not_true, Bool.not_false, decide_eq_true_eq, decide_eq_false_iff_not, Int.not_lt, Int.not_le, ne_eq, Decidable.not_not, ← List.length_eq_zero_iff] at q2
              refine WC.seq ?_
              refine WC.region ?_
              refine WL.q (oq_assign rfl) rfl rfl rfl ?_
              refine WL.nil ?_
              refine WE.then_normal ?_
              refine WC.sub (fr' := [(2, _)]) ?_ ⟨rfl, trivial⟩
              refine WC.ret ?_
              refine WE.then_ret ?_
              refine WE.forget hN1_1 ?_
              refine WE.end0 (.inl rfl) (res1 Tryd.results10 rfl) ?_
              -- end 3
              first | (rw [vh_no (by rintro ⟨h1, h2, h3⟩; first | omega | (have := h2 (by omega); simp_all; done) | (have := h2 (by omega); omega))]; done) | (rw [hvl, hl, List.drop_eq_nil_of_le (by omega)]; rfl) | (rw [hvl, hl, lok_no _ i (by omega) s8_6 (by first | exact .inl s8_12 | exact .inr (by omega))])
            ·
              try simp only [Bool.not_eq_eq_eq_not, Bool.not_true, Bool.not_false, decide_eq_true_eq, decide_eq_false_iff_not, Int.not_lt, Int.not_le, ne_eq, Decidable.not_not, ← List.length_eq_zero_iff] at q2
              refine WC.skip ?_
              refine WE.meet (_, _) ?_ ⟨rfl, trivial⟩ (List.Perm.refl _)
              try dsimp only
              exact ⟨ho1_1, vh_yes ⟨by omega, fun h => ⟨by first | assumption | (exfalso; omega), by first | assumption | omega⟩, by omega⟩⟩   -- meet 0
      ·
        try simp only [Bool.not_eq_eq_eq_not, Bool.not_true, Bool.not_false, decide_eq_true_eq, decide_eq_false_iff_not, Int.not_lt, Int.not_le, ne_eq, Decidable.not_not, ← List.length_eq_zero_iff] at s2_7
        refine WL.skip rfl rfl rfl ?_
        refine WL.skip rfl rfl rfl ?_
        refine WL.skip rfl rfl rfl ?_
        refine WL.skip rfl rfl rfl ?_
        refine WL.skip rfl rfl rfl ?_
        refine WL.skip rfl rfl rfl ?_
        refine WL.skip rfl rfl rfl ?_
        refine WL.skip rfl rfl rfl ?_
        refine WL.skip rfl rfl rfl ?_
        refine WL.skip rfl rfl rfl ?_
        refine WL.skip rfl rfl rfl ?_
        refine WL.q (oq_pick_f rfl rfl) rfl rfl rfl ?_
        refine WL.q (oq_pick_f rfl rfl) rfl rfl rfl ?_
        refine WL.q (oq_move rfl) rfl rfl rfl ?_
        refine WL.q (oq_move rfl) rfl rfl rfl ?_
        refine WL.q (oq_ixaddr ho1_1.rd Tryd.underlying29 ty9 rfl rfl (by (first | omega | (simp only [List.length_cons, List.length_nil, List.length_append, List.length_drop, List.length_take]; omega)))) rfl rfl rfl ?_
        refine WL.q (oq_load_str ho1_1.rd (.head _) flat9 rfl (by (first | omega | (simp only [List.length_cons, List.length_nil, List.length_append, List.length_drop, List.length_take]; omega))) (by first | exact Int.toNat_natCast _ | exact rfl)) rfl rfl rfl ?_
        refine WL.q (oq_len_s Tryd.underlying9 rfl) rfl rfl rfl ?_
        refine WL.q (oq_gtr rfl rfl) rfl rfl rfl ?_
        refine WL.q (oq_pick_f rfl rfl) rfl rfl rfl ?_
        refine WL.nil ?_
        refine WE.then_normal ?_
        refine WC.sub (fr' := [(3, _), (35, _)]) ?_ ⟨rfl, rfl, trivial⟩
        refine WC.cond rfl (fun q2 => ?_) (fun q2 => ?_)
        ·
          try simp only [Bool.not_eq_eq_eq_not, Bool.not_true, Bool.not_false, decide_eq_true_eq, decide_eq_false_iff_not, Int.not_lt, Int.not_le, ne_eq, Decidable.not_not, ← List.length_eq_zero_iff] at q2
          refine WC.seq ?_
          refine WC.region ?_
          refine WL.q (oq_assign rfl) rfl rfl rfl ?_
          refine WL.nil ?_
          refine WE.then_normal ?_
          refine WC.sub (fr' := [(2, _)]) ?_ ⟨rfl, trivial⟩
          refine WC.ret ?_
          refine WE.then_ret ?_
          refine WE.forget hN1_1 ?_
          refine WE.end0 (.inl rfl) (res1 Tryd.results10 rfl) ?_
          -- end 4
          first | (rw [vh_no (by rintro ⟨h1, h2, h3⟩; first | omega | (have := h2 (by omega); simp_all; done) | (have := h2 (by omega); omega))]; done) | (rw [hvl, hl, List.drop_eq_nil_of_le (by omega)]; rfl) | (rw [hvl, hl, lok_no _ i (by omega) s8_6 (by first | exact .inl s8_12 | exact .inr (by omega))])
        ·
          try simp only [Bool.not_eq_eq_eq_not, Bool.not_true, Bool.not_false, decide_eq_true_eq, decide_eq_false_iff_not, Int.not_lt, Int.not_le, ne_eq, Decidable.not_not, ← List.length_eq_zero_iff] at q2
          refine WC.skip ?_
          refine WE.meet (_, _) ?_ ⟨rfl, trivial⟩ (List.Perm.refl _)
          try dsimp only
          exact ⟨ho1_1, vh_yes ⟨by omega, fun h => ⟨by first | assumption | (exfalso; omega), by first | assumption | omega⟩, by omega⟩⟩   -- meet 1
  · rintro ⟨v, P⟩ hp
    try dsimp only at hp
    obtain ⟨hop, hvl⟩ := hp
    show WC _ _ _ _ _ _ ([(3, v)]) ([P])
    have hlp := split_pos 46 ((split [58] s).getD 0 [])
    have hll := split_length [46] (by decide) _ ((split [58] s).getD 0 []) (Nat.le_refl _)
    have hlq := split_getD (c := 58) s 0
    refine WC.seq ?_
    refine WC.region ?_
    refine WL.q (oq_move rfl) rfl rfl rfl ?_
    refine WL.q (oq_ixaddr hop.rd Tryd.underlying29 ty9 rfl rfl (by (first | omega | (simp only [List.length_cons, List.length_nil, List.length_append, List.length_drop, List.length_take]; omega)))) rfl rfl rfl ?_
    refine WL.q (oq_load_str hop.rd (.head _) flat9 rfl (by (first | omega | (simp only [List.length_cons, List.length_nil, List.length_append, List.length_drop, List.length_take]; omega))) (by first | exact Int.toNat_natCast _ | exact rfl)) rfl rfl rfl ?_
    refine WL.callA0 (eCut ((split [58] s).getD 0 []) [46] 0 (by have := split_getD (c := 58) s 0; omega) (by decide) (by decide) (by decide)) call16 rfl rfl rfl fun v4_3 N4_3 hR4_3 hN4_3 => ?_
    rw [ecut0] at hR4_3
    have ho4_3 := hR4_3.rebase hN4_3
    refine WL.q (oq_assign rfl) rfl rfl rfl ?_
    refine WL.nil ?_
    refine WE.then_normal ?_
    refine WC.sub (fr' := [(4, _)]) ?_ ⟨rfl, trivial⟩
    refine WC.seq ?_
    refine WC.seq ?_
    refine WC.region ?_
    refine WL.q (oq_assign rfl) rfl rfl rfl ?_
    refine WL.nil ?_
    refine WE.then_normal ?_
    refine WC.sub (fr' := [(4, _), (5, _)]) ?_ ⟨rfl, rfl, trivial⟩
    refine WC.block ?_
    refine WC.f1 ?_
    refine WC.forget hop.fresh ?_
    refine WC.loop (ι := Nat) (fun (i : Nat) => [(4, v4_3), (5, I (i : Int))]) (fun (i : Nat) => [N4_3]) (fun (i : Nat) => i ≤ (split [46] ((split [58] s).getD 0 [])).length ∧ lok (split [46] ((split [58] s).getD 0 [])) = lok ((split [46] ((split [58] s).getD 0 [])).drop i)) (fun (i : Nat) => (split [46] ((split [58] s).getD 0 [])).length - i) (0) ?_ ⟨rfl, rfl, trivial⟩ (List.Perm.refl _) ?_
    · try dsimp only
      exact ⟨by omega, rfl⟩
    · rintro i hp
      try dsimp only at hp
      obtain ⟨hi, hl⟩ := hp
      show WC _ _ _ _ _ _ ([(4, v4_3), (5, I (i : Int))]) ([N4_3])
      refine WC.seq ?_
      refine WC.seq ?_
      refine WC.region ?_
      refine WL.q (oq_move rfl) rfl rfl rfl ?_
      refine WL.q (oq_move rfl) rfl rfl rfl ?_
      refine WL.q (oq_len_rd ho4_3.rd Tryd.underlying29 rfl) rfl rfl rfl ?_
      refine WL.q (oq_lss rfl rfl) rfl rfl rfl ?_
      refine WL.nil ?_
      refine WE.then_normal ?_
      refine WC.sub (fr' := [(4, _), (5, _), (43, _)]) ?_ ⟨rfl, rfl, rfl, trivial⟩
      refine WC.cond rfl (fun q6 => ?_) (fun q6 => ?_)
      ·
        try simp only [Bool.not_eq_eq_eq_not, Bool.not_true, Bool.not_false, decide_eq_true_eq, decide_eq_false_iff_not, Int.not_lt, Int.not_le, ne_eq, Decidable.not_not, ← List.length_eq_zero_iff] at q6
        refine WC.skip ?_
        refine WE.then_normal ?_
        refine WC.sub (fr' := [(4, _), (5, _)]) ?_ ⟨rfl, rfl, trivial⟩
        refine WC.seq ?_
        refine WC.block ?_
        refine WC.seq ?_
        refine WC.region ?_
        refine WL.q (oq_move rfl) rfl rfl rfl ?_
        refine WL.q (oq_move rfl) rfl rfl rfl ?_
        refine WL.q (oq_ixaddr ho4_3.rd Tryd.underlying29 ty9 rfl rfl (by (first | omega | (simp only [List.length_cons, List.length_nil, List.length_append, List.length_drop, List.length_take]; omega)))) rfl rfl rfl ?_
        refine WL.q (oq_load_str ho4_3.rd (.head _) flat9 rfl (by (first | omega | (simp only [List.length_cons, List.length_nil, List.length_append, List.length_drop, List.length_take]; omega))) (by first | exact Int.toNat_natCast _ | exact rfl)) rfl rfl rfl ?_
        refine WL.qc (oq_call (sName ((split [46] ((split [58] s).getD 0 [])).getD i []) (by have := split_getD (c := 46) ((split [58] s).getD 0 []) i; have := split_getD (c := 58) s 0; omega)) call6 rfl) rfl rfl rfl ?_
        refine WL.q (oq_not rfl) rfl rfl rfl ?_
        refine WL.q (oq_move rfl) rfl rfl rfl ?_
        refine WL.split 52 rfl (fun s8_6 => ?_) (fun s8_6 => ?_)
        ·
          try simp only [Bool.not_eq_eq_eq_not, Bool.not_true, Bool.not_false, decide_eq_true_eq, decide_eq_false_iff_not, Int.not_lt, Int.not_le, ne_eq, Decidable.not_not, ← List.length_eq_zero_iff] at s8_6
          refine WL.q (oq_move rfl) rfl rfl rfl ?_
          refine WL.q (oq_move rfl) rfl rfl rfl ?_
          refine WL.q (oq_ixaddr ho4_3.rd Tryd.underlying29 ty9 rfl rfl (by (first | omega | (simp only [List.length_cons, List.length_nil, List.length_append, List.length_drop, List.length_take]; omega)))) rfl rfl rfl ?_
          refine WL.q (oq_load_str ho4_3.rd (.head _) flat9 rfl (by (first | omega | (simp only [List.length_cons, List.length_nil, List.length_append, List.length_drop, List.length_take]; omega))) (by first | exact Int.toNat_natCast _ | exact rfl)) rfl rfl rfl ?_
          refine WL.q (oq_sneq rfl rfl) rfl rfl rfl ?_
          refine WL.q (oq_move rfl) rfl rfl rfl ?_
          refine WL.split 58 rfl (fun s8_12 => ?_) (fun s8_12 => ?_)
          ·
            try simp only [Bool.not_eq_eq_eq_not, Bool.not_true, Bool.not_false, decide_eq_true_eq, decide_eq_false_iff_not, Int.not_lt, Int.not_le, ne_eq, Decidable.not_not, ← List.length_eq_zero_iff] at s8_12
            refine WL.skip rfl rfl rfl ?_
            refine WL.skip rfl rfl rfl ?_
            refine WL.skip rfl rfl rfl ?_
            refine WL.skip rfl rfl rfl ?_
            refine WL.skip rfl rfl rfl ?_
            refine WL.q (oq_pick_t rfl rfl) rfl rfl rfl ?_
            refine WL.q (oq_pick_t rfl rfl) rfl rfl rfl ?_
            refine WL.nil ?_
            refine WE.then_normal ?_
            refine WC.sub (fr' := [(4, _), (5, _), (65, _)]) ?_ ⟨rfl, rfl, rfl, trivial⟩
            refine WC.cond_t rfl ?_
            refine WC.seq ?_
            refine WC.region ?_
            refine WL.q (oq_assign rfl) rfl rfl rfl ?_
            refine WL.nil ?_
            refine WE.then_normal ?_
            refine WC.sub (fr' := [(2, _)]) ?_ ⟨rfl, trivial⟩
            refine WC.ret ?_
            refine WE.block_ret ?_
            refine WE.then_ret ?_
            refine WE.then_ret ?_
            refine WE.block_ret ?_
            refine WE.then_ret ?_
            refine WE.forget ho4_3.fresh ?_
            refine WE.end0 (.inl rfl) (res1 Tryd.results10 rfl) ?_
            -- end 5
            first | (rw [vh_no (by rintro ⟨h1, h2, h3⟩; first | omega | (have := h2 (by omega); simp_all; done) | (have := h2 (by omega); omega))]; done) | (rw [hvl, hl, List.drop_eq_nil_of_le (by omega)]; rfl) | (rw [hvl, hl, lok_no _ i (by omega) s8_6 (by first | exact .inl s8_12 | exact .inr (by omega))])
          ·
            try simp only [Bool.not_eq_eq_eq_not, Bool.not_true, Bool.not_false, decide_eq_true_eq, decide_eq_false_iff_not, Int.not_lt, Int.not_le, ne_eq, Decidable.not_not, ← List.length_eq_zero_iff] at s8_12
            refine WL.q (oq_move rfl) rfl rfl rfl ?_
            refine WL.q (oq_add rfl rfl (by rw [i64_lo, i64_hi]; (first | omega | (simp only [List.length_cons, List.length_nil, List.length_append, List.length_drop, List.length_take]; omega)))) rfl rfl rfl ?_
            refine WL.q (oq_move rfl) rfl rfl rfl ?_
            refine WL.q (oq_len_rd ho4_3.rd Tryd.underlying29 rfl) rfl rfl rfl ?_
            refine WL.q (oq_lss rfl rfl) rfl rfl rfl ?_
            refine WL.q (oq_pick_f rfl rfl) rfl rfl rfl ?_
            refine WL.q (oq_pick_t rfl rfl) rfl rfl rfl ?_
            refine WL.nil ?_
            refine WE.then_normal ?_
            refine WC.sub (fr' := [(4, _), (5, _), (65, _)]) ?_ ⟨rfl, rfl, rfl, trivial⟩
            refine WC.cond rfl (fun q8 => ?_) (fun q8 => ?_)
            ·
              try simp only [Bool.not_eq_eq_eq_not, Bool.not_true, Bool.not_false, decide_eq_true_eq, decide_eq_false_iff_not, Int.not_lt, Int.not_le, ne_eq, Decidable.not_not, ← List.length_eq_zero_iff] at q8
              refine WC.seq ?_
              refine WC.region ?_
              refine WL.q (oq_assign rfl) rfl rfl rfl ?_
              refine WL.nil ?_
              refine WE.then_normal ?_
              refine WC.sub (fr' := [(2, _)]) ?_ ⟨rfl, trivial⟩
              refine WC.ret ?_
              refine WE.block_ret ?_
              refine WE.then_ret ?_
              refine WE.then_ret ?_
              refine WE.block_ret ?_
              refine WE.then_ret ?_
              refine WE.forget ho4_3.fresh ?_
              refine WE.end0 (.inl rfl) (res1 Tryd.results10 rfl) ?_
              -- end 6
              first | (rw [vh_no (by rintro ⟨h1, h2, h3⟩; first | omega | (have := h2 (by omega); simp_all; done) | (have := h2 (by omega); omega))]; done) | (rw [hvl, hl, List.drop_eq_nil_of_le (by omega)]; rfl) | (rw [hvl, hl, lok_no _ i (by omega) s8_6 (by first | exact .inl s8_12 | exact .inr (by omega))])
            ·
              try simp only [Bool.not_eq_eq_eq_not, Bool.not_true, Bool.not_false, decide_eq_true_eq, decide_eq_false_iff_not, Int.not_lt, Int.not_le, ne_eq, Decidable.not_not, ← List.length_eq_zero_iff] at q8
              refine WC.skip ?_
              refine WE.block_normal ?_
              refine WE.then_normal ?_
              refine WC.sub (fr' := [(4, _), (5, _)]) ?_ ⟨rfl, rfl, trivial⟩
              refine WC.region ?_
              refine WL.q (oq_move rfl) rfl rfl rfl ?_
              refine WL.q (oq_add rfl rfl (by rw [i64_lo, i64_hi]; (first | omega | (simp only [List.length_cons, List.length_nil, List.length_append, List.length_drop, List.length_take]; omega)))) rfl rfl rfl ?_
              refine WL.q (oq_assign rfl) rfl rfl rfl ?_
              refine WL.nil ?_
              refine WE.again (i + 1) ?_ ?_ ⟨rfl, rfl, trivial⟩ (List.Perm.refl _)
              · try dsimp only   -- again 0
                exact ⟨by omega, by rw [hl]; exact lok_go _ i (by omega) (by first | exact .inl s8_6 | exact .inr ⟨s8_12, by omega⟩)⟩
              · (try dsimp only); omega
        ·
          try simp only [Bool.not_eq_eq_eq_not, Bool.not_true, Bool.not_false, decide_eq_true_eq, decide_eq_false_iff_not, Int.not_lt, Int.not_le, ne_eq, Decidable.not_not, ← List.length_eq_zero_iff] at s8_6
          refine WL.skip rfl rfl rfl ?_
          refine WL.skip rfl rfl rfl ?_
          refine WL.skip rfl rfl rfl ?_
          refine WL.skip rfl rfl rfl ?_
          refine WL.skip rfl rfl rfl ?_
          refine WL.skip rfl rfl rfl ?_
          refine WL.skip rfl rfl rfl ?_
          refine WL.skip rfl rfl rfl ?_
          refine WL.skip rfl rfl rfl ?_
          refine WL.skip rfl rfl rfl ?_
          refine WL.skip rfl rfl rfl ?_
          refine WL.skip rfl rfl rfl ?_
          refine WL.q (oq_pick_f rfl rfl) rfl rfl rfl ?_
          refine WL.nil ?_
          refine WE.then_normal ?_
          refine WC.sub (fr' := [(4, _), (5, _), (65, _)]) ?_ ⟨rfl, rfl, rfl, trivial⟩
          refine WC.cond_f rfl ?_
          refine WC.skip ?_
          refine WE.block_normal ?_
          refine WE.then_normal ?_
          refine WC.sub (fr' := [(4, _), (5, _)]) ?_ ⟨rfl, rfl, trivial⟩
          refine WC.region ?_
          refine WL.q (oq_move rfl) rfl rfl rfl ?_
          refine WL.q (oq_add rfl rfl (by rw [i64_lo, i64_hi]; (first | omega | (simp only [List.length_cons, List.length_nil, List.length_append, List.length_drop, List.length_take]; omega)))) rfl rfl rfl ?_
          refine WL.q (oq_assign rfl) rfl rfl rfl ?_
          refine WL.nil ?_
          refine WE.again (i + 1) ?_ ?_ ⟨rfl, rfl, trivial⟩ (List.Perm.refl _)
          · try dsimp only   -- again 1
            exact ⟨by omega, by rw [hl]; exact lok_go _ i (by omega) (by first | exact .inl s8_6 | exact .inr ⟨s8_12, by omega⟩)⟩
          · (try dsimp only); omega
      ·
        try simp only [Bool.not_eq_eq_eq_not, Bool.not_true, Bool.not_false, decide_eq_true_eq, decide_eq_false_iff_not, Int.not_lt, Int.not_le, ne_eq, Decidable.not_not, ← List.length_eq_zero_iff] at q6
        refine WC.exit ?_
        refine WE.then_exit ?_
        refine WE.then_exit ?_
        refine WE.block_same ?_
        refine WE.then_normal ?_
        refine WC.sub (fr' := []) ?_ trivial
        refine WC.seq ?_
        refine WC.region ?_
        refine WL.q (oq_assign rfl) rfl rfl rfl ?_
        refine WL.nil ?_
        refine WE.then_normal ?_
        refine WC.sub (fr' := [(2, _)]) ?_ ⟨rfl, trivial⟩
        refine WC.ret ?_
        refine WE.forget ho4_3.fresh ?_
        refine WE.end0 (.inl rfl) (res1 Tryd.results10 rfl) ?_
        -- end 7
        first | (rw [vh_no (by rintro ⟨h1, h2, h3⟩; first | omega | (have := h2 (by omega); simp_all; done) | (have := h2 (by omega); omega))]; done) | (rw [hvl, hl, List.drop_eq_nil_of_le (by omega)]; rfl) | (rw [hvl, hl, lok_no _ i (by omega) s8_6 (by first | exact .inl s8_12 | exact .inr (by omega))])

/-- given.example/pub-tinwright/laws.FnHHosts -/
theorem law (A : Hp) (hE : HE A) (s : List UInt8) : FnR Tryd.prog 3 [S s] A (.bool true) := by
  refine FnR.enter (n := 48) Tryd.func3 rfl rfl fun w0 => ?_
  refine WC.sub (fr' := [(0, _)]) ?_ ⟨rfl, trivial⟩
  refine WC.seq ?_
  refine WC.region ?_
  refine WL.q (oq_assign rfl) rfl rfl rfl ?_
  refine WL.nil ?_
  refine WE.then_normal ?_
  refine WC.sub (fr' := [(0, _)]) ?_ ⟨rfl, trivial⟩
  refine WC.seq ?_
  refine WC.seq ?_
  refine WC.region ?_
  refine WL.q (oq_move rfl) rfl rfl rfl ?_
  refine WL.q (oq_len_s Tryd.underlying9 rfl) rfl rfl rfl ?_
  refine WL.q (oq_gtr rfl rfl) rfl rfl rfl ?_
  refine WL.nil ?_
  refine WE.then_normal ?_
  refine WC.sub (fr' := [(0, _), (6, _)]) ?_ ⟨rfl, rfl, trivial⟩
  refine WC.cond rfl (fun q1 => ?_) (fun q1 => ?_)
  ·
    try simp only [Bool.not_eq_eq_eq_not, Bool.not_true, Bool.not_false, decide_eq_true_eq, decide_eq_false_iff_not, Int.not_lt, Int.not_le, ne_eq, Decidable.not_not, ← List.length_eq_zero_iff] at q1
    refine WC.seq ?_
    refine WC.region ?_
    refine WL.q (oq_assign rfl) rfl rfl rfl ?_
    refine WL.nil ?_
    refine WE.then_normal ?_
    refine WC.sub (fr' := [(2, _)]) ?_ ⟨rfl, trivial⟩
    refine WC.ret ?_
    refine WE.then_ret ?_
    refine WE.endR (.inl rfl) (res1 Tryd.results3 rfl) ?_
    -- end 0
    first | rfl | (exfalso; simp_all; done)
  ·
    try simp only [Bool.not_eq_eq_eq_not, Bool.not_true, Bool.not_false, decide_eq_true_eq, decide_eq_false_iff_not, Int.not_lt, Int.not_le, ne_eq, Decidable.not_not, ← List.length_eq_zero_iff] at q1
    refine WC.skip ?_
    refine WE.then_normal ?_
    refine WC.sub (fr' := [(0, _)]) ?_ ⟨rfl, trivial⟩
    refine WC.seq ?_
    refine WC.seq ?_
    refine WC.region ?_
    refine WL.q (oq_move rfl) rfl rfl rfl ?_
    refine WL.q (oq_len_s Tryd.underlying9 rfl) rfl rfl rfl ?_
    refine WL.q (oq_gtr rfl rfl) rfl rfl rfl ?_
    refine WL.nil ?_
    refine WE.then_normal ?_
    refine WC.sub (fr' := [(0, _), (9, _)]) ?_ ⟨rfl, rfl, trivial⟩
    refine WC.cond rfl (fun q3 => ?_) (fun q3 => ?_)
    ·
      try simp only [Bool.not_eq_eq_eq_not, Bool.not_true, Bool.not_false, decide_eq_true_eq, decide_eq_false_iff_not, Int.not_lt, Int.not_le, ne_eq, Decidable.not_not, ← List.length_eq_zero_iff] at q3
      refine WC.seq ?_
      refine WC.region ?_
      refine WL.qc (oq_call (J0.hAwake) call4 rfl) rfl rfl rfl ?_
      refine WL.q (oq_assign rfl) rfl rfl rfl ?_
      refine WL.nil ?_
      refine WE.then_normal ?_
      refine WC.sub (fr' := [(2, _)]) ?_ ⟨rfl, trivial⟩
      refine WC.ret ?_
      refine WE.then_ret ?_
      refine WE.endR (.inl rfl) (res1 Tryd.results3 rfl) ?_
      -- end 1
      first | rfl | (exfalso; simp_all; done)
    ·
      try simp only [Bool.not_eq_eq_eq_not, Bool.not_true, Bool.not_false, decide_eq_true_eq, decide_eq_false_iff_not, Int.not_lt, Int.not_le, ne_eq, Decidable.not_not, ← List.length_eq_zero_iff] at q3
      refine WC.skip ?_
      refine WE.then_normal ?_
      refine WC.sub (fr' := [(0, _)]) ?_ ⟨rfl, trivial⟩
      refine WC.seq ?_
      refine WC.seq ?_
      refine WC.region ?_
      refine WL.q (oq_move rfl) rfl rfl rfl ?_
      refine WL.qc (oq_call (iLabel s) call5 rfl) rfl rfl rfl ?_
      refine WL.q (oq_move rfl) rfl rfl rfl ?_
      refine WL.qc (oq_call (sName s (by omega)) call6 rfl) rfl rfl rfl ?_
      refine WL.q (oq_bneq Tryd.underlying4 rfl rfl) rfl rfl rfl ?_
      refine WL.q (oq_move rfl) rfl rfl rfl ?_
      refine WL.split 16 rfl (fun s5_5 => ?_) (fun s5_5 => ?_)
      ·
        try simp only [Bool.not_eq_eq_eq_not, Bool.not_true, Bool.not_false, decide_eq_true_eq, decide_eq_false_iff_not, Int.not_lt, Int.not_le, ne_eq, Decidable.not_not, ← List.length_eq_zero_iff] at s5_5
        refine WL.skip rfl rfl rfl ?_
        refine WL.skip rfl rfl rfl ?_
        refine WL.skip rfl rfl rfl ?_
        refine WL.skip rfl rfl rfl ?_
        refine WL.skip rfl rfl rfl ?_
        refine WL.q (oq_pick_t rfl rfl) rfl rfl rfl ?_
        refine WL.nil ?_
        refine WE.then_normal ?_
        refine WC.sub (fr' := [(0, _), (22, _)]) ?_ ⟨rfl, rfl, trivial⟩
        refine WC.cond_t rfl ?_
        refine WC.seq ?_
        refine WC.region ?_
        refine WL.q (oq_assign rfl) rfl rfl rfl ?_
        refine WL.nil ?_
        refine WE.then_normal ?_
        refine WC.sub (fr' := [(2, _)]) ?_ ⟨rfl, trivial⟩
        refine WC.ret ?_
        refine WE.then_ret ?_
        refine WE.endR (.inl rfl) (res1 Tryd.results3 rfl) ?_
        -- end 2
        first | rfl | (exfalso; simp_all; done)
      ·
        try simp only [Bool.not_eq_eq_eq_not, Bool.not_true, Bool.not_false, decide_eq_true_eq, decide_eq_false_iff_not, Int.not_lt, Int.not_le, ne_eq, Decidable.not_not, ← List.length_eq_zero_iff] at s5_5
        refine WL.q (oq_move rfl) rfl rfl rfl ?_
        refine WL.qc (oq_callRm (iPort2 A hE s (by omega)) (.head _) call7 rfl) rfl rfl rfl ?_
        refine WL.q (oq_move rfl) rfl rfl rfl ?_
        refine WL.qc (oq_call (sNumber s (by omega)) call8 rfl) rfl rfl rfl ?_
        refine WL.q (oq_bneq Tryd.underlying4 rfl rfl) rfl rfl rfl ?_
        refine WL.q (oq_pick_f rfl rfl) rfl rfl rfl ?_
        refine WL.nil ?_
        refine WE.then_normal ?_
        refine WC.sub (fr' := [(0, _), (22, _)]) ?_ ⟨rfl, rfl, trivial⟩
        refine WC.cond rfl (fun q5 => ?_) (fun q5 => ?_)
        ·
          try simp only [Bool.not_eq_eq_eq_not, Bool.not_true, Bool.not_false, decide_eq_true_eq, decide_eq_false_iff_not, Int.not_lt, Int.not_le, ne_eq, Decidable.not_not, ← List.length_eq_zero_iff] at q5
          refine WC.seq ?_
          refine WC.region ?_
          refine WL.q (oq_assign rfl) rfl rfl rfl ?_
          refine WL.nil ?_
          refine WE.then_normal ?_
          refine WC.sub (fr' := [(2, _)]) ?_ ⟨rfl, trivial⟩
          refine WC.ret ?_
          refine WE.then_ret ?_
          refine WE.endR (.inl rfl) (res1 Tryd.results3 rfl) ?_
          -- end 3
          first | rfl | (exfalso; simp_all; done)
        ·
          try simp only [Bool.not_eq_eq_eq_not, Bool.not_true, Bool.not_false, decide_eq_true_eq, decide_eq_false_iff_not, Int.not_lt, Int.not_le, ne_eq, Decidable.not_not, ← List.length_eq_zero_iff] at q5
          refine WC.skip ?_
          refine WE.then_normal ?_
          refine WC.sub (fr' := [(0, _)]) ?_ ⟨rfl, trivial⟩
          refine WC.seq ?_
          refine WC.seq ?_
          refine WC.region ?_
          refine WL.q (oq_assign rfl) rfl rfl rfl ?_
          refine WL.nil ?_
          refine WE.then_normal ?_
          refine WC.sub (fr' := [(0, _), (3, _)]) ?_ ⟨rfl, rfl, trivial⟩
          refine WC.block ?_
          refine WC.loop (ι := Nat) (fun (i : Nat) => [(0, S s), (3, I (i : Int))]) (fun (i : Nat) => [A]) (fun (i : Nat) => i ≤ s.length ∧ ∀ j, j < i → s.getD j 0 ≠ 91 ∧ s.getD j 0 ≠ 93) (fun (i : Nat) => s.length - i) (0) ?_ ⟨rfl, rfl, trivial⟩ (List.Perm.refl _) ?_
          · try dsimp only
            exact ⟨by omega, fun j hj => by omega⟩
          · rintro i hp
            try dsimp only at hp
            obtain ⟨hi, hf⟩ := hp
            show WC _ _ _ _ _ _ ([(0, S s), (3, I (i : Int))]) ([A])
            refine WC.seq ?_
            refine WC.seq ?_
            refine WC.region ?_
            refine WL.q (oq_move rfl) rfl rfl rfl ?_
            refine WL.q (oq_move rfl) rfl rfl rfl ?_
            refine WL.q (oq_len_s Tryd.underlying9 rfl) rfl rfl rfl ?_
            refine WL.q (oq_lss rfl rfl) rfl rfl rfl ?_
            refine WL.nil ?_
            refine WE.then_normal ?_
            refine WC.sub (fr' := [(0, _), (3, _), (26, _)]) ?_ ⟨rfl, rfl, rfl, trivial⟩
            refine WC.cond rfl (fun q8 => ?_) (fun q8 => ?_)
            ·
              try simp only [Bool.not_eq_eq_eq_not, Bool.not_true, Bool.not_false, decide_eq_true_eq, decide_eq_false_iff_not, Int.not_lt, Int.not_le, ne_eq, Decidable.not_not, ← List.length_eq_zero_iff] at q8
              refine WC.skip ?_
              refine WE.then_normal ?_
              refine WC.sub (fr' := [(0, _), (3, _)]) ?_ ⟨rfl, rfl, trivial⟩
              refine WC.seq ?_
              refine WC.block ?_
              refine WC.seq ?_
              refine WC.region ?_
              refine WL.q (oq_move rfl) rfl rfl rfl ?_
              refine WL.q (oq_move rfl) rfl rfl rfl ?_
              refine WL.index_s Tryd.underlying9 rfl rfl (by (first | omega | (simp only [List.length_cons, List.length_nil, List.length_append, List.length_drop, List.length_take]; omega))) rfl rfl fun c10_2 hc10_2 hc10_2l hc10_2u => ?_
              refine WL.q (oq_eql rfl rfl) rfl rfl rfl ?_
              refine WL.q (oq_move rfl) rfl rfl rfl ?_
              refine WL.split 33 rfl (fun s10_4 => ?_) (fun s10_4 => ?_)
              ·
                try simp only [Bool.not_eq_eq_eq_not, Bool.not_true, Bool.not_false, decide_eq_true_eq, decide_eq_false_iff_not, Int.not_lt, Int.not_le, ne_eq, Decidable.not_not, ← List.length_eq_zero_iff] at s10_4
                refine WL.skip rfl rfl rfl ?_
                refine WL.skip rfl rfl rfl ?_
                refine WL.skip rfl rfl rfl ?_
                refine WL.skip rfl rfl rfl ?_
                refine WL.q (oq_pick_t rfl rfl) rfl rfl rfl ?_
                refine WL.nil ?_
                refine WE.then_normal ?_
                refine WC.sub (fr' := [(0, _), (3, _), (38, _)]) ?_ ⟨rfl, rfl, rfl, trivial⟩
                refine WC.cond_t rfl ?_
                refine WC.seq ?_
                refine WC.region ?_
                refine WL.qc (oq_call (J0.hAwake) call4 rfl) rfl rfl rfl ?_
                refine WL.q (oq_assign rfl) rfl rfl rfl ?_
                refine WL.nil ?_
                refine WE.then_normal ?_
                refine WC.sub (fr' := [(2, _)]) ?_ ⟨rfl, trivial⟩
                refine WC.ret ?_
                refine WE.block_ret ?_
                refine WE.then_ret ?_
                refine WE.then_ret ?_
                refine WE.block_ret ?_
                refine WE.then_ret ?_
                refine WE.endR (.inl rfl) (res1 Tryd.results3 rfl) ?_
                -- end 4
                first | rfl | (exfalso; simp_all; done)
              ·
                try simp only [Bool.not_eq_eq_eq_not, Bool.not_true, Bool.not_false, decide_eq_true_eq, decide_eq_false_iff_not, Int.not_lt, Int.not_le, ne_eq, Decidable.not_not, ← List.length_eq_zero_iff] at s10_4
                refine WL.q (oq_move rfl) rfl rfl rfl ?_
                refine WL.q (oq_move rfl) rfl rfl rfl ?_
                refine WL.index_s Tryd.underlying9 rfl rfl (by (first | omega | (simp only [List.length_cons, List.length_nil, List.length_append, List.length_drop, List.length_take]; omega))) rfl rfl fun c10_7 hc10_7 hc10_7l hc10_7u => ?_
                refine WL.q (oq_eql rfl rfl) rfl rfl rfl ?_
                refine WL.q (oq_pick_f rfl rfl) rfl rfl rfl ?_
                refine WL.nil ?_
                refine WE.then_normal ?_
                refine WC.sub (fr' := [(0, _), (3, _), (38, _)]) ?_ ⟨rfl, rfl, rfl, trivial⟩
                refine WC.cond rfl (fun q10 => ?_) (fun q10 => ?_)
                ·
                  try simp only [Bool.not_eq_eq_eq_not, Bool.not_true, Bool.not_false, decide_eq_true_eq, decide_eq_false_iff_not, Int.not_lt, Int.not_le, ne_eq, Decidable.not_not, ← List.length_eq_zero_iff] at q10
                  refine WC.seq ?_
                  refine WC.region ?_
                  refine WL.qc (oq_call (J0.hAwake) call4 rfl) rfl rfl rfl ?_
                  refine WL.q (oq_assign rfl) rfl rfl rfl ?_
                  refine WL.nil ?_
                  refine WE.then_normal ?_
                  refine WC.sub (fr' := [(2, _)]) ?_ ⟨rfl, trivial⟩
                  refine WC.ret ?_
                  refine WE.block_ret ?_
                  refine WE.then_ret ?_
                  refine WE.then_ret ?_
                  refine WE.block_ret ?_
                  refine WE.then_ret ?_
                  refine WE.endR (.inl rfl) (res1 Tryd.results3 rfl) ?_
                  -- end 5
                  first | rfl | (exfalso; simp_all; done)
                ·
                  try simp only [Bool.not_eq_eq_eq_not, Bool.not_true, Bool.not_false, decide_eq_true_eq, decide_eq_false_iff_not, Int.not_lt, Int.not_le, ne_eq, Decidable.not_not, ← List.length_eq_zero_iff] at q10
                  refine WC.skip ?_
                  refine WE.block_normal ?_
                  refine WE.then_normal ?_
                  refine WC.sub (fr' := [(0, _), (3, _)]) ?_ ⟨rfl, rfl, trivial⟩
                  refine WC.region ?_
                  refine WL.q (oq_move rfl) rfl rfl rfl ?_
                  refine WL.q (oq_add rfl rfl (by rw [i64_lo, i64_hi]; (first | omega | (simp only [List.length_cons, List.length_nil, List.length_append, List.length_drop, List.length_take]; omega)))) rfl rfl rfl ?_
                  refine WL.q (oq_assign rfl) rfl rfl rfl ?_
                  refine WL.nil ?_
                  refine WE.again (i + 1) ?_ ?_ ⟨rfl, rfl, trivial⟩ (List.Perm.refl _)
                  · try dsimp only   -- again 0
                    refine ⟨by omega, fun j hj => ?_⟩
                    rcases Nat.lt_or_ge j i with h | h
                    · exact hf j h
                    · rw [show j = i by omega]; exact ⟨by_n hc10_2 s10_4, by_n hc10_7 q10⟩
                  · (try dsimp only); omega
            ·
              try simp only [Bool.not_eq_eq_eq_not, Bool.not_true, Bool.not_false, decide_eq_true_eq, decide_eq_false_iff_not, Int.not_lt, Int.not_le, ne_eq, Decidable.not_not, ← List.length_eq_zero_iff] at q8
              refine WC.exit ?_
              refine WE.then_exit ?_
              refine WE.then_exit ?_
              refine WE.block_same ?_
              refine WE.then_normal ?_
              refine WC.sub (fr' := [(0, _)]) ?_ ⟨rfl, trivial⟩
              refine WC.seq ?_
              have hno : ∀ c : UInt8, (c = 91 ∨ c = 93) → c ∉ s := fun c hc hm => by
                obtain ⟨j, hj, he⟩ := mem_getD hm
                have := hf j (by omega)
                rcases hc with rfl | rfl
                · exact this.1 he
                · exact this.2 he
              have hb1 := hno 91 (.inl rfl)
              have hb2 := hno 93 (.inr rfl)
              refine WC.region ?_
              refine WL.q (oq_move rfl) rfl rfl rfl ?_
              refine WL.qc (oq_callRm (iHost A hE s (by omega) hb1 hb2) (.head _) call9 rfl) rfl rfl rfl ?_
              refine WL.q (oq_move rfl) rfl rfl rfl ?_
              refine WL.qc (oq_call (sValid s (by omega)) call10 rfl) rfl rfl rfl ?_
              refine WL.q (oq_beql Tryd.underlying4 rfl rfl) rfl rfl rfl ?_
              refine WL.q (oq_move rfl) rfl rfl rfl ?_
              refine WL.split 45 rfl (fun s12_5 => ?_) (fun s12_5 => ?_)
              ·
                try simp only [Bool.not_eq_eq_eq_not, Bool.not_true, Bool.not_false, decide_eq_true_eq, decide_eq_false_iff_not, Int.not_lt, Int.not_le, ne_eq, Decidable.not_not, ← List.length_eq_zero_iff] at s12_5
                refine WL.qc (oq_call (J0.hAwake) call4 rfl) rfl rfl rfl ?_
                refine WL.q (oq_pick_t rfl rfl) rfl rfl rfl ?_
                refine WL.q (oq_assign rfl) rfl rfl rfl ?_
                refine WL.nil ?_
                refine WE.then_normal ?_
                refine WC.sub (fr' := [(2, _)]) ?_ ⟨rfl, trivial⟩
                refine WC.ret ?_
                refine WE.endR (.inl rfl) (res1 Tryd.results3 rfl) ?_
                -- end 6
                first | rfl | (exfalso; simp_all; done)
              ·
                try simp only [Bool.not_eq_eq_eq_not, Bool.not_true, Bool.not_false, decide_eq_true_eq, decide_eq_false_iff_not, Int.not_lt, Int.not_le, ne_eq, Decidable.not_not, ← List.length_eq_zero_iff] at s12_5
                refine WL.skip rfl rfl rfl ?_
                refine WL.q (oq_pick_f rfl rfl) rfl rfl rfl ?_
                refine WL.q (oq_assign rfl) rfl rfl rfl ?_
                refine WL.nil ?_
                refine WE.then_normal ?_
                refine WC.sub (fr' := [(2, _)]) ?_ ⟨rfl, trivial⟩
                refine WC.ret ?_
                refine WE.endR (.inl rfl) (res1 Tryd.results3 rfl) ?_
                -- end 7
                first | rfl | (exfalso; simp_all; done)

end N3
end Go.Proofs.YtbcmbmmnpnbakaaDoor
