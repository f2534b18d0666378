/- The walk of the values of a text. -/
import Derived.Test.YtcgpajknehhdgaaDoorKW
import Derived.Test.YtcgpajknehhdgaaDoorL2
namespace Go.Proofs.YtcgpajknehhdgaaDoor
open Go Go.RowKit V KP KQ H1 H2 H0 KU KV KW L2 L1
set_option linter.unusedSimpArgs false
set_option linter.unusedVariables false
set_option maxRecDepth 10000
namespace KX
theorem call25 : Callable Tryd.prog 25 := ⟨_, Tryd.func25, rfl, by kernel_rfl⟩
theorem call48 : Callable Tryd.prog 48 := ⟨_, Tryd.func48, rfl, by kernel_rfl⟩
theorem call49 : Callable Tryd.prog 49 := ⟨_, Tryd.func49, rfl, by kernel_rfl⟩
theorem ty9 : Ty Tryd.prog 9 (S []) 1 16 := ty_of (by kernel_rfl)

def asc8 (c : UInt8) : Bool := decide (c.toNat < 128)
theorem asc8_of {v : List UInt8} (h : ∀ j : Nat, j < v.length → byteAt v j < 128) : v.all asc8 = true := by
  rw [List.all_eq_true]; intro c hc; exact decide_eq_true (asc_mem h c hc)
theorem asc8_not {v : List UInt8} {i : Nat} (hi : i < v.length) (h : 128 ≤ byteAt v i) : v.all asc8 = false := by
  rw [byteAt_get v i hi] at h
  cases hv : v.all asc8 with
  | false => rfl
  | true =>
    rw [List.all_eq_true] at hv
    have := of_decide_eq_true (hv v[i] (List.getElem_mem hi))
    omega
theorem asc_of8 {v : List UInt8} (h : v.all asc8 = true) : Asc v := asc_of fun c hc => of_decide_eq_true (List.all_eq_true.1 h c hc)
/-- the values of a text -/
def hpar (v : List UInt8) : HR := if v.all asc8 then hpF (v.length + 1) (trim v) else (none, false)
theorem hp_u {f : Nat} {s u : List UInt8} (hu : u = trimL s) (hn : ∀ t, u ≠ 34 :: t) : (i44 u = u.length → hpF (f + 1) s = (some [trim u], true)) ∧ (¬ i44 u = u.length → hpF (f + 1) s = pre [trim (u.take (i44 u))] (hpF f (u.drop (i44 u + 1)))) := by
  cases u with
  | nil => exact ⟨fun _ => hp_e hu.symm, fun h => absurd rfl h⟩
  | cons c t =>
    have hc : c ≠ 34 := fun e => hn t (by rw [e])
    exact ⟨fun h => hp_u0 hu.symm hc h, fun h => hp_u1 hu.symm hc h⟩
theorem rt_rest {t r : List UInt8} (h : Rt (34 :: t)) (hr : (hq t).2.1 = some r) : Rt r ∧ r.length < t.length ∧ r = t.drop (cj false t + 1) := by
  rcases hq_cj t.length t (Nat.le_refl _) with ⟨h1, _⟩ | ⟨x, h1, h2, h3, _⟩
  · rw [h1] at hr; cases hr
  · rw [h1] at hr
    have hx : x = r := Option.some.inj hr
    subst hx
    have e : x = t.drop (cj false t + 1) := by rw [← List.drop_drop, h3]; rfl
    refine ⟨?_, ?_, e⟩
    · have := h.drop (cj false t + 2)
      rw [List.drop_succ_cons, ← e] at this; exact this
    · have := congrArg List.length h3
      rw [List.length_drop, List.length_cons] at this
      omega
theorem cons_of {x : List UInt8} (h : ¬ x.length = 0) : ∃ d y, x = d :: y := by
  cases x with
  | nil => exact absurd rfl h
  | cons d y => exact ⟨d, y, rfl⟩
def PRes (R : HR) (v : Value) (N : Hp) : Prop := ∃ u, v = .tuple #[u, .bool R.1.isSome, .bool R.2] ∧ OwS 0 9 1 u N (R.1.getD []).length (strsV (R.1.getD []))
theorem pres_none {R : HR} {b : Bool} (h : R = (none, b)) : PRes R (.tuple #[.slice none 0 0, .bool false, .bool b]) [] := ⟨_, by rw [h]; rfl, by rw [h]; exact OwS.nil _ _ _⟩
theorem pres_some {R : HR} {l : List (List UInt8)} {base m : Nat} {xs : List Value} {u : Value} {N : Hp} (h : R = (some l, true)) (ho : OwS base 9 1 u N m xs) (hx : xs = strsV l) : PRes R (.tuple #[u, .bool true, .bool true]) N := ⟨_, by rw [h]; rfl, by rw [h]; exact own_eq (ho.mono (Nat.zero_le _)) hx⟩
/-- given.example/pub-tinwright/spec.HParts -/
theorem hParts (v : List UInt8) (hl : v.length ≤ 2147483647) : FnA Tryd.prog 23 [S v] [] (PRes (hpar v)) := by
  refine FnA.enter0 (n := 95) Tryd.func23 rfl rfl fun w0 => ?_
  refine WC.sub (fr' := [(0, _)]) ?_ ⟨rfl, trivial⟩
  refine WC.seq ?_
  refine WC.region ?_
  refine WL.q (oq_assign rfl) rfl rfl rfl ?_
  refine WL.q (oq_assign rfl) rfl rfl rfl ?_
  refine WL.q (oq_assign rfl) rfl rfl rfl ?_
  refine WL.nil ?_
  refine WE.then_normal ?_
  refine WC.sub (fr' := [(0, _), (2, _)]) ?_ ⟨rfl, rfl, trivial⟩
  refine WC.seq ?_
  refine WC.seq ?_
  refine WC.region ?_
  refine WL.q (oq_assign rfl) rfl rfl rfl ?_
  refine WL.nil ?_
  refine WE.then_normal ?_
  refine WC.sub (fr' := [(0, _), (2, _), (5, _)]) ?_ ⟨rfl, rfl, rfl, trivial⟩
  refine WC.block ?_
  refine WC.loop (ι := Nat) (fun (i : Nat) => [(0, S v), (2, .slice none 0 0), (5, I (i : Int))]) (fun (i : Nat) => []) (fun (i : Nat) => i ≤ v.length ∧ ∀ j : Nat, j < i → byteAt v j < 128) (fun (i : Nat) => v.length - i) (0) ?_ ⟨rfl, rfl, rfl, trivial⟩ (List.Perm.refl _) ?_
  · try dsimp only
    exact ⟨by omega, fun j hj => by omega⟩
  · rintro i hp
    try dsimp only at hp
    obtain ⟨hi, hf⟩ := hp
    show WC _ _ _ _ _ _ ([(0, S v), (2, .slice none 0 0), (5, I (i : Int))]) ([])
    refine WC.seq ?_
    refine WC.seq ?_
    refine WC.region ?_
    refine WL.q (oq_move rfl) rfl rfl rfl ?_
    refine WL.q (oq_move rfl) rfl rfl rfl ?_
    refine WL.q (oq_len_s Tryd.underlying9 rfl) rfl rfl rfl ?_
    refine WL.q (oq_lss rfl rfl) rfl rfl rfl ?_
    refine WL.nil ?_
    refine WE.then_normal ?_
    refine WC.sub (fr' := [(0, _), (2, _), (5, _), (14, _)]) ?_ ⟨rfl, rfl, rfl, rfl, trivial⟩
    refine WC.cond rfl (fun q2 => ?_) (fun q2 => ?_)
    ·
      try simp only [Bool.not_eq_eq_eq_not, Bool.not_true, Bool.not_false, decide_eq_true_eq, decide_eq_false_iff_not, Int.not_lt, Int.not_le, ne_eq, Decidable.not_not, ← List.length_eq_zero_iff] at q2
      refine WC.skip ?_
      refine WE.then_normal ?_
      refine WC.sub (fr' := [(0, _), (2, _), (5, _)]) ?_ ⟨rfl, rfl, rfl, trivial⟩
      refine WC.seq ?_
      refine WC.block ?_
      refine WC.seq ?_
      refine WC.region ?_
      refine WL.q (oq_move rfl) rfl rfl rfl ?_
      refine WL.q (oq_move rfl) rfl rfl rfl ?_
      refine WL.index_s Tryd.underlying9 rfl rfl (by (first | omega | (simp only [List.length_cons, List.length_nil, List.length_append, List.length_drop, List.length_take]; omega))) rfl rfl fun c4_2 hc4_2 hc4_2l hc4_2u => ?_
      refine WL.q (oq_geq rfl rfl) rfl rfl rfl ?_
      refine WL.nil ?_
      refine WE.then_normal ?_
      refine WC.sub (fr' := [(0, _), (2, _), (5, _), (20, _)]) ?_ ⟨rfl, rfl, rfl, rfl, trivial⟩
      refine WC.cond rfl (fun q4 => ?_) (fun q4 => ?_)
      ·
        try simp only [Bool.not_eq_eq_eq_not, Bool.not_true, Bool.not_false, decide_eq_true_eq, decide_eq_false_iff_not, Int.not_lt, Int.not_le, ne_eq, Decidable.not_not, ← List.length_eq_zero_iff] at q4
        refine WC.seq ?_
        refine WC.region ?_
        refine WL.q (oq_assign rfl) rfl rfl rfl ?_
        refine WL.q (oq_assign rfl) rfl rfl rfl ?_
        refine WL.q (oq_assign rfl) rfl rfl rfl ?_
        refine WL.nil ?_
        refine WE.then_normal ?_
        refine WC.sub (fr' := [(2, _), (3, _), (4, _)]) ?_ ⟨rfl, rfl, rfl, trivial⟩
        refine WC.ret ?_
        refine WE.block_ret ?_
        refine WE.then_ret ?_
        refine WE.then_ret ?_
        refine WE.block_ret ?_
        refine WE.then_ret ?_
        refine WE.add0 ?_
        refine WE.endA0 (.inl rfl) (res3 Tryd.results23 rfl rfl rfl) ?_ fresh0
        -- end 0
        exact pres_none (if_neg (by rw [asc8_not (i := i) (by omega) (by omega)]; simp))
      ·
        try simp only [Bool.not_eq_eq_eq_not, Bool.not_true, Bool.not_false, decide_eq_true_eq, decide_eq_false_iff_not, Int.not_lt, Int.not_le, ne_eq, Decidable.not_not, ← List.length_eq_zero_iff] at q4
        refine WC.skip ?_
        refine WE.block_normal ?_
        refine WE.then_normal ?_
        refine WC.sub (fr' := [(0, _), (2, _), (5, _)]) ?_ ⟨rfl, rfl, rfl, trivial⟩
        refine WC.region ?_
        refine WL.q (oq_move rfl) rfl rfl rfl ?_
        refine WL.q (oq_add rfl rfl (by rw [i64_lo, i64_hi]; (first | omega | (simp only [List.length_cons, List.length_nil, List.length_append, List.length_drop, List.length_take]; omega)))) rfl rfl rfl ?_
        refine WL.q (oq_assign rfl) rfl rfl rfl ?_
        refine WL.nil ?_
        refine WE.again (i + 1) ?_ ?_ ⟨rfl, rfl, rfl, trivial⟩ (List.Perm.refl _)
        · try dsimp only   -- again 0
          refine ⟨by omega, fun j hj => ?_⟩
          rcases Nat.lt_or_ge j i with h | h
          · exact hf j h
          · rw [show j = i by omega]; omega
        · (try dsimp only); omega
    ·
      try simp only [Bool.not_eq_eq_eq_not, Bool.not_true, Bool.not_false, decide_eq_true_eq, decide_eq_false_iff_not, Int.not_lt, Int.not_le, ne_eq, Decidable.not_not, ← List.length_eq_zero_iff] at q2
      refine WC.exit ?_
      refine WE.then_exit ?_
      refine WE.then_exit ?_
      refine WE.block_same ?_
      refine WE.then_normal ?_
      refine WC.sub (fr' := [(0, _), (2, _)]) ?_ ⟨rfl, rfl, trivial⟩
      refine WC.seq ?_
      refine WC.add0 ?_
      refine WC.region ?_
      refine WL.q (oq_move rfl) rfl rfl rfl ?_
      refine WL.qc (oq_call (hTrim _ (by (try simp only [List.length_take]); omega)) call25 rfl) rfl rfl rfl ?_
      refine WL.q (oq_assign rfl) rfl rfl rfl ?_
      refine WL.nil ?_
      refine WE.then_normal ?_
      refine WC.sub (fr' := [(0, _), (2, _)]) ?_ ⟨rfl, rfl, trivial⟩
      refine WC.block ?_
      refine WC.loop (ι := (List UInt8) × (List (List UInt8)) × Nat × Value × Hp) (fun i_ => (fun (s : List UInt8) (acc : List (List UInt8)) (f : Nat) (vw : Value) (B : Hp) => [(0, S s), (2, vw)]) i_.1 i_.2.1 i_.2.2.1 i_.2.2.2.1 i_.2.2.2.2) (fun i_ => (fun (s : List UInt8) (acc : List (List UInt8)) (f : Nat) (vw : Value) (B : Hp) => [B]) i_.1 i_.2.1 i_.2.2.1 i_.2.2.2.1 i_.2.2.2.2) (fun i_ => (fun (s : List UInt8) (acc : List (List UInt8)) (f : Nat) (vw : Value) (B : Hp) => hpF (v.length + 1) (trim v) = pre acc (hpF (f + 1) s) ∧ s.length ≤ f ∧ Rt s ∧ acc.length + s.length ≤ v.length ∧ OwS w0.heap.size 9 1 vw B acc.length (strsV acc)) i_.1 i_.2.1 i_.2.2.1 i_.2.2.2.1 i_.2.2.2.2) (fun i_ => (fun (s : List UInt8) (acc : List (List UInt8)) (f : Nat) (vw : Value) (B : Hp) => s.length) i_.1 i_.2.1 i_.2.2.1 i_.2.2.2.1 i_.2.2.2.2) ((trim v, [], v.length, _, _)) ?_ ⟨rfl, rfl, trivial⟩ (List.Perm.refl _) ?_
      · try dsimp only
        exact ⟨(pre_nil _).symm, trim_len v, rt_of_trim v, by have := trim_len v; simp; omega, OwS.nil _ _ _⟩
      · rintro ⟨s, acc, f, vw, B⟩ hp
        try dsimp only at hp
        obtain ⟨htot, hsf, hrt, hsl, ho⟩ := hp
        show WC _ _ _ _ _ _ ([(0, S s), (2, vw)]) ([B])
        have hal := asc8_of (v := v) (fun j hj => hf j (by omega))
        have htv : hpar v = hpF (v.length + 1) (trim v) := if_pos hal
        refine WC.block ?_
        refine WC.cut (ι := (List UInt8)) (fun (u : List UInt8) => [(0, S u), (2, vw)]) (fun (u : List UInt8) => [B]) (fun (u : List UInt8) => u = trimL s) ?_ ?_
        ·
          refine WC.block ?_
          refine WC.loop (ι := (List UInt8)) (fun (x : List UInt8) => [(0, S x), (2, vw)]) (fun (x : List UInt8) => [B]) (fun (x : List UInt8) => trimL x = trimL s ∧ x.length ≤ s.length) (fun (x : List UInt8) => x.length) (s) ?_ ⟨rfl, rfl, trivial⟩ (List.Perm.refl _) ?_
          · try dsimp only
            exact ⟨rfl, by omega⟩
          · rintro x hp
            try dsimp only at hp
            obtain ⟨hxs, hxl⟩ := hp
            show WC _ _ _ _ _ _ ([(0, S x), (2, vw)]) ([B])
            refine WC.seq ?_
            refine WC.seq ?_
            refine WC.region ?_
            refine WL.q (oq_move rfl) rfl rfl rfl ?_
            refine WL.q (oq_sneq rfl rfl) rfl rfl rfl ?_
            refine WL.q (oq_move rfl) rfl rfl rfl ?_
            refine WL.split 25 rfl (fun s7_2 => ?_) (fun s7_2 => ?_)
            ·
              try simp only [Bool.not_eq_eq_eq_not, Bool.not_true, Bool.not_false, decide_eq_true_eq, decide_eq_false_iff_not, Int.not_lt, Int.not_le, ne_eq, Decidable.not_not, ← List.length_eq_zero_iff] at s7_2
              refine WL.q (oq_move rfl) rfl rfl rfl ?_
              refine WL.index_s Tryd.underlying9 rfl rfl (by (first | omega | (simp only [List.length_cons, List.length_nil, List.length_append, List.length_drop, List.length_take]; omega))) rfl rfl fun c7_4 hc7_4 hc7_4l hc7_4u => ?_
              refine WL.qc (oq_call (hBlank _) call48 rfl) rfl rfl rfl ?_
              refine WL.q (oq_pick_t rfl rfl) rfl rfl rfl ?_
              refine WL.nil ?_
              refine WE.then_normal ?_
              refine WC.sub (fr' := [(0, _), (2, _), (29, _)]) ?_ ⟨rfl, rfl, rfl, trivial⟩
              refine WC.cond rfl (fun q7 => ?_) (fun q7 => ?_)
              ·
                try simp only [Bool.not_eq_eq_eq_not, Bool.not_true, Bool.not_false, decide_eq_true_eq, decide_eq_false_iff_not, Int.not_lt, Int.not_le, ne_eq, Decidable.not_not, ← List.length_eq_zero_iff] at q7
                refine WC.skip ?_
                refine WE.then_normal ?_
                refine WC.sub (fr' := [(0, _), (2, _)]) ?_ ⟨rfl, rfl, trivial⟩
                refine WC.block ?_
                refine WC.region ?_
                refine WL.q (oq_move rfl) rfl rfl rfl ?_
                refine WL.q (oq_slice_s1 Tryd.underlying9 rfl rfl (by (first | omega | (simp only [List.length_cons, List.length_nil, List.length_append, List.length_drop, List.length_take]; omega)))) rfl rfl rfl ?_
                refine WL.q (oq_assign rfl) rfl rfl rfl ?_
                refine WL.nil ?_
                refine WE.block_normal ?_
                refine WE.again _ ?_ ?_ ⟨rfl, rfl, trivial⟩ (List.Perm.refl _)
                · try dsimp only   -- again 0
                  exact ⟨by rw [← hxs]; exact trimL_step x (by intro e; subst e; exact s7_2 rfl) (by rw [← hc7_4]; exact q7), by (simp only [List.length_drop]; omega)⟩
                · (try dsimp only); simp only [List.length_drop]; omega
              ·
                try simp only [Bool.not_eq_eq_eq_not, Bool.not_true, Bool.not_false, decide_eq_true_eq, decide_eq_false_iff_not, Int.not_lt, Int.not_le, ne_eq, Decidable.not_not, ← List.length_eq_zero_iff] at q7
                refine WC.exit ?_
                refine WE.then_exit ?_
                refine WE.then_exit ?_
                refine WE.block_same ?_
                refine WE.meet _ ?_ ⟨rfl, rfl, trivial⟩ (List.Perm.refl _)
                try dsimp only
                first | (rw [← hxs]; exact (trimL_stop x (.inr (by rw [← hc7_4]; exact q7))).symm) | (rw [← hxs]; exact (trimL_stop x (.inl (List.eq_nil_of_length_eq_zero s7_2))).symm)   -- meet 0
            ·
              try simp only [Bool.not_eq_eq_eq_not, Bool.not_true, Bool.not_false, decide_eq_true_eq, decide_eq_false_iff_not, Int.not_lt, Int.not_le, ne_eq, Decidable.not_not, ← List.length_eq_zero_iff] at s7_2
              refine WL.skip rfl rfl rfl ?_
              refine WL.skip rfl rfl rfl ?_
              refine WL.skip rfl rfl rfl ?_
              refine WL.q (oq_pick_f rfl rfl) rfl rfl rfl ?_
              refine WL.nil ?_
              refine WE.then_normal ?_
              refine WC.sub (fr' := [(0, _), (2, _), (29, _)]) ?_ ⟨rfl, rfl, rfl, trivial⟩
              refine WC.cond_f rfl ?_
              refine WC.exit ?_
              refine WE.then_exit ?_
              refine WE.then_exit ?_
              refine WE.block_same ?_
              refine WE.meet _ ?_ ⟨rfl, rfl, trivial⟩ (List.Perm.refl _)
              try dsimp only
              first | (rw [← hxs]; exact (trimL_stop x (.inr (by rw [← hc7_4]; exact q7))).symm) | (rw [← hxs]; exact (trimL_stop x (.inl (List.eq_nil_of_length_eq_zero s7_2))).symm)   -- meet 1
        · rintro u hp
          try dsimp only at hp
          show WC _ _ _ _ _ _ ([(0, S u), (2, vw)]) ([B])
          have hu := hp
          have hul : u.length ≤ s.length := by rw [hu]; exact trimL_len s
          have hru : Rt u := by rw [hu]; exact rt_trimL hrt
          refine WC.cut (ι := Unit) (fun _ => [(0, S u), (2, vw)]) (fun _ => [B]) (fun _ => ∀ t, u ≠ 34 :: t) ?_ ?_
          ·
            refine WC.seq ?_
            refine WC.region ?_
            refine WL.q (oq_move rfl) rfl rfl rfl ?_
            refine WL.q (oq_sneq rfl rfl) rfl rfl rfl ?_
            refine WL.q (oq_move rfl) rfl rfl rfl ?_
            refine WL.split 34 rfl (fun s9_2 => ?_) (fun s9_2 => ?_)
            ·
              try simp only [Bool.not_eq_eq_eq_not, Bool.not_true, Bool.not_false, decide_eq_true_eq, decide_eq_false_iff_not, Int.not_lt, Int.not_le, ne_eq, Decidable.not_not, ← List.length_eq_zero_iff] at s9_2
              refine WL.q (oq_move rfl) rfl rfl rfl ?_
              refine WL.index_s Tryd.underlying9 rfl rfl (by (first | omega | (simp only [List.length_cons, List.length_nil, List.length_append, List.length_drop, List.length_take]; omega))) rfl rfl fun c9_4 hc9_4 hc9_4l hc9_4u => ?_
              refine WL.q (oq_eql rfl rfl) rfl rfl rfl ?_
              refine WL.q (oq_pick_t rfl rfl) rfl rfl rfl ?_
              refine WL.nil ?_
              refine WE.then_normal ?_
              refine WC.sub (fr' := [(0, _), (2, _), (38, _)]) ?_ ⟨rfl, rfl, rfl, trivial⟩
              refine WC.cond rfl (fun q9 => ?_) (fun q9 => ?_)
              ·
                try simp only [Bool.not_eq_eq_eq_not, Bool.not_true, Bool.not_false, decide_eq_true_eq, decide_eq_false_iff_not, Int.not_lt, Int.not_le, ne_eq, Decidable.not_not, ← List.length_eq_zero_iff] at q9
                refine WC.seq ?_
                obtain ⟨t, rfl⟩ := head34 (t := u) (by omega) (by omega)
                have hul2 : t.length + 1 ≤ s.length := hul
                refine WC.region ?_
                refine WL.q (oq_move rfl) rfl rfl rfl ?_
                refine WL.qc (oq_call (hQuoted t (by omega)) call49 rfl) rfl rfl rfl ?_
                refine WL.q (oq_move rfl) rfl rfl rfl ?_
                refine WL.q (oq_extract rfl rfl) rfl rfl rfl ?_
                refine WL.q (oq_extract rfl rfl) rfl rfl rfl ?_
                refine WL.q (oq_extract rfl rfl) rfl rfl rfl ?_
                refine WL.q (oq_extract rfl rfl) rfl rfl rfl ?_
                refine WL.q (oq_assign rfl) rfl rfl rfl ?_
                refine WL.q (oq_assign rfl) rfl rfl rfl ?_
                refine WL.q (oq_assign rfl) rfl rfl rfl ?_
                refine WL.q (oq_assign rfl) rfl rfl rfl ?_
                refine WL.nil ?_
                refine WE.then_normal ?_
                refine WC.sub (fr' := [(2, _), (6, _), (7, _), (8, _), (9, _)]) ?_ ⟨rfl, rfl, rfl, rfl, rfl, trivial⟩
                refine WC.seq ?_
                refine WC.seq ?_
                refine WC.region ?_
                refine WL.q (oq_move rfl) rfl rfl rfl ?_
                refine WL.q (oq_not rfl) rfl rfl rfl ?_
                refine WL.q (oq_move rfl) rfl rfl rfl ?_
                refine WL.split 48 rfl (fun s11_2 => ?_) (fun s11_2 => ?_)
                ·
                  try simp only [Bool.not_eq_eq_eq_not, Bool.not_true, Bool.not_false, decide_eq_true_eq, decide_eq_false_iff_not, Int.not_lt, Int.not_le, ne_eq, Decidable.not_not, ← List.length_eq_zero_iff] at s11_2
                  refine WL.skip rfl rfl rfl ?_
                  refine WL.q (oq_pick_t rfl rfl) rfl rfl rfl ?_
                  refine WL.nil ?_
                  refine WE.then_normal ?_
                  refine WC.sub (fr' := [(2, _), (6, _), (7, _), (9, _), (50, _)]) ?_ ⟨rfl, rfl, rfl, rfl, rfl, trivial⟩
                  refine WC.cond_t rfl ?_
                  refine WC.seq ?_
                  refine WC.region ?_
                  refine WL.q (oq_move rfl) rfl rfl rfl ?_
                  refine WL.q (oq_not rfl) rfl rfl rfl ?_
                  refine WL.q (oq_assign rfl) rfl rfl rfl ?_
                  refine WL.q (oq_assign rfl) rfl rfl rfl ?_
                  refine WL.q (oq_assign rfl) rfl rfl rfl ?_
                  refine WL.nil ?_
                  refine WE.then_normal ?_
                  refine WC.sub (fr' := [(2, _), (3, _), (4, _)]) ?_ ⟨rfl, rfl, rfl, trivial⟩
                  refine WC.ret ?_
                  refine WE.then_ret ?_
                  refine WE.then_ret ?_
                  refine WE.block_ret ?_
                  refine WE.then_ret ?_
                  refine WE.block_ret ?_
                  refine WE.forget ho.fresh ?_
                  refine WE.add0 ?_
                  refine WE.endA0 (.inl rfl) (res3 Tryd.results23 rfl rfl rfl) ?_ fresh0
                  -- end 1
                  refine pres_none ?_
                  rw [htv, htot]
                  cases hx : (hq t).2.1 with
                  | none => rw [hp_q0 hu.symm hx]; rfl
                  | some r => rw [hp_q1 hu.symm hx (.inl (by rw [hx] at s11_2; simpa using s11_2))]; rfl
                ·
                  try simp only [Bool.not_eq_eq_eq_not, Bool.not_true, Bool.not_false, decide_eq_true_eq, decide_eq_false_iff_not, Int.not_lt, Int.not_le, ne_eq, Decidable.not_not, ← List.length_eq_zero_iff] at s11_2
                  refine WL.q (oq_move rfl) rfl rfl rfl ?_
                  refine WL.q (oq_pick_f rfl rfl) rfl rfl rfl ?_
                  refine WL.nil ?_
                  refine WE.then_normal ?_
                  refine WC.sub (fr' := [(2, _), (6, _), (7, _), (9, _), (50, _)]) ?_ ⟨rfl, rfl, rfl, rfl, rfl, trivial⟩
                  refine WC.cond rfl (fun q11 => ?_) (fun q11 => ?_)
                  ·
                    try simp only [Bool.not_eq_eq_eq_not, Bool.not_true, Bool.not_false, decide_eq_true_eq, decide_eq_false_iff_not, Int.not_lt, Int.not_le, ne_eq, Decidable.not_not, ← List.length_eq_zero_iff] at q11
                    refine WC.seq ?_
                    refine WC.region ?_
                    refine WL.q (oq_move rfl) rfl rfl rfl ?_
                    refine WL.q (oq_not rfl) rfl rfl rfl ?_
                    refine WL.q (oq_assign rfl) rfl rfl rfl ?_
                    refine WL.q (oq_assign rfl) rfl rfl rfl ?_
                    refine WL.q (oq_assign rfl) rfl rfl rfl ?_
                    refine WL.nil ?_
                    refine WE.then_normal ?_
                    refine WC.sub (fr' := [(2, _), (3, _), (4, _)]) ?_ ⟨rfl, rfl, rfl, trivial⟩
                    refine WC.ret ?_
                    refine WE.then_ret ?_
                    refine WE.then_ret ?_
                    refine WE.block_ret ?_
                    refine WE.then_ret ?_
                    refine WE.block_ret ?_
                    refine WE.forget ho.fresh ?_
                    refine WE.add0 ?_
                    refine WE.endA0 (.inl rfl) (res3 Tryd.results23 rfl rfl rfl) ?_ fresh0
                    -- end 2
                    refine pres_none ?_
                    rw [htv, htot]
                    cases hx : (hq t).2.1 with
                    | none => rw [hp_q0 hu.symm hx]; rfl
                    | some r => rw [hp_q1 hu.symm hx (.inr q11)]; rfl
                  ·
                    try simp only [Bool.not_eq_eq_eq_not, Bool.not_true, Bool.not_false, decide_eq_true_eq, decide_eq_false_iff_not, Int.not_lt, Int.not_le, ne_eq, Decidable.not_not, ← List.length_eq_zero_iff] at q11
                    refine WC.skip ?_
                    refine WE.then_normal ?_
                    refine WC.sub (fr' := [(2, _), (6, _), (7, _)]) ?_ ⟨rfl, rfl, rfl, trivial⟩
                    refine WC.seq ?_
                    obtain ⟨r, hr1⟩ : ∃ r, (hq t).2.1 = some r := Option.isSome_iff_exists.1 (by rw [Bool.and_eq_true] at s11_2; exact s11_2.1)
                    have hne : ¬ (hq t).1 = [] := by intro e; rw [e] at s11_2; simp at s11_2
                    obtain ⟨hrr, hrl, hre⟩ := rt_rest hru hr1
                    have htr := rt_trim hrr
                    rw [hr1, show (some r).getD [] = r from rfl, show (some r).elim [] (fun _ => (hq t).1) = (hq t).1 from rfl]
                    refine WC.region ?_
                    refine WL.q (oq_move rfl) rfl rfl rfl ?_
                    refine WL.qc (oq_call (hTrim _ (by (try simp only [List.length_take]); omega)) call25 rfl) rfl rfl rfl ?_
                    refine WL.q (oq_assign rfl) rfl rfl rfl ?_
                    refine WL.nil ?_
                    refine WE.then_normal ?_
                    refine WC.sub (fr' := [(2, _), (6, _), (7, _)]) ?_ ⟨rfl, rfl, rfl, trivial⟩
                    refine WC.seq ?_
                    refine WC.region ?_
                    refine WL.q (oq_move rfl) rfl rfl rfl ?_
                    refine WL.q (oq_move rfl) rfl rfl rfl ?_
                    refine WL.append1 ho Tryd.underlying36 ty9 rfl (by decide) (fun _ => rfl) rfl rfl (by unfold maxLen; omega) (by omega) rfl rfl (fun _ => rfl) rfl fun v14 A14 u14 ho14 hne14 => ?_
                    refine WL.q (oq_assign rfl) rfl rfl rfl ?_
                    refine WL.nil ?_
                    refine WE.then_normal ?_
                    refine WC.sub (fr' := [(2, _), (7, _)]) ?_ ⟨rfl, rfl, trivial⟩
                    refine WC.seq ?_
                    refine WC.seq ?_
                    refine WC.region ?_
                    refine WL.q (oq_move rfl) rfl rfl rfl ?_
                    refine WL.q (oq_seql rfl rfl) rfl rfl rfl ?_
                    refine WL.nil ?_
                    refine WE.then_normal ?_
                    refine WC.sub (fr' := [(2, _), (7, _), (60, _)]) ?_ ⟨rfl, rfl, rfl, trivial⟩
                    refine WC.cond rfl (fun q15 => ?_) (fun q15 => ?_)
                    ·
                      try simp only [Bool.not_eq_eq_eq_not, Bool.not_true, Bool.not_false, decide_eq_true_eq, decide_eq_false_iff_not, Int.not_lt, Int.not_le, ne_eq, Decidable.not_not, ← List.length_eq_zero_iff] at q15
                      refine WC.seq ?_
                      refine WC.region ?_
                      refine WL.q (oq_move rfl) rfl rfl rfl ?_
                      refine WL.q (oq_assign rfl) rfl rfl rfl ?_
                      refine WL.q (oq_assign rfl) rfl rfl rfl ?_
                      refine WL.q (oq_assign rfl) rfl rfl rfl ?_
                      refine WL.nil ?_
                      refine WE.then_normal ?_
                      refine WC.sub (fr' := [(2, _), (3, _), (4, _)]) ?_ ⟨rfl, rfl, rfl, trivial⟩
                      refine WC.ret ?_
                      refine WE.then_ret ?_
                      refine WE.then_ret ?_
                      refine WE.block_ret ?_
                      refine WE.then_ret ?_
                      refine WE.block_ret ?_
                      refine WE.endA0 (.inl rfl) (res3 Tryd.results23 rfl rfl rfl) ?_ (ho14.fresh)
                      -- end 3
                      have h4 : trimL r = [] := by rw [← htr]; exact List.eq_nil_of_length_eq_zero q15
                      exact pres_some (l := acc ++ [(hq t).1]) (by rw [htv, htot, hp_q2 hu.symm hr1 hne q11 h4]; rfl) ho14 (by simp [strsV])
                    ·
                      try simp only [Bool.not_eq_eq_eq_not, Bool.not_true, Bool.not_false, decide_eq_true_eq, decide_eq_false_iff_not, Int.not_lt, Int.not_le, ne_eq, Decidable.not_not, ← List.length_eq_zero_iff] at q15
                      refine WC.skip ?_
                      refine WE.then_normal ?_
                      refine WC.sub (fr' := [(2, _), (7, _)]) ?_ ⟨rfl, rfl, trivial⟩
                      refine WC.seq ?_
                      refine WC.seq ?_
                      refine WC.region ?_
                      refine WL.q (oq_move rfl) rfl rfl rfl ?_
                      refine WL.index_s Tryd.underlying9 rfl rfl (by (first | omega | (simp only [List.length_cons, List.length_nil, List.length_append, List.length_drop, List.length_take]; omega))) rfl rfl fun c17_1 hc17_1 hc17_1l hc17_1u => ?_
                      refine WL.q (oq_neq rfl rfl) rfl rfl rfl ?_
                      refine WL.nil ?_
                      refine WE.then_normal ?_
                      refine WC.sub (fr' := [(2, _), (7, _), (64, _)]) ?_ ⟨rfl, rfl, rfl, trivial⟩
                      refine WC.cond rfl (fun q17 => ?_) (fun q17 => ?_)
                      ·
                        try simp only [Bool.not_eq_eq_eq_not, Bool.not_true, Bool.not_false, decide_eq_true_eq, decide_eq_false_iff_not, Int.not_lt, Int.not_le, ne_eq, Decidable.not_not, ← List.length_eq_zero_iff] at q17
                        refine WC.seq ?_
                        refine WC.region ?_
                        refine WL.q (oq_assign rfl) rfl rfl rfl ?_
                        refine WL.q (oq_assign rfl) rfl rfl rfl ?_
                        refine WL.q (oq_assign rfl) rfl rfl rfl ?_
                        refine WL.nil ?_
                        refine WE.then_normal ?_
                        refine WC.sub (fr' := [(2, _), (3, _), (4, _)]) ?_ ⟨rfl, rfl, rfl, trivial⟩
                        refine WC.ret ?_
                        refine WE.then_ret ?_
                        refine WE.then_ret ?_
                        refine WE.block_ret ?_
                        refine WE.then_ret ?_
                        refine WE.block_ret ?_
                        refine WE.forget ho14.fresh ?_
                        refine WE.add0 ?_
                        refine WE.endA0 (.inl rfl) (res3 Tryd.results23 rfl rfl rfl) ?_ fresh0
                        -- end 4
                        obtain ⟨d, y, hdy⟩ := cons_of q15
                        have hd0 : byteAt (trim r) 0 = (d.toNat : Int) := by rw [hdy]; rfl
                        rw [htr] at hdy
                        exact pres_none (by rw [htv, htot, hp_q4 hu.symm hr1 hne q11 hdy (by rintro rfl; apply q17; rw [hc17_1, hd0]; rfl)]; rfl)
                      ·
                        try simp only [Bool.not_eq_eq_eq_not, Bool.not_true, Bool.not_false, decide_eq_true_eq, decide_eq_false_iff_not, Int.not_lt, Int.not_le, ne_eq, Decidable.not_not, ← List.length_eq_zero_iff] at q17
                        refine WC.skip ?_
                        refine WE.then_normal ?_
                        refine WC.sub (fr' := [(2, _), (7, _)]) ?_ ⟨rfl, rfl, trivial⟩
                        refine WC.seq ?_
                        refine WC.region ?_
                        refine WL.q (oq_move rfl) rfl rfl rfl ?_
                        refine WL.q (oq_slice_s1 Tryd.underlying9 rfl rfl (by (first | omega | (simp only [List.length_cons, List.length_nil, List.length_append, List.length_drop, List.length_take]; omega)))) rfl rfl rfl ?_
                        refine WL.q (oq_assign rfl) rfl rfl rfl ?_
                        refine WL.nil ?_
                        refine WE.then_normal ?_
                        refine WC.sub (fr' := [(0, _), (2, _)]) ?_ ⟨rfl, rfl, trivial⟩
                        refine WC.exit ?_
                        refine WE.then_exit ?_
                        refine WE.block_same ?_
                        refine WE.again (_, acc ++ [(hq t).1], f - 1, _, _) ?_ ?_ ⟨rfl, rfl, trivial⟩ (List.Perm.refl _)
                        · try dsimp only   -- again 0
                          obtain ⟨d, y, hdy⟩ := cons_of q15
                          have hd0 : byteAt (trim r) 0 = (d.toNat : Int) := by rw [hdy]; rfl
                          have hd : d = 44 := UInt8.toNat_inj.1 (by show d.toNat = 44; omega)
                          subst hd
                          have hdy2 := hdy
                          rw [htr] at hdy2
                          have hyl := trimL_len r
                          rw [hdy2] at hyl
                          simp only [List.length_cons] at hyl
                          rw [hdy]
                          refine ⟨?_, by show y.length ≤ f - 1; omega, ?_, by show (acc ++ [(hq t).1]).length + y.length ≤ v.length; simp; omega, own_snoc ho14⟩
                          · show _ = pre _ (hpF (f - 1 + 1) y)
                            rw [htot, hp_q3 hu.symm hr1 hne q11 hdy2, pre_pre, show f - 1 + 1 = f by omega]
                          · have h9 := (rt_trimL hrr).drop 1
                            rw [hdy2] at h9; exact h9
                        · (try dsimp only); (have h7 := trim_len r; simp only [List.length_drop]; omega)
              ·
                try simp only [Bool.not_eq_eq_eq_not, Bool.not_true, Bool.not_false, decide_eq_true_eq, decide_eq_false_iff_not, Int.not_lt, Int.not_le, ne_eq, Decidable.not_not, ← List.length_eq_zero_iff] at q9
                refine WC.skip ?_
                have hnu : ∀ t, u ≠ 34 :: t := by
                  intro t e; rw [e] at s9_2; first | (rw [e] at hc9_4; exact q9 hc9_4) | (exact absurd s9_2 (by simp))
                refine WE.meet () ?_ ⟨rfl, rfl, trivial⟩ (List.Perm.refl _)
                try dsimp only
                exact hnu   -- meet 0
            ·
              try simp only [Bool.not_eq_eq_eq_not, Bool.not_true, Bool.not_false, decide_eq_true_eq, decide_eq_false_iff_not, Int.not_lt, Int.not_le, ne_eq, Decidable.not_not, ← List.length_eq_zero_iff] at s9_2
              refine WL.skip rfl rfl rfl ?_
              refine WL.skip rfl rfl rfl ?_
              refine WL.skip rfl rfl rfl ?_
              refine WL.q (oq_pick_f rfl rfl) rfl rfl rfl ?_
              refine WL.nil ?_
              refine WE.then_normal ?_
              refine WC.sub (fr' := [(0, _), (2, _), (38, _)]) ?_ ⟨rfl, rfl, rfl, trivial⟩
              refine WC.cond_f rfl ?_
              refine WC.skip ?_
              have hnu : ∀ t, u ≠ 34 :: t := by
                intro t e; rw [e] at s9_2; first | (rw [e] at hc9_4; exact q9 hc9_4) | (exact absurd s9_2 (by simp))
              refine WE.meet () ?_ ⟨rfl, rfl, trivial⟩ (List.Perm.refl _)
              try dsimp only
              exact hnu   -- meet 1
          · rintro _ hp
            try dsimp only at hp
            show WC _ _ _ _ _ _ ([(0, S u), (2, vw)]) ([B])
            have hnu := hp
            have hil := i44_le u
            refine WC.seq ?_
            refine WC.region ?_
            refine WL.q (oq_assign rfl) rfl rfl rfl ?_
            refine WL.nil ?_
            refine WE.then_normal ?_
            refine WC.sub (fr' := [(0, _), (2, _), (10, _)]) ?_ ⟨rfl, rfl, rfl, trivial⟩
            refine WC.cut (ι := Unit) (fun _ => [(0, S u), (2, vw), (10, I (i44 u : Int))]) (fun _ => [B]) (fun _ => True) ?_ ?_
            ·
              refine WC.block ?_
              refine WC.loop (ι := Nat) (fun (a : Nat) => [(0, S u), (2, vw), (10, I (a : Int))]) (fun (a : Nat) => [B]) (fun (a : Nat) => a ≤ u.length ∧ a + i44 (u.drop a) = i44 u) (fun (a : Nat) => u.length - a) (0) ?_ ⟨rfl, rfl, rfl, trivial⟩ (List.Perm.refl _) ?_
              · try dsimp only
                exact ⟨by omega, by simp⟩
              · rintro a hp
                try dsimp only at hp
                obtain ⟨ha, hau⟩ := hp
                show WC _ _ _ _ _ _ ([(0, S u), (2, vw), (10, I (a : Int))]) ([B])
                refine WC.seq ?_
                refine WC.seq ?_
                refine WC.region ?_
                refine WL.q (oq_move rfl) rfl rfl rfl ?_
                refine WL.q (oq_move rfl) rfl rfl rfl ?_
                refine WL.q (oq_len_s Tryd.underlying9 rfl) rfl rfl rfl ?_
                refine WL.q (oq_lss rfl rfl) rfl rfl rfl ?_
                refine WL.q (oq_move rfl) rfl rfl rfl ?_
                refine WL.split 71 rfl (fun s21_4 => ?_) (fun s21_4 => ?_)
                ·
                  try simp only [Bool.not_eq_eq_eq_not, Bool.not_true, Bool.not_false, decide_eq_true_eq, decide_eq_false_iff_not, Int.not_lt, Int.not_le, ne_eq, Decidable.not_not, ← List.length_eq_zero_iff] at s21_4
                  refine WL.q (oq_move rfl) rfl rfl rfl ?_
                  refine WL.q (oq_move rfl) rfl rfl rfl ?_
                  refine WL.index_s Tryd.underlying9 rfl rfl (by (first | omega | (simp only [List.length_cons, List.length_nil, List.length_append, List.length_drop, List.length_take]; omega))) rfl rfl fun c21_7 hc21_7 hc21_7l hc21_7u => ?_
                  refine WL.q (oq_neq rfl rfl) rfl rfl rfl ?_
                  refine WL.q (oq_pick_t rfl rfl) rfl rfl rfl ?_
                  refine WL.nil ?_
                  refine WE.then_normal ?_
                  refine WC.sub (fr' := [(0, _), (2, _), (10, _), (76, _)]) ?_ ⟨rfl, rfl, rfl, rfl, trivial⟩
                  refine WC.cond rfl (fun q21 => ?_) (fun q21 => ?_)
                  ·
                    try simp only [Bool.not_eq_eq_eq_not, Bool.not_true, Bool.not_false, decide_eq_true_eq, decide_eq_false_iff_not, Int.not_lt, Int.not_le, ne_eq, Decidable.not_not, ← List.length_eq_zero_iff] at q21
                    refine WC.skip ?_
                    refine WE.then_normal ?_
                    refine WC.sub (fr' := [(0, _), (2, _), (10, _)]) ?_ ⟨rfl, rfl, rfl, trivial⟩
                    refine WC.block ?_
                    refine WC.region ?_
                    refine WL.q (oq_move rfl) rfl rfl rfl ?_
                    refine WL.q (oq_add rfl rfl (by rw [i64_lo, i64_hi]; (first | omega | (simp only [List.length_cons, List.length_nil, List.length_append, List.length_drop, List.length_take]; omega)))) rfl rfl rfl ?_
                    refine WL.q (oq_assign rfl) rfl rfl rfl ?_
                    refine WL.nil ?_
                    refine WE.block_normal ?_
                    refine WE.again (a + 1) ?_ ?_ ⟨rfl, rfl, rfl, trivial⟩ (List.Perm.refl _)
                    · try dsimp only   -- again 0
                      have hst := i44_step u a (by omega)
                      rw [if_neg (by rw [← hc21_7]; exact q21)] at hst
                      exact ⟨by omega, by omega⟩
                    · (try dsimp only); omega
                  ·
                    try simp only [Bool.not_eq_eq_eq_not, Bool.not_true, Bool.not_false, decide_eq_true_eq, decide_eq_false_iff_not, Int.not_lt, Int.not_le, ne_eq, Decidable.not_not, ← List.length_eq_zero_iff] at q21
                    refine WC.exit ?_
                    refine WE.then_exit ?_
                    refine WE.then_exit ?_
                    refine WE.block_same ?_
                    refine WE.meet () ?_ ⟨rfl, rfl, (gtv rfl (by exact congrArg (Value.int .i64) (by first | (have hst := i44_step u a (by omega); rw [if_pos (by rw [← hc21_7]; exact q21)] at hst; omega) | (rw [List.drop_eq_nil_of_le (by omega)] at hau; have : i44 [] = 0 := rfl; omega)))), trivial⟩ (List.Perm.refl _)
                    try dsimp only
                    all_goals trivial   -- meet 0
                ·
                  try simp only [Bool.not_eq_eq_eq_not, Bool.not_true, Bool.not_false, decide_eq_true_eq, decide_eq_false_iff_not, Int.not_lt, Int.not_le, ne_eq, Decidable.not_not, ← List.length_eq_zero_iff] at s21_4
                  refine WL.skip rfl rfl rfl ?_
                  refine WL.skip rfl rfl rfl ?_
                  refine WL.skip rfl rfl rfl ?_
                  refine WL.skip rfl rfl rfl ?_
                  refine WL.q (oq_pick_f rfl rfl) rfl rfl rfl ?_
                  refine WL.nil ?_
                  refine WE.then_normal ?_
                  refine WC.sub (fr' := [(0, _), (2, _), (10, _), (76, _)]) ?_ ⟨rfl, rfl, rfl, rfl, trivial⟩
                  refine WC.cond_f rfl ?_
                  refine WC.exit ?_
                  refine WE.then_exit ?_
                  refine WE.then_exit ?_
                  refine WE.block_same ?_
                  refine WE.meet () ?_ ⟨rfl, rfl, (gtv rfl (by exact congrArg (Value.int .i64) (by first | (have hst := i44_step u a (by omega); rw [if_pos (by rw [← hc21_7]; exact q21)] at hst; omega) | (rw [List.drop_eq_nil_of_le (by omega)] at hau; have : i44 [] = 0 := rfl; omega)))), trivial⟩ (List.Perm.refl _)
                  try dsimp only
                  all_goals trivial   -- meet 1
            · rintro _ hp
              try dsimp only at hp
              show WC _ _ _ _ _ _ ([(0, S u), (2, vw), (10, I (i44 u : Int))]) ([B])
              refine WC.seq ?_
              refine WC.region ?_
              refine WL.q (oq_move rfl) rfl rfl rfl ?_
              refine WL.q (oq_move rfl) rfl rfl rfl ?_
              refine WL.q (oq_move rfl) rfl rfl rfl ?_
              refine WL.q (oq_slice_s0 Tryd.underlying9 rfl rfl (by (first | omega | (simp only [List.length_cons, List.length_nil, List.length_append, List.length_drop, List.length_take]; omega)))) rfl rfl rfl ?_
              refine WL.qc (oq_call (hTrim _ (by (try simp only [List.length_take]); omega)) call25 rfl) rfl rfl rfl ?_
              refine WL.append1 ho Tryd.underlying36 ty9 rfl (by decide) (fun _ => rfl) rfl rfl (by unfold maxLen; omega) (by omega) rfl rfl (fun _ => rfl) rfl fun v23 A23 u23 ho23 hne23 => ?_
              refine WL.q (oq_assign rfl) rfl rfl rfl ?_
              refine WL.nil ?_
              refine WE.then_normal ?_
              refine WC.sub (fr' := [(0, _), (2, _), (10, _)]) ?_ ⟨rfl, rfl, rfl, trivial⟩
              refine WC.seq ?_
              refine WC.seq ?_
              refine WC.region ?_
              refine WL.q (oq_move rfl) rfl rfl rfl ?_
              refine WL.q (oq_move rfl) rfl rfl rfl ?_
              refine WL.q (oq_len_s Tryd.underlying9 rfl) rfl rfl rfl ?_
              refine WL.q (oq_eql rfl rfl) rfl rfl rfl ?_
              refine WL.nil ?_
              refine WE.then_normal ?_
              refine WC.sub (fr' := [(0, _), (2, _), (10, _), (89, _)]) ?_ ⟨rfl, rfl, rfl, rfl, trivial⟩
              refine WC.cond rfl (fun q24 => ?_) (fun q24 => ?_)
              ·
                try simp only [Bool.not_eq_eq_eq_not, Bool.not_true, Bool.not_false, decide_eq_true_eq, decide_eq_false_iff_not, Int.not_lt, Int.not_le, ne_eq, Decidable.not_not, ← List.length_eq_zero_iff] at q24
                refine WC.seq ?_
                refine WC.region ?_
                refine WL.q (oq_move rfl) rfl rfl rfl ?_
                refine WL.q (oq_assign rfl) rfl rfl rfl ?_
                refine WL.q (oq_assign rfl) rfl rfl rfl ?_
                refine WL.q (oq_assign rfl) rfl rfl rfl ?_
                refine WL.nil ?_
                refine WE.then_normal ?_
                refine WC.sub (fr' := [(2, _), (3, _), (4, _)]) ?_ ⟨rfl, rfl, rfl, trivial⟩
                refine WC.ret ?_
                refine WE.then_ret ?_
                refine WE.block_ret ?_
                refine WE.then_ret ?_
                refine WE.block_ret ?_
                refine WE.endA0 (.inl rfl) (res3 Tryd.results23 rfl rfl rfl) ?_ (ho23.fresh)
                -- end 5
                exact pres_some (l := acc ++ [trim u]) (by rw [htv, htot, (hp_u hu hnu).1 (by omega)]; rfl) ho23 (by rw [List.take_of_length_le (by omega)]; simp [strsV])
              ·
                try simp only [Bool.not_eq_eq_eq_not, Bool.not_true, Bool.not_false, decide_eq_true_eq, decide_eq_false_iff_not, Int.not_lt, Int.not_le, ne_eq, Decidable.not_not, ← List.length_eq_zero_iff] at q24
                refine WC.skip ?_
                refine WE.then_normal ?_
                refine WC.sub (fr' := [(0, _), (2, _), (10, _)]) ?_ ⟨rfl, rfl, rfl, trivial⟩
                refine WC.region ?_
                refine WL.q (oq_move rfl) rfl rfl rfl ?_
                refine WL.q (oq_move rfl) rfl rfl rfl ?_
                refine WL.q (oq_add rfl rfl (by rw [i64_lo, i64_hi]; (first | omega | (simp only [List.length_cons, List.length_nil, List.length_append, List.length_drop, List.length_take]; omega)))) rfl rfl rfl ?_
                refine WL.q (oq_slice_s1 Tryd.underlying9 rfl rfl (by (first | omega | (simp only [List.length_cons, List.length_nil, List.length_append, List.length_drop, List.length_take]; omega)))) rfl rfl rfl ?_
                refine WL.q (oq_assign rfl) rfl rfl rfl ?_
                refine WL.nil ?_
                refine WE.block_normal ?_
                refine WE.again (_, acc ++ [trim (u.take (i44 u))], f - 1, _, _) ?_ ?_ ⟨rfl, rfl, trivial⟩ (List.Perm.refl _)
                · try dsimp only   -- again 1
                  have hdn : (((i44 u : Nat) : Int) + 1).toNat = i44 u + 1 := by omega
                  rw [hdn]
                  refine ⟨by rw [htot, (hp_u hu hnu).2 (by omega), pre_pre, show f - 1 + 1 = f by omega], by simp only [List.length_drop]; omega, hru.drop _, by simp; omega, own_snoc (by simpa using ho23)⟩
                · (try dsimp only); (simp only [List.length_drop]; omega)

end KX
end Go.Proofs.YtcgpajknehhdgaaDoor
