/- Walks of the reading of lists in headers. -/
import Derived.Test.YtcgpajknehhdgaaDoorKY
import Derived.Test.YtcgpajknehhdgaaDoorL2
namespace Go.Proofs.YtcgpajknehhdgaaDoor
open Go Go.RowKit V KP KQ H1 H2 H0 KU KV KW KX KY L2 L1
set_option linter.unusedSimpArgs false
set_option linter.unusedVariables false
set_option maxRecDepth 10000
namespace KZ
theorem call50 : Callable Tryd.prog 50 := ⟨_, Tryd.func50, rfl, by kernel_rfl⟩
theorem call67 : Callable Tryd.prog 67 := ⟨_, Tryd.func67, rfl, by kernel_rfl⟩
theorem call68 : Callable Tryd.prog 68 := ⟨_, Tryd.func68, rfl, by kernel_rfl⟩
theorem flat9 : Flat Tryd.prog 9 := ⟨_, Tryd.underlying9, by simp⟩
theorem ty9 : Ty Tryd.prog 9 (S []) 1 16 := ty_of (by kernel_rfl)

def ok1 (s : List UInt8) : Bool := (hpar s).1.isSome
def val1 (s : List UInt8) : List (List UInt8) := (hpar s).1.getD []
def allOk (ls : List (List UInt8)) : Bool := ls.all ok1
def allV (ls : List (List UInt8)) : List (List UInt8) := ls.flatMap val1
def gath (ls : List (List UInt8)) : Option (List (List UInt8)) := if allOk ls then some (allV ls) else none
theorem all_step (ls : List (List UInt8)) (i : Nat) (h : i < ls.length) : allV (ls.drop i) = val1 (ls.getD i []) ++ allV (ls.drop (i + 1)) ∧ allOk (ls.drop i) = (ok1 (ls.getD i []) && allOk (ls.drop (i + 1))) := by
  rw [List.drop_eq_getElem_cons h, List.getD_eq_getElem?_getD, List.getElem?_eq_getElem h]
  exact ⟨rfl, rfl⟩
theorem gath_some {ls : List (List UInt8)} (h : allOk ls = true) : gath ls = some (allV ls) := if_pos h
theorem gath_none {ls : List (List UInt8)} (h : allOk ls = false) : gath ls = none := if_neg (by rw [h]; simp)
theorem gath_is (ls : List (List UInt8)) : (gath ls).isSome = allOk ls := by unfold gath; cases allOk ls <;> rfl
theorem hpar_said {s : List UInt8} (h : (hpar s).2 = true) : Asc s ∧ hpar s = hpF (s.length + 1) (trim s) := by
  cases ha : s.all asc8 with
  | true => exact ⟨asc_of8 ha, if_pos ha⟩
  | false => unfold hpar at h; rw [ha] at h; cases h
theorem pre_len (o : List UInt8) (R : HR) (n : Nat) (h : (R.1.getD []).length ≤ n) : ((pre [o] R).1.getD []).length ≤ n + 1 := by
  obtain ⟨r, b⟩ := R
  cases r with
  | none => simp [pre]
  | some l => simp only [pre, Option.map_some, Option.getD_some, List.length_append, List.length_cons, List.length_nil] at h ⊢; omega
theorem hpF_len : ∀ (f : Nat) (s : List UInt8), ((hpF f s).1.getD []).length ≤ f
  | 0, _ => by simp [hpF]
  | f + 1, s => by
    rw [hpF]
    repeat' split
    all_goals first
      | exact pre_len _ _ _ (hpF_len f _)
      | simp
theorem val1_len {s : List UInt8} (h : s.length ≤ 5000) : (val1 s).length ≤ 5001 := by
  unfold val1 hpar
  split
  · have := hpF_len (s.length + 1) (trim s); omega
  · simp
theorem nilI_of {o : Option (List (List UInt8))} {e : Value} (h1 : o.isSome = true → e = .nilIface) (h2 : o.isSome = false → ∃ k x, e = .iface k x) : (e = .nilIface ∨ ∃ k u, e = .iface k u) ∧ nilI e = o.isSome := by
  cases hd : o.isSome with
  | true => rw [h1 hd]; exact ⟨.inl rfl, rfl⟩
  | false => obtain ⟨k, x, rfl⟩ := h2 hd; exact ⟨.inr ⟨k, x, rfl⟩, rfl⟩
def BRes (o : Option (List (List UInt8))) (v : Value) (N : Hp) : Prop :=
  ∃ u, v = .tuple #[u, .bool o.isSome] ∧ OwS 0 9 1 u N (o.getD []).length (strsV (o.getD []))
theorem quoted_ (s : List UInt8) (hl : s.length ≤ 5000) (hsd : (hpar s).2 = true) : FnA Tryd.prog 68 [S s] [] (QRes (hpar s).1) := by
  obtain ⟨h1, h2⟩ := hpar_said hsd
  rw [h2] at hsd ⊢
  exact quotedSplit s (by omega) h1 hsd
/-- given.example/pub-tinwright/pub/smithy/transport/http.splitHeaderListValues -/
theorem splitAll (v : Value) (A : Hp) (ls : List (List UInt8)) (hr : RdS 1 v A ls.length (strsV ls)) (hn : ls.length ≤ 40) (hall : ∀ k, k < ls.length → (ls.getD k []).length ≤ 5000 ∧ (hpar (ls.getD k [])).2 = true) : FnA Tryd.prog 67 [v, .func (.func 68) #[] #[]] A (QRes (gath ls)) := by
  refine FnA.enter (n := 35) Tryd.func67 rfl rfl fun w0 => ?_
  refine WC.sub (fr' := [(0, _), (1, _)]) ?_ ⟨rfl, rfl, trivial⟩
  refine WC.seq ?_
  refine WC.region ?_
  refine WL.q (oq_assign rfl) rfl rfl rfl ?_
  refine WL.q (oq_assign rfl) rfl rfl rfl ?_
  refine WL.nil ?_
  refine WE.then_normal ?_
  refine WC.sub (fr' := [(0, _), (1, _)]) ?_ ⟨rfl, rfl, trivial⟩
  refine WC.seq ?_
  refine WC.region ?_
  refine WL.q (oq_move rfl) rfl rfl rfl ?_
  refine WL.q (oq_len_rd hr Tryd.underlying36 rfl) rfl rfl rfl ?_
  refine WL.make0 Tryd.underlying36 ty9 rfl rfl (by omega) (by unfold maxLen; omega) rfl rfl fun v1_2 A1_2 ho1_2 hne1_2 => ?_
  refine WL.q (oq_assign rfl) rfl rfl rfl ?_
  refine WL.nil ?_
  refine WE.then_normal ?_
  refine WC.sub (fr' := [(0, _), (1, _), (6, _)]) ?_ ⟨rfl, rfl, rfl, trivial⟩
  refine WC.seq ?_
  refine WC.seq ?_
  refine WC.region ?_
  refine WL.q (oq_assign rfl) rfl rfl rfl ?_
  refine WL.nil ?_
  refine WE.then_normal ?_
  refine WC.sub (fr' := [(0, _), (1, _), (6, _), (7, _)]) ?_ ⟨rfl, rfl, rfl, rfl, trivial⟩
  refine WC.block ?_
  refine WC.f1 ?_
  refine WC.loop (ι := Nat × Value × Hp × (List (List UInt8))) (fun i_ => (fun (i : Nat) (vo : Value) (B : Hp) (acc : List (List UInt8)) => [(0, v), (1, .func (.func 68) #[] #[]), (6, vo), (7, I (i : Int))]) i_.1 i_.2.1 i_.2.2.1 i_.2.2.2) (fun i_ => (fun (i : Nat) (vo : Value) (B : Hp) (acc : List (List UInt8)) => [A, B]) i_.1 i_.2.1 i_.2.2.1 i_.2.2.2) (fun i_ => (fun (i : Nat) (vo : Value) (B : Hp) (acc : List (List UInt8)) => i ≤ ls.length ∧ acc.length ≤ i * 5001 ∧ OwS w0.heap.size 9 1 vo B acc.length (strsV acc) ∧ acc ++ allV (ls.drop i) = allV ls ∧ allOk (ls.drop i) = allOk ls) i_.1 i_.2.1 i_.2.2.1 i_.2.2.2) (fun i_ => (fun (i : Nat) (vo : Value) (B : Hp) (acc : List (List UInt8)) => ls.length - i) i_.1 i_.2.1 i_.2.2.1 i_.2.2.2) ((0, _, _, [])) ?_ ⟨rfl, rfl, rfl, rfl, trivial⟩ (List.Perm.refl _) ?_
  · try dsimp only
    exact ⟨by omega, by simp, ho1_2, by simp, by simp⟩
  · rintro ⟨i, vo, B, acc⟩ hp
    try dsimp only at hp
    obtain ⟨hi, hc, ho, ht, hri⟩ := hp
    show WC _ _ _ _ _ _ ([(0, v), (1, .func (.func 68) #[] #[]), (6, vo), (7, I (i : Int))]) ([A, B])
    refine WC.seq ?_
    refine WC.seq ?_
    refine WC.region ?_
    refine WL.q (oq_move rfl) rfl rfl rfl ?_
    refine WL.q (oq_move rfl) rfl rfl rfl ?_
    refine WL.q (oq_len_rd hr Tryd.underlying36 rfl) rfl rfl rfl ?_
    refine WL.q (oq_lss rfl rfl) rfl rfl rfl ?_
    refine WL.nil ?_
    refine WE.then_normal ?_
    refine WC.sub (fr' := [(0, _), (1, _), (6, _), (7, _), (16, _)]) ?_ ⟨rfl, rfl, rfl, rfl, rfl, trivial⟩
    refine WC.cond rfl (fun q3 => ?_) (fun q3 => ?_)
    ·
      try simp only [Bool.not_eq_eq_eq_not, Bool.not_true, Bool.not_false, decide_eq_true_eq, decide_eq_false_iff_not, Int.not_lt, Int.not_le, ne_eq, Decidable.not_not, ← List.length_eq_zero_iff] at q3
      refine WC.skip ?_
      refine WE.then_normal ?_
      refine WC.sub (fr' := [(0, _), (1, _), (6, _), (7, _)]) ?_ ⟨rfl, rfl, rfl, rfl, trivial⟩
      refine WC.seq ?_
      refine WC.block ?_
      refine WC.seq ?_
      refine WC.region ?_
      refine WL.q (oq_move rfl) rfl rfl rfl ?_
      refine WL.q (oq_move rfl) rfl rfl rfl ?_
      refine WL.q (oq_move rfl) rfl rfl rfl ?_
      refine WL.q (oq_ixaddr hr Tryd.underlying36 ty9 rfl rfl (by (first | omega | (simp only [List.length_cons, List.length_nil, List.length_append, List.length_drop, List.length_take]; omega)))) rfl rfl rfl ?_
      refine WL.q (oq_load_str hr (.head _) flat9 rfl (by (first | omega | (simp only [List.length_cons, List.length_nil, List.length_append, List.length_drop, List.length_take]; omega))) (by first | exact Int.toNat_natCast _ | exact rfl)) rfl rfl rfl ?_
      refine WL.callAv0 (quoted_ _ (by have := (hall i (by omega)).1; omega) (hall i (by omega)).2) call68 rfl rfl rfl rfl fun v5_5 N5_5 hR5_5 hN5_5 => ?_
      obtain ⟨u5_5, e5_5, rfl, h1_5_5, h2_5_5⟩ := hR5_5
      have he5_5 := nilI_of (fun h => (h1_5_5 h).1) h2_5_5
      refine WL.q (oq_move rfl) rfl rfl rfl ?_
      refine WL.q (oq_extract rfl rfl) rfl rfl rfl ?_
      refine WL.q (oq_extract rfl rfl) rfl rfl rfl ?_
      refine WL.q (oq_assign rfl) rfl rfl rfl ?_
      refine WL.q (oq_assign rfl) rfl rfl rfl ?_
      refine WL.nil ?_
      refine WE.then_normal ?_
      refine WC.sub (fr' := [(0, _), (1, _), (6, _), (7, _), (8, _), (9, _)]) ?_ ⟨rfl, rfl, rfl, rfl, rfl, rfl, trivial⟩
      refine WC.seq ?_
      refine WC.seq ?_
      refine WC.region ?_
      refine WL.q (oq_move rfl) rfl rfl rfl ?_
      refine WL.q (oq_ineq Tryd.underlying53 rfl (he5_5.1)) rfl rfl rfl ?_
      refine WL.nil ?_
      refine WE.then_normal ?_
      refine WC.sub (fr' := [(0, _), (1, _), (6, _), (7, _), (8, _), (9, _), (29, _)]) ?_ ⟨rfl, rfl, rfl, rfl, rfl, rfl, rfl, trivial⟩
      refine WC.cond rfl (fun q6 => ?_) (fun q6 => ?_)
      ·
        try simp only [Bool.not_eq_eq_eq_not, Bool.not_true, Bool.not_false, decide_eq_true_eq, decide_eq_false_iff_not, Int.not_lt, Int.not_le, ne_eq, Decidable.not_not, ← List.length_eq_zero_iff] at q6
        refine WC.seq ?_
        have hst := all_step ls i (by omega)
        refine WC.region ?_
        refine WL.q (oq_move rfl) rfl rfl rfl ?_
        refine WL.q (oq_assign rfl) rfl rfl rfl ?_
        refine WL.q (oq_assign rfl) rfl rfl rfl ?_
        refine WL.nil ?_
        refine WE.then_normal ?_
        refine WC.sub (fr' := [(4, _), (5, _)]) ?_ ⟨rfl, rfl, trivial⟩
        refine WC.ret ?_
        refine WE.then_ret ?_
        refine WE.block_ret ?_
        refine WE.then_ret ?_
        refine WE.then_ret ?_
        refine WE.block_ret ?_
        refine WE.then_ret ?_
        refine WE.forget hN5_5 ?_
        refine WE.f1 ?_
        refine WE.forget ho.fresh ?_
        refine WE.add0 ?_
        refine WE.endA (.inl rfl) (res2 Tryd.results67 rfl rfl) ?_ fresh0
        -- end 0
        rw [he5_5.2] at q6
        have hok : ok1 (ls.getD i []) = false := q6
        rw [hok, Bool.false_and] at hst
        exact ⟨_, _, rfl, fun h => by (rw [gath_is, ← hri, hst.2] at h; cases h), fun _ => h2_5_5 q6⟩
      ·
        try simp only [Bool.not_eq_eq_eq_not, Bool.not_true, Bool.not_false, decide_eq_true_eq, decide_eq_false_iff_not, Int.not_lt, Int.not_le, ne_eq, Decidable.not_not, ← List.length_eq_zero_iff] at q6
        refine WC.skip ?_
        refine WE.then_normal ?_
        refine WC.sub (fr' := [(0, _), (1, _), (6, _), (7, _), (8, _)]) ?_ ⟨rfl, rfl, rfl, rfl, rfl, trivial⟩
        have hst := all_step ls i (by omega)
        have hdl := val1_len (hall i (by omega)).1
        have hdl2 : ((hpar (ls.getD i [])).1.getD []).length ≤ 5001 := hdl
        have hel := (hall i (by omega)).1
        rw [he5_5.2] at q6
        have hoP := (h1_5_5 q6).2.rebase hN5_5
        refine WC.region ?_
        refine WL.q (oq_move rfl) rfl rfl rfl ?_
        refine WL.q (oq_move rfl) rfl rfl rfl ?_
        refine WL.f2 ?_
        refine WL.appendS ho Tryd.underlying36 ty9 rfl (by decide) rfl rfl hoP.rd (.head _) (strsV_one _) (by unfold maxLen; omega) (by omega) rfl rfl fun v8 A8 ho8 hne8 => ?_
        refine WL.q (oq_assign rfl) rfl rfl rfl ?_
        refine WL.nil ?_
        refine WE.block_normal ?_
        refine WE.then_normal ?_
        refine WC.sub (fr' := [(0, _), (1, _), (6, _), (7, _)]) ?_ ⟨rfl, rfl, rfl, rfl, trivial⟩
        refine WC.region ?_
        refine WL.q (oq_move rfl) rfl rfl rfl ?_
        refine WL.q (oq_add rfl rfl (by rw [i64_lo, i64_hi]; (first | omega | (simp only [List.length_cons, List.length_nil, List.length_append, List.length_drop, List.length_take]; omega)))) rfl rfl rfl ?_
        refine WL.q (oq_assign rfl) rfl rfl rfl ?_
        refine WL.nil ?_
        refine WE.f1 ?_
        refine WE.forget hN5_5 ?_
        refine WE.f1 ?_
        refine WE.again (i + 1, _, _, acc ++ val1 (ls.getD i [])) ?_ ?_ ⟨rfl, rfl, rfl, rfl, trivial⟩ (List.Perm.refl _)
        · try dsimp only   -- again 0
          refine ⟨by omega, by rw [List.length_append, Nat.add_mul]; omega, strs_eq ho8 (by simp; rfl) (by simp [strsV]; rfl), ?_, ?_⟩
          · rw [← ht, hst.1, List.append_assoc]
          · rw [← hri, hst.2, show ok1 (ls.getD i []) = true from q6, Bool.true_and]
        · (try dsimp only); omega
    ·
      try simp only [Bool.not_eq_eq_eq_not, Bool.not_true, Bool.not_false, decide_eq_true_eq, decide_eq_false_iff_not, Int.not_lt, Int.not_le, ne_eq, Decidable.not_not, ← List.length_eq_zero_iff] at q3
      refine WC.exit ?_
      refine WE.then_exit ?_
      refine WE.then_exit ?_
      refine WE.block_same ?_
      refine WE.then_normal ?_
      refine WC.sub (fr' := [(6, _)]) ?_ ⟨rfl, trivial⟩
      refine WC.seq ?_
      refine WC.region ?_
      refine WL.q (oq_move rfl) rfl rfl rfl ?_
      refine WL.q (oq_assign rfl) rfl rfl rfl ?_
      refine WL.q (oq_assign rfl) rfl rfl rfl ?_
      refine WL.nil ?_
      refine WE.then_normal ?_
      refine WC.sub (fr' := [(4, _), (5, _)]) ?_ ⟨rfl, rfl, trivial⟩
      refine WC.ret ?_
      refine WE.f1 ?_
      refine WE.endA (.inl rfl) (res2 Tryd.results67 rfl rfl) ?_ (ho.fresh)
      -- end 1
      have hl : ls.drop i = [] := List.drop_eq_nil_of_le (by omega)
      rw [hl] at ht hri
      have hg := gath_some hri.symm
      exact ⟨_, _, rfl, fun _ => ⟨rfl, own_eq (ho.mono (Nat.zero_le _)) (by rw [hg, ← ht]; simp [allV])⟩, fun h => by rw [hg] at h; cases h⟩

/-- given.example/pub-tinwright/pub/smithy/transport/http.SplitHeaderListValues -/
theorem splitV (v : Value) (A : Hp) (ls : List (List UInt8)) (hr : RdS 1 v A ls.length (strsV ls)) (hn : ls.length ≤ 40) (hall : ∀ k, k < ls.length → (ls.getD k []).length ≤ 5000 ∧ (hpar (ls.getD k [])).2 = true) : FnA Tryd.prog 50 [v] A (QRes (gath ls)) := by
  refine FnA.enter (n := 8) Tryd.func50 rfl rfl fun w0 => ?_
  refine WC.sub (fr' := [(0, _)]) ?_ ⟨rfl, trivial⟩
  refine WC.seq ?_
  refine WC.region ?_
  refine WL.q (oq_assign rfl) rfl rfl rfl ?_
  refine WL.q (oq_assign rfl) rfl rfl rfl ?_
  refine WL.nil ?_
  refine WE.then_normal ?_
  refine WC.sub (fr' := [(0, _)]) ?_ ⟨rfl, trivial⟩
  refine WC.seq ?_
  refine WC.region ?_
  refine WL.q (oq_move rfl) rfl rfl rfl ?_
  refine WL.callA (splitAll v A ls hr hn hall) call67 rfl rfl rfl fun v1_1 N1_1 hR1_1 hN1_1 => ?_
  obtain ⟨u1_1, e1_1, rfl, h1_1_1, h2_1_1⟩ := hR1_1
  refine WL.q (oq_extract rfl rfl) rfl rfl rfl ?_
  refine WL.q (oq_extract rfl rfl) rfl rfl rfl ?_
  refine WL.q (oq_assign rfl) rfl rfl rfl ?_
  refine WL.q (oq_assign rfl) rfl rfl rfl ?_
  refine WL.nil ?_
  refine WE.then_normal ?_
  refine WC.sub (fr' := [(2, _), (3, _)]) ?_ ⟨rfl, rfl, trivial⟩
  refine WC.ret ?_
  refine WE.endA (.inl rfl) (res2 Tryd.results50 rfl rfl) ?_ (hN1_1)
  -- end 0
  exact ⟨_, _, rfl, h1_1_1, h2_1_1⟩

/-- given.example/pub-tinwright/impl.HSplit -/
theorem hSplit (v : Value) (A : Hp) (ls : List (List UInt8)) (hr : RdS 1 v A ls.length (strsV ls)) (hn : ls.length ≤ 40) (hall : ∀ k, k < ls.length → (ls.getD k []).length ≤ 5000 ∧ (hpar (ls.getD k [])).2 = true) : FnA Tryd.prog 24 [v] A (BRes (gath ls)) := by
  refine FnA.enter (n := 14) Tryd.func24 rfl rfl fun w0 => ?_
  refine WC.sub (fr' := [(0, _)]) ?_ ⟨rfl, trivial⟩
  refine WC.seq ?_
  refine WC.region ?_
  refine WL.q (oq_assign rfl) rfl rfl rfl ?_
  refine WL.q (oq_assign rfl) rfl rfl rfl ?_
  refine WL.nil ?_
  refine WE.then_normal ?_
  refine WC.sub (fr' := [(0, _)]) ?_ ⟨rfl, trivial⟩
  refine WC.seq ?_
  refine WC.region ?_
  refine WL.q (oq_move rfl) rfl rfl rfl ?_
  refine WL.callA (splitV v A ls hr hn hall) call50 rfl rfl rfl fun v1_1 N1_1 hR1_1 hN1_1 => ?_
  obtain ⟨u1_1, e1_1, rfl, h1_1_1, h2_1_1⟩ := hR1_1
  have he1_1 := nilI_of (fun h => (h1_1_1 h).1) h2_1_1
  refine WL.q (oq_move rfl) rfl rfl rfl ?_
  refine WL.q (oq_extract rfl rfl) rfl rfl rfl ?_
  refine WL.q (oq_extract rfl rfl) rfl rfl rfl ?_
  refine WL.q (oq_assign rfl) rfl rfl rfl ?_
  refine WL.q (oq_assign rfl) rfl rfl rfl ?_
  refine WL.nil ?_
  refine WE.then_normal ?_
  refine WC.sub (fr' := [(4, _), (5, _)]) ?_ ⟨rfl, rfl, trivial⟩
  refine WC.seq ?_
  refine WC.seq ?_
  refine WC.region ?_
  refine WL.q (oq_move rfl) rfl rfl rfl ?_
  refine WL.q (oq_ineq Tryd.underlying53 rfl (he1_1.1)) rfl rfl rfl ?_
  refine WL.nil ?_
  refine WE.then_normal ?_
  refine WC.sub (fr' := [(4, _), (12, _)]) ?_ ⟨rfl, rfl, trivial⟩
  refine WC.cond rfl (fun q2 => ?_) (fun q2 => ?_)
  ·
    try simp only [Bool.not_eq_eq_eq_not, Bool.not_true, Bool.not_false, decide_eq_true_eq, decide_eq_false_iff_not, Int.not_lt, Int.not_le, ne_eq, Decidable.not_not, ← List.length_eq_zero_iff] at q2
    refine WC.seq ?_
    refine WC.region ?_
    refine WL.q (oq_assign rfl) rfl rfl rfl ?_
    refine WL.q (oq_assign rfl) rfl rfl rfl ?_
    refine WL.nil ?_
    refine WE.then_normal ?_
    refine WC.sub (fr' := [(2, _), (3, _)]) ?_ ⟨rfl, rfl, trivial⟩
    refine WC.ret ?_
    refine WE.then_ret ?_
    refine WE.forget hN1_1 ?_
    refine WE.add0 ?_
    refine WE.endA (.inl rfl) (res2 Tryd.results24 rfl rfl) ?_ fresh0
    -- end 0
    rw [he1_1.2] at q2
    refine ⟨_, by rw [q2], ?_⟩
    cases hg : gath ls with
    | none => exact OwS.nil _ _ _
    | some x => rw [hg] at q2; cases q2
  ·
    try simp only [Bool.not_eq_eq_eq_not, Bool.not_true, Bool.not_false, decide_eq_true_eq, decide_eq_false_iff_not, Int.not_lt, Int.not_le, ne_eq, Decidable.not_not, ← List.length_eq_zero_iff] at q2
    refine WC.skip ?_
    refine WE.then_normal ?_
    refine WC.sub (fr' := [(4, _)]) ?_ ⟨rfl, trivial⟩
    refine WC.seq ?_
    refine WC.region ?_
    refine WL.q (oq_move rfl) rfl rfl rfl ?_
    refine WL.q (oq_assign rfl) rfl rfl rfl ?_
    refine WL.q (oq_assign rfl) rfl rfl rfl ?_
    refine WL.nil ?_
    refine WE.then_normal ?_
    refine WC.sub (fr' := [(2, _), (3, _)]) ?_ ⟨rfl, rfl, trivial⟩
    refine WC.ret ?_
    refine WE.endA (.inl rfl) (res2 Tryd.results24 rfl rfl) ?_ (hN1_1)
    -- end 1
    rw [he1_1.2] at q2
    exact ⟨_, by rw [q2], (h1_1_1 q2).2⟩

end KZ
end Go.Proofs.YtcgpajknehhdgaaDoor
