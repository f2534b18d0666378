/- Walks of the checks of labels and of the cutting of a text. -/
import Derived.Test.YtjmlifpngnbomaaL1
import Derived.Test.YtjmlifpngnbomaaL0
namespace Go.Proofs.Ytjmlifpngnbomaa
open Go Go.RowKit V L1 L0
set_option linter.unusedSimpArgs false
set_option linter.unusedVariables false
set_option maxRecDepth 10000
namespace L2
theorem call11 : Callable Try.prog 11 := ⟨_, Try.func11, rfl, by kernel_rfl⟩
theorem call13 : Callable Try.prog 13 := ⟨_, Try.func13, rfl, by kernel_rfl⟩
theorem call15 : Callable Try.prog 15 := ⟨_, Try.func15, rfl, by kernel_rfl⟩
theorem call16 : Callable Try.prog 16 := ⟨_, Try.func16, rfl, by kernel_rfl⟩
theorem flat9 : Flat Try.prog 9 := ⟨_, Try.underlying9, by simp⟩
theorem ty9 : Ty Try.prog 9 (S []) 1 16 := ty_of (by kernel_rfl)

/-! ### Words -/
def elab1 (s : List UInt8) : Bool := vlabel s && decide (byteAt s 0 ≠ 45 ∧ byteAt s ((s.length : Int) - 1) ≠ 45)
def evalid (s : List UInt8) (sub : Bool) : Bool := (if sub then zzsp [46] s else [s]).all elab1
theorem elab1_pos (s : List UInt8) (h : vlabel s = true) : 1 ≤ s.length ∧ s.length ≤ 63 := by
  unfold vlabel at h
  simp only [Bool.and_eq_true, decide_eq_true_eq] at h
  exact h.1
theorem all_get {α : Type} {p : α → Bool} (l : List α) (i : Nat) (d : α) (h : i < l.length) : (l.drop i).all p = (p (l.getD i d) && (l.drop (i + 1)).all p) := by
  rw [List.drop_eq_getElem_cons h, List.getD_eq_getElem?_getD, List.getElem?_eq_getElem h]; rfl
/-- a byte that may stand at place i of a label of n bytes -/
def okc (c i n : Int) : Prop := (48 ≤ c ∧ c ≤ 57) ∨ (97 ≤ c ∧ c ≤ 122) ∨ (65 ≤ c ∧ c ≤ 90) ∨ (c = 45 ∧ 0 < i ∧ i < n - 1)
theorem okc_all (s : List UInt8) (h : ∀ j : Nat, j < s.length → okc (byteAt s j) j s.length) : s.all okb = true := by
  rw [List.all_eq_true]
  intro c hc
  obtain ⟨j, hj, rfl⟩ := List.mem_iff_getElem.1 hc
  rw [okb_iff, ← byteAt_get s j hj]
  have := h j hj
  unfold okc at this; unfold okr; omega
theorem elab1_of (s : List UInt8) (h : ∀ j : Nat, j < s.length → okc (byteAt s j) j s.length) : elab1 s = decide (1 ≤ s.length ∧ s.length ≤ 63) := by
  unfold elab1 vlabel
  rw [okc_all s h, Bool.and_true]
  by_cases hl : 1 ≤ s.length ∧ s.length ≤ 63
  · rw [decide_eq_true hl, Bool.true_and]
    have h0 := h 0 (by omega)
    have h1 := h (s.length - 1) (by omega)
    rw [show ((s.length - 1 : Nat) : Int) = (s.length : Int) - 1 from by omega] at h1
    apply decide_eq_true
    unfold okc at h0 h1
    constructor
    · intro e; rw [show ((0 : Nat) : Int) = 0 from rfl] at h0; omega
    · intro e; omega
  · rw [decide_eq_false hl]; rfl
theorem elab1_no (s : List UInt8) (i : Nat) (h : i < s.length) (hn : ¬ okc (byteAt s i) i s.length) : elab1 s = false := by
  cases he : elab1 s with
  | false => rfl
  | true =>
    exfalso
    unfold elab1 vlabel at he
    simp only [Bool.and_eq_true, decide_eq_true_eq, List.all_eq_true] at he
    obtain ⟨⟨hl, ha⟩, h0, h1⟩ := he
    have hc := (okb_iff _).1 (ha _ (List.getElem_mem h))
    rw [← byteAt_get s i h] at hc
    have e0 : byteAt s i = 45 → i ≠ 0 := fun e hz => by subst hz; exact h0 e
    have e1 : byteAt s i = 45 → (i : Int) ≠ (s.length : Int) - 1 := fun e hz => by rw [hz] at e; exact h1 e
    unfold okr at hc; unfold okc at hn
    omega
/-- the parts of a text, at most 'lim' of them if that is above 0, where n are there already -/
def ecutR (sep : List UInt8) (lim : Int) (n : Nat) (s : List UInt8) : List (List UInt8) := if 0 < lim then splitS sep (lim - 1 - n).toNat s else split sep s
theorem ecutR_step (sep : List UInt8) (h : sep ≠ []) (lim : Int) (n : Nat) (s : List UInt8) (i : Nat) (hf : find sep s = some i) (hl : 0 < lim → (n : Int) < lim - 1) : ecutR sep lim n s = s.take i :: ecutR sep lim (n + 1) (s.drop (i + sep.length)) := by
  unfold ecutR
  by_cases hp : 0 < lim
  · rw [if_pos hp, if_pos hp, show (lim - 1 - (n : Int)).toNat = (lim - 1 - ((n + 1 : Nat) : Int)).toNat + 1 from by have := hl hp; omega]
    show (match find sep s with | none => [s] | some i => s.take i :: splitS sep _ (s.drop (i + sep.length))) = _
    rw [hf]
  · rw [if_neg hp, if_neg hp]; exact split_some sep s h i hf
theorem ecutR_none (sep : List UInt8) (lim : Int) (n : Nat) (s : List UInt8) (hf : find sep s = none) : ecutR sep lim n s = [s] := by
  unfold ecutR
  by_cases hp : 0 < lim
  · rw [if_pos hp]
    cases (lim - 1 - (n : Int)).toNat with
    | zero => rfl
    | succ f => unfold splitS; rw [hf]
  · rw [if_neg hp]; exact split_none sep s hf
theorem ecutR_full (sep : List UInt8) (lim : Int) (n : Nat) (s : List UInt8) (hp : 0 < lim) (hn : (n : Int) = lim - 1) : ecutR sep lim n s = [s] := by
  unfold ecutR
  rw [if_pos hp, show (lim - 1 - (n : Int)).toNat = 0 from by omega]; rfl
theorem cut_sub (s : List UInt8) (a i : Nat) (h : a ≤ i) : cut s (a : Int) (i : Int) = (s.drop a).take (i - a) := by
  rw [show (i : Int) = (a : Int) + ((i - a : Nat) : Int) from by omega, cut_nat]
theorem strs_eq {a b : Nat} {x y : List Value} {base e : Nat} {v : Value} {A : Hp} (h : OwS base e 1 v A a x) (h1 : a = b) (h2 : x = y) : OwS base e 1 v A b y := by subst h1; subst h2; exact h
/-- given.example/pub-tinwright/pub/smithy/endpoints/private/rulesfn.IsValidHostLabel -/
theorem isValid (s : List UInt8) (sub : Bool) (hs : s.length ≤ 4000000000) : Fn0 Try.prog 13 [S s, .bool sub] (.bool (evalid s sub)) := by
  refine Fn0.enter (n := 34) Try.func13 rfl rfl fun w0 => ?_
  refine WC.sub (fr' := [(0, _), (1, _)]) ?_ ⟨rfl, rfl, trivial⟩
  refine WC.seq ?_
  refine WC.region ?_
  refine WL.q (oq_assign rfl) rfl rfl rfl ?_
  refine WL.nil ?_
  refine WE.then_normal ?_
  refine WC.sub (fr' := [(0, _), (1, _)]) ?_ ⟨rfl, rfl, trivial⟩
  refine WC.seq ?_
  refine WC.region ?_
  refine WL.q (oq_assign rfl) rfl rfl rfl ?_
  refine WL.nil ?_
  refine WE.then_normal ?_
  refine WC.sub (fr' := [(0, _), (1, _)]) ?_ ⟨rfl, rfl, trivial⟩
  refine WC.cut (ι := Value × Hp × (List (List UInt8))) (fun i_ => (fun (v : Value) (A : Hp) (ls : List (List UInt8)) => [(5, v)]) i_.1 i_.2.1 i_.2.2) (fun i_ => (fun (v : Value) (A : Hp) (ls : List (List UInt8)) => [A]) i_.1 i_.2.1 i_.2.2) (fun i_ => (fun (v : Value) (A : Hp) (ls : List (List UInt8)) => OwS w0.heap.size 9 1 v A ls.length (strsV ls) ∧ ls = (if sub then zzsp [46] s else [s]) ∧ ls.length ≤ s.length + 1) i_.1 i_.2.1 i_.2.2) ?_ ?_
  ·
    refine WC.seq ?_
    refine WC.region ?_
    refine WL.q (oq_move rfl) rfl rfl rfl ?_
    refine WL.nil ?_
    refine WE.then_normal ?_
    refine WC.sub (fr' := [(0, _), (8, _)]) ?_ ⟨rfl, rfl, trivial⟩
    refine WC.cond rfl (fun q2 => ?_) (fun q2 => ?_)
    ·
      try simp only [Bool.not_eq_eq_eq_not, Bool.not_true, Bool.not_false, decide_eq_true_eq, decide_eq_false_iff_not, Int.not_lt, Int.not_le, ne_eq, Decidable.not_not, ← List.length_eq_zero_iff] at q2
      refine WC.region ?_
      refine WL.q (oq_move rfl) rfl rfl rfl ?_
      refine WL.callA0 (zzSplit _ _ (by omega) (by decide)) call15 rfl rfl rfl fun v3_1 N3_1 hR3_1 hN3_1 => ?_
      have ho3_1 := hR3_1.rebase hN3_1
      refine WL.q (oq_assign rfl) rfl rfl rfl ?_
      refine WL.nil ?_
      try dsimp only
      refine WE.meet (_, _, zzsp [46] s) ?_ ⟨rfl, trivial⟩ (List.Perm.refl _)
      try dsimp only
      exact ⟨ho3_1, by rw [if_pos q2], zzsp_len s _⟩   -- meet 0
    ·
      try simp only [Bool.not_eq_eq_eq_not, Bool.not_true, Bool.not_false, decide_eq_true_eq, decide_eq_false_iff_not, Int.not_lt, Int.not_le, ne_eq, Decidable.not_not, ← List.length_eq_zero_iff] at q2
      refine WC.region ?_
      refine WL.q (oq_move rfl) rfl rfl rfl ?_
      refine WL.buildL Try.underlying26 ty9 rfl rfl (by decide) (by decide) rfl rfl rfl fun v4 A4 ho4 hne4 => ?_
      refine WL.q (oq_assign rfl) rfl rfl rfl ?_
      refine WL.nil ?_
      try dsimp only
      refine WE.meet (_, _, [s]) ?_ ⟨rfl, trivial⟩ (List.Perm.refl _)
      try dsimp only
      exact ⟨ho4, by rw [if_neg (by simp [q2])], by simp⟩   -- meet 1
  · rintro ⟨v, A, ls⟩ hp
    try dsimp only at hp
    obtain ⟨ho, hls, hll⟩ := hp
    show WC _ _ _ _ _ _ ([(5, v)]) ([A])
    refine WC.seq ?_
    refine WC.seq ?_
    refine WC.region ?_
    refine WL.q (oq_move rfl) rfl rfl rfl ?_
    refine WL.q (oq_len_rd ho.rd Try.underlying26 rfl) rfl rfl rfl ?_
    refine WL.q (oq_move rfl) rfl rfl rfl ?_
    refine WL.nil ?_
    refine WE.then_normal ?_
    refine WC.sub (fr' := [(13, _), (14, _), (15, _)]) ?_ ⟨rfl, rfl, rfl, trivial⟩
    refine WC.block ?_
    refine WC.loop (ι := Nat) (fun (i : Nat) => [(13, v), (14, I ls.length), (15, I i)]) (fun (i : Nat) => [A]) (fun (i : Nat) => i ≤ ls.length ∧ evalid s sub = (ls.drop i).all elab1) (fun (i : Nat) => ls.length - i) (0) ?_ ⟨rfl, rfl, rfl, trivial⟩ (List.Perm.refl _) ?_
    · try dsimp only
      exact ⟨by omega, by rw [evalid, ← hls]; rfl⟩
    · rintro i hp
      try dsimp only at hp
      obtain ⟨hi, hf⟩ := hp
      show WC _ _ _ _ _ _ ([(13, v), (14, I ls.length), (15, I i)]) ([A])
      refine WC.seq ?_
      refine WC.region ?_
      refine WL.q (oq_lss rfl rfl) rfl rfl rfl ?_
      refine WL.nil ?_
      refine WE.then_normal ?_
      refine WC.sub (fr' := [(13, _), (14, _), (15, _), (16, _)]) ?_ ⟨rfl, rfl, rfl, rfl, trivial⟩
      refine WC.seq ?_
      refine WC.cond rfl (fun q6 => ?_) (fun q6 => ?_)
      ·
        try simp only [Bool.not_eq_eq_eq_not, Bool.not_true, Bool.not_false, decide_eq_true_eq, decide_eq_false_iff_not, Int.not_lt, Int.not_le, ne_eq, Decidable.not_not, ← List.length_eq_zero_iff] at q6
        refine WC.skip ?_
        refine WE.then_normal ?_
        refine WC.sub (fr' := [(13, _), (14, _), (15, _)]) ?_ ⟨rfl, rfl, rfl, trivial⟩
        refine WC.seq ?_
        refine WC.block ?_
        refine WC.seq ?_
        refine WC.region ?_
        refine WL.q (oq_ixaddr ho.rd Try.underlying26 ty9 rfl rfl (by (first | omega | (simp only [List.length_cons, List.length_nil, List.length_append, List.length_drop, List.length_take]; omega)))) rfl rfl rfl ?_
        refine WL.q (oq_load_str ho.rd (.head _) flat9 rfl (by (first | omega | (simp only [List.length_cons, List.length_nil, List.length_append, List.length_drop, List.length_take]; omega))) (by first | exact Int.toNat_natCast _ | exact rfl)) rfl rfl rfl ?_
        refine WL.q (oq_assign rfl) rfl rfl rfl ?_
        refine WL.nil ?_
        refine WE.then_normal ?_
        refine WC.sub (fr' := [(7, _), (13, _), (14, _), (15, _)]) ?_ ⟨rfl, rfl, rfl, rfl, trivial⟩
        refine WC.seq ?_
        refine WC.seq ?_
        refine WC.region ?_
        refine WL.q (oq_move rfl) rfl rfl rfl ?_
        refine WL.qc (oq_call (hlabel _) call16 rfl) rfl rfl rfl ?_
        refine WL.q (oq_not rfl) rfl rfl rfl ?_
        refine WL.nil ?_
        refine WE.then_normal ?_
        refine WC.sub (fr' := [(7, _), (13, _), (14, _), (15, _), (21, _)]) ?_ ⟨rfl, rfl, rfl, rfl, rfl, trivial⟩
        refine WC.cond rfl (fun q8 => ?_) (fun q8 => ?_)
        ·
          try simp only [Bool.not_eq_eq_eq_not, Bool.not_true, Bool.not_false, decide_eq_true_eq, decide_eq_false_iff_not, Int.not_lt, Int.not_le, ne_eq, Decidable.not_not, ← List.length_eq_zero_iff] at q8
          refine WC.seq ?_
          refine WC.region ?_
          refine WL.q (oq_assign rfl) rfl rfl rfl ?_
          refine WL.nil ?_
          refine WE.then_normal ?_
          refine WC.sub (fr' := [(4, _)]) ?_ ⟨rfl, trivial⟩
          refine WC.ret ?_
          refine WE.then_ret ?_
          refine WE.block_ret ?_
          refine WE.then_ret ?_
          refine WE.then_ret ?_
          refine WE.block_ret ?_
          refine WE.then_ret ?_
          refine WE.forget ho.fresh ?_
          refine WE.end0 (.inl rfl) (res1 Try.results13 rfl) ?_
          -- end 0
          rw [hf, all_get ls i [] (by omega)]
          have q8 : vlabel (ls.getD i []) = false := by simpa using q8
          have e9 : elab1 (ls.getD i []) = false := by unfold elab1; rw [q8]; rfl
          rw [e9]; rfl
        ·
          try simp only [Bool.not_eq_eq_eq_not, Bool.not_true, Bool.not_false, decide_eq_true_eq, decide_eq_false_iff_not, Int.not_lt, Int.not_le, ne_eq, Decidable.not_not, ← List.length_eq_zero_iff] at q8
          refine WC.skip ?_
          refine WE.then_normal ?_
          refine WC.sub (fr' := [(7, _), (13, _), (14, _), (15, _)]) ?_ ⟨rfl, rfl, rfl, rfl, trivial⟩
          refine WC.seq ?_
          replace q8 : vlabel (ls.getD i []) = true := by simpa using q8
          have hpos := elab1_pos _ q8
          refine WC.region ?_
          refine WL.q (oq_move rfl) rfl rfl rfl ?_
          refine WL.index_s Try.underlying9 rfl rfl (by (first | omega | (simp only [List.length_cons, List.length_nil, List.length_append, List.length_drop, List.length_take]; omega))) rfl rfl fun c10_1 hc10_1 hc10_1l hc10_1u => ?_
          refine WL.q (oq_eql rfl rfl) rfl rfl rfl ?_
          refine WL.q (oq_move rfl) rfl rfl rfl ?_
          refine WL.split 25 rfl (fun s10_3 => ?_) (fun s10_3 => ?_)
          ·
            try simp only [Bool.not_eq_eq_eq_not, Bool.not_true, Bool.not_false, decide_eq_true_eq, decide_eq_false_iff_not, Int.not_lt, Int.not_le, ne_eq, Decidable.not_not, ← List.length_eq_zero_iff] at s10_3
            refine WL.skip rfl rfl rfl ?_
            refine WL.skip rfl rfl rfl ?_
            refine WL.skip rfl rfl rfl ?_
            refine WL.skip rfl rfl rfl ?_
            refine WL.skip rfl rfl rfl ?_
            refine WL.skip rfl rfl rfl ?_
            refine WL.q (oq_pick_t rfl rfl) rfl rfl rfl ?_
            refine WL.nil ?_
            refine WE.then_normal ?_
            refine WC.sub (fr' := [(13, _), (14, _), (15, _), (32, _)]) ?_ ⟨rfl, rfl, rfl, rfl, trivial⟩
            refine WC.cond_t rfl ?_
            refine WC.seq ?_
            refine WC.region ?_
            refine WL.q (oq_assign rfl) rfl rfl rfl ?_
            refine WL.nil ?_
            refine WE.then_normal ?_
            refine WC.sub (fr' := [(4, _)]) ?_ ⟨rfl, trivial⟩
            refine WC.ret ?_
            refine WE.block_ret ?_
            refine WE.then_ret ?_
            refine WE.then_ret ?_
            refine WE.block_ret ?_
            refine WE.then_ret ?_
            refine WE.forget ho.fresh ?_
            refine WE.end0 (.inl rfl) (res1 Try.results13 rfl) ?_
            -- end 1
            rw [hf, all_get ls i [] (by omega)]
            have e9 : elab1 (ls.getD i []) = false := by unfold elab1; rw [decide_eq_false (by rw [← hc10_1]; intro h; exact h.1 s10_3), Bool.and_false]
            rw [e9]; rfl
          ·
            try simp only [Bool.not_eq_eq_eq_not, Bool.not_true, Bool.not_false, decide_eq_true_eq, decide_eq_false_iff_not, Int.not_lt, Int.not_le, ne_eq, Decidable.not_not, ← List.length_eq_zero_iff] at s10_3
            refine WL.q (oq_move rfl) rfl rfl rfl ?_
            refine WL.q (oq_move rfl) rfl rfl rfl ?_
            refine WL.q (oq_len_s Try.underlying9 rfl) rfl rfl rfl ?_
            refine WL.q (oq_sub rfl rfl (by rw [i64_lo, i64_hi]; (first | omega | (simp only [List.length_cons, List.length_nil, List.length_append, List.length_drop, List.length_take]; omega)))) rfl rfl rfl ?_
            refine WL.index_s Try.underlying9 rfl rfl (by (first | omega | (simp only [List.length_cons, List.length_nil, List.length_append, List.length_drop, List.length_take]; omega))) rfl rfl fun c10_8 hc10_8 hc10_8l hc10_8u => ?_
            refine WL.q (oq_eql rfl rfl) rfl rfl rfl ?_
            refine WL.q (oq_pick_f rfl rfl) rfl rfl rfl ?_
            refine WL.nil ?_
            refine WE.then_normal ?_
            refine WC.sub (fr' := [(13, _), (14, _), (15, _), (32, _)]) ?_ ⟨rfl, rfl, rfl, rfl, trivial⟩
            refine WC.cond rfl (fun q10 => ?_) (fun q10 => ?_)
            ·
              try simp only [Bool.not_eq_eq_eq_not, Bool.not_true, Bool.not_false, decide_eq_true_eq, decide_eq_false_iff_not, Int.not_lt, Int.not_le, ne_eq, Decidable.not_not, ← List.length_eq_zero_iff] at q10
              refine WC.seq ?_
              refine WC.region ?_
              refine WL.q (oq_assign rfl) rfl rfl rfl ?_
              refine WL.nil ?_
              refine WE.then_normal ?_
              refine WC.sub (fr' := [(4, _)]) ?_ ⟨rfl, trivial⟩
              refine WC.ret ?_
              refine WE.block_ret ?_
              refine WE.then_ret ?_
              refine WE.then_ret ?_
              refine WE.block_ret ?_
              refine WE.then_ret ?_
              refine WE.forget ho.fresh ?_
              refine WE.end0 (.inl rfl) (res1 Try.results13 rfl) ?_
              -- end 2
              rw [hf, all_get ls i [] (by omega)]
              have e9 : elab1 (ls.getD i []) = false := by unfold elab1; rw [decide_eq_false (by rw [← hc10_8]; intro h; exact h.2 q10), Bool.and_false]
              rw [e9]; rfl
            ·
              try simp only [Bool.not_eq_eq_eq_not, Bool.not_true, Bool.not_false, decide_eq_true_eq, decide_eq_false_iff_not, Int.not_lt, Int.not_le, ne_eq, Decidable.not_not, ← List.length_eq_zero_iff] at q10
              refine WC.skip ?_
              refine WE.block_normal ?_
              refine WE.then_normal ?_
              refine WC.sub (fr' := [(13, _), (14, _), (15, _)]) ?_ ⟨rfl, rfl, rfl, trivial⟩
              refine WC.region ?_
              refine WL.q (oq_add rfl rfl (by rw [i64_lo, i64_hi]; (first | omega | (simp only [List.length_cons, List.length_nil, List.length_append, List.length_drop, List.length_take]; omega)))) rfl rfl rfl ?_
              refine WL.q (oq_move rfl) rfl rfl rfl ?_
              refine WL.nil ?_
              have e8 : elab1 (ls.getD i []) = true := by
                unfold elab1; rw [q8, Bool.true_and]; apply decide_eq_true; rw [← hc10_1, ← hc10_8]; exact ⟨s10_3, q10⟩
              refine WE.again (i + 1) ?_ ?_ ⟨rfl, rfl, rfl, trivial⟩ (List.Perm.refl _)
              · try dsimp only   -- again 0
                refine ⟨by omega, ?_⟩
                rw [hf, all_get ls i [] (by omega), e8, Bool.true_and]
              · (try dsimp only); omega
      ·
        try simp only [Bool.not_eq_eq_eq_not, Bool.not_true, Bool.not_false, decide_eq_true_eq, decide_eq_false_iff_not, Int.not_lt, Int.not_le, ne_eq, Decidable.not_not, ← List.length_eq_zero_iff] at q6
        refine WC.exit ?_
        refine WE.then_exit ?_
        refine WE.then_exit ?_
        refine WE.block_same ?_
        refine WE.then_normal ?_
        refine WC.sub (fr' := []) ?_ trivial
        refine WC.seq ?_
        refine WC.region ?_
        refine WL.q (oq_assign rfl) rfl rfl rfl ?_
        refine WL.nil ?_
        refine WE.then_normal ?_
        refine WC.sub (fr' := [(4, _)]) ?_ ⟨rfl, trivial⟩
        refine WC.ret ?_
        refine WE.forget ho.fresh ?_
        refine WE.end0 (.inl rfl) (res1 Try.results13 rfl) ?_
        -- end 3
        rw [hf, List.drop_eq_nil_of_le (by omega)]; rfl

/-- given.example/pub-tinwright/impl.ELabel -/
theorem eLabel (s : List UInt8) (sub : Bool) (hs : s.length ≤ 4000000000) : Fn0 Try.prog 11 [S s, .bool sub] (.bool (evalid s sub)) := by
  refine Fn0.enter (n := 8) Try.func11 rfl rfl fun w0 => ?_
  refine WC.sub (fr' := [(0, _), (1, _)]) ?_ ⟨rfl, rfl, trivial⟩
  refine WC.seq ?_
  refine WC.region ?_
  refine WL.q (oq_assign rfl) rfl rfl rfl ?_
  refine WL.nil ?_
  refine WE.then_normal ?_
  refine WC.sub (fr' := [(0, _), (1, _)]) ?_ ⟨rfl, rfl, trivial⟩
  refine WC.seq ?_
  refine WC.region ?_
  refine WL.q (oq_move rfl) rfl rfl rfl ?_
  refine WL.q (oq_move rfl) rfl rfl rfl ?_
  refine WL.qc (oq_call (isValid _ _ (by omega)) call13 rfl) rfl rfl rfl ?_
  refine WL.q (oq_assign rfl) rfl rfl rfl ?_
  refine WL.nil ?_
  refine WE.then_normal ?_
  refine WC.sub (fr' := [(4, _)]) ?_ ⟨rfl, trivial⟩
  refine WC.ret ?_
  refine WE.end0 (.inl rfl) (res1 Try.results11 rfl) ?_
  -- end 0
  rfl

/-- given.example/pub-tinwright/laws.eAwake -/
theorem eAwake  : Fn0 Try.prog 7 [] (.bool true) := by
  refine Fn0.enter (n := 2) Try.func7 rfl rfl fun w0 => ?_
  refine WC.sub (fr' := []) ?_ trivial
  refine WC.seq ?_
  refine WC.region ?_
  refine WL.q (oq_assign rfl) rfl rfl rfl ?_
  refine WL.nil ?_
  refine WE.then_normal ?_
  refine WC.sub (fr' := []) ?_ trivial
  refine WC.seq ?_
  refine WC.region ?_
  refine WL.qc (oq_call (eLabel [97] false (by decide)) call11 rfl) rfl rfl rfl ?_
  refine WL.q (oq_assign rfl) rfl rfl rfl ?_
  refine WL.nil ?_
  refine WE.then_normal ?_
  refine WC.sub (fr' := [(0, _)]) ?_ ⟨rfl, trivial⟩
  refine WC.ret ?_
  refine WE.end0 (.inl rfl) (res1 Try.results7 rfl) ?_
  -- end 0
  rfl

end L2
end Go.Proofs.Ytjmlifpngnbomaa
