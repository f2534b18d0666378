/- Walks of the checks of labels and of the cutting of a text. -/
import Derived.Test.YtbcmbmmnpnbakaaDoorL1
import Derived.Test.YtbcmbmmnpnbakaaDoorL0
namespace Go.Proofs.YtbcmbmmnpnbakaaDoor
open Go Go.RowKit V L1 L0
set_option linter.unusedSimpArgs false
set_option linter.unusedVariables false
set_option maxRecDepth 10000
namespace L2
theorem ty9 : Ty Tryd.prog 9 (S []) 1 16 := ty_of (by kernel_rfl)

/-! ### Words -/
def elab1 (s : List UInt8) : Bool := vlabel s && decide (byteAt s 0 ≠ 45 ∧ byteAt s ((s.length : Int) - 1) ≠ 45)
def evalid (s : List UInt8) (sub : Bool) : Bool := (if sub then zzsp [46] s else [s]).all elab1
theorem elab1_pos (s : List UInt8) (h : vlabel s = true) : 1 ≤ s.length ∧ s.length ≤ 63 := by
  unfold vlabel at h
  simp only [Bool.and_eq_true, decide_eq_true_eq] at h
  exact h.1
theorem all_get {α : Type} {p : α → Bool} (l : List α) (i : Nat) (d : α) (h : i < l.length) : (l.drop i).all p = (p (l.getD i d) && (l.drop (i + 1)).all p) := by
  rw [List.drop_eq_getElem_cons h, List.getD_eq_getElem?_getD, List.getElem?_eq_getElem h]; rfl
/-- a byte that may stand at place i of a label of n bytes -/
def okc (c i n : Int) : Prop := (48 ≤ c ∧ c ≤ 57) ∨ (97 ≤ c ∧ c ≤ 122) ∨ (65 ≤ c ∧ c ≤ 90) ∨ (c = 45 ∧ 0 < i ∧ i < n - 1)
theorem okc_all (s : List UInt8) (h : ∀ j : Nat, j < s.length → okc (byteAt s j) j s.length) : s.all okb = true := by
  rw [List.all_eq_true]
  intro c hc
  obtain ⟨j, hj, rfl⟩ := List.mem_iff_getElem.1 hc
  rw [okb_iff, ← byteAt_get s j hj]
  have := h j hj
  unfold okc at this; unfold okr; omega
theorem elab1_of (s : List UInt8) (h : ∀ j : Nat, j < s.length → okc (byteAt s j) j s.length) : elab1 s = decide (1 ≤ s.length ∧ s.length ≤ 63) := by
  unfold elab1 vlabel
  rw [okc_all s h, Bool.and_true]
  by_cases hl : 1 ≤ s.length ∧ s.length ≤ 63
  · rw [decide_eq_true hl, Bool.true_and]
    have h0 := h 0 (by omega)
    have h1 := h (s.length - 1) (by omega)
    rw [show ((s.length - 1 : Nat) : Int) = (s.length : Int) - 1 from by omega] at h1
    apply decide_eq_true
    unfold okc at h0 h1
    constructor
    · intro e; rw [show ((0 : Nat) : Int) = 0 from rfl] at h0; omega
    · intro e; omega
  · rw [decide_eq_false hl]; rfl
theorem elab1_no (s : List UInt8) (i : Nat) (h : i < s.length) (hn : ¬ okc (byteAt s i) i s.length) : elab1 s = false := by
  cases he : elab1 s with
  | false => rfl
  | true =>
    exfalso
    unfold elab1 vlabel at he
    simp only [Bool.and_eq_true, decide_eq_true_eq, List.all_eq_true] at he
    obtain ⟨⟨hl, ha⟩, h0, h1⟩ := he
    have hc := (okb_iff _).1 (ha _ (List.getElem_mem h))
    rw [← byteAt_get s i h] at hc
    have e0 : byteAt s i = 45 → i ≠ 0 := fun e hz => by subst hz; exact h0 e
    have e1 : byteAt s i = 45 → (i : Int) ≠ (s.length : Int) - 1 := fun e hz => by rw [hz] at e; exact h1 e
    unfold okr at hc; unfold okc at hn
    omega
/-- the parts of a text, at most 'lim' of them if that is above 0, where n are there already -/
def ecutR (sep : List UInt8) (lim : Int) (n : Nat) (s : List UInt8) : List (List UInt8) := if 0 < lim then splitS sep (lim - 1 - n).toNat s else split sep s
theorem ecutR_step (sep : List UInt8) (h : sep ≠ []) (lim : Int) (n : Nat) (s : List UInt8) (i : Nat) (hf : find sep s = some i) (hl : 0 < lim → (n : Int) < lim - 1) : ecutR sep lim n s = s.take i :: ecutR sep lim (n + 1) (s.drop (i + sep.length)) := by
  unfold ecutR
  by_cases hp : 0 < lim
  · rw [if_pos hp, if_pos hp, show (lim - 1 - (n : Int)).toNat = (lim - 1 - ((n + 1 : Nat) : Int)).toNat + 1 from by have := hl hp; omega]
    show (match find sep s with | none => [s] | some i => s.take i :: splitS sep _ (s.drop (i + sep.length))) = _
    rw [hf]
  · rw [if_neg hp, if_neg hp]; exact split_some sep s h i hf
theorem ecutR_none (sep : List UInt8) (lim : Int) (n : Nat) (s : List UInt8) (hf : find sep s = none) : ecutR sep lim n s = [s] := by
  unfold ecutR
  by_cases hp : 0 < lim
  · rw [if_pos hp]
    cases (lim - 1 - (n : Int)).toNat with
    | zero => rfl
    | succ f => unfold splitS; rw [hf]
  · rw [if_neg hp]; exact split_none sep s hf
theorem ecutR_full (sep : List UInt8) (lim : Int) (n : Nat) (s : List UInt8) (hp : 0 < lim) (hn : (n : Int) = lim - 1) : ecutR sep lim n s = [s] := by
  unfold ecutR
  rw [if_pos hp, show (lim - 1 - (n : Int)).toNat = 0 from by omega]; rfl
theorem cut_sub (s : List UInt8) (a i : Nat) (h : a ≤ i) : cut s (a : Int) (i : Int) = (s.drop a).take (i - a) := by
  rw [show (i : Int) = (a : Int) + ((i - a : Nat) : Int) from by omega, cut_nat]
theorem strs_eq {a b : Nat} {x y : List Value} {base e : Nat} {v : Value} {A : Hp} (h : OwS base e 1 v A a x) (h1 : a = b) (h2 : x = y) : OwS base e 1 v A b y := by subst h1; subst h2; exact h
/-- given.example/pub-tinwright/spec.ECut -/
theorem eCut (s by_ : List UInt8) (lim : Int) (hs : s.length ≤ 4000000000) (hb : by_.length ≤ 4000000000) (hne : by_ ≠ []) (hlim : -9223372036854775808 ≤ lim ∧ lim ≤ 9223372036854775807) : FnA Tryd.prog 16 [S s, S by_, I lim] [] (fun v N => OwS 0 9 1 v N (ecutR by_ lim 0 s).length (strsV (ecutR by_ lim 0 s))) := by
  have hbp : 0 < by_.length := List.length_pos_iff.2 hne
  refine FnA.enter0 (n := 56) Tryd.func16 rfl rfl fun w0 => ?_
  refine WC.sub (fr' := [(0, _), (1, _), (2, _)]) ?_ ⟨rfl, rfl, rfl, trivial⟩
  refine WC.seq ?_
  refine WC.region ?_
  refine WL.q (oq_assign rfl) rfl rfl rfl ?_
  refine WL.nil ?_
  refine WE.then_normal ?_
  refine WC.sub (fr' := [(0, _), (1, _), (2, _)]) ?_ ⟨rfl, rfl, rfl, trivial⟩
  refine WC.seq ?_
  refine WC.region ?_
  refine WL.q (oq_assign rfl) rfl rfl rfl ?_
  refine WL.nil ?_
  refine WE.then_normal ?_
  refine WC.sub (fr' := [(0, _), (1, _), (2, _), (7, _)]) ?_ ⟨rfl, rfl, rfl, rfl, trivial⟩
  refine WC.seq ?_
  refine WC.add0 ?_
  refine WC.region ?_
  refine WL.q (oq_assign rfl) rfl rfl rfl ?_
  refine WL.nil ?_
  refine WE.then_normal ?_
  refine WC.sub (fr' := [(0, _), (1, _), (2, _), (7, _), (8, _)]) ?_ ⟨rfl, rfl, rfl, rfl, rfl, trivial⟩
  refine WC.seq ?_
  refine WC.seq ?_
  refine WC.region ?_
  refine WL.q (oq_assign rfl) rfl rfl rfl ?_
  refine WL.nil ?_
  refine WE.then_normal ?_
  refine WC.sub (fr' := [(0, _), (1, _), (2, _), (7, _), (8, _), (9, _)]) ?_ ⟨rfl, rfl, rfl, rfl, rfl, rfl, trivial⟩
  refine WC.block ?_
  refine WC.loop (ι := Nat × Nat × Value × Hp × (List (List UInt8))) (fun i_ => (fun (i : Nat) (from_ : Nat) (v : Value) (A : Hp) (acc : List (List UInt8)) => [(0, S s), (1, S by_), (2, I lim), (7, v), (8, I from_), (9, I i)]) i_.1 i_.2.1 i_.2.2.1 i_.2.2.2.1 i_.2.2.2.2) (fun i_ => (fun (i : Nat) (from_ : Nat) (v : Value) (A : Hp) (acc : List (List UInt8)) => [A]) i_.1 i_.2.1 i_.2.2.1 i_.2.2.2.1 i_.2.2.2.2) (fun i_ => (fun (i : Nat) (from_ : Nat) (v : Value) (A : Hp) (acc : List (List UInt8)) => from_ ≤ i ∧ i ≤ s.length ∧ acc.length ≤ from_ ∧ (0 < lim → (acc.length : Int) ≤ lim - 1) ∧ OwS w0.heap.size 9 1 v A acc.length (strsV acc) ∧ find by_ (s.drop from_) = (find by_ (s.drop i)).map (· + (i - from_)) ∧ acc ++ ecutR by_ lim acc.length (s.drop from_) = ecutR by_ lim 0 s) i_.1 i_.2.1 i_.2.2.1 i_.2.2.2.1 i_.2.2.2.2) (fun i_ => (fun (i : Nat) (from_ : Nat) (v : Value) (A : Hp) (acc : List (List UInt8)) => s.length - i) i_.1 i_.2.1 i_.2.2.1 i_.2.2.2.1 i_.2.2.2.2) ((0, 0, _, _, [])) ?_ ⟨rfl, rfl, rfl, rfl, rfl, rfl, trivial⟩ (List.Perm.refl _) ?_
  · try dsimp only
    exact ⟨by omega, by omega, by simp, fun h => by simp; omega, OwS.nil _ _ _, by simp, rfl⟩
  · rintro ⟨i, from_, v, A, acc⟩ hp
    try dsimp only at hp
    obtain ⟨hfi, hi, hc, hlm, ho, hf, ht⟩ := hp
    show WC _ _ _ _ _ _ ([(0, S s), (1, S by_), (2, I lim), (7, v), (8, I from_), (9, I i)]) ([A])
    refine WC.seq ?_
    refine WC.seq ?_
    refine WC.region ?_
    refine WL.q (oq_move rfl) rfl rfl rfl ?_
    refine WL.q (oq_move rfl) rfl rfl rfl ?_
    refine WL.q (oq_len_s Tryd.underlying9 rfl) rfl rfl rfl ?_
    refine WL.q (oq_add rfl rfl (by rw [i64_lo, i64_hi]; (first | omega | (simp only [List.length_cons, List.length_nil, List.length_append, List.length_drop, List.length_take]; omega)))) rfl rfl rfl ?_
    refine WL.q (oq_move rfl) rfl rfl rfl ?_
    refine WL.q (oq_len_s Tryd.underlying9 rfl) rfl rfl rfl ?_
    refine WL.q (oq_leq rfl rfl) rfl rfl rfl ?_
    refine WL.nil ?_
    refine WE.then_normal ?_
    refine WC.sub (fr' := [(0, _), (1, _), (2, _), (7, _), (8, _), (9, _), (16, _)]) ?_ ⟨rfl, rfl, rfl, rfl, rfl, rfl, rfl, trivial⟩
    refine WC.cond rfl (fun q4 => ?_) (fun q4 => ?_)
    ·
      try simp only [Bool.not_eq_eq_eq_not, Bool.not_true, Bool.not_false, decide_eq_true_eq, decide_eq_false_iff_not, Int.not_lt, Int.not_le, ne_eq, Decidable.not_not, ← List.length_eq_zero_iff] at q4
      refine WC.skip ?_
      refine WE.then_normal ?_
      refine WC.sub (fr' := [(0, _), (1, _), (2, _), (7, _), (8, _), (9, _)]) ?_ ⟨rfl, rfl, rfl, rfl, rfl, rfl, trivial⟩
      refine WC.seq ?_
      refine WC.block ?_
      refine WC.seq ?_
      refine WC.seq ?_
      refine WC.region ?_
      refine WL.q (oq_move rfl) rfl rfl rfl ?_
      refine WL.q (oq_gtr rfl rfl) rfl rfl rfl ?_
      refine WL.q (oq_move rfl) rfl rfl rfl ?_
      refine WL.split 21 rfl (fun s6_2 => ?_) (fun s6_2 => ?_)
      ·
        try simp only [Bool.not_eq_eq_eq_not, Bool.not_true, Bool.not_false, decide_eq_true_eq, decide_eq_false_iff_not, Int.not_lt, Int.not_le, ne_eq, Decidable.not_not, ← List.length_eq_zero_iff] at s6_2
        refine WL.q (oq_move rfl) rfl rfl rfl ?_
        refine WL.q (oq_len_rd ho.rd Tryd.underlying29 rfl) rfl rfl rfl ?_
        refine WL.q (oq_move rfl) rfl rfl rfl ?_
        refine WL.q (oq_sub rfl rfl (by rw [i64_lo, i64_hi]; (first | omega | (simp only [List.length_cons, List.length_nil, List.length_append, List.length_drop, List.length_take]; omega)))) rfl rfl rfl ?_
        refine WL.q (oq_eql rfl rfl) rfl rfl rfl ?_
        refine WL.q (oq_pick_t rfl rfl) rfl rfl rfl ?_
        refine WL.nil ?_
        refine WE.then_normal ?_
        refine WC.sub (fr' := [(0, _), (1, _), (2, _), (7, _), (8, _), (9, _), (27, _)]) ?_ ⟨rfl, rfl, rfl, rfl, rfl, rfl, rfl, trivial⟩
        refine WC.cond rfl (fun q6 => ?_) (fun q6 => ?_)
        ·
          try simp only [Bool.not_eq_eq_eq_not, Bool.not_true, Bool.not_false, decide_eq_true_eq, decide_eq_false_iff_not, Int.not_lt, Int.not_le, ne_eq, Decidable.not_not, ← List.length_eq_zero_iff] at q6
          refine WC.exit ?_
          refine WE.then_exit ?_
          refine WE.block_other rfl ?_
          refine WE.then_exit ?_
          refine WE.then_exit ?_
          refine WE.block_same ?_
          refine WE.then_normal ?_
          refine WC.sub (fr' := [(0, _), (7, _), (8, _)]) ?_ ⟨rfl, rfl, rfl, trivial⟩
          refine WC.seq ?_
          refine WC.region ?_
          refine WL.q (oq_move rfl) rfl rfl rfl ?_
          refine WL.q (oq_move rfl) rfl rfl rfl ?_
          refine WL.q (oq_move rfl) rfl rfl rfl ?_
          refine WL.q (oq_slice_s1 Tryd.underlying9 rfl rfl (by (first | omega | (simp only [List.length_cons, List.length_nil, List.length_append, List.length_drop, List.length_take]; omega)))) rfl rfl rfl ?_
          refine WL.append1 ho Tryd.underlying29 ty9 rfl (by decide) (fun _ => rfl) rfl rfl (by unfold maxLen; omega) (by omega) rfl rfl (fun _ => rfl) rfl fun v11 A11 u11 ho11 hne11 => ?_
          refine WL.q (oq_assign rfl) rfl rfl rfl ?_
          refine WL.nil ?_
          refine WE.then_normal ?_
          refine WC.sub (fr' := [(6, _)]) ?_ ⟨rfl, trivial⟩
          refine WC.ret ?_
          refine WE.endA0 (.inl rfl) (res1 Tryd.results16 rfl) ?_ (ho11.fresh)
          -- end 0
          have h1 := hlm s6_2
          exact own_eq ho11 (by rw [← ht, ecutR_full by_ lim acc.length _ s6_2 (by omega)]; simp [strsV])
        ·
          try simp only [Bool.not_eq_eq_eq_not, Bool.not_true, Bool.not_false, decide_eq_true_eq, decide_eq_false_iff_not, Int.not_lt, Int.not_le, ne_eq, Decidable.not_not, ← List.length_eq_zero_iff] at q6
          refine WC.skip ?_
          refine WE.then_normal ?_
          refine WC.sub (fr' := [(0, _), (1, _), (2, _), (7, _), (8, _), (9, _)]) ?_ ⟨rfl, rfl, rfl, rfl, rfl, rfl, trivial⟩
          refine WC.seq ?_
          refine WC.region ?_
          refine WL.q (oq_move rfl) rfl rfl rfl ?_
          refine WL.q (oq_move rfl) rfl rfl rfl ?_
          refine WL.q (oq_move rfl) rfl rfl rfl ?_
          refine WL.q (oq_move rfl) rfl rfl rfl ?_
          refine WL.q (oq_len_s Tryd.underlying9 rfl) rfl rfl rfl ?_
          refine WL.q (oq_add rfl rfl (by rw [i64_lo, i64_hi]; (first | omega | (simp only [List.length_cons, List.length_nil, List.length_append, List.length_drop, List.length_take]; omega)))) rfl rfl rfl ?_
          refine WL.q (oq_slice_s2 Tryd.underlying9 rfl rfl rfl (by (first | omega | (simp only [List.length_cons, List.length_nil, List.length_append, List.length_drop, List.length_take]; omega)))) rfl rfl rfl ?_
          refine WL.q (oq_move rfl) rfl rfl rfl ?_
          refine WL.q (oq_seql rfl rfl) rfl rfl rfl ?_
          refine WL.nil ?_
          refine WE.then_normal ?_
          refine WC.sub (fr' := [(0, _), (1, _), (2, _), (7, _), (8, _), (9, _), (36, _)]) ?_ ⟨rfl, rfl, rfl, rfl, rfl, rfl, rfl, trivial⟩
          refine WC.cond rfl (fun q7 => ?_) (fun q7 => ?_)
          ·
            try simp only [Bool.not_eq_eq_eq_not, Bool.not_true, Bool.not_false, decide_eq_true_eq, decide_eq_false_iff_not, Int.not_lt, Int.not_le, ne_eq, Decidable.not_not, ← List.length_eq_zero_iff] at q7
            refine WC.seq ?_
            refine WC.region ?_
            refine WL.q (oq_move rfl) rfl rfl rfl ?_
            refine WL.q (oq_move rfl) rfl rfl rfl ?_
            refine WL.q (oq_move rfl) rfl rfl rfl ?_
            refine WL.q (oq_move rfl) rfl rfl rfl ?_
            refine WL.q (oq_slice_s2 Tryd.underlying9 rfl rfl rfl (by (first | omega | (simp only [List.length_cons, List.length_nil, List.length_append, List.length_drop, List.length_take]; omega)))) rfl rfl rfl ?_
            refine WL.append1 ho Tryd.underlying29 ty9 rfl (by decide) (fun _ => rfl) rfl rfl (by unfold maxLen; omega) (by omega) rfl rfl (fun _ => rfl) rfl fun v8 A8 u8 ho8 hne8 => ?_
            refine WL.q (oq_assign rfl) rfl rfl rfl ?_
            refine WL.nil ?_
            refine WE.then_normal ?_
            refine WC.sub (fr' := [(0, _), (1, _), (2, _), (7, _), (9, _)]) ?_ ⟨rfl, rfl, rfl, rfl, rfl, trivial⟩
            refine WC.seq ?_
            refine WC.region ?_
            refine WL.q (oq_move rfl) rfl rfl rfl ?_
            refine WL.q (oq_move rfl) rfl rfl rfl ?_
            refine WL.q (oq_len_s Tryd.underlying9 rfl) rfl rfl rfl ?_
            refine WL.q (oq_add rfl rfl (by rw [i64_lo, i64_hi]; (first | omega | (simp only [List.length_cons, List.length_nil, List.length_append, List.length_drop, List.length_take]; omega)))) rfl rfl rfl ?_
            refine WL.q (oq_assign rfl) rfl rfl rfl ?_
            refine WL.nil ?_
            refine WE.then_normal ?_
            refine WC.sub (fr' := [(0, _), (1, _), (2, _), (7, _), (8, _)]) ?_ ⟨rfl, rfl, rfl, rfl, rfl, trivial⟩
            refine WC.region ?_
            refine WL.q (oq_move rfl) rfl rfl rfl ?_
            refine WL.q (oq_sub rfl rfl (by rw [i64_lo, i64_hi]; (first | omega | (simp only [List.length_cons, List.length_nil, List.length_append, List.length_drop, List.length_take]; omega)))) rfl rfl rfl ?_
            refine WL.q (oq_assign rfl) rfl rfl rfl ?_
            refine WL.nil ?_
            refine WE.block_normal ?_
            refine WE.then_normal ?_
            refine WC.sub (fr' := [(0, _), (1, _), (2, _), (7, _), (8, _), (9, _)]) ?_ ⟨rfl, rfl, rfl, rfl, rfl, rfl, trivial⟩
            refine WC.region ?_
            refine WL.q (oq_move rfl) rfl rfl rfl ?_
            refine WL.q (oq_add rfl rfl (by rw [i64_lo, i64_hi]; (first | omega | (simp only [List.length_cons, List.length_nil, List.length_append, List.length_drop, List.length_take]; omega)))) rfl rfl rfl ?_
            refine WL.q (oq_assign rfl) rfl rfl rfl ?_
            refine WL.nil ?_
            refine WE.again (i + by_.length, i + by_.length, _, _, acc ++ [cut s from_ i]) ?_ ?_ ⟨rfl, rfl, rfl, rfl, (gti rfl (by first | rfl | omega | (dsimp only; omega))), (gti rfl (by first | rfl | omega | (dsimp only; omega))), trivial⟩ (List.Perm.refl _)
            · try dsimp only   -- again 0
              have h0 := find_here by_ (s.drop i) (by rw [← cut_nat]; exact q7)
              have h1 : find by_ (s.drop from_) = some (i - from_) := by rw [hf, h0]; simp
              have hq : acc.length ≤ from_ := hc
              refine ⟨by omega, by omega, by simp; omega, fun h => by simp; have := hlm h; omega, own_snoc ho8, by simp, ?_⟩
              rw [← ht, ecutR_step by_ hne lim acc.length _ _ h1 (fun h => by omega), List.append_assoc, List.drop_drop, cut_sub s from_ i hfi]
              rw [show from_ + (i - from_ + by_.length) = i + by_.length from by omega]
              simp
            · (try dsimp only); omega
          ·
            try simp only [Bool.not_eq_eq_eq_not, Bool.not_true, Bool.not_false, decide_eq_true_eq, decide_eq_false_iff_not, Int.not_lt, Int.not_le, ne_eq, Decidable.not_not, ← List.length_eq_zero_iff] at q7
            refine WC.skip ?_
            refine WE.block_normal ?_
            refine WE.then_normal ?_
            refine WC.sub (fr' := [(0, _), (1, _), (2, _), (7, _), (8, _), (9, _)]) ?_ ⟨rfl, rfl, rfl, rfl, rfl, rfl, trivial⟩
            refine WC.region ?_
            refine WL.q (oq_move rfl) rfl rfl rfl ?_
            refine WL.q (oq_add rfl rfl (by rw [i64_lo, i64_hi]; (first | omega | (simp only [List.length_cons, List.length_nil, List.length_append, List.length_drop, List.length_take]; omega)))) rfl rfl rfl ?_
            refine WL.q (oq_assign rfl) rfl rfl rfl ?_
            refine WL.nil ?_
            refine WE.again (i + 1, from_, _, _, acc) ?_ ?_ ⟨rfl, rfl, rfl, rfl, (gti rfl (by first | rfl | omega | (dsimp only; omega))), (gti rfl (by first | rfl | omega | (dsimp only; omega))), trivial⟩ (List.Perm.refl _)
            · try dsimp only   -- again 1
              have hlt : i < s.length := by omega
              refine ⟨by omega, by omega, hc, hlm, ho, ?_, ht⟩
              rw [hf, find_step by_ s i hlt, if_neg (by rw [← cut_nat]; exact q7), Option.map_map]
              congr 1; funext x; simp; omega
            · (try dsimp only); omega
      ·
        try simp only [Bool.not_eq_eq_eq_not, Bool.not_true, Bool.not_false, decide_eq_true_eq, decide_eq_false_iff_not, Int.not_lt, Int.not_le, ne_eq, Decidable.not_not, ← List.length_eq_zero_iff] at s6_2
        refine WL.skip rfl rfl rfl ?_
        refine WL.skip rfl rfl rfl ?_
        refine WL.skip rfl rfl rfl ?_
        refine WL.skip rfl rfl rfl ?_
        refine WL.skip rfl rfl rfl ?_
        refine WL.q (oq_pick_f rfl rfl) rfl rfl rfl ?_
        refine WL.nil ?_
        refine WE.then_normal ?_
        refine WC.sub (fr' := [(0, _), (1, _), (2, _), (7, _), (8, _), (9, _), (27, _)]) ?_ ⟨rfl, rfl, rfl, rfl, rfl, rfl, rfl, trivial⟩
        refine WC.cond_f rfl ?_
        refine WC.skip ?_
        refine WE.then_normal ?_
        refine WC.sub (fr' := [(0, _), (1, _), (2, _), (7, _), (8, _), (9, _)]) ?_ ⟨rfl, rfl, rfl, rfl, rfl, rfl, trivial⟩
        refine WC.seq ?_
        refine WC.region ?_
        refine WL.q (oq_move rfl) rfl rfl rfl ?_
        refine WL.q (oq_move rfl) rfl rfl rfl ?_
        refine WL.q (oq_move rfl) rfl rfl rfl ?_
        refine WL.q (oq_move rfl) rfl rfl rfl ?_
        refine WL.q (oq_len_s Tryd.underlying9 rfl) rfl rfl rfl ?_
        refine WL.q (oq_add rfl rfl (by rw [i64_lo, i64_hi]; (first | omega | (simp only [List.length_cons, List.length_nil, List.length_append, List.length_drop, List.length_take]; omega)))) rfl rfl rfl ?_
        refine WL.q (oq_slice_s2 Tryd.underlying9 rfl rfl rfl (by (first | omega | (simp only [List.length_cons, List.length_nil, List.length_append, List.length_drop, List.length_take]; omega)))) rfl rfl rfl ?_
        refine WL.q (oq_move rfl) rfl rfl rfl ?_
        refine WL.q (oq_seql rfl rfl) rfl rfl rfl ?_
        refine WL.nil ?_
        refine WE.then_normal ?_
        refine WC.sub (fr' := [(0, _), (1, _), (2, _), (7, _), (8, _), (9, _), (36, _)]) ?_ ⟨rfl, rfl, rfl, rfl, rfl, rfl, rfl, trivial⟩
        refine WC.cond rfl (fun q7 => ?_) (fun q7 => ?_)
        ·
          try simp only [Bool.not_eq_eq_eq_not, Bool.not_true, Bool.not_false, decide_eq_true_eq, decide_eq_false_iff_not, Int.not_lt, Int.not_le, ne_eq, Decidable.not_not, ← List.length_eq_zero_iff] at q7
          refine WC.seq ?_
          refine WC.region ?_
          refine WL.q (oq_move rfl) rfl rfl rfl ?_
          refine WL.q (oq_move rfl) rfl rfl rfl ?_
          refine WL.q (oq_move rfl) rfl rfl rfl ?_
          refine WL.q (oq_move rfl) rfl rfl rfl ?_
          refine WL.q (oq_slice_s2 Tryd.underlying9 rfl rfl rfl (by (first | omega | (simp only [List.length_cons, List.length_nil, List.length_append, List.length_drop, List.length_take]; omega)))) rfl rfl rfl ?_
          refine WL.append1 ho Tryd.underlying29 ty9 rfl (by decide) (fun _ => rfl) rfl rfl (by unfold maxLen; omega) (by omega) rfl rfl (fun _ => rfl) rfl fun v8 A8 u8 ho8 hne8 => ?_
          refine WL.q (oq_assign rfl) rfl rfl rfl ?_
          refine WL.nil ?_
          refine WE.then_normal ?_
          refine WC.sub (fr' := [(0, _), (1, _), (2, _), (7, _), (9, _)]) ?_ ⟨rfl, rfl, rfl, rfl, rfl, trivial⟩
          refine WC.seq ?_
          refine WC.region ?_
          refine WL.q (oq_move rfl) rfl rfl rfl ?_
          refine WL.q (oq_move rfl) rfl rfl rfl ?_
          refine WL.q (oq_len_s Tryd.underlying9 rfl) rfl rfl rfl ?_
          refine WL.q (oq_add rfl rfl (by rw [i64_lo, i64_hi]; (first | omega | (simp only [List.length_cons, List.length_nil, List.length_append, List.length_drop, List.length_take]; omega)))) rfl rfl rfl ?_
          refine WL.q (oq_assign rfl) rfl rfl rfl ?_
          refine WL.nil ?_
          refine WE.then_normal ?_
          refine WC.sub (fr' := [(0, _), (1, _), (2, _), (7, _), (8, _)]) ?_ ⟨rfl, rfl, rfl, rfl, rfl, trivial⟩
          refine WC.region ?_
          refine WL.q (oq_move rfl) rfl rfl rfl ?_
          refine WL.q (oq_sub rfl rfl (by rw [i64_lo, i64_hi]; (first | omega | (simp only [List.length_cons, List.length_nil, List.length_append, List.length_drop, List.length_take]; omega)))) rfl rfl rfl ?_
          refine WL.q (oq_assign rfl) rfl rfl rfl ?_
          refine WL.nil ?_
          refine WE.block_normal ?_
          refine WE.then_normal ?_
          refine WC.sub (fr' := [(0, _), (1, _), (2, _), (7, _), (8, _), (9, _)]) ?_ ⟨rfl, rfl, rfl, rfl, rfl, rfl, trivial⟩
          refine WC.region ?_
          refine WL.q (oq_move rfl) rfl rfl rfl ?_
          refine WL.q (oq_add rfl rfl (by rw [i64_lo, i64_hi]; (first | omega | (simp only [List.length_cons, List.length_nil, List.length_append, List.length_drop, List.length_take]; omega)))) rfl rfl rfl ?_
          refine WL.q (oq_assign rfl) rfl rfl rfl ?_
          refine WL.nil ?_
          refine WE.again (i + by_.length, i + by_.length, _, _, acc ++ [cut s from_ i]) ?_ ?_ ⟨rfl, rfl, rfl, rfl, (gti rfl (by first | rfl | omega | (dsimp only; omega))), (gti rfl (by first | rfl | omega | (dsimp only; omega))), trivial⟩ (List.Perm.refl _)
          · try dsimp only   -- again 2
            have h0 := find_here by_ (s.drop i) (by rw [← cut_nat]; exact q7)
            have h1 : find by_ (s.drop from_) = some (i - from_) := by rw [hf, h0]; simp
            have hq : acc.length ≤ from_ := hc
            refine ⟨by omega, by omega, by simp; omega, fun h => by simp; have := hlm h; omega, own_snoc ho8, by simp, ?_⟩
            rw [← ht, ecutR_step by_ hne lim acc.length _ _ h1 (fun h => by omega), List.append_assoc, List.drop_drop, cut_sub s from_ i hfi]
            rw [show from_ + (i - from_ + by_.length) = i + by_.length from by omega]
            simp
          · (try dsimp only); omega
        ·
          try simp only [Bool.not_eq_eq_eq_not, Bool.not_true, Bool.not_false, decide_eq_true_eq, decide_eq_false_iff_not, Int.not_lt, Int.not_le, ne_eq, Decidable.not_not, ← List.length_eq_zero_iff] at q7
          refine WC.skip ?_
          refine WE.block_normal ?_
          refine WE.then_normal ?_
          refine WC.sub (fr' := [(0, _), (1, _), (2, _), (7, _), (8, _), (9, _)]) ?_ ⟨rfl, rfl, rfl, rfl, rfl, rfl, trivial⟩
          refine WC.region ?_
          refine WL.q (oq_move rfl) rfl rfl rfl ?_
          refine WL.q (oq_add rfl rfl (by rw [i64_lo, i64_hi]; (first | omega | (simp only [List.length_cons, List.length_nil, List.length_append, List.length_drop, List.length_take]; omega)))) rfl rfl rfl ?_
          refine WL.q (oq_assign rfl) rfl rfl rfl ?_
          refine WL.nil ?_
          refine WE.again (i + 1, from_, _, _, acc) ?_ ?_ ⟨rfl, rfl, rfl, rfl, (gti rfl (by first | rfl | omega | (dsimp only; omega))), (gti rfl (by first | rfl | omega | (dsimp only; omega))), trivial⟩ (List.Perm.refl _)
          · try dsimp only   -- again 3
            have hlt : i < s.length := by omega
            refine ⟨by omega, by omega, hc, hlm, ho, ?_, ht⟩
            rw [hf, find_step by_ s i hlt, if_neg (by rw [← cut_nat]; exact q7), Option.map_map]
            congr 1; funext x; simp; omega
          · (try dsimp only); omega
    ·
      try simp only [Bool.not_eq_eq_eq_not, Bool.not_true, Bool.not_false, decide_eq_true_eq, decide_eq_false_iff_not, Int.not_lt, Int.not_le, ne_eq, Decidable.not_not, ← List.length_eq_zero_iff] at q4
      refine WC.exit ?_
      refine WE.then_exit ?_
      refine WE.then_exit ?_
      refine WE.block_same ?_
      refine WE.then_normal ?_
      refine WC.sub (fr' := [(0, _), (7, _), (8, _)]) ?_ ⟨rfl, rfl, rfl, trivial⟩
      refine WC.seq ?_
      refine WC.region ?_
      refine WL.q (oq_move rfl) rfl rfl rfl ?_
      refine WL.q (oq_move rfl) rfl rfl rfl ?_
      refine WL.q (oq_move rfl) rfl rfl rfl ?_
      refine WL.q (oq_slice_s1 Tryd.underlying9 rfl rfl (by (first | omega | (simp only [List.length_cons, List.length_nil, List.length_append, List.length_drop, List.length_take]; omega)))) rfl rfl rfl ?_
      refine WL.append1 ho Tryd.underlying29 ty9 rfl (by decide) (fun _ => rfl) rfl rfl (by unfold maxLen; omega) (by omega) rfl rfl (fun _ => rfl) rfl fun v11 A11 u11 ho11 hne11 => ?_
      refine WL.q (oq_assign rfl) rfl rfl rfl ?_
      refine WL.nil ?_
      refine WE.then_normal ?_
      refine WC.sub (fr' := [(6, _)]) ?_ ⟨rfl, trivial⟩
      refine WC.ret ?_
      refine WE.endA0 (.inl rfl) (res1 Tryd.results16 rfl) ?_ (ho11.fresh)
      -- end 1
      exact own_eq ho11 (by rw [← ht, ecutR_none by_ lim acc.length _ (by rw [hf, find_short by_ _ (by simp; omega)]; rfl)]; simp [strsV])

end L2
end Go.Proofs.YtbcmbmmnpnbakaaDoor
