/- Walks of the checks of labels and of the cutting of a text. -/
import Derived.Test.YtefaegocllppkaaDoorN0
namespace Go.Proofs.YtefaegocllppkaaDoor
open Go Go.RowKit V L1 L0
set_option linter.unusedSimpArgs false
set_option linter.unusedVariables false
set_option maxRecDepth 10000
namespace L2
theorem call11 : Callable Tryd.prog 11 := ⟨_, Tryd.func11, rfl, by kernel_rfl⟩
theorem call13 : Callable Tryd.prog 13 := ⟨_, Tryd.func13, rfl, by kernel_rfl⟩
theorem call20 : Callable Tryd.prog 20 := ⟨_, Tryd.func20, rfl, by kernel_rfl⟩
theorem call21 : Callable Tryd.prog 21 := ⟨_, Tryd.func21, rfl, by kernel_rfl⟩
theorem flat9 : Flat Tryd.prog 9 := ⟨_, Tryd.underlying9, by simp⟩
theorem ty9 : Ty Tryd.prog 9 (S []) 1 16 := ty_of (by kernel_rfl)
/-! ### Words -/
def elab1 (s : List UInt8) : Bool := vlabel s && decide (byteAt s 0 ≠ 45 ∧ byteAt s ((s.length : Int) - 1) ≠ 45)
def evalid (s : List UInt8) (sub : Bool) : Bool := (if sub then zzsp [46] s else [s]).all elab1
theorem elab1_pos (s : List UInt8) (h : vlabel s = true) : 1 ≤ s.length ∧ s.length ≤ 63 := by
 unfold vlabel at h
 simp only [Bool.and_eq_true, decide_eq_true_eq] at h
 exact h.1
theorem all_get {α : Type} {p : α → Bool} (l : List α) (i : Nat) (d : α) (h : i < l.length) : (l.drop i).all p = (p (l.getD i d) && (l.drop (i + 1)).all p) := by
 rw [List.drop_eq_getElem_cons h, List.getD_eq_getElem?_getD, List.getElem?_eq_getElem h]; rfl
def ecutR (sep : List UInt8) (lim : Int) (n : Nat) (s : List UInt8) : List (List UInt8) := if 0 < lim then splitS sep (lim - 1 - n).toNat s else split sep s
theorem ecutR_step (sep : List UInt8) (h : sep ≠ []) (lim : Int) (n : Nat) (s : List UInt8) (i : Nat) (hf : find sep s = some i) (hl : 0 < lim → (n : Int) < lim - 1) : ecutR sep lim n s = s.take i :: ecutR sep lim (n + 1) (s.drop (i + sep.length)) := by
 unfold ecutR
 by_cases hp : 0 < lim
 ·rw [if_pos hp, if_pos hp, show (lim - 1 - (n : Int)).toNat = (lim - 1 - ((n + 1 : Nat) : Int)).toNat + 1 from by have := hl hp; omega]
  show (match find sep s with | none => [s] | some i => s.take i :: splitS sep _ (s.drop (i + sep.length))) = _
  rw [hf]
 ·rw [if_neg hp, if_neg hp]; exact split_some sep s h i hf
theorem ecutR_none (sep : List UInt8) (lim : Int) (n : Nat) (s : List UInt8) (hf : find sep s = none) : ecutR sep lim n s = [s] := by
 unfold ecutR
 by_cases hp : 0 < lim
 ·rw [if_pos hp]
  cases (lim - 1 - (n : Int)).toNat with
  | zero => rfl
  | succ f => unfold splitS; rw [hf]
 ·rw [if_neg hp]; exact split_none sep s hf
theorem ecutR_full (sep : List UInt8) (lim : Int) (n : Nat) (s : List UInt8) (hp : 0 < lim) (hn : (n : Int) = lim - 1) : ecutR sep lim n s = [s] := by
 unfold ecutR
 rw [if_pos hp, show (lim - 1 - (n : Int)).toNat = 0 from by omega]; rfl
theorem cut_sub (s : List UInt8) (a i : Nat) (h : a ≤ i) : cut s (a : Int) (i : Int) = (s.drop a).take (i - a) := by
 rw [show (i : Int) = (a : Int) + ((i - a : Nat) : Int) from by omega, cut_nat]
theorem isValid (s : List UInt8) (sub : Bool) (hs : s.length ≤ 4000000000) : Fn0 Tryd.prog 13 [S s, .bool sub] (.bool (evalid s sub)) := by
 refine Fn0.enter (n := 34) Tryd.func13 rfl rfl fun w0 => ?_
 refine WC.sub (fr' := [(0, _), (1, _)]) ?_ ⟨rfl, rfl, trivial⟩
 refine WC.seq (WC.region ?_)
 refine WL.q (oq_assign rfl) rfl rfl rfl ?_
 refine WL.nil (WE.then_normal (WC.sub (fr' := [(0, _), (1, _)]) ?_ ⟨rfl, rfl, trivial⟩))
 refine WC.seq (WC.region ?_)
 refine WL.q (oq_assign rfl) rfl rfl rfl ?_
 refine WL.nil (WE.then_normal (WC.sub (fr' := [(0, _), (1, _)]) ?_ ⟨rfl, rfl, trivial⟩))
 refine WC.cut (ι := Value × Hp × (List (List UInt8))) (fun i_ => (fun (v : Value) (A : Hp) (ls : List (List UInt8)) => [(5, v)]) i_.1 i_.2.1 i_.2.2) (fun i_ => (fun (v : Value) (A : Hp) (ls : List (List UInt8)) => [A]) i_.1 i_.2.1 i_.2.2) (fun i_ => (fun (v : Value) (A : Hp) (ls : List (List UInt8)) => OwS w0.heap.size 9 1 v A ls.length (strsV ls) ∧ ls = (if sub then zzsp [46] s else [s]) ∧ ls.length ≤ s.length + 1) i_.1 i_.2.1 i_.2.2) ?_ ?_
 ·
  refine WC.seq (WC.region ?_)
  refine WL.q (oq_move rfl) rfl rfl rfl ?_
  refine WL.nil (WE.then_normal (WC.sub (fr' := [(0, _), (8, _)]) ?_ ⟨rfl, rfl, trivial⟩))
  refine WC.cond rfl (fun q2 => ?_) (fun q2 => ?_)
  ·
   try simp only [Z1, Z2, Z3, Z4, Z5, Z6, Z7, Z8, Z9, Z0] at q2
   refine WC.region ?_
   refine WL.q (oq_move rfl) rfl rfl rfl ?_
   refine WL.callA0 (zzSplit _ _ (by omega) (by decide)) call20 rfl rfl rfl fun v3_1 N3_1 hR3_1 hN3_1 => ?_
   have ho3_1 := hR3_1.rebase hN3_1
   refine WL.q (oq_assign rfl) rfl rfl rfl ?_
   refine WL.nil ?_
   try dsimp only
   refine WE.meet (_, _, zzsp [46] s) ?_ ⟨rfl, trivial⟩ (List.Perm.refl _)
   try dsimp only
   exact ⟨ho3_1, by rw [if_pos q2], zzsp_len s _⟩
  ·
   try simp only [Z1, Z2, Z3, Z4, Z5, Z6, Z7, Z8, Z9, Z0] at q2
   refine WC.region ?_
   refine WL.q (oq_move rfl) rfl rfl rfl ?_
   refine WL.buildL Tryd.underlying28 ty9 rfl rfl (by decide) (by decide) rfl rfl rfl fun v4 A4 ho4 hne4 => ?_
   refine WL.q (oq_assign rfl) rfl rfl rfl ?_
   refine WL.nil ?_
   try dsimp only
   refine WE.meet (_, _, [s]) ?_ ⟨rfl, trivial⟩ (List.Perm.refl _)
   try dsimp only
   exact ⟨ho4, by rw [if_neg (by simp [q2])], by simp⟩
 ·rintro ⟨v, A, ls⟩ hp
  try dsimp only at hp
  obtain ⟨ho, hls, hll⟩ := hp
  show WC _ _ _ _ _ _ ([(5, v)]) ([A])
  refine WC.seq (WC.seq (WC.region ?_))
  refine WL.q (oq_move rfl) rfl rfl rfl ?_
  refine WL.q (oq_len_rd ho.rd Tryd.underlying28 rfl) rfl rfl rfl ?_
  refine WL.q (oq_move rfl) rfl rfl rfl ?_
  refine WL.nil (WE.then_normal (WC.sub (fr' := [(13, _), (14, _), (15, _)]) ?_ ⟨rfl, rfl, rfl, trivial⟩))
  refine WC.block ?_
  refine WC.loop (ι := Nat) (fun (i : Nat) => [(13, v), (14, I ls.length), (15, I i)]) (fun (i : Nat) => [A]) (fun (i : Nat) => i ≤ ls.length ∧ evalid s sub = (ls.drop i).all elab1) (fun (i : Nat) => ls.length - i) (0) ?_ ⟨rfl, rfl, rfl, trivial⟩ (List.Perm.refl _) ?_
  ·try dsimp only
   exact ⟨by omega, by rw [evalid, ← hls]; rfl⟩
  ·rintro i hp
   try dsimp only at hp
   obtain ⟨hi, hf⟩ := hp
   show WC _ _ _ _ _ _ ([(13, v), (14, I ls.length), (15, I i)]) ([A])
   refine WC.seq (WC.region ?_)
   refine WL.q (oq_lss rfl rfl) rfl rfl rfl ?_
   refine WL.nil (WE.then_normal (WC.sub (fr' := [(13, _), (14, _), (15, _), (16, _)]) ?_ ⟨rfl, rfl, rfl, rfl, trivial⟩))
   refine WC.seq ?_
   refine WC.cond rfl (fun q6 => ?_) (fun q6 => ?_)
   ·
    try simp only [Z1, Z2, Z3, Z4, Z5, Z6, Z7, Z8, Z9, Z0] at q6
    refine WC.skip (WE.then_normal (WC.sub (fr' := [(13, _), (14, _), (15, _)]) ?_ ⟨rfl, rfl, rfl, trivial⟩))
    refine WC.seq (WC.block (WC.seq (WC.region ?_)))
    refine WL.q (oq_ixaddr ho.rd Tryd.underlying28 ty9 rfl rfl (by (first | omega | (simp only [List.length_cons, List.length_nil, List.length_append, List.length_drop, List.length_take]; omega)))) rfl rfl rfl ?_
    refine WL.q (oq_load_str ho.rd (.head _) flat9 rfl (by (first | omega | (simp only [List.length_cons, List.length_nil, List.length_append, List.length_drop, List.length_take]; omega))) (by first | exact Int.toNat_natCast _ | exact rfl)) rfl rfl rfl ?_
    refine WL.q (oq_assign rfl) rfl rfl rfl ?_
    refine WL.nil (WE.then_normal (WC.sub (fr' := [(7, _), (13, _), (14, _), (15, _)]) ?_ ⟨rfl, rfl, rfl, rfl, trivial⟩))
    refine WC.seq (WC.seq (WC.region ?_))
    refine WL.q (oq_move rfl) rfl rfl rfl ?_
    refine WL.qc (oq_call (hlabel _) call21 rfl) rfl rfl rfl ?_
    refine WL.q (oq_not rfl) rfl rfl rfl ?_
    refine WL.nil (WE.then_normal (WC.sub (fr' := [(7, _), (13, _), (14, _), (15, _), (21, _)]) ?_ ⟨rfl, rfl, rfl, rfl, rfl, trivial⟩))
    refine WC.cond rfl (fun q8 => ?_) (fun q8 => ?_)
    ·
     try simp only [Z1, Z2, Z3, Z4, Z5, Z6, Z7, Z8, Z9, Z0] at q8
     refine WC.seq (WC.region ?_)
     refine WL.q (oq_assign rfl) rfl rfl rfl ?_
     refine WL.nil (WE.then_normal (WC.sub (fr' := [(4, _)]) ?_ ⟨rfl, trivial⟩))
     refine WC.ret (WE.then_ret (WE.block_ret (WE.then_ret (WE.then_ret (WE.block_ret (WE.then_ret ?_))))))
     refine WE.forget ho.fresh ?_
     refine WE.end0 (.inl rfl) (res1 Tryd.results13 rfl) ?_
     rw [hf, all_get ls i [] (by omega)]
     have q8 : vlabel (ls.getD i []) = false := by simpa using q8
     have e9 : elab1 (ls.getD i []) = false := by unfold elab1; rw [q8]; rfl
     rw [e9]; rfl
    ·
     try simp only [Z1, Z2, Z3, Z4, Z5, Z6, Z7, Z8, Z9, Z0] at q8
     refine WC.skip (WE.then_normal (WC.sub (fr' := [(7, _), (13, _), (14, _), (15, _)]) ?_ ⟨rfl, rfl, rfl, rfl, trivial⟩))
     refine WC.seq ?_
     replace q8 : vlabel (ls.getD i []) = true := by simpa using q8
     have hpos := elab1_pos _ q8
     refine WC.region ?_
     refine WL.q (oq_move rfl) rfl rfl rfl ?_
     refine WL.index_s Tryd.underlying9 rfl rfl (by (first | omega | (simp only [List.length_cons, List.length_nil, List.length_append, List.length_drop, List.length_take]; omega))) rfl rfl fun c10_1 hc10_1 hc10_1l hc10_1u => ?_
     refine WL.q (oq_eql rfl rfl) rfl rfl rfl ?_
     refine WL.q (oq_move rfl) rfl rfl rfl ?_
     refine WL.split 25 rfl (fun s10_3 => ?_) (fun s10_3 => ?_)
     ·
      try simp only [Z1, Z2, Z3, Z4, Z5, Z6, Z7, Z8, Z9, Z0] at s10_3
      refine WL.skip rfl rfl rfl ?_
      refine WL.skip rfl rfl rfl ?_
      refine WL.skip rfl rfl rfl ?_
      refine WL.skip rfl rfl rfl ?_
      refine WL.skip rfl rfl rfl ?_
      refine WL.skip rfl rfl rfl ?_
      refine WL.q (oq_pick_t rfl rfl) rfl rfl rfl ?_
      refine WL.nil (WE.then_normal (WC.sub (fr' := [(13, _), (14, _), (15, _), (32, _)]) ?_ ⟨rfl, rfl, rfl, rfl, trivial⟩))
      refine WC.cond_t rfl ?_
      refine WC.seq (WC.region ?_)
      refine WL.q (oq_assign rfl) rfl rfl rfl ?_
      refine WL.nil (WE.then_normal (WC.sub (fr' := [(4, _)]) ?_ ⟨rfl, trivial⟩))
      refine WC.ret (WE.block_ret (WE.then_ret (WE.then_ret (WE.block_ret (WE.then_ret ?_)))))
      refine WE.forget ho.fresh ?_
      refine WE.end0 (.inl rfl) (res1 Tryd.results13 rfl) ?_
      rw [hf, all_get ls i [] (by omega)]
      have e9 : elab1 (ls.getD i []) = false := by unfold elab1; rw [decide_eq_false (by rw [← hc10_1]; intro h; exact h.1 s10_3), Bool.and_false]
      rw [e9]; rfl
     ·
      try simp only [Z1, Z2, Z3, Z4, Z5, Z6, Z7, Z8, Z9, Z0] at s10_3
      refine WL.q (oq_move rfl) rfl rfl rfl ?_
      refine WL.q (oq_move rfl) rfl rfl rfl ?_
      refine WL.q (oq_len_s Tryd.underlying9 rfl) rfl rfl rfl ?_
      refine WL.q (oq_sub rfl rfl (by rw [i64_lo, i64_hi]; (first | omega | (simp only [List.length_cons, List.length_nil, List.length_append, List.length_drop, List.length_take]; omega)))) rfl rfl rfl ?_
      refine WL.index_s Tryd.underlying9 rfl rfl (by (first | omega | (simp only [List.length_cons, List.length_nil, List.length_append, List.length_drop, List.length_take]; omega))) rfl rfl fun c10_8 hc10_8 hc10_8l hc10_8u => ?_
      refine WL.q (oq_eql rfl rfl) rfl rfl rfl ?_
      refine WL.q (oq_pick_f rfl rfl) rfl rfl rfl ?_
      refine WL.nil (WE.then_normal (WC.sub (fr' := [(13, _), (14, _), (15, _), (32, _)]) ?_ ⟨rfl, rfl, rfl, rfl, trivial⟩))
      refine WC.cond rfl (fun q10 => ?_) (fun q10 => ?_)
      ·
       try simp only [Z1, Z2, Z3, Z4, Z5, Z6, Z7, Z8, Z9, Z0] at q10
       refine WC.seq (WC.region ?_)
       refine WL.q (oq_assign rfl) rfl rfl rfl ?_
       refine WL.nil (WE.then_normal (WC.sub (fr' := [(4, _)]) ?_ ⟨rfl, trivial⟩))
       refine WC.ret (WE.block_ret (WE.then_ret (WE.then_ret (WE.block_ret (WE.then_ret ?_)))))
       refine WE.forget ho.fresh ?_
       refine WE.end0 (.inl rfl) (res1 Tryd.results13 rfl) ?_
       rw [hf, all_get ls i [] (by omega)]
       have e9 : elab1 (ls.getD i []) = false := by unfold elab1; rw [decide_eq_false (by rw [← hc10_8]; intro h; exact h.2 q10), Bool.and_false]
       rw [e9]; rfl
      ·
       try simp only [Z1, Z2, Z3, Z4, Z5, Z6, Z7, Z8, Z9, Z0] at q10
       refine WC.skip (WE.block_normal (WE.then_normal (WC.sub (fr' := [(13, _), (14, _), (15, _)]) ?_ ⟨rfl, rfl, rfl, trivial⟩)))
       refine WC.region ?_
       refine WL.q (oq_add rfl rfl (by rw [i64_lo, i64_hi]; (first | omega | (simp only [List.length_cons, List.length_nil, List.length_append, List.length_drop, List.length_take]; omega)))) rfl rfl rfl ?_
       refine WL.q (oq_move rfl) rfl rfl rfl ?_
       refine WL.nil ?_
       have e8 : elab1 (ls.getD i []) = true := by
        unfold elab1; rw [q8, Bool.true_and]; apply decide_eq_true; rw [← hc10_1, ← hc10_8]; exact ⟨s10_3, q10⟩
       refine WE.again (i + 1) ?_ ?_ ⟨rfl, rfl, rfl, trivial⟩ (List.Perm.refl _)
       ·try dsimp only
        refine ⟨by omega, ?_⟩
        rw [hf, all_get ls i [] (by omega), e8, Bool.true_and]
       ·(try dsimp only); omega
   ·
    try simp only [Z1, Z2, Z3, Z4, Z5, Z6, Z7, Z8, Z9, Z0] at q6
    refine WC.exit (WE.then_exit (WE.then_exit (WE.block_same (WE.then_normal (WC.sub (fr' := []) ?_ trivial)))))
    refine WC.seq (WC.region ?_)
    refine WL.q (oq_assign rfl) rfl rfl rfl ?_
    refine WL.nil (WE.then_normal (WC.sub (fr' := [(4, _)]) ?_ ⟨rfl, trivial⟩))
    refine WC.ret ?_
    refine WE.forget ho.fresh ?_
    refine WE.end0 (.inl rfl) (res1 Tryd.results13 rfl) ?_
    rw [hf, List.drop_eq_nil_of_le (by omega)]; rfl
theorem eLabel (s : List UInt8) (sub : Bool) (hs : s.length ≤ 4000000000) : Fn0 Tryd.prog 11 [S s, .bool sub] (.bool (evalid s sub)) := by
 refine Fn0.enter (n := 8) Tryd.func11 rfl rfl fun w0 => ?_
 refine WC.sub (fr' := [(0, _), (1, _)]) ?_ ⟨rfl, rfl, trivial⟩
 refine WC.seq (WC.region ?_)
 refine WL.q (oq_assign rfl) rfl rfl rfl ?_
 refine WL.nil (WE.then_normal (WC.sub (fr' := [(0, _), (1, _)]) ?_ ⟨rfl, rfl, trivial⟩))
 refine WC.seq (WC.region ?_)
 refine WL.q (oq_move rfl) rfl rfl rfl ?_
 refine WL.q (oq_move rfl) rfl rfl rfl ?_
 refine WL.qc (oq_call (isValid _ _ (by omega)) call13 rfl) rfl rfl rfl ?_
 refine WL.q (oq_assign rfl) rfl rfl rfl ?_
 refine WL.nil (WE.then_normal (WC.sub (fr' := [(4, _)]) ?_ ⟨rfl, trivial⟩))
 refine WC.ret ?_
 refine WE.end0 (.inl rfl) (res1 Tryd.results11 rfl) ?_
 rfl
theorem eAwake  : Fn0 Tryd.prog 6 [] (.bool true) := by
 refine Fn0.enter (n := 2) Tryd.func6 rfl rfl fun w0 => ?_
 refine WC.sub (fr' := []) ?_ trivial
 refine WC.seq (WC.region ?_)
 refine WL.q (oq_assign rfl) rfl rfl rfl ?_
 refine WL.nil (WE.then_normal (WC.sub (fr' := []) ?_ trivial))
 refine WC.seq (WC.region ?_)
 refine WL.qc (oq_call (eLabel [97] false (by decide)) call11 rfl) rfl rfl rfl ?_
 refine WL.q (oq_assign rfl) rfl rfl rfl ?_
 refine WL.nil (WE.then_normal (WC.sub (fr' := [(0, _)]) ?_ ⟨rfl, trivial⟩))
 refine WC.ret ?_
 refine WE.end0 (.inl rfl) (res1 Tryd.results6 rfl) ?_
 rfl
theorem eCut (s by_ : List UInt8) (lim : Int) (hs : s.length ≤ 4000000000) (hb : by_.length ≤ 4000000000) (hne : by_ ≠ []) (hlim : -9223372036854775808 ≤ lim ∧ lim ≤ 9223372036854775807) : FnA Tryd.prog 8 [S s, S by_, I lim] [] (fun v N => OwS 0 9 1 v N (ecutR by_ lim 0 s).length (strsV (ecutR by_ lim 0 s))) := by
 have hbp : 0 < by_.length := List.length_pos_iff.2 hne
 refine FnA.enter0 (n := 56) Tryd.func8 rfl rfl fun w0 => ?_
 refine WC.sub (fr' := [(0, _), (1, _), (2, _)]) ?_ ⟨rfl, rfl, rfl, trivial⟩
 refine WC.seq (WC.region ?_)
 refine WL.q (oq_assign rfl) rfl rfl rfl ?_
 refine WL.nil (WE.then_normal (WC.sub (fr' := [(0, _), (1, _), (2, _)]) ?_ ⟨rfl, rfl, rfl, trivial⟩))
 refine WC.seq (WC.region ?_)
 refine WL.q (oq_assign rfl) rfl rfl rfl ?_
 refine WL.nil (WE.then_normal (WC.sub (fr' := [(0, _), (1, _), (2, _), (7, _)]) ?_ ⟨rfl, rfl, rfl, rfl, trivial⟩))
 refine WC.seq ?_
 refine WC.add0 ?_
 refine WC.region ?_
 refine WL.q (oq_assign rfl) rfl rfl rfl ?_
 refine WL.nil (WE.then_normal (WC.sub (fr' := [(0, _), (1, _), (2, _), (7, _), (8, _)]) ?_ ⟨rfl, rfl, rfl, rfl, rfl, trivial⟩))
 refine WC.seq (WC.seq (WC.region ?_))
 refine WL.q (oq_assign rfl) rfl rfl rfl ?_
 refine WL.nil (WE.then_normal (WC.sub (fr' := [(0, _), (1, _), (2, _), (7, _), (8, _), (9, _)]) ?_ ⟨rfl, rfl, rfl, rfl, rfl, rfl, trivial⟩))
 refine WC.block ?_
 refine WC.loop (ι := Nat × Nat × Value × Hp × (List (List UInt8))) (fun i_ => (fun (i : Nat) (from_ : Nat) (v : Value) (A : Hp) (acc : List (List UInt8)) => [(0, S s), (1, S by_), (2, I lim), (7, v), (8, I from_), (9, I i)]) i_.1 i_.2.1 i_.2.2.1 i_.2.2.2.1 i_.2.2.2.2) (fun i_ => (fun (i : Nat) (from_ : Nat) (v : Value) (A : Hp) (acc : List (List UInt8)) => [A]) i_.1 i_.2.1 i_.2.2.1 i_.2.2.2.1 i_.2.2.2.2) (fun i_ => (fun (i : Nat) (from_ : Nat) (v : Value) (A : Hp) (acc : List (List UInt8)) => from_ ≤ i ∧ i ≤ s.length ∧ acc.length ≤ from_ ∧ (0 < lim → (acc.length : Int) ≤ lim - 1) ∧ OwS w0.heap.size 9 1 v A acc.length (strsV acc) ∧ find by_ (s.drop from_) = (find by_ (s.drop i)).map (· + (i - from_)) ∧ acc ++ ecutR by_ lim acc.length (s.drop from_) = ecutR by_ lim 0 s) i_.1 i_.2.1 i_.2.2.1 i_.2.2.2.1 i_.2.2.2.2) (fun i_ => (fun (i : Nat) (from_ : Nat) (v : Value) (A : Hp) (acc : List (List UInt8)) => s.length - i) i_.1 i_.2.1 i_.2.2.1 i_.2.2.2.1 i_.2.2.2.2) ((0, 0, _, _, [])) ?_ ⟨rfl, rfl, rfl, rfl, rfl, rfl, trivial⟩ (List.Perm.refl _) ?_
 ·try dsimp only
  exact ⟨by omega, by omega, by simp, fun h => by simp; omega, OwS.nil _ _ _, by simp, rfl⟩
 ·rintro ⟨i, from_, v, A, acc⟩ hp
  try dsimp only at hp
  obtain ⟨hfi, hi, hc, hlm, ho, hf, ht⟩ := hp
  show WC _ _ _ _ _ _ ([(0, S s), (1, S by_), (2, I lim), (7, v), (8, I from_), (9, I i)]) ([A])
  refine WC.seq (WC.seq (WC.region ?_))
  refine WL.q (oq_move rfl) rfl rfl rfl ?_
  refine WL.q (oq_move rfl) rfl rfl rfl ?_
  refine WL.q (oq_len_s Tryd.underlying9 rfl) rfl rfl rfl ?_
  refine WL.q (oq_add rfl rfl (by rw [i64_lo, i64_hi]; (first | omega | (simp only [List.length_cons, List.length_nil, List.length_append, List.length_drop, List.length_take]; omega)))) rfl rfl rfl ?_
  refine WL.q (oq_move rfl) rfl rfl rfl ?_
  refine WL.q (oq_len_s Tryd.underlying9 rfl) rfl rfl rfl ?_
  refine WL.q (oq_leq rfl rfl) rfl rfl rfl ?_
  refine WL.nil (WE.then_normal (WC.sub (fr' := [(0, _), (1, _), (2, _), (7, _), (8, _), (9, _), (16, _)]) ?_ ⟨rfl, rfl, rfl, rfl, rfl, rfl, rfl, trivial⟩))
  refine WC.cond rfl (fun q4 => ?_) (fun q4 => ?_)
  ·
   try simp only [Z1, Z2, Z3, Z4, Z5, Z6, Z7, Z8, Z9, Z0] at q4
   refine WC.skip (WE.then_normal (WC.sub (fr' := [(0, _), (1, _), (2, _), (7, _), (8, _), (9, _)]) ?_ ⟨rfl, rfl, rfl, rfl, rfl, rfl, trivial⟩))
   refine WC.seq (WC.block (WC.seq (WC.seq (WC.region ?_))))
   refine WL.q (oq_move rfl) rfl rfl rfl ?_
   refine WL.q (oq_gtr rfl rfl) rfl rfl rfl ?_
   refine WL.q (oq_move rfl) rfl rfl rfl ?_
   refine WL.split 21 rfl (fun s6_2 => ?_) (fun s6_2 => ?_)
   ·
    try simp only [Z1, Z2, Z3, Z4, Z5, Z6, Z7, Z8, Z9, Z0] at s6_2
    refine WL.q (oq_move rfl) rfl rfl rfl ?_
    refine WL.q (oq_len_rd ho.rd Tryd.underlying28 rfl) rfl rfl rfl ?_
    refine WL.q (oq_move rfl) rfl rfl rfl ?_
    refine WL.q (oq_sub rfl rfl (by rw [i64_lo, i64_hi]; (first | omega | (simp only [List.length_cons, List.length_nil, List.length_append, List.length_drop, List.length_take]; omega)))) rfl rfl rfl ?_
    refine WL.q (oq_eql rfl rfl) rfl rfl rfl ?_
    refine WL.q (oq_pick_t rfl rfl) rfl rfl rfl ?_
    refine WL.nil (WE.then_normal (WC.sub (fr' := [(0, _), (1, _), (2, _), (7, _), (8, _), (9, _), (27, _)]) ?_ ⟨rfl, rfl, rfl, rfl, rfl, rfl, rfl, trivial⟩))
    refine WC.cond rfl (fun q6 => ?_) (fun q6 => ?_)
    ·
     try simp only [Z1, Z2, Z3, Z4, Z5, Z6, Z7, Z8, Z9, Z0] at q6
     refine WC.exit (WE.then_exit ?_)
     refine WE.block_other rfl ?_
     refine WE.then_exit (WE.then_exit (WE.block_same (WE.then_normal (WC.sub (fr' := [(0, _), (7, _), (8, _)]) ?_ ⟨rfl, rfl, rfl, trivial⟩))))
     refine WC.seq (WC.region ?_)
     refine WL.q (oq_move rfl) rfl rfl rfl ?_
     refine WL.q (oq_move rfl) rfl rfl rfl ?_
     refine WL.q (oq_move rfl) rfl rfl rfl ?_
     refine WL.q (oq_slice_s1 Tryd.underlying9 rfl rfl (by (first | omega | (simp only [List.length_cons, List.length_nil, List.length_append, List.length_drop, List.length_take]; omega)))) rfl rfl rfl ?_
     refine WL.append1 ho Tryd.underlying28 ty9 rfl (by decide) (fun _ => rfl) rfl rfl (by unfold maxLen; omega) (by omega) rfl rfl (fun _ => rfl) rfl fun v11 A11 u11 ho11 hne11 => ?_
     refine WL.q (oq_assign rfl) rfl rfl rfl ?_
     refine WL.nil (WE.then_normal (WC.sub (fr' := [(6, _)]) ?_ ⟨rfl, trivial⟩))
     refine WC.ret ?_
     refine WE.endA0 (.inl rfl) (res1 Tryd.results8 rfl) ?_ (ho11.fresh)
     have h1 := hlm s6_2
     exact own_eq ho11 (by rw [← ht, ecutR_full by_ lim acc.length _ s6_2 (by omega)]; simp [strsV])
    ·
     try simp only [Z1, Z2, Z3, Z4, Z5, Z6, Z7, Z8, Z9, Z0] at q6
     refine WC.skip (WE.then_normal (WC.sub (fr' := [(0, _), (1, _), (2, _), (7, _), (8, _), (9, _)]) ?_ ⟨rfl, rfl, rfl, rfl, rfl, rfl, trivial⟩))
     refine WC.seq (WC.region ?_)
     refine WL.q (oq_move rfl) rfl rfl rfl ?_
     refine WL.q (oq_move rfl) rfl rfl rfl ?_
     refine WL.q (oq_move rfl) rfl rfl rfl ?_
     refine WL.q (oq_move rfl) rfl rfl rfl ?_
     refine WL.q (oq_len_s Tryd.underlying9 rfl) rfl rfl rfl ?_
     refine WL.q (oq_add rfl rfl (by rw [i64_lo, i64_hi]; (first | omega | (simp only [List.length_cons, List.length_nil, List.length_append, List.length_drop, List.length_take]; omega)))) rfl rfl rfl ?_
     refine WL.q (oq_slice_s2 Tryd.underlying9 rfl rfl rfl (by (first | omega | (simp only [List.length_cons, List.length_nil, List.length_append, List.length_drop, List.length_take]; omega)))) rfl rfl rfl ?_
     refine WL.q (oq_move rfl) rfl rfl rfl ?_
     refine WL.q (oq_seql rfl rfl) rfl rfl rfl ?_
     refine WL.nil (WE.then_normal (WC.sub (fr' := [(0, _), (1, _), (2, _), (7, _), (8, _), (9, _), (36, _)]) ?_ ⟨rfl, rfl, rfl, rfl, rfl, rfl, rfl, trivial⟩))
     refine WC.cond rfl (fun q7 => ?_) (fun q7 => ?_)
     ·
      try simp only [Z1, Z2, Z3, Z4, Z5, Z6, Z7, Z8, Z9, Z0] at q7
      refine WC.seq (WC.region ?_)
      refine WL.q (oq_move rfl) rfl rfl rfl ?_
      refine WL.q (oq_move rfl) rfl rfl rfl ?_
      refine WL.q (oq_move rfl) rfl rfl rfl ?_
      refine WL.q (oq_move rfl) rfl rfl rfl ?_
      refine WL.q (oq_slice_s2 Tryd.underlying9 rfl rfl rfl (by (first | omega | (simp only [List.length_cons, List.length_nil, List.length_append, List.length_drop, List.length_take]; omega)))) rfl rfl rfl ?_
      refine WL.append1 ho Tryd.underlying28 ty9 rfl (by decide) (fun _ => rfl) rfl rfl (by unfold maxLen; omega) (by omega) rfl rfl (fun _ => rfl) rfl fun v8 A8 u8 ho8 hne8 => ?_
      refine WL.q (oq_assign rfl) rfl rfl rfl ?_
      refine WL.nil (WE.then_normal (WC.sub (fr' := [(0, _), (1, _), (2, _), (7, _), (9, _)]) ?_ ⟨rfl, rfl, rfl, rfl, rfl, trivial⟩))
      refine WC.seq (WC.region ?_)
      refine WL.q (oq_move rfl) rfl rfl rfl ?_
      refine WL.q (oq_move rfl) rfl rfl rfl ?_
      refine WL.q (oq_len_s Tryd.underlying9 rfl) rfl rfl rfl ?_
      refine WL.q (oq_add rfl rfl (by rw [i64_lo, i64_hi]; (first | omega | (simp only [List.length_cons, List.length_nil, List.length_append, List.length_drop, List.length_take]; omega)))) rfl rfl rfl ?_
      refine WL.q (oq_assign rfl) rfl rfl rfl ?_
      refine WL.nil (WE.then_normal (WC.sub (fr' := [(0, _), (1, _), (2, _), (7, _), (8, _)]) ?_ ⟨rfl, rfl, rfl, rfl, rfl, trivial⟩))
      refine WC.region ?_
      refine WL.q (oq_move rfl) rfl rfl rfl ?_
      refine WL.q (oq_sub rfl rfl (by rw [i64_lo, i64_hi]; (first | omega | (simp only [List.length_cons, List.length_nil, List.length_append, List.length_drop, List.length_take]; omega)))) rfl rfl rfl ?_
      refine WL.q (oq_assign rfl) rfl rfl rfl ?_
      refine WL.nil (WE.block_normal (WE.then_normal (WC.sub (fr' := [(0, _), (1, _), (2, _), (7, _), (8, _), (9, _)]) ?_ ⟨rfl, rfl, rfl, rfl, rfl, rfl, trivial⟩)))
      refine WC.region ?_
      refine WL.q (oq_move rfl) rfl rfl rfl ?_
      refine WL.q (oq_add rfl rfl (by rw [i64_lo, i64_hi]; (first | omega | (simp only [List.length_cons, List.length_nil, List.length_append, List.length_drop, List.length_take]; omega)))) rfl rfl rfl ?_
      refine WL.q (oq_assign rfl) rfl rfl rfl ?_
      refine WL.nil ?_
      refine WE.again (i + by_.length, i + by_.length, _, _, acc ++ [cut s from_ i]) ?_ ?_ ⟨rfl, rfl, rfl, rfl, (gti rfl (by first | rfl | omega | (dsimp only; omega))), (gti rfl (by first | rfl | omega | (dsimp only; omega))), trivial⟩ (List.Perm.refl _)
      ·try dsimp only
       have h0 := find_here by_ (s.drop i) (by rw [← cut_nat]; exact q7)
       have h1 : find by_ (s.drop from_) = some (i - from_) := by rw [hf, h0]; simp
       have hq : acc.length ≤ from_ := hc
       refine ⟨by omega, by omega, by simp; omega, fun h => by simp; have := hlm h; omega, own_snoc ho8, by simp, ?_⟩
       rw [← ht, ecutR_step by_ hne lim acc.length _ _ h1 (fun h => by omega), List.append_assoc, List.drop_drop, cut_sub s from_ i hfi]
       rw [show from_ + (i - from_ + by_.length) = i + by_.length from by omega]
       simp
      ·(try dsimp only); omega
     ·
      try simp only [Z1, Z2, Z3, Z4, Z5, Z6, Z7, Z8, Z9, Z0] at q7
      refine WC.skip (WE.block_normal (WE.then_normal (WC.sub (fr' := [(0, _), (1, _), (2, _), (7, _), (8, _), (9, _)]) ?_ ⟨rfl, rfl, rfl, rfl, rfl, rfl, trivial⟩)))
      refine WC.region ?_
      refine WL.q (oq_move rfl) rfl rfl rfl ?_
      refine WL.q (oq_add rfl rfl (by rw [i64_lo, i64_hi]; (first | omega | (simp only [List.length_cons, List.length_nil, List.length_append, List.length_drop, List.length_take]; omega)))) rfl rfl rfl ?_
      refine WL.q (oq_assign rfl) rfl rfl rfl ?_
      refine WL.nil ?_
      refine WE.again (i + 1, from_, _, _, acc) ?_ ?_ ⟨rfl, rfl, rfl, rfl, (gti rfl (by first | rfl | omega | (dsimp only; omega))), (gti rfl (by first | rfl | omega | (dsimp only; omega))), trivial⟩ (List.Perm.refl _)
      ·try dsimp only
       have hlt : i < s.length := by omega
       refine ⟨by omega, by omega, hc, hlm, ho, ?_, ht⟩
       rw [hf, find_step by_ s i hlt, if_neg (by rw [← cut_nat]; exact q7), Option.map_map]
       congr 1; funext x; simp; omega
      ·(try dsimp only); omega
   ·
    try simp only [Z1, Z2, Z3, Z4, Z5, Z6, Z7, Z8, Z9, Z0] at s6_2
    refine WL.skip rfl rfl rfl ?_
    refine WL.skip rfl rfl rfl ?_
    refine WL.skip rfl rfl rfl ?_
    refine WL.skip rfl rfl rfl ?_
    refine WL.skip rfl rfl rfl ?_
    refine WL.q (oq_pick_f rfl rfl) rfl rfl rfl ?_
    refine WL.nil (WE.then_normal (WC.sub (fr' := [(0, _), (1, _), (2, _), (7, _), (8, _), (9, _), (27, _)]) ?_ ⟨rfl, rfl, rfl, rfl, rfl, rfl, rfl, trivial⟩))
    refine WC.cond_f rfl ?_
    refine WC.skip (WE.then_normal (WC.sub (fr' := [(0, _), (1, _), (2, _), (7, _), (8, _), (9, _)]) ?_ ⟨rfl, rfl, rfl, rfl, rfl, rfl, trivial⟩))
    refine WC.seq (WC.region ?_)
    refine WL.q (oq_move rfl) rfl rfl rfl ?_
    refine WL.q (oq_move rfl) rfl rfl rfl ?_
    refine WL.q (oq_move rfl) rfl rfl rfl ?_
    refine WL.q (oq_move rfl) rfl rfl rfl ?_
    refine WL.q (oq_len_s Tryd.underlying9 rfl) rfl rfl rfl ?_
    refine WL.q (oq_add rfl rfl (by rw [i64_lo, i64_hi]; (first | omega | (simp only [List.length_cons, List.length_nil, List.length_append, List.length_drop, List.length_take]; omega)))) rfl rfl rfl ?_
    refine WL.q (oq_slice_s2 Tryd.underlying9 rfl rfl rfl (by (first | omega | (simp only [List.length_cons, List.length_nil, List.length_append, List.length_drop, List.length_take]; omega)))) rfl rfl rfl ?_
    refine WL.q (oq_move rfl) rfl rfl rfl ?_
    refine WL.q (oq_seql rfl rfl) rfl rfl rfl ?_
    refine WL.nil (WE.then_normal (WC.sub (fr' := [(0, _), (1, _), (2, _), (7, _), (8, _), (9, _), (36, _)]) ?_ ⟨rfl, rfl, rfl, rfl, rfl, rfl, rfl, trivial⟩))
    refine WC.cond rfl (fun q7 => ?_) (fun q7 => ?_)
    ·
     try simp only [Z1, Z2, Z3, Z4, Z5, Z6, Z7, Z8, Z9, Z0] at q7
     refine WC.seq (WC.region ?_)
     refine WL.q (oq_move rfl) rfl rfl rfl ?_
     refine WL.q (oq_move rfl) rfl rfl rfl ?_
     refine WL.q (oq_move rfl) rfl rfl rfl ?_
     refine WL.q (oq_move rfl) rfl rfl rfl ?_
     refine WL.q (oq_slice_s2 Tryd.underlying9 rfl rfl rfl (by (first | omega | (simp only [List.length_cons, List.length_nil, List.length_append, List.length_drop, List.length_take]; omega)))) rfl rfl rfl ?_
     refine WL.append1 ho Tryd.underlying28 ty9 rfl (by decide) (fun _ => rfl) rfl rfl (by unfold maxLen; omega) (by omega) rfl rfl (fun _ => rfl) rfl fun v8 A8 u8 ho8 hne8 => ?_
     refine WL.q (oq_assign rfl) rfl rfl rfl ?_
     refine WL.nil (WE.then_normal (WC.sub (fr' := [(0, _), (1, _), (2, _), (7, _), (9, _)]) ?_ ⟨rfl, rfl, rfl, rfl, rfl, trivial⟩))
     refine WC.seq (WC.region ?_)
     refine WL.q (oq_move rfl) rfl rfl rfl ?_
     refine WL.q (oq_move rfl) rfl rfl rfl ?_
     refine WL.q (oq_len_s Tryd.underlying9 rfl) rfl rfl rfl ?_
     refine WL.q (oq_add rfl rfl (by rw [i64_lo, i64_hi]; (first | omega | (simp only [List.length_cons, List.length_nil, List.length_append, List.length_drop, List.length_take]; omega)))) rfl rfl rfl ?_
     refine WL.q (oq_assign rfl) rfl rfl rfl ?_
     refine WL.nil (WE.then_normal (WC.sub (fr' := [(0, _), (1, _), (2, _), (7, _), (8, _)]) ?_ ⟨rfl, rfl, rfl, rfl, rfl, trivial⟩))
     refine WC.region ?_
     refine WL.q (oq_move rfl) rfl rfl rfl ?_
     refine WL.q (oq_sub rfl rfl (by rw [i64_lo, i64_hi]; (first | omega | (simp only [List.length_cons, List.length_nil, List.length_append, List.length_drop, List.length_take]; omega)))) rfl rfl rfl ?_
     refine WL.q (oq_assign rfl) rfl rfl rfl ?_
     refine WL.nil (WE.block_normal (WE.then_normal (WC.sub (fr' := [(0, _), (1, _), (2, _), (7, _), (8, _), (9, _)]) ?_ ⟨rfl, rfl, rfl, rfl, rfl, rfl, trivial⟩)))
     refine WC.region ?_
     refine WL.q (oq_move rfl) rfl rfl rfl ?_
     refine WL.q (oq_add rfl rfl (by rw [i64_lo, i64_hi]; (first | omega | (simp only [List.length_cons, List.length_nil, List.length_append, List.length_drop, List.length_take]; omega)))) rfl rfl rfl ?_
     refine WL.q (oq_assign rfl) rfl rfl rfl ?_
     refine WL.nil ?_
     refine WE.again (i + by_.length, i + by_.length, _, _, acc ++ [cut s from_ i]) ?_ ?_ ⟨rfl, rfl, rfl, rfl, (gti rfl (by first | rfl | omega | (dsimp only; omega))), (gti rfl (by first | rfl | omega | (dsimp only; omega))), trivial⟩ (List.Perm.refl _)
     ·try dsimp only
      have h0 := find_here by_ (s.drop i) (by rw [← cut_nat]; exact q7)
      have h1 : find by_ (s.drop from_) = some (i - from_) := by rw [hf, h0]; simp
      have hq : acc.length ≤ from_ := hc
      refine ⟨by omega, by omega, by simp; omega, fun h => by simp; have := hlm h; omega, own_snoc ho8, by simp, ?_⟩
      rw [← ht, ecutR_step by_ hne lim acc.length _ _ h1 (fun h => by omega), List.append_assoc, List.drop_drop, cut_sub s from_ i hfi]
      rw [show from_ + (i - from_ + by_.length) = i + by_.length from by omega]
      simp
     ·(try dsimp only); omega
    ·
     try simp only [Z1, Z2, Z3, Z4, Z5, Z6, Z7, Z8, Z9, Z0] at q7
     refine WC.skip (WE.block_normal (WE.then_normal (WC.sub (fr' := [(0, _), (1, _), (2, _), (7, _), (8, _), (9, _)]) ?_ ⟨rfl, rfl, rfl, rfl, rfl, rfl, trivial⟩)))
     refine WC.region ?_
     refine WL.q (oq_move rfl) rfl rfl rfl ?_
     refine WL.q (oq_add rfl rfl (by rw [i64_lo, i64_hi]; (first | omega | (simp only [List.length_cons, List.length_nil, List.length_append, List.length_drop, List.length_take]; omega)))) rfl rfl rfl ?_
     refine WL.q (oq_assign rfl) rfl rfl rfl ?_
     refine WL.nil ?_
     refine WE.again (i + 1, from_, _, _, acc) ?_ ?_ ⟨rfl, rfl, rfl, rfl, (gti rfl (by first | rfl | omega | (dsimp only; omega))), (gti rfl (by first | rfl | omega | (dsimp only; omega))), trivial⟩ (List.Perm.refl _)
     ·try dsimp only
      have hlt : i < s.length := by omega
      refine ⟨by omega, by omega, hc, hlm, ho, ?_, ht⟩
      rw [hf, find_step by_ s i hlt, if_neg (by rw [← cut_nat]; exact q7), Option.map_map]
      congr 1; funext x; simp; omega
     ·(try dsimp only); omega
  ·
   try simp only [Z1, Z2, Z3, Z4, Z5, Z6, Z7, Z8, Z9, Z0] at q4
   refine WC.exit (WE.then_exit (WE.then_exit (WE.block_same (WE.then_normal (WC.sub (fr' := [(0, _), (7, _), (8, _)]) ?_ ⟨rfl, rfl, rfl, trivial⟩)))))
   refine WC.seq (WC.region ?_)
   refine WL.q (oq_move rfl) rfl rfl rfl ?_
   refine WL.q (oq_move rfl) rfl rfl rfl ?_
   refine WL.q (oq_move rfl) rfl rfl rfl ?_
   refine WL.q (oq_slice_s1 Tryd.underlying9 rfl rfl (by (first | omega | (simp only [List.length_cons, List.length_nil, List.length_append, List.length_drop, List.length_take]; omega)))) rfl rfl rfl ?_
   refine WL.append1 ho Tryd.underlying28 ty9 rfl (by decide) (fun _ => rfl) rfl rfl (by unfold maxLen; omega) (by omega) rfl rfl (fun _ => rfl) rfl fun v11 A11 u11 ho11 hne11 => ?_
   refine WL.q (oq_assign rfl) rfl rfl rfl ?_
   refine WL.nil (WE.then_normal (WC.sub (fr' := [(6, _)]) ?_ ⟨rfl, trivial⟩))
   refine WC.ret ?_
   refine WE.endA0 (.inl rfl) (res1 Tryd.results8 rfl) ?_ (ho11.fresh)
   exact own_eq ho11 (by rw [← ht, ecutR_none by_ lim acc.length _ (by rw [hf, find_short by_ _ (by simp; omega)]; rfl)]; simp [strsV])
end L2
end Go.Proofs.YtefaegocllppkaaDoor
/- Texts: searching, prefixes, cutting. -/
namespace Go.Proofs.YtefaegocllppkaaDoor
open Go Go.RowKit V L0 L1 L2
set_option linter.unusedSimpArgs false
set_option linter.unusedVariables false
set_option maxRecDepth 10000
namespace M0
theorem call25 : Callable Tryd.prog 25 := ⟨_, Tryd.func25, rfl, by kernel_rfl⟩
theorem call26 : Callable Tryd.prog 26 := ⟨_, Tryd.func26, rfl, by kernel_rfl⟩
theorem call32 : Callable Tryd.prog 32 := ⟨_, Tryd.func32, rfl, by kernel_rfl⟩
theorem call48 : Callable Tryd.prog 48 := ⟨_, Tryd.func48, rfl, by kernel_rfl⟩
theorem find_mem {c : UInt8} : ∀ {l : List UInt8}, find [c] l = none ↔ c ∉ l
 | [] => by simp [find]
 | b :: l => by
  unfold find
  by_cases h : b = c
  ·subst h; simp
  ·have h1 : ¬ (b :: l).take ([c] : List UInt8).length = [c] := fun e => h (by simpa using e)
   rw [if_neg h1]
   have := find_mem (c := c) (l := l)
   cases hf : find [c] l with
   | none => rw [hf] at this; have h2 := this.1 rfl; simp [h2, Ne.symm h]
   | some i => rw [hf] at this; simp only [reduceCtorEq, false_iff, Classical.not_not] at this; simp [this]
def lidx (c : UInt8) (s : List UInt8) : Nat → Int
 | 0 => -1
 | k + 1 => if s.getD k 0 = c then (k : Int) else lidx c s k
theorem getD_mem {s : List UInt8} {i : Nat} {c : UInt8} (h : i < s.length) (he : s.getD i 0 = c) : c ∈ s := by
 rw [List.getD_eq_getElem?_getD, List.getElem?_eq_getElem h] at he
 rw [← he]; exact List.getElem_mem h
theorem split_no {c : UInt8} {s : List UInt8} (h : c ∉ s) : split [c] s = [s] := split_none _ _ (find_mem.2 h)
theorem split_has {c : UInt8} {s : List UInt8} (h : c ∈ s) : ∃ i, i < s.length ∧ c ∉ s.take i ∧ s.getD i 0 = c ∧ split [c] s = s.take i :: split [c] (s.drop (i + 1)) := by
 cases hf : find [c] s with
 | none => exact absurd h (find_mem.1 hf)
 | some i =>
  have hl := find_le [c] s i hf
  have key : ∀ (s : List UInt8) (i : Nat), find [c] s = some i → c ∉ s.take i ∧ s.getD i 0 = c := by
   intro s
   induction s with
   | nil => intro i h; simp [find] at h
   | cons b s ih =>
    intro i h
    unfold find at h
    by_cases hb : b = c
    ·subst hb; simp at h; subst h; simp
    ·have h1 : ¬ (b :: s).take ([c] : List UInt8).length = [c] := fun e => hb (by simpa using e)
     rw [if_neg h1] at h
     cases hf : find [c] s with
     | none => rw [hf] at h; cases h
     | some j =>
      rw [hf] at h
      simp at h; subst h
      obtain ⟨h2, h3⟩ := ih j hf
      exact ⟨by simp [h2, Ne.symm hb], by simpa using h3⟩
  obtain ⟨h2, h3⟩ := key s i hf
  exact ⟨i, by simp at hl; omega, h2, h3, split_some [c] s (by simp) i hf⟩
theorem split_pos (c : UInt8) (s : List UInt8) : 1 ≤ (split [c] s).length := by
 by_cases h : c ∈ s
 ·obtain ⟨i, _, _, _, e⟩ := split_has h; rw [e]; simp
 ·rw [split_no h]; simp
theorem by_c {s : List UInt8} {i : Nat} {c : UInt8} {x : Int} (h : x = byteAt s (i : Int)) (he : x = (c.toNat : Int)) : s.getD i 0 = c := by
 rw [h, byteAt_nat] at he
 exact UInt8.toNat_inj.1 (by omega)
theorem by_n {s : List UInt8} {i : Nat} {c : UInt8} {x : Int} (h : x = byteAt s (i : Int)) (he : ¬ x = (c.toNat : Int)) : ¬ s.getD i 0 = c := fun e => he (by rw [h, byteAt_nat, e])
theorem findI_no {c : UInt8} {s : List UInt8} (h : c ∉ s) : findI [c] s = -1 := by unfold findI; rw [find_mem.2 h]
theorem find_app {c : UInt8} : ∀ {a b : List UInt8}, c ∉ a → find [c] (a ++ c :: b) = some a.length
 | [], b, _ => by unfold find; rw [List.nil_append]; simp
 | x :: a, b, h => by
  have hx : ¬ x = c := fun e => h (by rw [e]; exact .head _)
  have ha : c ∉ a := fun e => h (.tail _ e)
  rw [List.cons_append]
  unfold find
  rw [if_neg (by simpa using hx), find_app ha]; rfl
theorem findI_app {c : UInt8} {a b : List UInt8} (h : c ∉ a) : findI [c] (a ++ c :: b) = (a.length : Int) := by unfold findI; rw [find_app h]
theorem lidx_no {c : UInt8} {s : List UInt8} (h : c ∉ s) : ∀ (k : Nat), k ≤ s.length → lidx c s k = -1
 | 0, _ => rfl
 | k + 1, hk => by
  unfold lidx
  rw [if_neg (fun e => h (getD_mem (by omega) e)), lidx_no h k (by omega)]
theorem lidx_app {c : UInt8} {a b : List UInt8} (h : c ∉ b) : ∀ (k : Nat), k ≤ b.length → lidx c (a ++ c :: b) (a.length + 1 + k) = (a.length : Int)
 | 0, _ => by
  show lidx c _ (a.length + 1) = _
  unfold lidx
  rw [if_pos (by rw [List.getD_eq_getElem?_getD, List.getElem?_append_right (Nat.le_refl _)]; simp)]
 | k + 1, hk => by
  rw [show a.length + 1 + (k + 1) = (a.length + 1 + k) + 1 by omega]
  unfold lidx
  rw [if_neg, lidx_app h k (by omega)]
  intro e
  rw [List.getD_eq_getElem?_getD, List.getElem?_append_right (by omega), show a.length + 1 + k - a.length = k + 1 by omega, List.getElem?_cons_succ, ← List.getD_eq_getElem?_getD] at e
  exact h (getD_mem (by omega) e)
theorem lidx_all {c : UInt8} {a b : List UInt8} (h : c ∉ b) : lidx c (a ++ c :: b) (a ++ c :: b).length = (a.length : Int) := by
 have := lidx_app (a := a) h b.length (Nat.le_refl _)
 rwa [show a.length + 1 + b.length = (a ++ c :: b).length by simp; omega] at this
theorem has_snoc (b : Bool) (set : List UInt8) (j : Nat) (c : UInt8) (hj : j < set.length) (hb : b = (set.take j).contains c) : (b || decide (set.getD j 0 = c)) = (set.take (j + 1)).contains c := by
 rw [List.take_succ_eq_append_getElem hj, List.getD_eq_getElem?_getD, List.getElem?_eq_getElem hj, hb]
 rw [Bool.eq_iff_iff]
 simp only [Bool.or_eq_true, List.contains_iff_mem, decide_eq_true_eq, List.mem_append, List.mem_singleton, Option.getD_some]
 constructor
 ·rintro (h | h)
  ·exact .inl h
  ·exact .inr h.symm
 ·rintro (h | h)
  ·exact .inl h
  ·exact .inr h.symm
theorem cmp_c {s t : List UInt8} {i j : Nat} {x y : Int} (hx : x = byteAt s (i : Int)) (hy : y = byteAt t (j : Int)) : decide (x = y) = decide (s.getD i 0 = t.getD j 0) := by
 rw [hx, hy, byteAt_nat, byteAt_nat]
 apply decide_eq_decide.2
 constructor
 ·intro h; exact UInt8.toNat_inj.1 (by omega)
 ·intro h; rw [h]
def HSET : List UInt8 := [97, 98, 99, 100, 101, 102, 103, 104, 105, 106, 107, 108, 109, 110, 111, 112, 113, 114, 115, 116, 117, 118, 119, 120, 121, 122, 65, 66, 67, 68, 69, 70, 71, 72, 73, 74, 75, 76, 77, 78, 79, 80, 81, 82, 83, 84, 85, 86, 87, 88, 89, 90, 48, 49, 50, 51, 52, 53, 54, 55, 56, 57, 45, 46]
def DSET : List UInt8 := [48, 49, 50, 51, 52, 53, 54, 55, 56, 57]
def PSET : List UInt8 := [97, 98, 99, 100, 101, 102, 103, 104, 105, 106, 107, 108, 109, 110, 111, 112, 113, 114, 115, 116, 117, 118, 119, 120, 121, 122, 65, 66, 67, 68, 69, 70, 71, 72, 73, 74, 75, 76, 77, 78, 79, 80, 81, 82, 83, 84, 85, 86, 87, 88, 89, 90, 48, 49, 50, 51, 52, 53, 54, 55, 56, 57, 45, 46, 95, 126, 47, 33, 36, 38, 39, 40, 41, 42, 43, 44, 59, 61, 58, 64]
def allIn (set s : List UInt8) : Bool := s.all (fun c => set.contains c)
def cl (c : UInt8) (s : List UInt8) : List UInt8 := match find [c] s with | some i => s.take i | none => s
def cr (c : UInt8) (s : List UInt8) : List UInt8 := match find [c] s with | some i => s.drop (i + 1) | none => []
theorem cl_no {c : UInt8} {s : List UInt8} (h : c ∉ s) : cl c s = s ∧ cr c s = [] := by unfold cl cr; rw [find_mem.2 h]; exact ⟨rfl, rfl⟩
theorem cl_app {c : UInt8} {a b : List UInt8} (h : c ∉ a) : cl c (a ++ c :: b) = a ∧ cr c (a ++ c :: b) = b := by
 unfold cl cr; rw [find_app h]; simp
theorem cut_l {c : UInt8} {s : List UInt8} (h : 0 ≤ findI [c] s) : s.take (findI [c] s).toNat = cl c s ∧ s.drop (findI [c] s + (([c] : List UInt8).length : Int)).toNat = cr c s := by
 obtain ⟨h1, h2⟩ := findI_pos _ _ h
 unfold cl cr
 rw [h1]
 refine ⟨rfl, ?_⟩
 show s.drop (findI [c] s + 1).toNat = _
 rw [show (findI [c] s + 1).toNat = (findI [c] s).toNat + 1 by omega]
theorem cut_n {c : UInt8} {s : List UInt8} (h : findI [c] s < 0) : s = cl c s ∧ ([] : List UInt8) = cr c s := by
 unfold cl cr; rw [findI_neg _ _ h]; exact ⟨rfl, rfl⟩
theorem ctl_ok {s : List UInt8} {i : Nat} {x : Int} (hg : ∀ c ∈ s, 32 ≤ c.toNat ∧ c.toNat ≠ 127) (hi : i < s.length) (h : x = byteAt s (i : Int)) : 32 ≤ x ∧ x ≠ 127 := by
 rw [h, byteAt_get s i hi]; have := hg _ (List.getElem_mem hi); omega
theorem findI_le (c : UInt8) (s : List UInt8) : -1 ≤ findI [c] s ∧ findI [c] s < (s.length : Int) + 1 ∧ (0 ≤ findI [c] s → findI [c] s + 1 ≤ s.length) := by
 by_cases h : 0 ≤ findI [c] s
 ·have := findI_pos _ _ h; simp at this; omega
 ·unfold findI at h ⊢; cases hf : find [c] s <;> rw [hf] at h
  ·exact ⟨Int.le_refl _, by show (-1 : Int) < _; omega, fun h2 => absurd h2 (by show ¬ (0 : Int) ≤ -1; decide)⟩
  ·exact absurd (Int.natCast_nonneg _) h
theorem nIndex (s sub : List UInt8) (hs : s.length ≤ 4000000000) (hb : sub.length ≤ 4000000000) : Fn0 Tryd.prog 32 [S s, S sub] (I (findI sub s)) := by
 refine Fn0.enter (n := 25) Tryd.func32 rfl rfl fun w0 => ?_
 refine WC.sub (fr' := [(0, _), (1, _)]) ?_ ⟨rfl, rfl, trivial⟩
 refine WC.seq (WC.region ?_)
 refine WL.q (oq_assign rfl) rfl rfl rfl ?_
 refine WL.nil (WE.then_normal (WC.sub (fr' := [(0, _), (1, _)]) ?_ ⟨rfl, rfl, trivial⟩))
 refine WC.seq (WC.seq (WC.region ?_))
 refine WL.q (oq_assign rfl) rfl rfl rfl ?_
 refine WL.nil (WE.then_normal (WC.sub (fr' := [(0, _), (1, _), (5, _)]) ?_ ⟨rfl, rfl, rfl, trivial⟩))
 refine WC.block ?_
 refine WC.loop (ι := Nat) (fun (k : Nat) => [(0, S s), (1, S sub), (5, I k)]) (fun (k : Nat) => []) (fun (k : Nat) => k ≤ s.length ∧ find sub s = (find sub (s.drop k)).map (· + k)) (fun (k : Nat) => s.length + 1 - k) (0) ?_ ⟨rfl, rfl, rfl, trivial⟩ (List.Perm.refl _) ?_
 ·try dsimp only
  exact ⟨by omega, by simp⟩
 ·rintro k hp
  try dsimp only at hp
  obtain ⟨hk, hf⟩ := hp
  show WC _ _ _ _ _ _ ([(0, S s), (1, S sub), (5, I k)]) ([])
  refine WC.seq (WC.seq (WC.region ?_))
  refine WL.q (oq_move rfl) rfl rfl rfl ?_
  refine WL.q (oq_move rfl) rfl rfl rfl ?_
  refine WL.q (oq_len_s Tryd.underlying9 rfl) rfl rfl rfl ?_
  refine WL.q (oq_add rfl rfl (by rw [i64_lo, i64_hi]; (first | omega | (simp only [List.length_cons, List.length_nil, List.length_append, List.length_drop, List.length_take]; omega)))) rfl rfl rfl ?_
  refine WL.q (oq_move rfl) rfl rfl rfl ?_
  refine WL.q (oq_len_s Tryd.underlying9 rfl) rfl rfl rfl ?_
  refine WL.q (oq_leq rfl rfl) rfl rfl rfl ?_
  refine WL.nil (WE.then_normal (WC.sub (fr' := [(0, _), (1, _), (5, _), (12, _)]) ?_ ⟨rfl, rfl, rfl, rfl, trivial⟩))
  refine WC.cond rfl (fun q2 => ?_) (fun q2 => ?_)
  ·
   try simp only [Z1, Z2, Z3, Z4, Z5, Z6, Z7, Z8, Z9, Z0] at q2
   refine WC.skip (WE.then_normal (WC.sub (fr' := [(0, _), (1, _), (5, _)]) ?_ ⟨rfl, rfl, rfl, trivial⟩))
   refine WC.seq (WC.block (WC.seq (WC.region ?_)))
   refine WL.q (oq_move rfl) rfl rfl rfl ?_
   refine WL.q (oq_move rfl) rfl rfl rfl ?_
   refine WL.q (oq_move rfl) rfl rfl rfl ?_
   refine WL.q (oq_move rfl) rfl rfl rfl ?_
   refine WL.q (oq_len_s Tryd.underlying9 rfl) rfl rfl rfl ?_
   refine WL.q (oq_add rfl rfl (by rw [i64_lo, i64_hi]; (first | omega | (simp only [List.length_cons, List.length_nil, List.length_append, List.length_drop, List.length_take]; omega)))) rfl rfl rfl ?_
   refine WL.q (oq_slice_s2 Tryd.underlying9 rfl rfl rfl (by (first | omega | (simp only [List.length_cons, List.length_nil, List.length_append, List.length_drop, List.length_take]; omega)))) rfl rfl rfl ?_
   refine WL.q (oq_move rfl) rfl rfl rfl ?_
   refine WL.q (oq_seql rfl rfl) rfl rfl rfl ?_
   refine WL.nil (WE.then_normal (WC.sub (fr' := [(0, _), (1, _), (5, _), (23, _)]) ?_ ⟨rfl, rfl, rfl, rfl, trivial⟩))
   refine WC.cond rfl (fun q4 => ?_) (fun q4 => ?_)
   ·
    try simp only [Z1, Z2, Z3, Z4, Z5, Z6, Z7, Z8, Z9, Z0] at q4
    refine WC.seq (WC.region ?_)
    refine WL.q (oq_move rfl) rfl rfl rfl ?_
    refine WL.q (oq_assign rfl) rfl rfl rfl ?_
    refine WL.nil (WE.then_normal (WC.sub (fr' := [(4, _)]) ?_ ⟨rfl, trivial⟩))
    refine WC.ret (WE.block_ret (WE.then_ret (WE.then_ret (WE.block_ret (WE.then_ret ?_)))))
    refine WE.end0 (.inl rfl) (res1 Tryd.results32 rfl) ?_
    rw [cut_nat] at q4; rw [findI, hf, find_here _ _ q4]; simp
   ·
    try simp only [Z1, Z2, Z3, Z4, Z5, Z6, Z7, Z8, Z9, Z0] at q4
    refine WC.skip (WE.block_normal (WE.then_normal (WC.sub (fr' := [(0, _), (1, _), (5, _)]) ?_ ⟨rfl, rfl, rfl, trivial⟩)))
    refine WC.region ?_
    refine WL.q (oq_move rfl) rfl rfl rfl ?_
    refine WL.q (oq_add rfl rfl (by rw [i64_lo, i64_hi]; (first | omega | (simp only [List.length_cons, List.length_nil, List.length_append, List.length_drop, List.length_take]; omega)))) rfl rfl rfl ?_
    refine WL.q (oq_assign rfl) rfl rfl rfl ?_
    refine WL.nil ?_
    rw [cut_nat] at q4
    have hlt : k < s.length := by
     rcases Nat.lt_or_ge k s.length with h | h
     ·exact h
     ·exfalso; apply q4
      have : sub = [] := List.eq_nil_of_length_eq_zero (by omega)
      rw [this]; simp
    refine WE.again (k + 1) ?_ ?_ ⟨rfl, rfl, rfl, trivial⟩ (List.Perm.refl _)
    ·try dsimp only
     exact ⟨by omega, by rw [hf, find_step sub s k hlt, if_neg q4, Option.map_map]; congr 1; funext x; simp; omega⟩
    ·(try dsimp only); omega
  ·
   try simp only [Z1, Z2, Z3, Z4, Z5, Z6, Z7, Z8, Z9, Z0] at q2
   refine WC.exit (WE.then_exit (WE.then_exit (WE.block_same (WE.then_normal (WC.sub (fr' := []) ?_ trivial)))))
   refine WC.seq (WC.region ?_)
   refine WL.q (oq_assign rfl) rfl rfl rfl ?_
   refine WL.nil (WE.then_normal (WC.sub (fr' := [(4, _)]) ?_ ⟨rfl, trivial⟩))
   refine WC.ret ?_
   refine WE.end0 (.inl rfl) (res1 Tryd.results32 rfl) ?_
   rw [findI, hf, find_short sub (s.drop k) (by simp; omega)]; rfl
theorem eAll (s set : List UInt8) (hs : s.length ≤ 4000000000) (ht : set.length ≤ 1000000) : Fn0 Tryd.prog 9 [S s, S set] (.bool (allIn set s)) := by
 refine Fn0.enter (n := 32) Tryd.func9 rfl rfl fun w0 => ?_
 refine WC.sub (fr' := [(0, _), (1, _)]) ?_ ⟨rfl, rfl, trivial⟩
 refine WC.seq (WC.region ?_)
 refine WL.q (oq_assign rfl) rfl rfl rfl ?_
 refine WL.nil (WE.then_normal (WC.sub (fr' := [(0, _), (1, _)]) ?_ ⟨rfl, rfl, trivial⟩))
 refine WC.seq (WC.seq (WC.region ?_))
 refine WL.q (oq_assign rfl) rfl rfl rfl ?_
 refine WL.nil (WE.then_normal (WC.sub (fr' := [(0, _), (1, _), (5, _)]) ?_ ⟨rfl, rfl, rfl, trivial⟩))
 refine WC.block ?_
 refine WC.loop (ι := Nat) (fun (i : Nat) => [(0, S s), (1, S set), (5, I (i : Int))]) (fun (i : Nat) => []) (fun (i : Nat) => i ≤ s.length ∧ s.all (fun c => set.contains c) = (s.drop i).all (fun c => set.contains c)) (fun (i : Nat) => s.length - i) (0) ?_ ⟨rfl, rfl, rfl, trivial⟩ (List.Perm.refl _) ?_
 ·try dsimp only
  exact ⟨by omega, rfl⟩
 ·rintro i hp
  try dsimp only at hp
  obtain ⟨hi, hf⟩ := hp
  show WC _ _ _ _ _ _ ([(0, S s), (1, S set), (5, I (i : Int))]) ([])
  refine WC.seq (WC.seq (WC.region ?_))
  refine WL.q (oq_move rfl) rfl rfl rfl ?_
  refine WL.q (oq_move rfl) rfl rfl rfl ?_
  refine WL.q (oq_len_s Tryd.underlying9 rfl) rfl rfl rfl ?_
  refine WL.q (oq_lss rfl rfl) rfl rfl rfl ?_
  refine WL.nil (WE.then_normal (WC.sub (fr' := [(0, _), (1, _), (5, _), (11, _)]) ?_ ⟨rfl, rfl, rfl, rfl, trivial⟩))
  refine WC.cond rfl (fun q2 => ?_) (fun q2 => ?_)
  ·
   try simp only [Z1, Z2, Z3, Z4, Z5, Z6, Z7, Z8, Z9, Z0] at q2
   refine WC.skip (WE.then_normal (WC.sub (fr' := [(0, _), (1, _), (5, _)]) ?_ ⟨rfl, rfl, rfl, trivial⟩))
   refine WC.seq (WC.block (WC.seq (WC.region ?_)))
   refine WL.q (oq_assign rfl) rfl rfl rfl ?_
   refine WL.nil (WE.then_normal (WC.sub (fr' := [(0, _), (1, _), (5, _), (6, _)]) ?_ ⟨rfl, rfl, rfl, rfl, trivial⟩))
   refine WC.seq (WC.seq (WC.region ?_))
   refine WL.q (oq_assign rfl) rfl rfl rfl ?_
   refine WL.nil (WE.then_normal (WC.sub (fr' := [(0, _), (1, _), (5, _), (6, _), (7, _)]) ?_ ⟨rfl, rfl, rfl, rfl, rfl, trivial⟩))
   refine WC.block ?_
   refine WC.loop (ι := Nat × Bool) (fun i_ => (fun (j : Nat) (b : Bool) => [(0, S s), (1, S set), (5, I (i : Int)), (6, .bool b), (7, I (j : Int))]) i_.1 i_.2) (fun i_ => (fun (j : Nat) (b : Bool) => []) i_.1 i_.2) (fun i_ => (fun (j : Nat) (b : Bool) => j ≤ set.length ∧ b = (set.take j).contains (s.getD i 0)) i_.1 i_.2) (fun i_ => (fun (j : Nat) (b : Bool) => set.length - j) i_.1 i_.2) ((0, false)) ?_ ⟨rfl, rfl, rfl, rfl, rfl, trivial⟩ (List.Perm.refl _) ?_
   ·try dsimp only
    exact ⟨by omega, by simp⟩
   ·rintro ⟨j, b⟩ hp
    try dsimp only at hp
    obtain ⟨hj, hb⟩ := hp
    show WC _ _ _ _ _ _ ([(0, S s), (1, S set), (5, I (i : Int)), (6, .bool b), (7, I (j : Int))]) ([])
    refine WC.seq (WC.seq (WC.region ?_))
    refine WL.q (oq_move rfl) rfl rfl rfl ?_
    refine WL.q (oq_move rfl) rfl rfl rfl ?_
    refine WL.q (oq_len_s Tryd.underlying9 rfl) rfl rfl rfl ?_
    refine WL.q (oq_lss rfl rfl) rfl rfl rfl ?_
    refine WL.nil (WE.then_normal (WC.sub (fr' := [(0, _), (1, _), (5, _), (6, _), (7, _), (17, _)]) ?_ ⟨rfl, rfl, rfl, rfl, rfl, rfl, trivial⟩))
    refine WC.cond rfl (fun q6 => ?_) (fun q6 => ?_)
    ·
     try simp only [Z1, Z2, Z3, Z4, Z5, Z6, Z7, Z8, Z9, Z0] at q6
     refine WC.skip (WE.then_normal (WC.sub (fr' := [(0, _), (1, _), (5, _), (6, _), (7, _)]) ?_ ⟨rfl, rfl, rfl, rfl, rfl, trivial⟩))
     refine WC.seq (WC.block (WC.quiet (by kernel_rfl) (by kernel_rfl) ?_))
     refine WQ.q (oq_move rfl) rfl rfl rfl ?_
     refine WQ.q (oq_move rfl) rfl rfl rfl ?_
     refine WQ.split 21 rfl (fun s8_1 => ?_) (fun s8_1 => ?_)
     ·
      try simp only [Z1, Z2, Z3, Z4, Z5, Z6, Z7, Z8, Z9, Z0] at s8_1
      refine WQ.skip rfl rfl rfl ?_
      refine WQ.skip rfl rfl rfl ?_
      refine WQ.skip rfl rfl rfl ?_
      refine WQ.skip rfl rfl rfl ?_
      refine WQ.skip rfl rfl rfl ?_
      refine WQ.skip rfl rfl rfl ?_
      refine WQ.skip rfl rfl rfl ?_
      refine WQ.q (oq_pick_t rfl rfl) rfl rfl rfl ?_
      refine WQ.q (oq_assign rfl) rfl rfl rfl ?_
      refine WQ.nil (WE.block_normal (WE.then_normal (WC.sub (fr' := [(0, _), (1, _), (5, _), (6, _), (7, _)]) ?_ ⟨rfl, rfl, rfl, rfl, rfl, trivial⟩)))
      refine WC.region ?_
      refine WL.q (oq_move rfl) rfl rfl rfl ?_
      refine WL.q (oq_add rfl rfl (by rw [i64_lo, i64_hi]; (first | omega | (simp only [List.length_cons, List.length_nil, List.length_append, List.length_drop, List.length_take]; omega)))) rfl rfl rfl ?_
      refine WL.q (oq_assign rfl) rfl rfl rfl ?_
      refine WL.nil ?_
      refine WE.again (j + 1, true) ?_ ?_ ⟨rfl, rfl, rfl, rfl, rfl, trivial⟩ (List.Perm.refl _)
      ·try dsimp only
       exact ⟨by omega, by rw [← has_snoc b set j _ (by omega) hb, s8_1]; rfl⟩
      ·(try dsimp only); omega
     ·
      try simp only [Z1, Z2, Z3, Z4, Z5, Z6, Z7, Z8, Z9, Z0] at s8_1
      refine WQ.q (oq_move rfl) rfl rfl rfl ?_
      refine WQ.q (oq_move rfl) rfl rfl rfl ?_
      refine WQ.index_s Tryd.underlying9 rfl rfl (by (first | omega | (simp only [List.length_cons, List.length_nil, List.length_append, List.length_drop, List.length_take]; omega))) rfl rfl fun c8_4 hc8_4 hc8_4l hc8_4u => ?_
      refine WQ.q (oq_move rfl) rfl rfl rfl ?_
      refine WQ.q (oq_move rfl) rfl rfl rfl ?_
      refine WQ.index_s Tryd.underlying9 rfl rfl (by (first | omega | (simp only [List.length_cons, List.length_nil, List.length_append, List.length_drop, List.length_take]; omega))) rfl rfl fun c8_7 hc8_7 hc8_7l hc8_7u => ?_
      refine WQ.q (oq_eql rfl rfl) rfl rfl rfl ?_
      refine WQ.q (oq_pick_f rfl rfl) rfl rfl rfl ?_
      refine WQ.q (oq_assign rfl) rfl rfl rfl ?_
      refine WQ.nil (WE.block_normal (WE.then_normal (WC.sub (fr' := [(0, _), (1, _), (5, _), (6, _), (7, _)]) ?_ ⟨rfl, rfl, rfl, rfl, rfl, trivial⟩)))
      refine WC.region ?_
      refine WL.q (oq_move rfl) rfl rfl rfl ?_
      refine WL.q (oq_add rfl rfl (by rw [i64_lo, i64_hi]; (first | omega | (simp only [List.length_cons, List.length_nil, List.length_append, List.length_drop, List.length_take]; omega)))) rfl rfl rfl ?_
      refine WL.q (oq_assign rfl) rfl rfl rfl ?_
      refine WL.nil ?_
      refine WE.again (j + 1, decide (c8_4 = c8_7)) ?_ ?_ ⟨rfl, rfl, rfl, rfl, rfl, trivial⟩ (List.Perm.refl _)
      ·try dsimp only
       exact ⟨by omega, by rw [← has_snoc b set j _ (by omega) hb, s8_1, cmp_c hc8_4 hc8_7]; rfl⟩
      ·(try dsimp only); omega
    ·
     try simp only [Z1, Z2, Z3, Z4, Z5, Z6, Z7, Z8, Z9, Z0] at q6
     refine WC.exit (WE.then_exit (WE.then_exit (WE.block_same (WE.then_normal (WC.sub (fr' := [(0, _), (1, _), (5, _), (6, _)]) ?_ ⟨rfl, rfl, rfl, rfl, trivial⟩)))))
     refine WC.seq (WC.region ?_)
     refine WL.q (oq_move rfl) rfl rfl rfl ?_
     refine WL.q (oq_not rfl) rfl rfl rfl ?_
     refine WL.nil (WE.then_normal (WC.sub (fr' := [(0, _), (1, _), (5, _), (31, _)]) ?_ ⟨rfl, rfl, rfl, rfl, trivial⟩))
     refine WC.cond rfl (fun q9 => ?_) (fun q9 => ?_)
     ·
      try simp only [Z1, Z2, Z3, Z4, Z5, Z6, Z7, Z8, Z9, Z0] at q9
      refine WC.seq (WC.region ?_)
      refine WL.q (oq_assign rfl) rfl rfl rfl ?_
      refine WL.nil (WE.then_normal (WC.sub (fr' := [(4, _)]) ?_ ⟨rfl, trivial⟩))
      refine WC.ret (WE.block_ret (WE.then_ret (WE.then_ret (WE.block_ret (WE.then_ret ?_)))))
      refine WE.end0 (.inl rfl) (res1 Tryd.results9 rfl) ?_
      rw [show j = set.length by omega, List.take_length] at hb
      unfold allIn; rw [hf, all_get s i 0 (by omega), ← hb, q9]; rfl
     ·
      try simp only [Z1, Z2, Z3, Z4, Z5, Z6, Z7, Z8, Z9, Z0] at q9
      refine WC.skip (WE.block_normal (WE.then_normal (WC.sub (fr' := [(0, _), (1, _), (5, _)]) ?_ ⟨rfl, rfl, rfl, trivial⟩)))
      refine WC.region ?_
      refine WL.q (oq_move rfl) rfl rfl rfl ?_
      refine WL.q (oq_add rfl rfl (by rw [i64_lo, i64_hi]; (first | omega | (simp only [List.length_cons, List.length_nil, List.length_append, List.length_drop, List.length_take]; omega)))) rfl rfl rfl ?_
      refine WL.q (oq_assign rfl) rfl rfl rfl ?_
      refine WL.nil ?_
      rw [show j = set.length by omega, List.take_length] at hb
      refine WE.again (i + 1) ?_ ?_ ⟨rfl, rfl, rfl, trivial⟩ (List.Perm.refl _)
      ·try dsimp only
       exact ⟨by omega, by rw [hf, all_get s i 0 (by omega), ← hb, q9, Bool.true_and]⟩
      ·(try dsimp only); omega
  ·
   try simp only [Z1, Z2, Z3, Z4, Z5, Z6, Z7, Z8, Z9, Z0] at q2
   refine WC.exit (WE.then_exit (WE.then_exit (WE.block_same (WE.then_normal (WC.sub (fr' := []) ?_ trivial)))))
   refine WC.seq (WC.region ?_)
   refine WL.q (oq_assign rfl) rfl rfl rfl ?_
   refine WL.nil (WE.then_normal (WC.sub (fr' := [(4, _)]) ?_ ⟨rfl, trivial⟩))
   refine WC.ret ?_
   refine WE.end0 (.inl rfl) (res1 Tryd.results9 rfl) ?_
   unfold allIn; rw [hf, List.drop_eq_nil_of_le (by omega)]; rfl
theorem lPre (s p : List UInt8) (hs : s.length ≤ 4000000000) (hp : p.length ≤ 4000000000) : Fn0 Tryd.prog 25 [S s, S p] (.bool (decide (s.take p.length = p))) := by
 refine Fn0.enter (n := 18) Tryd.func25 rfl rfl fun w0 => ?_
 refine WC.sub (fr' := [(0, _), (1, _)]) ?_ ⟨rfl, rfl, trivial⟩
 refine WC.seq (WC.region ?_)
 refine WL.q (oq_assign rfl) rfl rfl rfl ?_
 refine WL.nil (WE.then_normal (WC.sub (fr' := [(0, _), (1, _)]) ?_ ⟨rfl, rfl, trivial⟩))
 refine WC.seq (WC.region ?_)
 refine WL.q (oq_move rfl) rfl rfl rfl ?_
 refine WL.q (oq_len_s Tryd.underlying9 rfl) rfl rfl rfl ?_
 refine WL.q (oq_move rfl) rfl rfl rfl ?_
 refine WL.q (oq_len_s Tryd.underlying9 rfl) rfl rfl rfl ?_
 refine WL.q (oq_geq rfl rfl) rfl rfl rfl ?_
 refine WL.q (oq_move rfl) rfl rfl rfl ?_
 refine WL.split 10 rfl (fun s1_5 => ?_) (fun s1_5 => ?_)
 ·
  try simp only [Z1, Z2, Z3, Z4, Z5, Z6, Z7, Z8, Z9, Z0] at s1_5
  refine WL.q (oq_move rfl) rfl rfl rfl ?_
  refine WL.q (oq_move rfl) rfl rfl rfl ?_
  refine WL.q (oq_len_s Tryd.underlying9 rfl) rfl rfl rfl ?_
  refine WL.q (oq_slice_s0 Tryd.underlying9 rfl rfl (by (first | omega | (simp only [List.length_cons, List.length_nil, List.length_append, List.length_drop, List.length_take]; omega)))) rfl rfl rfl ?_
  refine WL.q (oq_move rfl) rfl rfl rfl ?_
  refine WL.q (oq_seql rfl rfl) rfl rfl rfl ?_
  refine WL.q (oq_pick_t rfl rfl) rfl rfl rfl ?_
  refine WL.q (oq_assign rfl) rfl rfl rfl ?_
  refine WL.nil (WE.then_normal (WC.sub (fr' := [(4, _)]) ?_ ⟨rfl, trivial⟩))
  refine WC.ret ?_
  refine WE.end0 (.inl rfl) (res1 Tryd.results25 rfl) ?_
  rfl
 ·
  try simp only [Z1, Z2, Z3, Z4, Z5, Z6, Z7, Z8, Z9, Z0] at s1_5
  refine WL.skip rfl rfl rfl ?_
  refine WL.skip rfl rfl rfl ?_
  refine WL.skip rfl rfl rfl ?_
  refine WL.skip rfl rfl rfl ?_
  refine WL.skip rfl rfl rfl ?_
  refine WL.skip rfl rfl rfl ?_
  refine WL.q (oq_pick_f rfl rfl) rfl rfl rfl ?_
  refine WL.q (oq_assign rfl) rfl rfl rfl ?_
  refine WL.nil (WE.then_normal (WC.sub (fr' := [(4, _)]) ?_ ⟨rfl, trivial⟩))
  refine WC.ret ?_
  refine WE.end0 (.inl rfl) (res1 Tryd.results25 rfl) ?_
  rw [decide_eq_false (fun e => by have := congrArg List.length e; simp at this; omega)]
theorem hasPre (s p : List UInt8) (hs : s.length ≤ 4000000000) (hp : p.length ≤ 4000000000) : Fn0 Tryd.prog 15 [S s, S p] (.bool (decide (s.take p.length = p))) := by
 refine Fn0.enter (n := 8) Tryd.func15 rfl rfl fun w0 => ?_
 refine WC.sub (fr' := [(0, _), (1, _)]) ?_ ⟨rfl, rfl, trivial⟩
 refine WC.seq (WC.region ?_)
 refine WL.q (oq_assign rfl) rfl rfl rfl ?_
 refine WL.nil (WE.then_normal (WC.sub (fr' := [(0, _), (1, _)]) ?_ ⟨rfl, rfl, trivial⟩))
 refine WC.seq (WC.region ?_)
 refine WL.q (oq_move rfl) rfl rfl rfl ?_
 refine WL.q (oq_move rfl) rfl rfl rfl ?_
 refine WL.qc (oq_call (lPre s p hs hp) call25 rfl) rfl rfl rfl ?_
 refine WL.q (oq_assign rfl) rfl rfl rfl ?_
 refine WL.nil (WE.then_normal (WC.sub (fr' := [(4, _)]) ?_ ⟨rfl, trivial⟩))
 refine WC.ret ?_
 refine WE.end0 (.inl rfl) (res1 Tryd.results15 rfl) ?_
 rfl
theorem lSuf (s p : List UInt8) (hs : s.length ≤ 4000000000) (hp : p.length ≤ 4000000000) : Fn0 Tryd.prog 26 [S s, S p] (.bool (decide (p.length ≤ s.length ∧ s.drop (s.length - p.length) = p))) := by
 refine Fn0.enter (n := 21) Tryd.func26 rfl rfl fun w0 => ?_
 refine WC.sub (fr' := [(0, _), (1, _)]) ?_ ⟨rfl, rfl, trivial⟩
 refine WC.seq (WC.region ?_)
 refine WL.q (oq_assign rfl) rfl rfl rfl ?_
 refine WL.nil (WE.then_normal (WC.sub (fr' := [(0, _), (1, _)]) ?_ ⟨rfl, rfl, trivial⟩))
 refine WC.seq (WC.region ?_)
 refine WL.q (oq_move rfl) rfl rfl rfl ?_
 refine WL.q (oq_len_s Tryd.underlying9 rfl) rfl rfl rfl ?_
 refine WL.q (oq_move rfl) rfl rfl rfl ?_
 refine WL.q (oq_len_s Tryd.underlying9 rfl) rfl rfl rfl ?_
 refine WL.q (oq_geq rfl rfl) rfl rfl rfl ?_
 refine WL.q (oq_move rfl) rfl rfl rfl ?_
 refine WL.split 10 rfl (fun s1_5 => ?_) (fun s1_5 => ?_)
 ·
  try simp only [Z1, Z2, Z3, Z4, Z5, Z6, Z7, Z8, Z9, Z0] at s1_5
  refine WL.q (oq_move rfl) rfl rfl rfl ?_
  refine WL.q (oq_move rfl) rfl rfl rfl ?_
  refine WL.q (oq_len_s Tryd.underlying9 rfl) rfl rfl rfl ?_
  refine WL.q (oq_move rfl) rfl rfl rfl ?_
  refine WL.q (oq_len_s Tryd.underlying9 rfl) rfl rfl rfl ?_
  refine WL.q (oq_sub rfl rfl (by rw [i64_lo, i64_hi]; (first | omega | (simp only [List.length_cons, List.length_nil, List.length_append, List.length_drop, List.length_take]; omega)))) rfl rfl rfl ?_
  refine WL.q (oq_slice_s1 Tryd.underlying9 rfl rfl (by (first | omega | (simp only [List.length_cons, List.length_nil, List.length_append, List.length_drop, List.length_take]; omega)))) rfl rfl rfl ?_
  refine WL.q (oq_move rfl) rfl rfl rfl ?_
  refine WL.q (oq_seql rfl rfl) rfl rfl rfl ?_
  refine WL.q (oq_pick_t rfl rfl) rfl rfl rfl ?_
  refine WL.q (oq_assign rfl) rfl rfl rfl ?_
  refine WL.nil (WE.then_normal (WC.sub (fr' := [(4, _)]) ?_ ⟨rfl, trivial⟩))
  refine WC.ret ?_
  refine WE.end0 (.inl rfl) (res1 Tryd.results26 rfl) ?_
  exact congrArg Value.bool (decide_eq_decide.2 ⟨fun h => ⟨by omega, by rw [show ((s.length : Int) - (p.length : Int)).toNat = s.length - p.length by omega] at h; exact h⟩, fun h => by rw [show ((s.length : Int) - (p.length : Int)).toNat = s.length - p.length by omega]; exact h.2⟩)
 ·
  try simp only [Z1, Z2, Z3, Z4, Z5, Z6, Z7, Z8, Z9, Z0] at s1_5
  refine WL.skip rfl rfl rfl ?_
  refine WL.skip rfl rfl rfl ?_
  refine WL.skip rfl rfl rfl ?_
  refine WL.skip rfl rfl rfl ?_
  refine WL.skip rfl rfl rfl ?_
  refine WL.skip rfl rfl rfl ?_
  refine WL.skip rfl rfl rfl ?_
  refine WL.skip rfl rfl rfl ?_
  refine WL.skip rfl rfl rfl ?_
  refine WL.q (oq_pick_f rfl rfl) rfl rfl rfl ?_
  refine WL.q (oq_assign rfl) rfl rfl rfl ?_
  refine WL.nil (WE.then_normal (WC.sub (fr' := [(4, _)]) ?_ ⟨rfl, trivial⟩))
  refine WC.ret ?_
  refine WE.end0 (.inl rfl) (res1 Tryd.results26 rfl) ?_
  rw [decide_eq_false (fun e => by omega)]
theorem hasSuf (s p : List UInt8) (hs : s.length ≤ 4000000000) (hp : p.length ≤ 4000000000) : Fn0 Tryd.prog 16 [S s, S p] (.bool (decide (p.length ≤ s.length ∧ s.drop (s.length - p.length) = p))) := by
 refine Fn0.enter (n := 8) Tryd.func16 rfl rfl fun w0 => ?_
 refine WC.sub (fr' := [(0, _), (1, _)]) ?_ ⟨rfl, rfl, trivial⟩
 refine WC.seq (WC.region ?_)
 refine WL.q (oq_assign rfl) rfl rfl rfl ?_
 refine WL.nil (WE.then_normal (WC.sub (fr' := [(0, _), (1, _)]) ?_ ⟨rfl, rfl, trivial⟩))
 refine WC.seq (WC.region ?_)
 refine WL.q (oq_move rfl) rfl rfl rfl ?_
 refine WL.q (oq_move rfl) rfl rfl rfl ?_
 refine WL.qc (oq_call (lSuf s p hs hp) call26 rfl) rfl rfl rfl ?_
 refine WL.q (oq_assign rfl) rfl rfl rfl ?_
 refine WL.nil (WE.then_normal (WC.sub (fr' := [(4, _)]) ?_ ⟨rfl, trivial⟩))
 refine WC.ret ?_
 refine WE.end0 (.inl rfl) (res1 Tryd.results16 rfl) ?_
 rfl
theorem lbyte (s : List UInt8) (c : Int) (k : UInt8) (hk : c = (k.toNat : Int)) (hs : s.length ≤ 4000000000) : Fn0 Tryd.prog 48 [S s, .int .u8 c] (I (lidx k s s.length)) := by
 refine Fn0.enter (n := 19) Tryd.func48 rfl rfl fun w0 => ?_
 refine WC.sub (fr' := [(0, _), (1, _)]) ?_ ⟨rfl, rfl, trivial⟩
 refine WC.seq (WC.region ?_)
 refine WL.q (oq_assign rfl) rfl rfl rfl ?_
 refine WL.nil (WE.then_normal (WC.sub (fr' := [(0, _), (1, _)]) ?_ ⟨rfl, rfl, trivial⟩))
 refine WC.seq (WC.seq (WC.region ?_))
 refine WL.q (oq_move rfl) rfl rfl rfl ?_
 refine WL.q (oq_len_s Tryd.underlying9 rfl) rfl rfl rfl ?_
 refine WL.q (oq_sub rfl rfl (by rw [i64_lo, i64_hi]; (first | omega | (simp only [List.length_cons, List.length_nil, List.length_append, List.length_drop, List.length_take]; omega)))) rfl rfl rfl ?_
 refine WL.q (oq_assign rfl) rfl rfl rfl ?_
 refine WL.nil (WE.then_normal (WC.sub (fr' := [(0, _), (1, _), (5, _)]) ?_ ⟨rfl, rfl, rfl, trivial⟩))
 refine WC.block ?_
 refine WC.loop (ι := Nat) (fun (j : Nat) => [(0, S s), (1, .int .u8 c), (5, I ((j : Int) - 1))]) (fun (j : Nat) => []) (fun (j : Nat) => j ≤ s.length ∧ lidx k s s.length = lidx k s j) (fun (j : Nat) => j) (s.length) ?_ ⟨rfl, rfl, rfl, trivial⟩ (List.Perm.refl _) ?_
 ·try dsimp only
  exact ⟨by omega, rfl⟩
 ·rintro j hp
  try dsimp only at hp
  obtain ⟨hj, hl⟩ := hp
  show WC _ _ _ _ _ _ ([(0, S s), (1, .int .u8 c), (5, I ((j : Int) - 1))]) ([])
  refine WC.seq (WC.seq (WC.region ?_))
  refine WL.q (oq_move rfl) rfl rfl rfl ?_
  refine WL.q (oq_geq rfl rfl) rfl rfl rfl ?_
  refine WL.nil (WE.then_normal (WC.sub (fr' := [(0, _), (1, _), (5, _), (10, _)]) ?_ ⟨rfl, rfl, rfl, rfl, trivial⟩))
  refine WC.cond rfl (fun q2 => ?_) (fun q2 => ?_)
  ·
   try simp only [Z1, Z2, Z3, Z4, Z5, Z6, Z7, Z8, Z9, Z0] at q2
   refine WC.skip (WE.then_normal (WC.sub (fr' := [(0, _), (1, _), (5, _)]) ?_ ⟨rfl, rfl, rfl, trivial⟩))
   refine WC.seq (WC.block (WC.seq (WC.region ?_)))
   refine WL.q (oq_move rfl) rfl rfl rfl ?_
   refine WL.q (oq_move rfl) rfl rfl rfl ?_
   refine WL.index_s Tryd.underlying9 rfl rfl (by (first | omega | (simp only [List.length_cons, List.length_nil, List.length_append, List.length_drop, List.length_take]; omega))) rfl rfl fun c4_2 hc4_2 hc4_2l hc4_2u => ?_
   refine WL.q (oq_move rfl) rfl rfl rfl ?_
   refine WL.q (oq_eql rfl rfl) rfl rfl rfl ?_
   refine WL.nil (WE.then_normal (WC.sub (fr' := [(0, _), (1, _), (5, _), (17, _)]) ?_ ⟨rfl, rfl, rfl, rfl, trivial⟩))
   refine WC.cond rfl (fun q4 => ?_) (fun q4 => ?_)
   ·
    try simp only [Z1, Z2, Z3, Z4, Z5, Z6, Z7, Z8, Z9, Z0] at q4
    refine WC.seq (WC.region ?_)
    refine WL.q (oq_move rfl) rfl rfl rfl ?_
    refine WL.q (oq_assign rfl) rfl rfl rfl ?_
    refine WL.nil (WE.then_normal (WC.sub (fr' := [(4, _)]) ?_ ⟨rfl, trivial⟩))
    refine WC.ret (WE.block_ret (WE.then_ret (WE.then_ret (WE.block_ret (WE.then_ret ?_)))))
    refine WE.end0 (.inl rfl) (res1 Tryd.results48 rfl) ?_
    obtain ⟨m, rfl⟩ : ∃ m, j = m + 1 := ⟨j - 1, by omega⟩
    rw [show (((m + 1 : Nat) : Int) - 1) = (m : Int) by omega] at hc4_2 ⊢
    rw [hl]; congr 1; exact (if_pos (by_c hc4_2 (by rw [q4, hk]))).symm
   ·
    try simp only [Z1, Z2, Z3, Z4, Z5, Z6, Z7, Z8, Z9, Z0] at q4
    refine WC.skip (WE.block_normal (WE.then_normal (WC.sub (fr' := [(0, _), (1, _), (5, _)]) ?_ ⟨rfl, rfl, rfl, trivial⟩)))
    refine WC.region ?_
    refine WL.q (oq_move rfl) rfl rfl rfl ?_
    refine WL.q (oq_sub rfl rfl (by rw [i64_lo, i64_hi]; (first | omega | (simp only [List.length_cons, List.length_nil, List.length_append, List.length_drop, List.length_take]; omega)))) rfl rfl rfl ?_
    refine WL.q (oq_assign rfl) rfl rfl rfl ?_
    refine WL.nil ?_
    obtain ⟨m, rfl⟩ : ∃ m, j = m + 1 := ⟨j - 1, by omega⟩
    rw [show (((m + 1 : Nat) : Int) - 1) = (m : Int) by omega] at hc4_2
    have hne := by_n hc4_2 (fun e => q4 (by rw [e, hk]))
    refine WE.again m ?_ ?_ ⟨rfl, rfl, (gti rfl (by omega)), trivial⟩ (List.Perm.refl _)
    ·try dsimp only
     exact ⟨by omega, by rw [hl]; exact if_neg hne⟩
    ·(try dsimp only); omega
  ·
   try simp only [Z1, Z2, Z3, Z4, Z5, Z6, Z7, Z8, Z9, Z0] at q2
   refine WC.exit (WE.then_exit (WE.then_exit (WE.block_same (WE.then_normal (WC.sub (fr' := []) ?_ trivial)))))
   refine WC.seq (WC.region ?_)
   refine WL.q (oq_assign rfl) rfl rfl rfl ?_
   refine WL.nil (WE.then_normal (WC.sub (fr' := [(4, _)]) ?_ ⟨rfl, trivial⟩))
   refine WC.ret ?_
   refine WE.end0 (.inl rfl) (res1 Tryd.results48 rfl) ?_
   rw [show j = 0 by omega] at hl
   rw [hl]; rfl
theorem slast (s : List UInt8) (k : UInt8) (hs : s.length ≤ 4000000000) : Fn0 Tryd.prog 49 [S s, S [k]] (I (lidx k s s.length)) := by
 refine Fn0.enter (n := 36) Tryd.func49 rfl rfl fun w0 => ?_
 refine WC.sub (fr' := [(0, _), (1, _)]) ?_ ⟨rfl, rfl, trivial⟩
 refine WC.seq (WC.region ?_)
 refine WL.q (oq_assign rfl) rfl rfl rfl ?_
 refine WL.nil (WE.then_normal (WC.sub (fr' := [(0, _), (1, _)]) ?_ ⟨rfl, rfl, trivial⟩))
 refine WC.seq (WC.region ?_)
 refine WL.q (oq_move rfl) rfl rfl rfl ?_
 refine WL.q (oq_len_s Tryd.underlying9 rfl) rfl rfl rfl ?_
 refine WL.q (oq_assign rfl) rfl rfl rfl ?_
 refine WL.nil (WE.then_normal (WC.sub (fr' := [(0, _), (1, _), (5, _)]) ?_ ⟨rfl, rfl, rfl, trivial⟩))
 refine WC.seq (WC.block (WC.seq (WC.region ?_)))
 refine WL.q (oq_move rfl) rfl rfl rfl ?_
 refine WL.q (oq_eql rfl rfl) rfl rfl rfl ?_
 refine WL.q (oq_assign rfl) rfl rfl rfl ?_
 refine WL.nil (WE.then_normal (WC.sub (fr' := [(0, _), (1, _), (5, _), (8, _)]) ?_ ⟨rfl, rfl, rfl, rfl, trivial⟩))
 refine WC.cond rfl (fun q2 => ?_) (fun q2 => ?_)
 ·
  try simp only [Z1, Z2, Z3, Z4, Z5, Z6, Z7, Z8, Z9, Z0] at q2
  exfalso; simp_all
 ·
  try simp only [Z1, Z2, Z3, Z4, Z5, Z6, Z7, Z8, Z9, Z0] at q2
  refine WC.seq (WC.region ?_)
  refine WL.q (oq_move rfl) rfl rfl rfl ?_
  refine WL.q (oq_eql rfl rfl) rfl rfl rfl ?_
  refine WL.q (oq_assign rfl) rfl rfl rfl ?_
  refine WL.nil (WE.then_normal (WC.sub (fr' := [(0, _), (1, _), (5, _), (13, _)]) ?_ ⟨rfl, rfl, rfl, rfl, trivial⟩))
  refine WC.cond rfl (fun q4 => ?_) (fun q4 => ?_)
  ·
   try simp only [Z1, Z2, Z3, Z4, Z5, Z6, Z7, Z8, Z9, Z0] at q4
   refine WC.seq (WC.region ?_)
   refine WL.q (oq_move rfl) rfl rfl rfl ?_
   refine WL.q (oq_move rfl) rfl rfl rfl ?_
   refine WL.index_s Tryd.underlying9 rfl rfl (by (first | omega | (simp only [List.length_cons, List.length_nil, List.length_append, List.length_drop, List.length_take]; omega))) rfl rfl fun c5_2 hc5_2 hc5_2l hc5_2u => ?_
   refine WL.qc (oq_call (lbyte s _ k hc5_2 hs) call48 rfl) rfl rfl rfl ?_
   refine WL.q (oq_assign rfl) rfl rfl rfl ?_
   refine WL.nil (WE.then_normal (WC.sub (fr' := [(4, _)]) ?_ ⟨rfl, trivial⟩))
   refine WC.ret (WE.block_ret (WE.then_ret ?_))
   refine WE.end0 (.inl rfl) (res1 Tryd.results49 rfl) ?_
   rfl
  ·
   try simp only [Z1, Z2, Z3, Z4, Z5, Z6, Z7, Z8, Z9, Z0] at q4
   exfalso; simp_all
theorem nCut (s : List UInt8) (c : UInt8) (hs : s.length ≤ 4000000000) : Fn0 Tryd.prog 22 [S s, S [c]] (.tuple #[S (cl c s), S (cr c s), .bool (decide (0 ≤ findI [c] s))]) := by
 refine Fn0.enter (n := 23) Tryd.func22 rfl rfl fun w0 => ?_
 refine WC.sub (fr' := [(0, _), (1, _)]) ?_ ⟨rfl, rfl, trivial⟩
 refine WC.seq (WC.region ?_)
 refine WL.q (oq_assign rfl) rfl rfl rfl ?_
 refine WL.q (oq_assign rfl) rfl rfl rfl ?_
 refine WL.q (oq_assign rfl) rfl rfl rfl ?_
 refine WL.nil (WE.then_normal (WC.sub (fr' := [(0, _), (1, _)]) ?_ ⟨rfl, rfl, trivial⟩))
 refine WC.seq (WC.seq (WC.region ?_))
 refine WL.q (oq_move rfl) rfl rfl rfl ?_
 refine WL.q (oq_move rfl) rfl rfl rfl ?_
 refine WL.qc (oq_call (nIndex s [c] hs (by simp)) call32 rfl) rfl rfl rfl ?_
 refine WL.q (oq_assign rfl) rfl rfl rfl ?_
 refine WL.nil (WE.then_normal (WC.sub (fr' := [(0, _), (1, _), (7, _)]) ?_ ⟨rfl, rfl, rfl, trivial⟩))
 refine WC.seq (WC.region ?_)
 refine WL.q (oq_move rfl) rfl rfl rfl ?_
 refine WL.q (oq_geq rfl rfl) rfl rfl rfl ?_
 refine WL.nil (WE.then_normal (WC.sub (fr' := [(0, _), (1, _), (7, _), (12, _)]) ?_ ⟨rfl, rfl, rfl, rfl, trivial⟩))
 refine WC.cond rfl (fun q2 => ?_) (fun q2 => ?_)
 ·
  try simp only [Z1, Z2, Z3, Z4, Z5, Z6, Z7, Z8, Z9, Z0] at q2
  refine WC.seq ?_
  have hle := findI_le c s
  refine WC.quiet (by kernel_rfl) (by kernel_rfl) ?_
  refine WQ.q (oq_move rfl) rfl rfl rfl ?_
  refine WQ.q (oq_move rfl) rfl rfl rfl ?_
  refine WQ.q (oq_slice_s0 Tryd.underlying9 rfl rfl (by first | omega | (have := findI_le c s; simp; omega))) rfl rfl rfl ?_
  refine WQ.q (oq_move rfl) rfl rfl rfl ?_
  refine WQ.q (oq_move rfl) rfl rfl rfl ?_
  refine WQ.q (oq_move rfl) rfl rfl rfl ?_
  refine WQ.q (oq_len_s Tryd.underlying9 rfl) rfl rfl rfl ?_
  refine WQ.q (oq_add rfl rfl (by rw [i64_lo, i64_hi]; (first | omega | (simp only [List.length_cons, List.length_nil, List.length_append, List.length_drop, List.length_take]; omega)))) rfl rfl rfl ?_
  refine WQ.q (oq_slice_s1 Tryd.underlying9 rfl rfl (by first | omega | (have := findI_le c s; simp; omega))) rfl rfl rfl ?_
  refine WQ.q (oq_assign rfl) rfl rfl rfl ?_
  refine WQ.q (oq_assign rfl) rfl rfl rfl ?_
  refine WQ.q (oq_assign rfl) rfl rfl rfl ?_
  refine WQ.nil (WE.then_normal (WC.sub (fr' := [(4, _), (5, _), (6, _)]) ?_ ⟨rfl, rfl, rfl, trivial⟩))
  refine WC.ret (WE.then_ret ?_)
  refine WE.end0 (.inl rfl) (res3 Tryd.results22 rfl rfl rfl) ?_
  rw [decide_eq_true q2, ← (cut_l q2).1, ← (cut_l q2).2]
 ·
  try simp only [Z1, Z2, Z3, Z4, Z5, Z6, Z7, Z8, Z9, Z0] at q2
  refine WC.skip (WE.then_normal (WC.sub (fr' := [(0, _)]) ?_ ⟨rfl, trivial⟩))
  refine WC.seq ?_
  have hle := findI_le c s
  refine WC.region ?_
  refine WL.q (oq_move rfl) rfl rfl rfl ?_
  refine WL.q (oq_assign rfl) rfl rfl rfl ?_
  refine WL.q (oq_assign rfl) rfl rfl rfl ?_
  refine WL.q (oq_assign rfl) rfl rfl rfl ?_
  refine WL.nil (WE.then_normal (WC.sub (fr' := [(4, _), (5, _), (6, _)]) ?_ ⟨rfl, rfl, rfl, trivial⟩))
  refine WC.ret ?_
  refine WE.end0 (.inl rfl) (res3 Tryd.results22 rfl rfl rfl) ?_
  rw [decide_eq_false (show ¬ 0 ≤ findI [c] s by omega), ← (cut_n (by omega)).1, ← (cut_n (by omega)).2]
theorem ctl (s : List UInt8) (hs : s.length ≤ 4000000000) (hg : ∀ c ∈ s, 32 ≤ c.toNat ∧ c.toNat ≠ 127) : Fn0 Tryd.prog 33 [S s] (.bool false) := by
 refine Fn0.enter (n := 20) Tryd.func33 rfl rfl fun w0 => ?_
 refine WC.sub (fr' := [(0, _)]) ?_ ⟨rfl, trivial⟩
 refine WC.seq (WC.region ?_)
 refine WL.q (oq_assign rfl) rfl rfl rfl ?_
 refine WL.nil (WE.then_normal (WC.sub (fr' := [(0, _)]) ?_ ⟨rfl, trivial⟩))
 refine WC.seq (WC.seq (WC.region ?_))
 refine WL.q (oq_assign rfl) rfl rfl rfl ?_
 refine WL.nil (WE.then_normal (WC.sub (fr' := [(0, _), (3, _)]) ?_ ⟨rfl, rfl, trivial⟩))
 refine WC.block ?_
 refine WC.loop (ι := Nat) (fun (i : Nat) => [(0, S s), (3, I (i : Int))]) (fun (i : Nat) => []) (fun (i : Nat) => i ≤ s.length) (fun (i : Nat) => s.length - i) (0) ?_ ⟨rfl, rfl, trivial⟩ (List.Perm.refl _) ?_
 ·try dsimp only
  omega
 ·rintro i hp
  try dsimp only at hp
  show WC _ _ _ _ _ _ ([(0, S s), (3, I (i : Int))]) ([])
  refine WC.seq (WC.seq (WC.region ?_))
  refine WL.q (oq_move rfl) rfl rfl rfl ?_
  refine WL.q (oq_move rfl) rfl rfl rfl ?_
  refine WL.q (oq_len_s Tryd.underlying9 rfl) rfl rfl rfl ?_
  refine WL.q (oq_lss rfl rfl) rfl rfl rfl ?_
  refine WL.nil (WE.then_normal (WC.sub (fr' := [(0, _), (3, _), (8, _)]) ?_ ⟨rfl, rfl, rfl, trivial⟩))
  refine WC.cond rfl (fun q2 => ?_) (fun q2 => ?_)
  ·
   try simp only [Z1, Z2, Z3, Z4, Z5, Z6, Z7, Z8, Z9, Z0] at q2
   refine WC.skip (WE.then_normal (WC.sub (fr' := [(0, _), (3, _)]) ?_ ⟨rfl, rfl, trivial⟩))
   refine WC.seq (WC.block (WC.seq (WC.region ?_)))
   refine WL.q (oq_move rfl) rfl rfl rfl ?_
   refine WL.q (oq_move rfl) rfl rfl rfl ?_
   refine WL.index_s Tryd.underlying9 rfl rfl (by (first | omega | (simp only [List.length_cons, List.length_nil, List.length_append, List.length_drop, List.length_take]; omega))) rfl rfl fun c4_2 hc4_2 hc4_2l hc4_2u => ?_
   refine WL.q (oq_assign rfl) rfl rfl rfl ?_
   refine WL.nil (WE.then_normal (WC.sub (fr' := [(0, _), (3, _), (4, _)]) ?_ ⟨rfl, rfl, rfl, trivial⟩))
   refine WC.seq ?_
   have hx := ctl_ok hg (by omega) hc4_2
   refine WC.region ?_
   refine WL.q (oq_move rfl) rfl rfl rfl ?_
   refine WL.q (oq_lss rfl rfl) rfl rfl rfl ?_
   refine WL.q (oq_move rfl) rfl rfl rfl ?_
   refine WL.split 16 rfl (fun s5_2 => ?_) (fun s5_2 => ?_)
   ·
    try simp only [Z1, Z2, Z3, Z4, Z5, Z6, Z7, Z8, Z9, Z0] at s5_2
    refine WL.skip rfl rfl rfl ?_
    refine WL.skip rfl rfl rfl ?_
    refine WL.q (oq_pick_t rfl rfl) rfl rfl rfl ?_
    refine WL.nil (WE.then_normal (WC.sub (fr' := [(0, _), (3, _), (19, _)]) ?_ ⟨rfl, rfl, rfl, trivial⟩))
    refine WC.cond_t rfl ?_
    refine WC.seq ?_
    omega
   ·
    try simp only [Z1, Z2, Z3, Z4, Z5, Z6, Z7, Z8, Z9, Z0] at s5_2
    refine WL.q (oq_move rfl) rfl rfl rfl ?_
    refine WL.q (oq_eql rfl rfl) rfl rfl rfl ?_
    refine WL.q (oq_pick_f rfl rfl) rfl rfl rfl ?_
    refine WL.nil (WE.then_normal (WC.sub (fr' := [(0, _), (3, _), (19, _)]) ?_ ⟨rfl, rfl, rfl, trivial⟩))
    refine WC.cond rfl (fun q5 => ?_) (fun q5 => ?_)
    ·
     try simp only [Z1, Z2, Z3, Z4, Z5, Z6, Z7, Z8, Z9, Z0] at q5
     refine WC.seq ?_
     omega
    ·
     try simp only [Z1, Z2, Z3, Z4, Z5, Z6, Z7, Z8, Z9, Z0] at q5
     refine WC.skip (WE.block_normal (WE.then_normal (WC.sub (fr' := [(0, _), (3, _)]) ?_ ⟨rfl, rfl, trivial⟩)))
     refine WC.region ?_
     refine WL.q (oq_move rfl) rfl rfl rfl ?_
     refine WL.q (oq_add rfl rfl (by rw [i64_lo, i64_hi]; (first | omega | (simp only [List.length_cons, List.length_nil, List.length_append, List.length_drop, List.length_take]; omega)))) rfl rfl rfl ?_
     refine WL.q (oq_assign rfl) rfl rfl rfl ?_
     refine WL.nil ?_
     refine WE.again (i + 1) ?_ ?_ ⟨rfl, rfl, trivial⟩ (List.Perm.refl _)
     ·try dsimp only
      omega
     ·(try dsimp only); omega
  ·
   try simp only [Z1, Z2, Z3, Z4, Z5, Z6, Z7, Z8, Z9, Z0] at q2
   refine WC.exit (WE.then_exit (WE.then_exit (WE.block_same (WE.then_normal (WC.sub (fr' := []) ?_ trivial)))))
   refine WC.seq (WC.region ?_)
   refine WL.q (oq_assign rfl) rfl rfl rfl ?_
   refine WL.nil (WE.then_normal (WC.sub (fr' := [(2, _)]) ?_ ⟨rfl, trivial⟩))
   refine WC.ret ?_
   refine WE.end0 (.inl rfl) (res1 Tryd.results33 rfl) ?_
   rfl
end M0
end Go.Proofs.YtefaegocllppkaaDoor
/- The parts of an address: the reference. -/
namespace Go.Proofs.YtefaegocllppkaaDoor
open Go Go.RowKit V L0 L1 L2 M0
set_option linter.unusedSimpArgs false
set_option linter.unusedVariables false
set_option maxRecDepth 10000
namespace M1
theorem call8 : Callable Tryd.prog 8 := ⟨_, Tryd.func8, rfl, by kernel_rfl⟩
theorem call9 : Callable Tryd.prog 9 := ⟨_, Tryd.func9, rfl, by kernel_rfl⟩
theorem call10 : Callable Tryd.prog 10 := ⟨_, Tryd.func10, rfl, by kernel_rfl⟩
theorem flat9 : Flat Tryd.prog 9 := ⟨_, Tryd.underlying9, by simp⟩
theorem ty4 : Ty Tryd.prog 4 (.bool false) 1 1 := ty_of (by kernel_rfl)
theorem ty9 : Ty Tryd.prog 9 (S []) 1 16 := ty_of (by kernel_rfl)
theorem ty23 : Ty Tryd.prog 23 (.agg #[(S []), (S []), (S []), (S []), (.bool false)]) 5 72 := ty_of (by kernel_rfl)
theorem agg23 : Agg Tryd.prog 23 := agg_of Tryd.underlying23
theorem str23 : Str Tryd.prog 23 #[(0, 1), (1, 1), (2, 1), (3, 1), (4, 1)] := ⟨_, Tryd.underlying23, fun w => by kernel_rfl⟩
theorem fld23_0 : Fld Tryd.prog 23 0 0 9 := fld_of Tryd.underlying23 rfl rfl rfl ty9 (by decide)
theorem fld23_1 : Fld Tryd.prog 23 1 1 9 := fld_of Tryd.underlying23 rfl rfl rfl ty9 (by decide)
theorem fld23_2 : Fld Tryd.prog 23 2 2 9 := fld_of Tryd.underlying23 rfl rfl rfl ty9 (by decide)
theorem fld23_3 : Fld Tryd.prog 23 3 3 9 := fld_of Tryd.underlying23 rfl rfl rfl ty9 (by decide)
theorem fld23_4 : Fld Tryd.prog 23 4 4 4 := fld_of Tryd.underlying23 rfl rfl rfl ty4 (by decide)
theorem ecut0 (c : UInt8) (s : List UInt8) : ecutR [c] 0 0 s = split [c] s := by unfold ecutR; rw [if_neg (by decide)]
def nv (l : List UInt8) : Int := l.foldl (fun n c => n * 10 + (c.toNat : Int) - 48) 0
theorem nv_snoc (l : List UInt8) (c : UInt8) : nv (l ++ [c]) = nv l * 10 + (c.toNat : Int) - 48 := by unfold nv; rw [List.foldl_append]; rfl
theorem nv_bound : ∀ (l : List UInt8), l.length ≤ 4 → -1000000 ≤ nv l ∧ nv l ≤ 1000000
  | [], _ => by decide
  | [a], _ => by have := a.toNat_lt; simp only [nv, List.foldl]; omega
  | [a, b], _ => by have := a.toNat_lt; have := b.toNat_lt; simp only [nv, List.foldl]; omega
  | [a, b, c], _ => by have := a.toNat_lt; have := b.toNat_lt; have := c.toNat_lt; simp only [nv, List.foldl]; omega
  | [a, b, c, d], _ => by have := a.toNat_lt; have := b.toNat_lt; have := c.toNat_lt; have := d.toNat_lt; simp only [nv, List.foldl]; omega
  | a :: b :: c :: d :: e :: l, h => by simp at h
theorem nv_step {p : List UInt8} {j : Nat} {n x : Int} (hj : j < p.length) (hn : n = nv (p.take j)) (hx : x = byteAt p (j : Int)) : n * 10 + x - 48 = nv (p.take (j + 1)) := by
  rw [List.take_succ_eq_append_getElem hj, nv_snoc, hn, hx, byteAt_get p j hj]
def okPart (p : List UInt8) : Prop := allIn DSET p = true ∧ p ≠ [] ∧ p.length ≤ 3 ∧ nv p ≤ 255 ∧ ¬ (1 < p.length ∧ byteAt p 0 = 48)
instance (p : List UInt8) : Decidable (okPart p) := by unfold okPart; infer_instance
def four (s : List UInt8) : Bool := (split [46] s).all (fun p => decide (okPart p)) && decide ((split [46] s).length = 4)
theorem four_no {ls : List (List UInt8)} {i : Nat} (hi : i < ls.length) (h : ¬ okPart (ls.getD i [])) : (ls.all (fun p => decide (okPart p)) && decide (ls.length = 4)) = false := by
  have : ls.all (fun p => decide (okPart p)) = false := by
    rw [List.all_eq_false]
    refine ⟨ls.getD i [], ?_, by simpa using h⟩
    rw [List.getD_eq_getElem?_getD, List.getElem?_eq_getElem hi]; exact List.getElem_mem hi
  rw [this]; rfl
theorem split_part (c : UInt8) : ∀ (n : Nat) (s : List UInt8), s.length ≤ n → ∀ x ∈ split [c] s, x.length ≤ s.length
  | 0, s, hn, x, hx => by
    have : s = [] := List.eq_nil_of_length_eq_zero (by omega)
    subst this
    rw [split_no (by simp)] at hx; simp at hx; subst hx; simp
  | n + 1, s, hn, x, hx => by
    by_cases h : c ∈ s
    · obtain ⟨i, hi, _, _, e⟩ := split_has h
      rw [e] at hx
      rcases List.mem_cons.1 hx with rfl | hx
      · simp; omega
      · have := split_part c n (s.drop (i + 1)) (by simp; omega) x hx
        simp at this; omega
    · rw [split_no h] at hx; simp at hx; subst hx; exact Nat.le_refl _
theorem getD_le {ls : List (List UInt8)} {n : Nat} (h : ∀ x ∈ ls, x.length ≤ n) (i : Nat) : (ls.getD i []).length ≤ n := by
  rw [List.getD_eq_getElem?_getD]
  cases hx : ls[i]? with
  | none => simp
  | some x => exact h x (List.mem_of_getElem? hx)
theorem four_step {ls : List (List UInt8)} {i : Nat} (hi : i < ls.length) (ha : (ls.take i).all (fun p => decide (okPart p)) = true) (hp : okPart (ls.getD i [])) : (ls.take (i + 1)).all (fun p => decide (okPart p)) = true := by
  rw [List.take_succ_eq_append_getElem hi, List.all_append, ha, List.getD_eq_getElem?_getD, List.getElem?_eq_getElem hi] at *
  simpa using hp
def ini (c : List UInt8) : List UInt8 := if c = [] ∨ byteAt c 0 ≠ 47 then 47 :: c else c
def fin (d : List UInt8) : List UInt8 := if byteAt d ((d.length : Int) - 1) ≠ 47 then d ++ [47] else d
def pth (c : List UInt8) : List UInt8 := fin (ini c)
theorem ini_len (c : List UInt8) : 1 ≤ (ini c).length ∧ (ini c).length ≤ c.length + 1 := by
  unfold ini; split
  · simp
  · rename_i h; have : c ≠ [] := fun e => h (.inl e)
    have := List.length_pos_iff.2 this; omega
theorem pre_split {s p : List UInt8} {n : Nat} (h : s.take n = p) : s = p ++ s.drop n := by rw [← h, List.take_append_drop]
theorem split_two {c : UInt8} {s : List UInt8} {n : Nat} (hn : (split [c] s).length = n) (h2 : n ≤ 2) : (n = 1 ∧ s = (split [c] s).getD 0 []) ∨ (n = 2 ∧ s = (split [c] s).getD 0 [] ++ c :: (split [c] s).getD 1 []) := by
  by_cases h : c ∈ s
  · obtain ⟨i, hi, _, h1, e⟩ := split_has h
    rw [e] at hn ⊢
    by_cases h3 : c ∈ s.drop (i + 1)
    · obtain ⟨j, _, _, _, e3⟩ := split_has h3
      rw [e3] at hn
      have := split_pos c ((s.drop (i + 1)).drop (j + 1))
      simp only [List.length_cons] at hn; omega
    · rw [split_no h3] at hn ⊢
      refine .inr ⟨by simpa using hn.symm, ?_⟩
      have e4 : s = s.take i ++ s.drop i := (List.take_append_drop i s).symm
      rw [List.drop_eq_getElem_cons hi] at e4
      have e5 : s[i] = c := by rw [← h1, List.getD_eq_getElem?_getD, List.getElem?_eq_getElem hi]; rfl
      rw [e5] at e4
      exact e4
  · rw [split_no h] at hn ⊢
    exact .inl ⟨by simpa using hn.symm, rfl⟩
theorem slash_here {s : List UInt8} {i : Nat} {x : Int} (hi : i < s.length) (hx : x = byteAt s (i : Int)) (h : x = 47) : ∃ t, s.drop i = 47 :: t := by
  refine ⟨s.drop (i + 1), ?_⟩
  have e5 : s[i] = 47 := by
    rw [hx, byteAt_get s i hi] at h
    exact UInt8.toNat_inj.1 (by show s[i].toNat = 47; omega)
  rw [List.drop_eq_getElem_cons hi, e5]
def HostOk (h : List UInt8) : Prop := h ≠ [] ∧ allIn HSET h = true
def PortOk (p : List UInt8) : Prop := p = [] ∨ ∃ d, p = 58 :: d ∧ d ≠ [] ∧ allIn DSET d = true
def PathOk (p : List UInt8) : Prop := (p = [] ∨ ∃ t, p = 47 :: t) ∧ allIn PSET p = true
def Good (s sc au pa h : List UInt8) : Prop := (sc = [104, 116, 116, 112] ∨ sc = [104, 116, 116, 112, 115]) ∧ s = sc ++ ([58, 47, 47] ++ (au ++ pa)) ∧ (∃ pp, au = h ++ pp ∧ PortOk pp) ∧ HostOk h ∧ PathOk pa
theorem fin_y {c d : List UInt8} {x : Int} (hd : d = ini c) (hx : x = byteAt d ((d.length : Int) - 1)) (h : ¬ x = 47) : d ++ [47] = pth c := by
  unfold pth; rw [← hd]; unfold fin; rw [← hx]; exact (if_pos h).symm
theorem fin_n {c d : List UInt8} {x : Int} (hd : d = ini c) (hx : x = byteAt d ((d.length : Int) - 1)) (h : x = 47) : d = pth c := by
  unfold pth; rw [← hd]; unfold fin; rw [← hx]; exact (if_neg (by omega)).symm
theorem good_mk {s sc rest : List UInt8} {i : Nat} {ls : List (List UInt8)} (hsc : sc = [104, 116, 116, 112] ∨ sc = [104, 116, 116, 112, 115]) (hse : s = sc ++ ([58, 47, 47] ++ rest)) (hsl : rest.drop i = [] ∨ ∃ t, rest.drop i = 47 :: t)
    (htwo : ∀ n, ls.length = n → n ≤ 2 → (n = 1 ∧ rest.take i = ls.getD 0 []) ∨ (n = 2 ∧ rest.take i = ls.getD 0 [] ++ 58 :: ls.getD 1 [])) (h1 : (ls.length : Int) ≤ 2) (h2 : ¬ (ls.getD 0 []).length = 0) (h3 : allIn HSET (ls.getD 0 []) = true) (h4 : (ls.length : Int) = 2 → allIn DSET (ls.getD 1 []) = true ∧ ¬ (ls.getD 1 []).length = 0) (h5 : allIn PSET (rest.drop i) = true) :
    ∃ h, Good s sc (rest.take i) (rest.drop i) h ∧ h = ls.getD 0 [] := by
  refine ⟨_, ⟨hsc, by rw [List.take_append_drop]; exact hse, ?_, ⟨fun e => h2 (by rw [e]; rfl), h3⟩, hsl, h5⟩, rfl⟩
  rcases htwo ls.length rfl (by omega) with ⟨_, e⟩ | ⟨h6, e⟩
  · exact ⟨[], by rw [List.append_nil]; exact e, .inl rfl⟩
  · obtain ⟨h7, h8⟩ := h4 (by omega)
    exact ⟨_, e, .inr ⟨_, rfl, fun e => h8 (by rw [e]; rfl), h7⟩⟩
def EU (s : List UInt8) (v : Value) : Prop := ∃ a b c d e ok, v = .tuple #[.agg #[S a, S b, S c, S d, .bool e], .bool ok] ∧ (ok = true → ∃ h, Good s a b c h ∧ d = pth c ∧ e = four h)
theorem EU_no (s a b c d : List UInt8) (e : Bool) : EU s (.tuple #[.agg #[S a, S b, S c, S d, .bool e], .bool false]) := ⟨_, _, _, _, _, _, rfl, fun h => by cases h⟩
theorem eFour (s : List UInt8) (hs : s.length ≤ 4000000000) : FnA Tryd.prog 10 [S s] [] (fun v N => v = .bool (four s)) := by
  refine FnA.enter0 (n := 83) Tryd.func10 rfl rfl fun w0 => ?_
  refine WC.sub (fr' := [(0, _)]) ?_ ⟨rfl, trivial⟩
  refine WC.seq (WC.region ?_)
  refine WL.q (oq_assign rfl) rfl rfl rfl ?_
  refine WL.nil (WE.then_normal (WC.sub (fr' := [(0, _)]) ?_ ⟨rfl, trivial⟩))
  refine WC.seq (WC.region ?_)
  refine WL.q (oq_move rfl) rfl rfl rfl ?_
  refine WL.callA0 (eCut s [46] 0 hs (by decide) (by decide) (by decide)) call8 rfl rfl rfl fun v1_1 N1_1 hR1_1 hN1_1 => ?_
  rw [ecut0] at hR1_1
  have ho1_1 := hR1_1.rebase hN1_1
  have hll := split_length [46] (by decide) s.length s (Nat.le_refl _)
  obtain ⟨ls, hls⟩ : ∃ ls, split [46] s = ls := ⟨_, rfl⟩
  have hlb : ∀ i, (ls.getD i []).length ≤ s.length := by rw [← hls]; exact getD_le (split_part 46 s.length s (Nat.le_refl _))
  rw [hls] at ho1_1 hll
  refine WL.q (oq_assign rfl) rfl rfl rfl ?_
  refine WL.nil (WE.then_normal (WC.sub (fr' := [(3, _)]) ?_ ⟨rfl, trivial⟩))
  refine WC.seq (WC.seq (WC.region ?_))
  refine WL.q (oq_assign rfl) rfl rfl rfl ?_
  refine WL.nil (WE.then_normal (WC.sub (fr' := [(3, _), (4, _)]) ?_ ⟨rfl, rfl, trivial⟩))
  refine WC.block ?_
  refine WC.loop (ι := Nat) (fun (i : Nat) => [(3, v1_1), (4, I (i : Int))]) (fun (i : Nat) => [N1_1]) (fun (i : Nat) => i ≤ ls.length ∧ (ls.take i).all (fun p => decide (okPart p)) = true) (fun (i : Nat) => ls.length - i) (0) ?_ ⟨rfl, rfl, trivial⟩ (List.Perm.refl _) ?_
  · try dsimp only
    exact ⟨by omega, rfl⟩
  · rintro i hp
    try dsimp only at hp
    obtain ⟨hi, hall⟩ := hp
    show WC _ _ _ _ _ _ ([(3, v1_1), (4, I (i : Int))]) ([N1_1])
    refine WC.seq (WC.seq (WC.region ?_))
    refine WL.q (oq_move rfl) rfl rfl rfl ?_
    refine WL.q (oq_move rfl) rfl rfl rfl ?_
    refine WL.q (oq_len_rd ho1_1.rd Tryd.underlying28 rfl) rfl rfl rfl ?_
    refine WL.q (oq_lss rfl rfl) rfl rfl rfl ?_
    refine WL.nil (WE.then_normal (WC.sub (fr' := [(3, _), (4, _), (12, _)]) ?_ ⟨rfl, rfl, rfl, trivial⟩))
    refine WC.cond rfl (fun q3 => ?_) (fun q3 => ?_)
    ·
      try simp only [Z1, Z2, Z3, Z4, Z5, Z6, Z7, Z8, Z9, Z0] at q3
      refine WC.skip (WE.then_normal (WC.sub (fr' := [(3, _), (4, _)]) ?_ ⟨rfl, rfl, trivial⟩))
      refine WC.seq (WC.block (WC.seq (WC.region ?_)))
      refine WL.q (oq_assign rfl) rfl rfl rfl ?_
      refine WL.nil (WE.then_normal (WC.sub (fr' := [(3, _), (4, _), (5, _)]) ?_ ⟨rfl, rfl, rfl, trivial⟩))
      refine WC.seq (WC.seq (WC.region ?_))
      refine WL.q (oq_assign rfl) rfl rfl rfl ?_
      refine WL.nil (WE.then_normal (WC.sub (fr' := [(3, _), (4, _), (5, _), (6, _)]) ?_ ⟨rfl, rfl, rfl, rfl, trivial⟩))
      refine WC.block ?_
      refine WC.loop (ι := Nat × Int) (fun i_ => (fun (j : Nat) (n : Int) => [(3, v1_1), (4, I (i : Int)), (5, I n), (6, I (j : Int))]) i_.1 i_.2) (fun i_ => (fun (j : Nat) (n : Int) => [N1_1]) i_.1 i_.2) (fun i_ => (fun (j : Nat) (n : Int) => j ≤ (ls.getD i []).length ∧ j ≤ 4 ∧ n = nv ((ls.getD i []).take j)) i_.1 i_.2) (fun i_ => (fun (j : Nat) (n : Int) => 4 - j) i_.1 i_.2) ((0, 0)) ?_ ⟨rfl, rfl, rfl, rfl, trivial⟩ (List.Perm.refl _) ?_
      · try dsimp only
        exact ⟨by omega, by omega, rfl⟩
      · rintro ⟨j, n⟩ hp
        try dsimp only at hp
        obtain ⟨hj, hj4, hn⟩ := hp
        show WC _ _ _ _ _ _ ([(3, v1_1), (4, I (i : Int)), (5, I n), (6, I (j : Int))]) ([N1_1])
        refine WC.seq (WC.seq (WC.region ?_))
        refine WL.q (oq_move rfl) rfl rfl rfl ?_
        refine WL.q (oq_move rfl) rfl rfl rfl ?_
        refine WL.q (oq_move rfl) rfl rfl rfl ?_
        refine WL.q (oq_ixaddr ho1_1.rd Tryd.underlying28 ty9 rfl rfl (by (first | omega | (simp only [List.length_cons, List.length_nil, List.length_append, List.length_drop, List.length_take]; omega)))) rfl rfl rfl ?_
        refine WL.q (oq_load_str ho1_1.rd (.head _) flat9 rfl (by (first | omega | (simp only [List.length_cons, List.length_nil, List.length_append, List.length_drop, List.length_take]; omega))) (by first | exact Int.toNat_natCast _ | exact rfl)) rfl rfl rfl ?_
        refine WL.q (oq_len_s Tryd.underlying9 rfl) rfl rfl rfl ?_
        refine WL.q (oq_lss rfl rfl) rfl rfl rfl ?_
        refine WL.q (oq_move rfl) rfl rfl rfl ?_
        refine WL.split 22 rfl (fun s7_7 => ?_) (fun s7_7 => ?_)
        ·
          try simp only [Z1, Z2, Z3, Z4, Z5, Z6, Z7, Z8, Z9, Z0] at s7_7
          refine WL.q (oq_move rfl) rfl rfl rfl ?_
          refine WL.q (oq_lss rfl rfl) rfl rfl rfl ?_
          refine WL.q (oq_pick_t rfl rfl) rfl rfl rfl ?_
          refine WL.nil (WE.then_normal (WC.sub (fr' := [(3, _), (4, _), (5, _), (6, _), (25, _)]) ?_ ⟨rfl, rfl, rfl, rfl, rfl, trivial⟩))
          refine WC.cond rfl (fun q7 => ?_) (fun q7 => ?_)
          ·
            try simp only [Z1, Z2, Z3, Z4, Z5, Z6, Z7, Z8, Z9, Z0] at q7
            refine WC.skip (WE.then_normal (WC.sub (fr' := [(3, _), (4, _), (5, _), (6, _)]) ?_ ⟨rfl, rfl, rfl, rfl, trivial⟩))
            refine WC.seq (WC.block ?_)
            have hnb := nv_bound ((ls.getD i []).take j) (by simp; omega)
            rw [← hn] at hnb
            refine WC.region ?_
            refine WL.q (oq_move rfl) rfl rfl rfl ?_
            refine WL.q (oq_mul rfl rfl (by rw [i64_lo, i64_hi]; (first | omega | (simp only [List.length_cons, List.length_nil, List.length_append, List.length_drop, List.length_take]; omega)))) rfl rfl rfl ?_
            refine WL.q (oq_move rfl) rfl rfl rfl ?_
            refine WL.q (oq_move rfl) rfl rfl rfl ?_
            refine WL.q (oq_ixaddr ho1_1.rd Tryd.underlying28 ty9 rfl rfl (by (first | omega | (simp only [List.length_cons, List.length_nil, List.length_append, List.length_drop, List.length_take]; omega)))) rfl rfl rfl ?_
            refine WL.q (oq_load_str ho1_1.rd (.head _) flat9 rfl (by (first | omega | (simp only [List.length_cons, List.length_nil, List.length_append, List.length_drop, List.length_take]; omega))) (by first | exact Int.toNat_natCast _ | exact rfl)) rfl rfl rfl ?_
            refine WL.q (oq_move rfl) rfl rfl rfl ?_
            refine WL.index_s Tryd.underlying9 rfl rfl (by (first | omega | (simp only [List.length_cons, List.length_nil, List.length_append, List.length_drop, List.length_take]; omega))) rfl rfl fun c9_7 hc9_7 hc9_7l hc9_7u => ?_
            refine WL.q (oq_conv Tryd.underlying5 Tryd.underlying3 rfl (by rw [i64_lo, i64_hi]; (first | omega | (simp only [List.length_cons, List.length_nil, List.length_append, List.length_drop, List.length_take]; omega)))) rfl rfl rfl ?_
            refine WL.q (oq_add rfl rfl (by rw [i64_lo, i64_hi]; (first | omega | (simp only [List.length_cons, List.length_nil, List.length_append, List.length_drop, List.length_take]; omega)))) rfl rfl rfl ?_
            refine WL.q (oq_sub rfl rfl (by rw [i64_lo, i64_hi]; (first | omega | (simp only [List.length_cons, List.length_nil, List.length_append, List.length_drop, List.length_take]; omega)))) rfl rfl rfl ?_
            refine WL.q (oq_assign rfl) rfl rfl rfl ?_
            refine WL.nil (WE.block_normal (WE.then_normal (WC.sub (fr' := [(3, _), (4, _), (5, _), (6, _)]) ?_ ⟨rfl, rfl, rfl, rfl, trivial⟩)))
            refine WC.region ?_
            refine WL.q (oq_move rfl) rfl rfl rfl ?_
            refine WL.q (oq_add rfl rfl (by rw [i64_lo, i64_hi]; (first | omega | (simp only [List.length_cons, List.length_nil, List.length_append, List.length_drop, List.length_take]; omega)))) rfl rfl rfl ?_
            refine WL.q (oq_assign rfl) rfl rfl rfl ?_
            refine WL.nil ?_
            skip
            refine WE.again (j + 1, n * 10 + c9_7 - 48) ?_ ?_ ⟨rfl, rfl, rfl, rfl, trivial⟩ (List.Perm.refl _)
            · try dsimp only
              exact ⟨by omega, by omega, nv_step (by omega) hn hc9_7⟩
            · (try dsimp only); omega
          ·
            try simp only [Z1, Z2, Z3, Z4, Z5, Z6, Z7, Z8, Z9, Z0] at q7
            refine WC.exit (WE.then_exit (WE.then_exit (WE.block_same (WE.then_normal (WC.sub (fr' := [(3, _), (4, _), (5, _)]) ?_ ⟨rfl, rfl, rfl, trivial⟩)))))
            refine WC.seq (WC.region ?_)
            refine WL.q (oq_move rfl) rfl rfl rfl ?_
            refine WL.q (oq_move rfl) rfl rfl rfl ?_
            refine WL.q (oq_ixaddr ho1_1.rd Tryd.underlying28 ty9 rfl rfl (by (first | omega | (simp only [List.length_cons, List.length_nil, List.length_append, List.length_drop, List.length_take]; omega)))) rfl rfl rfl ?_
            refine WL.q (oq_load_str ho1_1.rd (.head _) flat9 rfl (by (first | omega | (simp only [List.length_cons, List.length_nil, List.length_append, List.length_drop, List.length_take]; omega))) (by first | exact Int.toNat_natCast _ | exact rfl)) rfl rfl rfl ?_
            refine WL.qc (oq_call (eAll _ DSET (by have := hlb i; omega) (by decide)) call9 rfl) rfl rfl rfl ?_
            refine WL.q (oq_not rfl) rfl rfl rfl ?_
            refine WL.q (oq_move rfl) rfl rfl rfl ?_
            refine WL.split 45 rfl (fun s10_6 => ?_) (fun s10_6 => ?_)
            ·
              try simp only [Z1, Z2, Z3, Z4, Z5, Z6, Z7, Z8, Z9, Z0] at s10_6
              refine WL.skip rfl rfl rfl ?_
              refine WL.skip rfl rfl rfl ?_
              refine WL.skip rfl rfl rfl ?_
              refine WL.skip rfl rfl rfl ?_
              refine WL.skip rfl rfl rfl ?_
              refine WL.q (oq_pick_t rfl rfl) rfl rfl rfl ?_
              refine WL.q (oq_move rfl) rfl rfl rfl ?_
              refine WL.skip rfl rfl rfl ?_
              refine WL.skip rfl rfl rfl ?_
              refine WL.skip rfl rfl rfl ?_
              refine WL.skip rfl rfl rfl ?_
              refine WL.skip rfl rfl rfl ?_
              refine WL.skip rfl rfl rfl ?_
              refine WL.q (oq_pick_t rfl rfl) rfl rfl rfl ?_
              refine WL.q (oq_move rfl) rfl rfl rfl ?_
              refine WL.skip rfl rfl rfl ?_
              refine WL.skip rfl rfl rfl ?_
              refine WL.q (oq_pick_t rfl rfl) rfl rfl rfl ?_
              refine WL.q (oq_move rfl) rfl rfl rfl ?_
              refine WL.skip rfl rfl rfl ?_
              refine WL.skip rfl rfl rfl ?_
              refine WL.skip rfl rfl rfl ?_
              refine WL.skip rfl rfl rfl ?_
              refine WL.skip rfl rfl rfl ?_
              refine WL.skip rfl rfl rfl ?_
              refine WL.skip rfl rfl rfl ?_
              refine WL.skip rfl rfl rfl ?_
              refine WL.skip rfl rfl rfl ?_
              refine WL.skip rfl rfl rfl ?_
              refine WL.skip rfl rfl rfl ?_
              refine WL.skip rfl rfl rfl ?_
              refine WL.skip rfl rfl rfl ?_
              refine WL.skip rfl rfl rfl ?_
              refine WL.q (oq_pick_t rfl rfl) rfl rfl rfl ?_
              refine WL.nil (WE.then_normal (WC.sub (fr' := [(3, _), (4, _), (79, _)]) ?_ ⟨rfl, rfl, rfl, trivial⟩))
              refine WC.cond_t rfl ?_
              refine WC.seq (WC.region ?_)
              refine WL.q (oq_assign rfl) rfl rfl rfl ?_
              refine WL.nil (WE.then_normal (WC.sub (fr' := [(2, _)]) ?_ ⟨rfl, trivial⟩))
              refine WC.ret (WE.block_ret (WE.then_ret (WE.then_ret (WE.block_ret (WE.then_ret ?_)))))
              refine WE.forget ho1_1.fresh ?_
              refine WE.add0 ?_
              refine WE.endA0 (.inl rfl) (res1 Tryd.results10 rfl) ?_ fresh0
              refine congrArg Value.bool (Eq.symm ?_)
              unfold four; rw [hls]
              first
                | (refine four_no (i := i) (by omega) ?_
                   rintro ⟨h1, h2, h3, h4, h5⟩
                   first
                     | exact Bool.noConfusion (h1.symm.trans s10_6)
                     | exact h2 (List.eq_nil_of_length_eq_zero (by assumption))
                     | omega
                     | (have hnf : n = nv (ls.getD i []) := by rw [hn, List.take_of_length_le (by omega)]
                        omega)
                     | exact h5 ⟨by omega, by omega⟩)
                | (obtain rfl : i = ls.length := by omega
                   rw [List.take_length] at hall
                   rw [hall, Bool.true_and]
                   simp; omega)
            ·
              try simp only [Z1, Z2, Z3, Z4, Z5, Z6, Z7, Z8, Z9, Z0] at s10_6
              refine WL.q (oq_move rfl) rfl rfl rfl ?_
              refine WL.q (oq_move rfl) rfl rfl rfl ?_
              refine WL.q (oq_ixaddr ho1_1.rd Tryd.underlying28 ty9 rfl rfl (by (first | omega | (simp only [List.length_cons, List.length_nil, List.length_append, List.length_drop, List.length_take]; omega)))) rfl rfl rfl ?_
              refine WL.q (oq_load_str ho1_1.rd (.head _) flat9 rfl (by (first | omega | (simp only [List.length_cons, List.length_nil, List.length_append, List.length_drop, List.length_take]; omega))) (by first | exact Int.toNat_natCast _ | exact rfl)) rfl rfl rfl ?_
              refine WL.q (oq_seql rfl rfl) rfl rfl rfl ?_
              refine WL.q (oq_pick_f rfl rfl) rfl rfl rfl ?_
              refine WL.q (oq_move rfl) rfl rfl rfl ?_
              refine WL.split 52 rfl (fun s10_13 => ?_) (fun s10_13 => ?_)
              ·
                try simp only [Z1, Z2, Z3, Z4, Z5, Z6, Z7, Z8, Z9, Z0] at s10_13
                refine WL.skip rfl rfl rfl ?_
                refine WL.skip rfl rfl rfl ?_
                refine WL.skip rfl rfl rfl ?_
                refine WL.skip rfl rfl rfl ?_
                refine WL.skip rfl rfl rfl ?_
                refine WL.skip rfl rfl rfl ?_
                refine WL.q (oq_pick_t rfl rfl) rfl rfl rfl ?_
                refine WL.q (oq_move rfl) rfl rfl rfl ?_
                refine WL.skip rfl rfl rfl ?_
                refine WL.skip rfl rfl rfl ?_
                refine WL.q (oq_pick_t rfl rfl) rfl rfl rfl ?_
                refine WL.q (oq_move rfl) rfl rfl rfl ?_
                refine WL.skip rfl rfl rfl ?_
                refine WL.skip rfl rfl rfl ?_
                refine WL.skip rfl rfl rfl ?_
                refine WL.skip rfl rfl rfl ?_
                refine WL.skip rfl rfl rfl ?_
                refine WL.skip rfl rfl rfl ?_
                refine WL.skip rfl rfl rfl ?_
                refine WL.skip rfl rfl rfl ?_
                refine WL.skip rfl rfl rfl ?_
                refine WL.skip rfl rfl rfl ?_
                refine WL.skip rfl rfl rfl ?_
                refine WL.skip rfl rfl rfl ?_
                refine WL.skip rfl rfl rfl ?_
                refine WL.skip rfl rfl rfl ?_
                refine WL.q (oq_pick_t rfl rfl) rfl rfl rfl ?_
                refine WL.nil (WE.then_normal (WC.sub (fr' := [(3, _), (4, _), (79, _)]) ?_ ⟨rfl, rfl, rfl, trivial⟩))
                refine WC.cond_t rfl ?_
                refine WC.seq (WC.region ?_)
                refine WL.q (oq_assign rfl) rfl rfl rfl ?_
                refine WL.nil (WE.then_normal (WC.sub (fr' := [(2, _)]) ?_ ⟨rfl, trivial⟩))
                refine WC.ret (WE.block_ret (WE.then_ret (WE.then_ret (WE.block_ret (WE.then_ret ?_)))))
                refine WE.forget ho1_1.fresh ?_
                refine WE.add0 ?_
                refine WE.endA0 (.inl rfl) (res1 Tryd.results10 rfl) ?_ fresh0
                refine congrArg Value.bool (Eq.symm ?_)
                unfold four; rw [hls]
                first
                  | (refine four_no (i := i) (by omega) ?_
                     rintro ⟨h1, h2, h3, h4, h5⟩
                     first
                       | exact Bool.noConfusion (h1.symm.trans s10_6)
                       | exact h2 (List.eq_nil_of_length_eq_zero (by assumption))
                       | omega
                       | (have hnf : n = nv (ls.getD i []) := by rw [hn, List.take_of_length_le (by omega)]
                          omega)
                       | exact h5 ⟨by omega, by omega⟩)
                  | (obtain rfl : i = ls.length := by omega
                     rw [List.take_length] at hall
                     rw [hall, Bool.true_and]
                     simp; omega)
              ·
                try simp only [Z1, Z2, Z3, Z4, Z5, Z6, Z7, Z8, Z9, Z0] at s10_13
                refine WL.q (oq_move rfl) rfl rfl rfl ?_
                refine WL.q (oq_move rfl) rfl rfl rfl ?_
                refine WL.q (oq_ixaddr ho1_1.rd Tryd.underlying28 ty9 rfl rfl (by (first | omega | (simp only [List.length_cons, List.length_nil, List.length_append, List.length_drop, List.length_take]; omega)))) rfl rfl rfl ?_
                refine WL.q (oq_load_str ho1_1.rd (.head _) flat9 rfl (by (first | omega | (simp only [List.length_cons, List.length_nil, List.length_append, List.length_drop, List.length_take]; omega))) (by first | exact Int.toNat_natCast _ | exact rfl)) rfl rfl rfl ?_
                refine WL.q (oq_len_s Tryd.underlying9 rfl) rfl rfl rfl ?_
                refine WL.q (oq_gtr rfl rfl) rfl rfl rfl ?_
                refine WL.q (oq_pick_f rfl rfl) rfl rfl rfl ?_
                refine WL.q (oq_move rfl) rfl rfl rfl ?_
                refine WL.split 60 rfl (fun s10_21 => ?_) (fun s10_21 => ?_)
                ·
                  try simp only [Z1, Z2, Z3, Z4, Z5, Z6, Z7, Z8, Z9, Z0] at s10_21
                  refine WL.skip rfl rfl rfl ?_
                  refine WL.skip rfl rfl rfl ?_
                  refine WL.q (oq_pick_t rfl rfl) rfl rfl rfl ?_
                  refine WL.q (oq_move rfl) rfl rfl rfl ?_
                  refine WL.skip rfl rfl rfl ?_
                  refine WL.skip rfl rfl rfl ?_
                  refine WL.skip rfl rfl rfl ?_
                  refine WL.skip rfl rfl rfl ?_
                  refine WL.skip rfl rfl rfl ?_
                  refine WL.skip rfl rfl rfl ?_
                  refine WL.skip rfl rfl rfl ?_
                  refine WL.skip rfl rfl rfl ?_
                  refine WL.skip rfl rfl rfl ?_
                  refine WL.skip rfl rfl rfl ?_
                  refine WL.skip rfl rfl rfl ?_
                  refine WL.skip rfl rfl rfl ?_
                  refine WL.skip rfl rfl rfl ?_
                  refine WL.skip rfl rfl rfl ?_
                  refine WL.q (oq_pick_t rfl rfl) rfl rfl rfl ?_
                  refine WL.nil (WE.then_normal (WC.sub (fr' := [(3, _), (4, _), (79, _)]) ?_ ⟨rfl, rfl, rfl, trivial⟩))
                  refine WC.cond_t rfl ?_
                  refine WC.seq (WC.region ?_)
                  refine WL.q (oq_assign rfl) rfl rfl rfl ?_
                  refine WL.nil (WE.then_normal (WC.sub (fr' := [(2, _)]) ?_ ⟨rfl, trivial⟩))
                  refine WC.ret (WE.block_ret (WE.then_ret (WE.then_ret (WE.block_ret (WE.then_ret ?_)))))
                  refine WE.forget ho1_1.fresh ?_
                  refine WE.add0 ?_
                  refine WE.endA0 (.inl rfl) (res1 Tryd.results10 rfl) ?_ fresh0
                  refine congrArg Value.bool (Eq.symm ?_)
                  unfold four; rw [hls]
                  first
                    | (refine four_no (i := i) (by omega) ?_
                       rintro ⟨h1, h2, h3, h4, h5⟩
                       first
                         | exact Bool.noConfusion (h1.symm.trans s10_6)
                         | exact h2 (List.eq_nil_of_length_eq_zero (by assumption))
                         | omega
                         | (have hnf : n = nv (ls.getD i []) := by rw [hn, List.take_of_length_le (by omega)]
                            omega)
                         | exact h5 ⟨by omega, by omega⟩)
                    | (obtain rfl : i = ls.length := by omega
                       rw [List.take_length] at hall
                       rw [hall, Bool.true_and]
                       simp; omega)
                ·
                  try simp only [Z1, Z2, Z3, Z4, Z5, Z6, Z7, Z8, Z9, Z0] at s10_21
                  refine WL.q (oq_move rfl) rfl rfl rfl ?_
                  refine WL.q (oq_gtr rfl rfl) rfl rfl rfl ?_
                  refine WL.q (oq_pick_f rfl rfl) rfl rfl rfl ?_
                  refine WL.q (oq_move rfl) rfl rfl rfl ?_
                  refine WL.split 64 rfl (fun s10_25 => ?_) (fun s10_25 => ?_)
                  ·
                    try simp only [Z1, Z2, Z3, Z4, Z5, Z6, Z7, Z8, Z9, Z0] at s10_25
                    refine WL.skip rfl rfl rfl ?_
                    refine WL.skip rfl rfl rfl ?_
                    refine WL.skip rfl rfl rfl ?_
                    refine WL.skip rfl rfl rfl ?_
                    refine WL.skip rfl rfl rfl ?_
                    refine WL.skip rfl rfl rfl ?_
                    refine WL.skip rfl rfl rfl ?_
                    refine WL.skip rfl rfl rfl ?_
                    refine WL.skip rfl rfl rfl ?_
                    refine WL.skip rfl rfl rfl ?_
                    refine WL.skip rfl rfl rfl ?_
                    refine WL.skip rfl rfl rfl ?_
                    refine WL.skip rfl rfl rfl ?_
                    refine WL.skip rfl rfl rfl ?_
                    refine WL.q (oq_pick_t rfl rfl) rfl rfl rfl ?_
                    refine WL.nil (WE.then_normal (WC.sub (fr' := [(3, _), (4, _), (79, _)]) ?_ ⟨rfl, rfl, rfl, trivial⟩))
                    refine WC.cond_t rfl ?_
                    refine WC.seq (WC.region ?_)
                    refine WL.q (oq_assign rfl) rfl rfl rfl ?_
                    refine WL.nil (WE.then_normal (WC.sub (fr' := [(2, _)]) ?_ ⟨rfl, trivial⟩))
                    refine WC.ret (WE.block_ret (WE.then_ret (WE.then_ret (WE.block_ret (WE.then_ret ?_)))))
                    refine WE.forget ho1_1.fresh ?_
                    refine WE.add0 ?_
                    refine WE.endA0 (.inl rfl) (res1 Tryd.results10 rfl) ?_ fresh0
                    refine congrArg Value.bool (Eq.symm ?_)
                    unfold four; rw [hls]
                    first
                      | (refine four_no (i := i) (by omega) ?_
                         rintro ⟨h1, h2, h3, h4, h5⟩
                         first
                           | exact Bool.noConfusion (h1.symm.trans s10_6)
                           | exact h2 (List.eq_nil_of_length_eq_zero (by assumption))
                           | omega
                           | (have hnf : n = nv (ls.getD i []) := by rw [hn, List.take_of_length_le (by omega)]
                              omega)
                           | exact h5 ⟨by omega, by omega⟩)
                      | (obtain rfl : i = ls.length := by omega
                         rw [List.take_length] at hall
                         rw [hall, Bool.true_and]
                         simp; omega)
                  ·
                    try simp only [Z1, Z2, Z3, Z4, Z5, Z6, Z7, Z8, Z9, Z0] at s10_25
                    refine WL.q (oq_move rfl) rfl rfl rfl ?_
                    refine WL.q (oq_move rfl) rfl rfl rfl ?_
                    refine WL.q (oq_ixaddr ho1_1.rd Tryd.underlying28 ty9 rfl rfl (by (first | omega | (simp only [List.length_cons, List.length_nil, List.length_append, List.length_drop, List.length_take]; omega)))) rfl rfl rfl ?_
                    refine WL.q (oq_load_str ho1_1.rd (.head _) flat9 rfl (by (first | omega | (simp only [List.length_cons, List.length_nil, List.length_append, List.length_drop, List.length_take]; omega))) (by first | exact Int.toNat_natCast _ | exact rfl)) rfl rfl rfl ?_
                    refine WL.q (oq_len_s Tryd.underlying9 rfl) rfl rfl rfl ?_
                    refine WL.q (oq_gtr rfl rfl) rfl rfl rfl ?_
                    refine WL.q (oq_move rfl) rfl rfl rfl ?_
                    refine WL.split 71 rfl (fun s10_32 => ?_) (fun s10_32 => ?_)
                    ·
                      try simp only [Z1, Z2, Z3, Z4, Z5, Z6, Z7, Z8, Z9, Z0] at s10_32
                      refine WL.q (oq_move rfl) rfl rfl rfl ?_
                      refine WL.q (oq_move rfl) rfl rfl rfl ?_
                      refine WL.q (oq_ixaddr ho1_1.rd Tryd.underlying28 ty9 rfl rfl (by (first | omega | (simp only [List.length_cons, List.length_nil, List.length_append, List.length_drop, List.length_take]; omega)))) rfl rfl rfl ?_
                      refine WL.q (oq_load_str ho1_1.rd (.head _) flat9 rfl (by (first | omega | (simp only [List.length_cons, List.length_nil, List.length_append, List.length_drop, List.length_take]; omega))) (by first | exact Int.toNat_natCast _ | exact rfl)) rfl rfl rfl ?_
                      refine WL.index_s Tryd.underlying9 rfl rfl (by (first | omega | (simp only [List.length_cons, List.length_nil, List.length_append, List.length_drop, List.length_take]; omega))) rfl rfl fun c10_37 hc10_37 hc10_37l hc10_37u => ?_
                      refine WL.q (oq_eql rfl rfl) rfl rfl rfl ?_
                      refine WL.q (oq_pick_t rfl rfl) rfl rfl rfl ?_
                      refine WL.q (oq_pick_f rfl rfl) rfl rfl rfl ?_
                      refine WL.nil (WE.then_normal (WC.sub (fr' := [(3, _), (4, _), (79, _)]) ?_ ⟨rfl, rfl, rfl, trivial⟩))
                      refine WC.cond rfl (fun q10 => ?_) (fun q10 => ?_)
                      ·
                        try simp only [Z1, Z2, Z3, Z4, Z5, Z6, Z7, Z8, Z9, Z0] at q10
                        refine WC.seq (WC.region ?_)
                        refine WL.q (oq_assign rfl) rfl rfl rfl ?_
                        refine WL.nil (WE.then_normal (WC.sub (fr' := [(2, _)]) ?_ ⟨rfl, trivial⟩))
                        refine WC.ret (WE.block_ret (WE.then_ret (WE.then_ret (WE.block_ret (WE.then_ret ?_)))))
                        refine WE.forget ho1_1.fresh ?_
                        refine WE.add0 ?_
                        refine WE.endA0 (.inl rfl) (res1 Tryd.results10 rfl) ?_ fresh0
                        refine congrArg Value.bool (Eq.symm ?_)
                        unfold four; rw [hls]
                        first
                          | (refine four_no (i := i) (by omega) ?_
                             rintro ⟨h1, h2, h3, h4, h5⟩
                             first
                               | exact Bool.noConfusion (h1.symm.trans s10_6)
                               | exact h2 (List.eq_nil_of_length_eq_zero (by assumption))
                               | omega
                               | (have hnf : n = nv (ls.getD i []) := by rw [hn, List.take_of_length_le (by omega)]
                                  omega)
                               | exact h5 ⟨by omega, by omega⟩)
                          | (obtain rfl : i = ls.length := by omega
                             rw [List.take_length] at hall
                             rw [hall, Bool.true_and]
                             simp; omega)
                      ·
                        try simp only [Z1, Z2, Z3, Z4, Z5, Z6, Z7, Z8, Z9, Z0] at q10
                        refine WC.skip (WE.block_normal (WE.then_normal (WC.sub (fr' := [(3, _), (4, _)]) ?_ ⟨rfl, rfl, trivial⟩)))
                        refine WC.region ?_
                        refine WL.q (oq_move rfl) rfl rfl rfl ?_
                        refine WL.q (oq_add rfl rfl (by rw [i64_lo, i64_hi]; (first | omega | (simp only [List.length_cons, List.length_nil, List.length_append, List.length_drop, List.length_take]; omega)))) rfl rfl rfl ?_
                        refine WL.q (oq_assign rfl) rfl rfl rfl ?_
                        refine WL.nil ?_
                        refine WE.again (i + 1) ?_ ?_ ⟨rfl, rfl, trivial⟩ (List.Perm.refl _)
                        · try dsimp only
                          have hnf : n = nv (ls.getD i []) := by rw [hn, List.take_of_length_le (by omega)]
                          exact ⟨by omega, four_step (by omega) hall ⟨s10_6, fun e => s10_13 (by rw [e]; rfl), by omega, by omega, fun ⟨h1, h2⟩ => by omega⟩⟩
                        · (try dsimp only); omega
                    ·
                      try simp only [Z1, Z2, Z3, Z4, Z5, Z6, Z7, Z8, Z9, Z0] at s10_32
                      refine WL.skip rfl rfl rfl ?_
                      refine WL.skip rfl rfl rfl ?_
                      refine WL.skip rfl rfl rfl ?_
                      refine WL.skip rfl rfl rfl ?_
                      refine WL.skip rfl rfl rfl ?_
                      refine WL.skip rfl rfl rfl ?_
                      refine WL.q (oq_pick_f rfl rfl) rfl rfl rfl ?_
                      refine WL.q (oq_pick_f rfl rfl) rfl rfl rfl ?_
                      refine WL.nil (WE.then_normal (WC.sub (fr' := [(3, _), (4, _), (79, _)]) ?_ ⟨rfl, rfl, rfl, trivial⟩))
                      refine WC.cond_f rfl ?_
                      refine WC.skip (WE.block_normal (WE.then_normal (WC.sub (fr' := [(3, _), (4, _)]) ?_ ⟨rfl, rfl, trivial⟩)))
                      refine WC.region ?_
                      refine WL.q (oq_move rfl) rfl rfl rfl ?_
                      refine WL.q (oq_add rfl rfl (by rw [i64_lo, i64_hi]; (first | omega | (simp only [List.length_cons, List.length_nil, List.length_append, List.length_drop, List.length_take]; omega)))) rfl rfl rfl ?_
                      refine WL.q (oq_assign rfl) rfl rfl rfl ?_
                      refine WL.nil ?_
                      refine WE.again (i + 1) ?_ ?_ ⟨rfl, rfl, trivial⟩ (List.Perm.refl _)
                      · try dsimp only
                        have hnf : n = nv (ls.getD i []) := by rw [hn, List.take_of_length_le (by omega)]
                        exact ⟨by omega, four_step (by omega) hall ⟨s10_6, fun e => s10_13 (by rw [e]; rfl), by omega, by omega, fun ⟨h1, h2⟩ => by omega⟩⟩
                      · (try dsimp only); omega
        ·
          try simp only [Z1, Z2, Z3, Z4, Z5, Z6, Z7, Z8, Z9, Z0] at s7_7
          refine WL.skip rfl rfl rfl ?_
          refine WL.skip rfl rfl rfl ?_
          refine WL.q (oq_pick_f rfl rfl) rfl rfl rfl ?_
          refine WL.nil (WE.then_normal (WC.sub (fr' := [(3, _), (4, _), (5, _), (6, _), (25, _)]) ?_ ⟨rfl, rfl, rfl, rfl, rfl, trivial⟩))
          refine WC.cond_f rfl ?_
          refine WC.exit (WE.then_exit (WE.then_exit (WE.block_same (WE.then_normal (WC.sub (fr' := [(3, _), (4, _), (5, _)]) ?_ ⟨rfl, rfl, rfl, trivial⟩)))))
          refine WC.seq (WC.region ?_)
          refine WL.q (oq_move rfl) rfl rfl rfl ?_
          refine WL.q (oq_move rfl) rfl rfl rfl ?_
          refine WL.q (oq_ixaddr ho1_1.rd Tryd.underlying28 ty9 rfl rfl (by (first | omega | (simp only [List.length_cons, List.length_nil, List.length_append, List.length_drop, List.length_take]; omega)))) rfl rfl rfl ?_
          refine WL.q (oq_load_str ho1_1.rd (.head _) flat9 rfl (by (first | omega | (simp only [List.length_cons, List.length_nil, List.length_append, List.length_drop, List.length_take]; omega))) (by first | exact Int.toNat_natCast _ | exact rfl)) rfl rfl rfl ?_
          refine WL.qc (oq_call (eAll _ DSET (by have := hlb i; omega) (by decide)) call9 rfl) rfl rfl rfl ?_
          refine WL.q (oq_not rfl) rfl rfl rfl ?_
          refine WL.q (oq_move rfl) rfl rfl rfl ?_
          refine WL.split 45 rfl (fun s10_6 => ?_) (fun s10_6 => ?_)
          ·
            try simp only [Z1, Z2, Z3, Z4, Z5, Z6, Z7, Z8, Z9, Z0] at s10_6
            refine WL.skip rfl rfl rfl ?_
            refine WL.skip rfl rfl rfl ?_
            refine WL.skip rfl rfl rfl ?_
            refine WL.skip rfl rfl rfl ?_
            refine WL.skip rfl rfl rfl ?_
            refine WL.q (oq_pick_t rfl rfl) rfl rfl rfl ?_
            refine WL.q (oq_move rfl) rfl rfl rfl ?_
            refine WL.skip rfl rfl rfl ?_
            refine WL.skip rfl rfl rfl ?_
            refine WL.skip rfl rfl rfl ?_
            refine WL.skip rfl rfl rfl ?_
            refine WL.skip rfl rfl rfl ?_
            refine WL.skip rfl rfl rfl ?_
            refine WL.q (oq_pick_t rfl rfl) rfl rfl rfl ?_
            refine WL.q (oq_move rfl) rfl rfl rfl ?_
            refine WL.skip rfl rfl rfl ?_
            refine WL.skip rfl rfl rfl ?_
            refine WL.q (oq_pick_t rfl rfl) rfl rfl rfl ?_
            refine WL.q (oq_move rfl) rfl rfl rfl ?_
            refine WL.skip rfl rfl rfl ?_
            refine WL.skip rfl rfl rfl ?_
            refine WL.skip rfl rfl rfl ?_
            refine WL.skip rfl rfl rfl ?_
            refine WL.skip rfl rfl rfl ?_
            refine WL.skip rfl rfl rfl ?_
            refine WL.skip rfl rfl rfl ?_
            refine WL.skip rfl rfl rfl ?_
            refine WL.skip rfl rfl rfl ?_
            refine WL.skip rfl rfl rfl ?_
            refine WL.skip rfl rfl rfl ?_
            refine WL.skip rfl rfl rfl ?_
            refine WL.skip rfl rfl rfl ?_
            refine WL.skip rfl rfl rfl ?_
            refine WL.q (oq_pick_t rfl rfl) rfl rfl rfl ?_
            refine WL.nil (WE.then_normal (WC.sub (fr' := [(3, _), (4, _), (79, _)]) ?_ ⟨rfl, rfl, rfl, trivial⟩))
            refine WC.cond_t rfl ?_
            refine WC.seq (WC.region ?_)
            refine WL.q (oq_assign rfl) rfl rfl rfl ?_
            refine WL.nil (WE.then_normal (WC.sub (fr' := [(2, _)]) ?_ ⟨rfl, trivial⟩))
            refine WC.ret (WE.block_ret (WE.then_ret (WE.then_ret (WE.block_ret (WE.then_ret ?_)))))
            refine WE.forget ho1_1.fresh ?_
            refine WE.add0 ?_
            refine WE.endA0 (.inl rfl) (res1 Tryd.results10 rfl) ?_ fresh0
            refine congrArg Value.bool (Eq.symm ?_)
            unfold four; rw [hls]
            first
              | (refine four_no (i := i) (by omega) ?_
                 rintro ⟨h1, h2, h3, h4, h5⟩
                 first
                   | exact Bool.noConfusion (h1.symm.trans s10_6)
                   | exact h2 (List.eq_nil_of_length_eq_zero (by assumption))
                   | omega
                   | (have hnf : n = nv (ls.getD i []) := by rw [hn, List.take_of_length_le (by omega)]
                      omega)
                   | exact h5 ⟨by omega, by omega⟩)
              | (obtain rfl : i = ls.length := by omega
                 rw [List.take_length] at hall
                 rw [hall, Bool.true_and]
                 simp; omega)
          ·
            try simp only [Z1, Z2, Z3, Z4, Z5, Z6, Z7, Z8, Z9, Z0] at s10_6
            refine WL.q (oq_move rfl) rfl rfl rfl ?_
            refine WL.q (oq_move rfl) rfl rfl rfl ?_
            refine WL.q (oq_ixaddr ho1_1.rd Tryd.underlying28 ty9 rfl rfl (by (first | omega | (simp only [List.length_cons, List.length_nil, List.length_append, List.length_drop, List.length_take]; omega)))) rfl rfl rfl ?_
            refine WL.q (oq_load_str ho1_1.rd (.head _) flat9 rfl (by (first | omega | (simp only [List.length_cons, List.length_nil, List.length_append, List.length_drop, List.length_take]; omega))) (by first | exact Int.toNat_natCast _ | exact rfl)) rfl rfl rfl ?_
            refine WL.q (oq_seql rfl rfl) rfl rfl rfl ?_
            refine WL.q (oq_pick_f rfl rfl) rfl rfl rfl ?_
            refine WL.q (oq_move rfl) rfl rfl rfl ?_
            refine WL.split 52 rfl (fun s10_13 => ?_) (fun s10_13 => ?_)
            ·
              try simp only [Z1, Z2, Z3, Z4, Z5, Z6, Z7, Z8, Z9, Z0] at s10_13
              refine WL.skip rfl rfl rfl ?_
              refine WL.skip rfl rfl rfl ?_
              refine WL.skip rfl rfl rfl ?_
              refine WL.skip rfl rfl rfl ?_
              refine WL.skip rfl rfl rfl ?_
              refine WL.skip rfl rfl rfl ?_
              refine WL.q (oq_pick_t rfl rfl) rfl rfl rfl ?_
              refine WL.q (oq_move rfl) rfl rfl rfl ?_
              refine WL.skip rfl rfl rfl ?_
              refine WL.skip rfl rfl rfl ?_
              refine WL.q (oq_pick_t rfl rfl) rfl rfl rfl ?_
              refine WL.q (oq_move rfl) rfl rfl rfl ?_
              refine WL.skip rfl rfl rfl ?_
              refine WL.skip rfl rfl rfl ?_
              refine WL.skip rfl rfl rfl ?_
              refine WL.skip rfl rfl rfl ?_
              refine WL.skip rfl rfl rfl ?_
              refine WL.skip rfl rfl rfl ?_
              refine WL.skip rfl rfl rfl ?_
              refine WL.skip rfl rfl rfl ?_
              refine WL.skip rfl rfl rfl ?_
              refine WL.skip rfl rfl rfl ?_
              refine WL.skip rfl rfl rfl ?_
              refine WL.skip rfl rfl rfl ?_
              refine WL.skip rfl rfl rfl ?_
              refine WL.skip rfl rfl rfl ?_
              refine WL.q (oq_pick_t rfl rfl) rfl rfl rfl ?_
              refine WL.nil (WE.then_normal (WC.sub (fr' := [(3, _), (4, _), (79, _)]) ?_ ⟨rfl, rfl, rfl, trivial⟩))
              refine WC.cond_t rfl ?_
              refine WC.seq (WC.region ?_)
              refine WL.q (oq_assign rfl) rfl rfl rfl ?_
              refine WL.nil (WE.then_normal (WC.sub (fr' := [(2, _)]) ?_ ⟨rfl, trivial⟩))
              refine WC.ret (WE.block_ret (WE.then_ret (WE.then_ret (WE.block_ret (WE.then_ret ?_)))))
              refine WE.forget ho1_1.fresh ?_
              refine WE.add0 ?_
              refine WE.endA0 (.inl rfl) (res1 Tryd.results10 rfl) ?_ fresh0
              refine congrArg Value.bool (Eq.symm ?_)
              unfold four; rw [hls]
              first
                | (refine four_no (i := i) (by omega) ?_
                   rintro ⟨h1, h2, h3, h4, h5⟩
                   first
                     | exact Bool.noConfusion (h1.symm.trans s10_6)
                     | exact h2 (List.eq_nil_of_length_eq_zero (by assumption))
                     | omega
                     | (have hnf : n = nv (ls.getD i []) := by rw [hn, List.take_of_length_le (by omega)]
                        omega)
                     | exact h5 ⟨by omega, by omega⟩)
                | (obtain rfl : i = ls.length := by omega
                   rw [List.take_length] at hall
                   rw [hall, Bool.true_and]
                   simp; omega)
            ·
              try simp only [Z1, Z2, Z3, Z4, Z5, Z6, Z7, Z8, Z9, Z0] at s10_13
              refine WL.q (oq_move rfl) rfl rfl rfl ?_
              refine WL.q (oq_move rfl) rfl rfl rfl ?_
              refine WL.q (oq_ixaddr ho1_1.rd Tryd.underlying28 ty9 rfl rfl (by (first | omega | (simp only [List.length_cons, List.length_nil, List.length_append, List.length_drop, List.length_take]; omega)))) rfl rfl rfl ?_
              refine WL.q (oq_load_str ho1_1.rd (.head _) flat9 rfl (by (first | omega | (simp only [List.length_cons, List.length_nil, List.length_append, List.length_drop, List.length_take]; omega))) (by first | exact Int.toNat_natCast _ | exact rfl)) rfl rfl rfl ?_
              refine WL.q (oq_len_s Tryd.underlying9 rfl) rfl rfl rfl ?_
              refine WL.q (oq_gtr rfl rfl) rfl rfl rfl ?_
              refine WL.q (oq_pick_f rfl rfl) rfl rfl rfl ?_
              refine WL.q (oq_move rfl) rfl rfl rfl ?_
              refine WL.split 60 rfl (fun s10_21 => ?_) (fun s10_21 => ?_)
              ·
                try simp only [Z1, Z2, Z3, Z4, Z5, Z6, Z7, Z8, Z9, Z0] at s10_21
                refine WL.skip rfl rfl rfl ?_
                refine WL.skip rfl rfl rfl ?_
                refine WL.q (oq_pick_t rfl rfl) rfl rfl rfl ?_
                refine WL.q (oq_move rfl) rfl rfl rfl ?_
                refine WL.skip rfl rfl rfl ?_
                refine WL.skip rfl rfl rfl ?_
                refine WL.skip rfl rfl rfl ?_
                refine WL.skip rfl rfl rfl ?_
                refine WL.skip rfl rfl rfl ?_
                refine WL.skip rfl rfl rfl ?_
                refine WL.skip rfl rfl rfl ?_
                refine WL.skip rfl rfl rfl ?_
                refine WL.skip rfl rfl rfl ?_
                refine WL.skip rfl rfl rfl ?_
                refine WL.skip rfl rfl rfl ?_
                refine WL.skip rfl rfl rfl ?_
                refine WL.skip rfl rfl rfl ?_
                refine WL.skip rfl rfl rfl ?_
                refine WL.q (oq_pick_t rfl rfl) rfl rfl rfl ?_
                refine WL.nil (WE.then_normal (WC.sub (fr' := [(3, _), (4, _), (79, _)]) ?_ ⟨rfl, rfl, rfl, trivial⟩))
                refine WC.cond_t rfl ?_
                refine WC.seq (WC.region ?_)
                refine WL.q (oq_assign rfl) rfl rfl rfl ?_
                refine WL.nil (WE.then_normal (WC.sub (fr' := [(2, _)]) ?_ ⟨rfl, trivial⟩))
                refine WC.ret (WE.block_ret (WE.then_ret (WE.then_ret (WE.block_ret (WE.then_ret ?_)))))
                refine WE.forget ho1_1.fresh ?_
                refine WE.add0 ?_
                refine WE.endA0 (.inl rfl) (res1 Tryd.results10 rfl) ?_ fresh0
                refine congrArg Value.bool (Eq.symm ?_)
                unfold four; rw [hls]
                first
                  | (refine four_no (i := i) (by omega) ?_
                     rintro ⟨h1, h2, h3, h4, h5⟩
                     first
                       | exact Bool.noConfusion (h1.symm.trans s10_6)
                       | exact h2 (List.eq_nil_of_length_eq_zero (by assumption))
                       | omega
                       | (have hnf : n = nv (ls.getD i []) := by rw [hn, List.take_of_length_le (by omega)]
                          omega)
                       | exact h5 ⟨by omega, by omega⟩)
                  | (obtain rfl : i = ls.length := by omega
                     rw [List.take_length] at hall
                     rw [hall, Bool.true_and]
                     simp; omega)
              ·
                try simp only [Z1, Z2, Z3, Z4, Z5, Z6, Z7, Z8, Z9, Z0] at s10_21
                refine WL.q (oq_move rfl) rfl rfl rfl ?_
                refine WL.q (oq_gtr rfl rfl) rfl rfl rfl ?_
                refine WL.q (oq_pick_f rfl rfl) rfl rfl rfl ?_
                refine WL.q (oq_move rfl) rfl rfl rfl ?_
                refine WL.split 64 rfl (fun s10_25 => ?_) (fun s10_25 => ?_)
                ·
                  try simp only [Z1, Z2, Z3, Z4, Z5, Z6, Z7, Z8, Z9, Z0] at s10_25
                  refine WL.skip rfl rfl rfl ?_
                  refine WL.skip rfl rfl rfl ?_
                  refine WL.skip rfl rfl rfl ?_
                  refine WL.skip rfl rfl rfl ?_
                  refine WL.skip rfl rfl rfl ?_
                  refine WL.skip rfl rfl rfl ?_
                  refine WL.skip rfl rfl rfl ?_
                  refine WL.skip rfl rfl rfl ?_
                  refine WL.skip rfl rfl rfl ?_
                  refine WL.skip rfl rfl rfl ?_
                  refine WL.skip rfl rfl rfl ?_
                  refine WL.skip rfl rfl rfl ?_
                  refine WL.skip rfl rfl rfl ?_
                  refine WL.skip rfl rfl rfl ?_
                  refine WL.q (oq_pick_t rfl rfl) rfl rfl rfl ?_
                  refine WL.nil (WE.then_normal (WC.sub (fr' := [(3, _), (4, _), (79, _)]) ?_ ⟨rfl, rfl, rfl, trivial⟩))
                  refine WC.cond_t rfl ?_
                  refine WC.seq (WC.region ?_)
                  refine WL.q (oq_assign rfl) rfl rfl rfl ?_
                  refine WL.nil (WE.then_normal (WC.sub (fr' := [(2, _)]) ?_ ⟨rfl, trivial⟩))
                  refine WC.ret (WE.block_ret (WE.then_ret (WE.then_ret (WE.block_ret (WE.then_ret ?_)))))
                  refine WE.forget ho1_1.fresh ?_
                  refine WE.add0 ?_
                  refine WE.endA0 (.inl rfl) (res1 Tryd.results10 rfl) ?_ fresh0
                  refine congrArg Value.bool (Eq.symm ?_)
                  unfold four; rw [hls]
                  first
                    | (refine four_no (i := i) (by omega) ?_
                       rintro ⟨h1, h2, h3, h4, h5⟩
                       first
                         | exact Bool.noConfusion (h1.symm.trans s10_6)
                         | exact h2 (List.eq_nil_of_length_eq_zero (by assumption))
                         | omega
                         | (have hnf : n = nv (ls.getD i []) := by rw [hn, List.take_of_length_le (by omega)]
                            omega)
                         | exact h5 ⟨by omega, by omega⟩)
                    | (obtain rfl : i = ls.length := by omega
                       rw [List.take_length] at hall
                       rw [hall, Bool.true_and]
                       simp; omega)
                ·
                  try simp only [Z1, Z2, Z3, Z4, Z5, Z6, Z7, Z8, Z9, Z0] at s10_25
                  refine WL.q (oq_move rfl) rfl rfl rfl ?_
                  refine WL.q (oq_move rfl) rfl rfl rfl ?_
                  refine WL.q (oq_ixaddr ho1_1.rd Tryd.underlying28 ty9 rfl rfl (by (first | omega | (simp only [List.length_cons, List.length_nil, List.length_append, List.length_drop, List.length_take]; omega)))) rfl rfl rfl ?_
                  refine WL.q (oq_load_str ho1_1.rd (.head _) flat9 rfl (by (first | omega | (simp only [List.length_cons, List.length_nil, List.length_append, List.length_drop, List.length_take]; omega))) (by first | exact Int.toNat_natCast _ | exact rfl)) rfl rfl rfl ?_
                  refine WL.q (oq_len_s Tryd.underlying9 rfl) rfl rfl rfl ?_
                  refine WL.q (oq_gtr rfl rfl) rfl rfl rfl ?_
                  refine WL.q (oq_move rfl) rfl rfl rfl ?_
                  refine WL.split 71 rfl (fun s10_32 => ?_) (fun s10_32 => ?_)
                  ·
                    try simp only [Z1, Z2, Z3, Z4, Z5, Z6, Z7, Z8, Z9, Z0] at s10_32
                    refine WL.q (oq_move rfl) rfl rfl rfl ?_
                    refine WL.q (oq_move rfl) rfl rfl rfl ?_
                    refine WL.q (oq_ixaddr ho1_1.rd Tryd.underlying28 ty9 rfl rfl (by (first | omega | (simp only [List.length_cons, List.length_nil, List.length_append, List.length_drop, List.length_take]; omega)))) rfl rfl rfl ?_
                    refine WL.q (oq_load_str ho1_1.rd (.head _) flat9 rfl (by (first | omega | (simp only [List.length_cons, List.length_nil, List.length_append, List.length_drop, List.length_take]; omega))) (by first | exact Int.toNat_natCast _ | exact rfl)) rfl rfl rfl ?_
                    refine WL.index_s Tryd.underlying9 rfl rfl (by (first | omega | (simp only [List.length_cons, List.length_nil, List.length_append, List.length_drop, List.length_take]; omega))) rfl rfl fun c10_37 hc10_37 hc10_37l hc10_37u => ?_
                    refine WL.q (oq_eql rfl rfl) rfl rfl rfl ?_
                    refine WL.q (oq_pick_t rfl rfl) rfl rfl rfl ?_
                    refine WL.q (oq_pick_f rfl rfl) rfl rfl rfl ?_
                    refine WL.nil (WE.then_normal (WC.sub (fr' := [(3, _), (4, _), (79, _)]) ?_ ⟨rfl, rfl, rfl, trivial⟩))
                    refine WC.cond rfl (fun q10 => ?_) (fun q10 => ?_)
                    ·
                      try simp only [Z1, Z2, Z3, Z4, Z5, Z6, Z7, Z8, Z9, Z0] at q10
                      refine WC.seq (WC.region ?_)
                      refine WL.q (oq_assign rfl) rfl rfl rfl ?_
                      refine WL.nil (WE.then_normal (WC.sub (fr' := [(2, _)]) ?_ ⟨rfl, trivial⟩))
                      refine WC.ret (WE.block_ret (WE.then_ret (WE.then_ret (WE.block_ret (WE.then_ret ?_)))))
                      refine WE.forget ho1_1.fresh ?_
                      refine WE.add0 ?_
                      refine WE.endA0 (.inl rfl) (res1 Tryd.results10 rfl) ?_ fresh0
                      refine congrArg Value.bool (Eq.symm ?_)
                      unfold four; rw [hls]
                      first
                        | (refine four_no (i := i) (by omega) ?_
                           rintro ⟨h1, h2, h3, h4, h5⟩
                           first
                             | exact Bool.noConfusion (h1.symm.trans s10_6)
                             | exact h2 (List.eq_nil_of_length_eq_zero (by assumption))
                             | omega
                             | (have hnf : n = nv (ls.getD i []) := by rw [hn, List.take_of_length_le (by omega)]
                                omega)
                             | exact h5 ⟨by omega, by omega⟩)
                        | (obtain rfl : i = ls.length := by omega
                           rw [List.take_length] at hall
                           rw [hall, Bool.true_and]
                           simp; omega)
                    ·
                      try simp only [Z1, Z2, Z3, Z4, Z5, Z6, Z7, Z8, Z9, Z0] at q10
                      refine WC.skip (WE.block_normal (WE.then_normal (WC.sub (fr' := [(3, _), (4, _)]) ?_ ⟨rfl, rfl, trivial⟩)))
                      refine WC.region ?_
                      refine WL.q (oq_move rfl) rfl rfl rfl ?_
                      refine WL.q (oq_add rfl rfl (by rw [i64_lo, i64_hi]; (first | omega | (simp only [List.length_cons, List.length_nil, List.length_append, List.length_drop, List.length_take]; omega)))) rfl rfl rfl ?_
                      refine WL.q (oq_assign rfl) rfl rfl rfl ?_
                      refine WL.nil ?_
                      refine WE.again (i + 1) ?_ ?_ ⟨rfl, rfl, trivial⟩ (List.Perm.refl _)
                      · try dsimp only
                        have hnf : n = nv (ls.getD i []) := by rw [hn, List.take_of_length_le (by omega)]
                        exact ⟨by omega, four_step (by omega) hall ⟨s10_6, fun e => s10_13 (by rw [e]; rfl), by omega, by omega, fun ⟨h1, h2⟩ => by omega⟩⟩
                      · (try dsimp only); omega
                  ·
                    try simp only [Z1, Z2, Z3, Z4, Z5, Z6, Z7, Z8, Z9, Z0] at s10_32
                    refine WL.skip rfl rfl rfl ?_
                    refine WL.skip rfl rfl rfl ?_
                    refine WL.skip rfl rfl rfl ?_
                    refine WL.skip rfl rfl rfl ?_
                    refine WL.skip rfl rfl rfl ?_
                    refine WL.skip rfl rfl rfl ?_
                    refine WL.q (oq_pick_f rfl rfl) rfl rfl rfl ?_
                    refine WL.q (oq_pick_f rfl rfl) rfl rfl rfl ?_
                    refine WL.nil (WE.then_normal (WC.sub (fr' := [(3, _), (4, _), (79, _)]) ?_ ⟨rfl, rfl, rfl, trivial⟩))
                    refine WC.cond_f rfl ?_
                    refine WC.skip (WE.block_normal (WE.then_normal (WC.sub (fr' := [(3, _), (4, _)]) ?_ ⟨rfl, rfl, trivial⟩)))
                    refine WC.region ?_
                    refine WL.q (oq_move rfl) rfl rfl rfl ?_
                    refine WL.q (oq_add rfl rfl (by rw [i64_lo, i64_hi]; (first | omega | (simp only [List.length_cons, List.length_nil, List.length_append, List.length_drop, List.length_take]; omega)))) rfl rfl rfl ?_
                    refine WL.q (oq_assign rfl) rfl rfl rfl ?_
                    refine WL.nil ?_
                    refine WE.again (i + 1) ?_ ?_ ⟨rfl, rfl, trivial⟩ (List.Perm.refl _)
                    · try dsimp only
                      have hnf : n = nv (ls.getD i []) := by rw [hn, List.take_of_length_le (by omega)]
                      exact ⟨by omega, four_step (by omega) hall ⟨s10_6, fun e => s10_13 (by rw [e]; rfl), by omega, by omega, fun ⟨h1, h2⟩ => by omega⟩⟩
                    · (try dsimp only); omega
    ·
      try simp only [Z1, Z2, Z3, Z4, Z5, Z6, Z7, Z8, Z9, Z0] at q3
      refine WC.exit (WE.then_exit (WE.then_exit (WE.block_same (WE.then_normal (WC.sub (fr' := [(3, _)]) ?_ ⟨rfl, trivial⟩)))))
      refine WC.seq (WC.region ?_)
      refine WL.q (oq_move rfl) rfl rfl rfl ?_
      refine WL.q (oq_len_rd ho1_1.rd Tryd.underlying28 rfl) rfl rfl rfl ?_
      refine WL.q (oq_eql rfl rfl) rfl rfl rfl ?_
      refine WL.q (oq_assign rfl) rfl rfl rfl ?_
      refine WL.nil (WE.then_normal (WC.sub (fr' := [(2, _)]) ?_ ⟨rfl, trivial⟩))
      refine WC.ret ?_
      refine WE.forget ho1_1.fresh ?_
      refine WE.add0 ?_
      refine WE.endA0 (.inl rfl) (res1 Tryd.results10 rfl) ?_ fresh0
      refine congrArg Value.bool (Eq.symm ?_)
      unfold four; rw [hls]
      first
        | (refine four_no (i := i) (by omega) ?_
           rintro ⟨h1, h2, h3, h4, h5⟩
           first
             | exact Bool.noConfusion (h1.symm.trans s10_6)
             | exact h2 (List.eq_nil_of_length_eq_zero (by assumption))
             | omega
             | (have hnf : n = nv (ls.getD i []) := by rw [hn, List.take_of_length_le (by omega)]
                omega)
             | exact h5 ⟨by omega, by omega⟩)
        | (obtain rfl : i = ls.length := by omega
           rw [List.take_length] at hall
           rw [hall, Bool.true_and]
           simp; omega)
set_option maxHeartbeats 2000000 in
theorem eURLOf (s : List UInt8) (hs : s.length ≤ 2147483647) : FnA Tryd.prog 5 [S s] [] (fun v N => EU s v) := by
  refine FnA.enter0 (n := 130) Tryd.func5 rfl rfl fun w0 => ?_
  refine WC.sub (fr' := [(0, _)]) ?_ ⟨rfl, trivial⟩
  refine WC.seq (WC.region ?_)
  refine WL.alloc ty23 rfl rfl fun r2 hr2 => ?_
  refine WL.q (oq_assign rfl) rfl rfl rfl ?_
  refine WL.nil (WE.then_normal (WC.sub (fr' := [(0, _), (2, _)]) ?_ ⟨rfl, rfl, trivial⟩))
  refine WC.seq (WC.region ?_)
  refine WL.q (oq_build #[_, _, _, _, _] str23 ty23 rfl rfl) rfl rfl rfl ?_
  refine WL.alloc ty23 rfl rfl fun r4 hr4 => ?_
  refine WL.storeS #[_, _, _, _, _] ty23 rfl rfl rfl rfl (Nat.le_of_ble_eq_true rfl) rfl rfl ?_
  refine WL.nil (WE.then_normal (WC.sub (fr' := [(0, _), (2, _), (4, _)]) ?_ ⟨rfl, rfl, rfl, trivial⟩))
  refine WC.seq (WC.region ?_)
  refine WL.q (oq_move rfl) rfl rfl rfl ?_
  refine WL.q (oq_assign rfl) rfl rfl rfl ?_
  refine WL.nil (WE.then_normal (WC.sub (fr' := [(0, _), (2, _), (4, _)]) ?_ ⟨rfl, rfl, rfl, trivial⟩))
  refine WC.cut (ι := (List UInt8) × (List UInt8)) (fun i_ => (fun (sc : List UInt8) (rest : List UInt8) => [(2, Pt r2 0), (4, Pt r4 0), (5, S rest)]) i_.1 i_.2) (fun i_ => (fun (sc : List UInt8) (rest : List UInt8) => [[(r4, .cells #[S sc, S [], S [], S [], .bool false] 23 (0, 0))], [(r2, .cells #[S [], S [], S [], S [], .bool false] 23 (0, 0))]]) i_.1 i_.2) (fun i_ => (fun (sc : List UInt8) (rest : List UInt8) => (sc = [104, 116, 116, 112] ∨ sc = [104, 116, 116, 112, 115]) ∧ s = sc ++ ([58, 47, 47] ++ rest) ∧ rest.length ≤ s.length) i_.1 i_.2) ?_ ?_
  ·
    refine WC.seq (WC.region ?_)
    refine WL.q (oq_move rfl) rfl rfl rfl ?_
    refine WL.q (oq_len_s Tryd.underlying9 rfl) rfl rfl rfl ?_
    refine WL.q (oq_geq rfl rfl) rfl rfl rfl ?_
    refine WL.q (oq_move rfl) rfl rfl rfl ?_
    refine WL.split 13 rfl (fun s3_3 => ?_) (fun s3_3 => ?_)
    ·
      try simp only [Z1, Z2, Z3, Z4, Z5, Z6, Z7, Z8, Z9, Z0] at s3_3
      refine WL.q (oq_move rfl) rfl rfl rfl ?_
      refine WL.q (oq_slice_s0 Tryd.underlying9 rfl rfl (by (first | omega | (simp only [List.length_cons, List.length_nil, List.length_append, List.length_drop, List.length_take]; omega)))) rfl rfl rfl ?_
      refine WL.q (oq_seql rfl rfl) rfl rfl rfl ?_
      refine WL.q (oq_pick_t rfl rfl) rfl rfl rfl ?_
      refine WL.nil (WE.then_normal (WC.sub (fr' := [(0, _), (2, _), (4, _), (17, _)]) ?_ ⟨rfl, rfl, rfl, rfl, trivial⟩))
      refine WC.cond rfl (fun q3 => ?_) (fun q3 => ?_)
      ·
        try simp only [Z1, Z2, Z3, Z4, Z5, Z6, Z7, Z8, Z9, Z0] at q3
        refine WC.tailM (pl := [_, _]) (ql := [_]) (tl := [_, _]) [0, 1] [2] 3 [4] (by kernel_rfl) (by kernel_rfl) (by kernel_rfl) (by kernel_rfl) (by kernel_rfl) (by kernel_rfl) (by decide) rfl rfl rfl (by decide) (by repeat (first | with_reducible exact QOk.body | with_reducible apply QOk.then | with_reducible apply QOk.block | exact QOk.body | apply QOk.then | apply QOk.block)) ?_
        refine WM.q (fun w0 => oq_move rfl) rfl rfl rfl ?_
        refine WM.q (fun w0 => oq_slice_s1 Tryd.underlying9 rfl rfl (by (first | omega | (simp only [List.length_cons, List.length_nil, List.length_append, List.length_drop, List.length_take]; omega)))) rfl rfl rfl ?_
        refine WM.nil ?_
        refine WY.q (oq_fieldAddr fld23_0 rfl) rfl rfl rfl ?_
        refine WY.nil ?_
        refine WL.store1 #[_, _, _, _, _] ty9 rfl rfl (by first | rfl | exact OwS.one one_) (Nat.lt_of_lt_of_le (Nat.lt_succ_self _) (Nat.le_of_ble_eq_true rfl)) rfl rfl ?_
        refine WL.q (oq_assign rfl) rfl rfl rfl ?_
        refine WL.nil ?_
        refine WE.meet ([104, 116, 116, 112, 115], s.drop 8) ?_ ⟨rfl, rfl, rfl, trivial⟩ (List.Perm.refl _)
        try dsimp only
        exact ⟨.inr rfl, pre_split q3, by simp⟩
      ·
        try simp only [Z1, Z2, Z3, Z4, Z5, Z6, Z7, Z8, Z9, Z0] at q3
        refine WC.seq (WC.region ?_)
        refine WL.q (oq_move rfl) rfl rfl rfl ?_
        refine WL.q (oq_len_s Tryd.underlying9 rfl) rfl rfl rfl ?_
        refine WL.q (oq_geq rfl rfl) rfl rfl rfl ?_
        refine WL.q (oq_move rfl) rfl rfl rfl ?_
        refine WL.split 24 rfl (fun s5_3 => ?_) (fun s5_3 => ?_)
        ·
          try simp only [Z1, Z2, Z3, Z4, Z5, Z6, Z7, Z8, Z9, Z0] at s5_3
          refine WL.q (oq_move rfl) rfl rfl rfl ?_
          refine WL.q (oq_slice_s0 Tryd.underlying9 rfl rfl (by (first | omega | (simp only [List.length_cons, List.length_nil, List.length_append, List.length_drop, List.length_take]; omega)))) rfl rfl rfl ?_
          refine WL.q (oq_seql rfl rfl) rfl rfl rfl ?_
          refine WL.q (oq_pick_t rfl rfl) rfl rfl rfl ?_
          refine WL.nil (WE.then_normal (WC.sub (fr' := [(0, _), (2, _), (4, _), (28, _)]) ?_ ⟨rfl, rfl, rfl, rfl, trivial⟩))
          refine WC.cond rfl (fun q5 => ?_) (fun q5 => ?_)
          ·
            try simp only [Z1, Z2, Z3, Z4, Z5, Z6, Z7, Z8, Z9, Z0] at q5
            refine WC.region ?_
            refine WL.q (oq_move rfl) rfl rfl rfl ?_
            refine WL.q (oq_slice_s1 Tryd.underlying9 rfl rfl (by (first | omega | (simp only [List.length_cons, List.length_nil, List.length_append, List.length_drop, List.length_take]; omega)))) rfl rfl rfl ?_
            refine WL.q (oq_assign rfl) rfl rfl rfl ?_
            refine WL.nil ?_
            refine WE.meet ([104, 116, 116, 112], s.drop 7) ?_ ⟨rfl, rfl, rfl, trivial⟩ (List.Perm.refl _)
            try dsimp only
            exact ⟨.inl rfl, pre_split q5, by simp⟩
          ·
            try simp only [Z1, Z2, Z3, Z4, Z5, Z6, Z7, Z8, Z9, Z0] at q5
            refine WC.seq (WC.region ?_)
            refine WL.q (oq_build #[_, _, _, _, _] str23 ty23 rfl rfl) rfl rfl rfl ?_
            refine WL.f1 ?_
            refine WL.storeS #[_, _, _, _, _] ty23 rfl rfl rfl rfl (Nat.le_of_ble_eq_true rfl) rfl rfl ?_
            refine WL.q (oq_assign rfl) rfl rfl rfl ?_
            refine WL.nil (WE.then_normal (WC.sub (fr' := [(2, _), (3, _)]) ?_ ⟨rfl, rfl, trivial⟩))
            refine WC.ret (WE.then_ret ?_)
            refine WE.endDA0 (.inl rfl) (rs2 Tryd.results5 (rv_cellS [_, _, _, _, _] agg23 ty23 rfl (.head _) (List.mem_singleton.2 rfl) rfl rfl) (rv_tmp rfl)) (dr_lose hr2 (dr_lose hr4 (dr_add0 dr_refl))) fresh0 ?_
            first | exact EU_no _ _ _ _ _ _ | exact ⟨_, _, _, _, _, _, rfl, fun _ => ⟨_, hgood, by first | exact fin_y hd hc19_6 q19 | exact fin_n hd hc19_6 q19, by rw [hh]⟩⟩
        ·
          try simp only [Z1, Z2, Z3, Z4, Z5, Z6, Z7, Z8, Z9, Z0] at s5_3
          refine WL.skip rfl rfl rfl ?_
          refine WL.skip rfl rfl rfl ?_
          refine WL.skip rfl rfl rfl ?_
          refine WL.q (oq_pick_f rfl rfl) rfl rfl rfl ?_
          refine WL.nil (WE.then_normal (WC.sub (fr' := [(0, _), (2, _), (4, _), (28, _)]) ?_ ⟨rfl, rfl, rfl, rfl, trivial⟩))
          refine WC.cond_f rfl ?_
          refine WC.seq (WC.region ?_)
          refine WL.q (oq_build #[_, _, _, _, _] str23 ty23 rfl rfl) rfl rfl rfl ?_
          refine WL.f1 ?_
          refine WL.storeS #[_, _, _, _, _] ty23 rfl rfl rfl rfl (Nat.le_of_ble_eq_true rfl) rfl rfl ?_
          refine WL.q (oq_assign rfl) rfl rfl rfl ?_
          refine WL.nil (WE.then_normal (WC.sub (fr' := [(2, _), (3, _)]) ?_ ⟨rfl, rfl, trivial⟩))
          refine WC.ret (WE.then_ret ?_)
          refine WE.endDA0 (.inl rfl) (rs2 Tryd.results5 (rv_cellS [_, _, _, _, _] agg23 ty23 rfl (.head _) (List.mem_singleton.2 rfl) rfl rfl) (rv_tmp rfl)) (dr_lose hr2 (dr_lose hr4 (dr_add0 dr_refl))) fresh0 ?_
          first | exact EU_no _ _ _ _ _ _ | exact ⟨_, _, _, _, _, _, rfl, fun _ => ⟨_, hgood, by first | exact fin_y hd hc19_6 q19 | exact fin_n hd hc19_6 q19, by rw [hh]⟩⟩
    ·
      try simp only [Z1, Z2, Z3, Z4, Z5, Z6, Z7, Z8, Z9, Z0] at s3_3
      refine WL.skip rfl rfl rfl ?_
      refine WL.skip rfl rfl rfl ?_
      refine WL.skip rfl rfl rfl ?_
      refine WL.q (oq_pick_f rfl rfl) rfl rfl rfl ?_
      refine WL.nil (WE.then_normal (WC.sub (fr' := [(0, _), (2, _), (4, _), (17, _)]) ?_ ⟨rfl, rfl, rfl, rfl, trivial⟩))
      refine WC.cond_f rfl ?_
      refine WC.seq (WC.region ?_)
      refine WL.q (oq_move rfl) rfl rfl rfl ?_
      refine WL.q (oq_len_s Tryd.underlying9 rfl) rfl rfl rfl ?_
      refine WL.q (oq_geq rfl rfl) rfl rfl rfl ?_
      refine WL.q (oq_move rfl) rfl rfl rfl ?_
      refine WL.split 24 rfl (fun s5_3 => ?_) (fun s5_3 => ?_)
      ·
        try simp only [Z1, Z2, Z3, Z4, Z5, Z6, Z7, Z8, Z9, Z0] at s5_3
        refine WL.q (oq_move rfl) rfl rfl rfl ?_
        refine WL.q (oq_slice_s0 Tryd.underlying9 rfl rfl (by (first | omega | (simp only [List.length_cons, List.length_nil, List.length_append, List.length_drop, List.length_take]; omega)))) rfl rfl rfl ?_
        refine WL.q (oq_seql rfl rfl) rfl rfl rfl ?_
        refine WL.q (oq_pick_t rfl rfl) rfl rfl rfl ?_
        refine WL.nil (WE.then_normal (WC.sub (fr' := [(0, _), (2, _), (4, _), (28, _)]) ?_ ⟨rfl, rfl, rfl, rfl, trivial⟩))
        refine WC.cond rfl (fun q5 => ?_) (fun q5 => ?_)
        ·
          try simp only [Z1, Z2, Z3, Z4, Z5, Z6, Z7, Z8, Z9, Z0] at q5
          refine WC.region ?_
          refine WL.q (oq_move rfl) rfl rfl rfl ?_
          refine WL.q (oq_slice_s1 Tryd.underlying9 rfl rfl (by (first | omega | (simp only [List.length_cons, List.length_nil, List.length_append, List.length_drop, List.length_take]; omega)))) rfl rfl rfl ?_
          refine WL.q (oq_assign rfl) rfl rfl rfl ?_
          refine WL.nil ?_
          refine WE.meet ([104, 116, 116, 112], s.drop 7) ?_ ⟨rfl, rfl, rfl, trivial⟩ (List.Perm.refl _)
          try dsimp only
          exact ⟨.inl rfl, pre_split q5, by simp⟩
        ·
          try simp only [Z1, Z2, Z3, Z4, Z5, Z6, Z7, Z8, Z9, Z0] at q5
          refine WC.seq (WC.region ?_)
          refine WL.q (oq_build #[_, _, _, _, _] str23 ty23 rfl rfl) rfl rfl rfl ?_
          refine WL.f1 ?_
          refine WL.storeS #[_, _, _, _, _] ty23 rfl rfl rfl rfl (Nat.le_of_ble_eq_true rfl) rfl rfl ?_
          refine WL.q (oq_assign rfl) rfl rfl rfl ?_
          refine WL.nil (WE.then_normal (WC.sub (fr' := [(2, _), (3, _)]) ?_ ⟨rfl, rfl, trivial⟩))
          refine WC.ret (WE.then_ret ?_)
          refine WE.endDA0 (.inl rfl) (rs2 Tryd.results5 (rv_cellS [_, _, _, _, _] agg23 ty23 rfl (.head _) (List.mem_singleton.2 rfl) rfl rfl) (rv_tmp rfl)) (dr_lose hr2 (dr_lose hr4 (dr_add0 dr_refl))) fresh0 ?_
          first | exact EU_no _ _ _ _ _ _ | exact ⟨_, _, _, _, _, _, rfl, fun _ => ⟨_, hgood, by first | exact fin_y hd hc19_6 q19 | exact fin_n hd hc19_6 q19, by rw [hh]⟩⟩
      ·
        try simp only [Z1, Z2, Z3, Z4, Z5, Z6, Z7, Z8, Z9, Z0] at s5_3
        refine WL.skip rfl rfl rfl ?_
        refine WL.skip rfl rfl rfl ?_
        refine WL.skip rfl rfl rfl ?_
        refine WL.q (oq_pick_f rfl rfl) rfl rfl rfl ?_
        refine WL.nil (WE.then_normal (WC.sub (fr' := [(0, _), (2, _), (4, _), (28, _)]) ?_ ⟨rfl, rfl, rfl, rfl, trivial⟩))
        refine WC.cond_f rfl ?_
        refine WC.seq (WC.region ?_)
        refine WL.q (oq_build #[_, _, _, _, _] str23 ty23 rfl rfl) rfl rfl rfl ?_
        refine WL.f1 ?_
        refine WL.storeS #[_, _, _, _, _] ty23 rfl rfl rfl rfl (Nat.le_of_ble_eq_true rfl) rfl rfl ?_
        refine WL.q (oq_assign rfl) rfl rfl rfl ?_
        refine WL.nil (WE.then_normal (WC.sub (fr' := [(2, _), (3, _)]) ?_ ⟨rfl, rfl, trivial⟩))
        refine WC.ret (WE.then_ret ?_)
        refine WE.endDA0 (.inl rfl) (rs2 Tryd.results5 (rv_cellS [_, _, _, _, _] agg23 ty23 rfl (.head _) (List.mem_singleton.2 rfl) rfl rfl) (rv_tmp rfl)) (dr_lose hr2 (dr_lose hr4 (dr_add0 dr_refl))) fresh0 ?_
        first | exact EU_no _ _ _ _ _ _ | exact ⟨_, _, _, _, _, _, rfl, fun _ => ⟨_, hgood, by first | exact fin_y hd hc19_6 q19 | exact fin_n hd hc19_6 q19, by rw [hh]⟩⟩
  · rintro ⟨sc, rest⟩ hp
    try dsimp only at hp
    obtain ⟨hsc, hse, hrl⟩ := hp
    show WC _ _ _ _ _ _ ([(2, Pt r2 0), (4, Pt r4 0), (5, S rest)]) ([[(r4, .cells #[S sc, S [], S [], S [], .bool false] 23 (0, 0))], [(r2, .cells #[S [], S [], S [], S [], .bool false] 23 (0, 0))]])
    refine WC.seq (WC.region ?_)
    refine WL.q (oq_assign rfl) rfl rfl rfl ?_
    refine WL.nil (WE.then_normal (WC.sub (fr' := [(2, _), (4, _), (5, _), (6, _)]) ?_ ⟨rfl, rfl, rfl, rfl, trivial⟩))
    refine WC.cut (ι := Nat) (fun (i : Nat) => [(2, Pt r2 0), (4, Pt r4 0), (5, S rest), (6, I (i : Int))]) (fun (i : Nat) => [[(r4, .cells #[S sc, S [], S [], S [], .bool false] 23 (0, 0))], [(r2, .cells #[S [], S [], S [], S [], .bool false] 23 (0, 0))]]) (fun (i : Nat) => i ≤ rest.length ∧ (rest.drop i = [] ∨ ∃ t, rest.drop i = 47 :: t)) ?_ ?_
    ·
      refine WC.block ?_
      refine WC.loop (ι := Nat) (fun (i : Nat) => [(2, Pt r2 0), (4, Pt r4 0), (5, S rest), (6, I (i : Int))]) (fun (i : Nat) => [[(r4, .cells #[S sc, S [], S [], S [], .bool false] 23 (0, 0))], [(r2, .cells #[S [], S [], S [], S [], .bool false] 23 (0, 0))]]) (fun (i : Nat) => i ≤ rest.length) (fun (i : Nat) => rest.length - i) (0) ?_ ⟨rfl, rfl, rfl, rfl, trivial⟩ (List.Perm.refl _) ?_
      · try dsimp only
        omega
      · rintro i hp
        try dsimp only at hp
        show WC _ _ _ _ _ _ ([(2, Pt r2 0), (4, Pt r4 0), (5, S rest), (6, I (i : Int))]) ([[(r4, .cells #[S sc, S [], S [], S [], .bool false] 23 (0, 0))], [(r2, .cells #[S [], S [], S [], S [], .bool false] 23 (0, 0))]])
        refine WC.seq (WC.seq (WC.region ?_))
        refine WL.q (oq_move rfl) rfl rfl rfl ?_
        refine WL.q (oq_move rfl) rfl rfl rfl ?_
        refine WL.q (oq_len_s Tryd.underlying9 rfl) rfl rfl rfl ?_
        refine WL.q (oq_lss rfl rfl) rfl rfl rfl ?_
        refine WL.q (oq_move rfl) rfl rfl rfl ?_
        refine WL.split 36 rfl (fun s9_4 => ?_) (fun s9_4 => ?_)
        ·
          try simp only [Z1, Z2, Z3, Z4, Z5, Z6, Z7, Z8, Z9, Z0] at s9_4
          refine WL.q (oq_move rfl) rfl rfl rfl ?_
          refine WL.q (oq_move rfl) rfl rfl rfl ?_
          refine WL.index_s Tryd.underlying9 rfl rfl (by (first | omega | (simp only [List.length_cons, List.length_nil, List.length_append, List.length_drop, List.length_take]; omega))) rfl rfl fun c9_7 hc9_7 hc9_7l hc9_7u => ?_
          refine WL.q (oq_neq rfl rfl) rfl rfl rfl ?_
          refine WL.q (oq_pick_t rfl rfl) rfl rfl rfl ?_
          refine WL.nil (WE.then_normal (WC.sub (fr' := [(2, _), (4, _), (5, _), (6, _), (41, _)]) ?_ ⟨rfl, rfl, rfl, rfl, rfl, trivial⟩))
          refine WC.cond rfl (fun q9 => ?_) (fun q9 => ?_)
          ·
            try simp only [Z1, Z2, Z3, Z4, Z5, Z6, Z7, Z8, Z9, Z0] at q9
            refine WC.skip (WE.then_normal (WC.sub (fr' := [(2, _), (4, _), (5, _), (6, _)]) ?_ ⟨rfl, rfl, rfl, rfl, trivial⟩))
            refine WC.block (WC.region ?_)
            refine WL.q (oq_move rfl) rfl rfl rfl ?_
            refine WL.q (oq_add rfl rfl (by rw [i64_lo, i64_hi]; (first | omega | (simp only [List.length_cons, List.length_nil, List.length_append, List.length_drop, List.length_take]; omega)))) rfl rfl rfl ?_
            refine WL.q (oq_assign rfl) rfl rfl rfl ?_
            refine WL.nil (WE.block_normal ?_)
            refine WE.again (i + 1) ?_ ?_ ⟨rfl, rfl, rfl, rfl, trivial⟩ (List.Perm.refl _)
            · try dsimp only
              omega
            · (try dsimp only); omega
          ·
            try simp only [Z1, Z2, Z3, Z4, Z5, Z6, Z7, Z8, Z9, Z0] at q9
            refine WC.exit (WE.then_exit (WE.then_exit (WE.block_same ?_)))
            refine WE.meet i ?_ ⟨rfl, rfl, rfl, rfl, trivial⟩ (List.Perm.refl _)
            try dsimp only
            exact ⟨by omega, .inr (slash_here (by omega) hc9_7 (by omega))⟩
        ·
          try simp only [Z1, Z2, Z3, Z4, Z5, Z6, Z7, Z8, Z9, Z0] at s9_4
          refine WL.skip rfl rfl rfl ?_
          refine WL.skip rfl rfl rfl ?_
          refine WL.skip rfl rfl rfl ?_
          refine WL.skip rfl rfl rfl ?_
          refine WL.q (oq_pick_f rfl rfl) rfl rfl rfl ?_
          refine WL.nil (WE.then_normal (WC.sub (fr' := [(2, _), (4, _), (5, _), (6, _), (41, _)]) ?_ ⟨rfl, rfl, rfl, rfl, rfl, trivial⟩))
          refine WC.cond_f rfl ?_
          refine WC.exit (WE.then_exit (WE.then_exit (WE.block_same ?_)))
          refine WE.meet i ?_ ⟨rfl, rfl, rfl, rfl, trivial⟩ (List.Perm.refl _)
          try dsimp only
          exact ⟨by omega, .inl (List.drop_eq_nil_of_le (by omega))⟩
    · rintro i hp
      try dsimp only at hp
      obtain ⟨hp, hsl⟩ := hp
      show WC _ _ _ _ _ _ ([(2, Pt r2 0), (4, Pt r4 0), (5, S rest), (6, I (i : Int))]) ([[(r4, .cells #[S sc, S [], S [], S [], .bool false] 23 (0, 0))], [(r2, .cells #[S [], S [], S [], S [], .bool false] 23 (0, 0))]])
      refine WC.seq ?_
      refine WC.tailM (pl := [_, _, _]) (ql := [_, _, _, _]) (tl := [_, _, _]) [3, 4, 5] [0, 1, 2, 6] 7 [8, 9] (by kernel_rfl) (by kernel_rfl) (by kernel_rfl) (by kernel_rfl) (by kernel_rfl) (by kernel_rfl) (by decide) rfl rfl rfl (by decide) (by repeat (first | with_reducible exact QOk.body | with_reducible apply QOk.then | with_reducible apply QOk.block | exact QOk.body | apply QOk.then | apply QOk.block)) ?_
      refine WM.q (fun w0 => oq_move rfl) rfl rfl rfl ?_
      refine WM.q (fun w0 => oq_move rfl) rfl rfl rfl ?_
      refine WM.q (fun w0 => oq_slice_s1 Tryd.underlying9 rfl rfl (by (first | omega | (simp only [List.length_cons, List.length_nil, List.length_append, List.length_drop, List.length_take]; omega)))) rfl rfl rfl ?_
      refine WM.nil ?_
      refine WY.q (oq_move rfl) rfl rfl rfl ?_
      refine WY.q (oq_move rfl) rfl rfl rfl ?_
      refine WY.q (oq_slice_s0 Tryd.underlying9 rfl rfl (by (first | omega | (simp only [List.length_cons, List.length_nil, List.length_append, List.length_drop, List.length_take]; omega)))) rfl rfl rfl ?_
      refine WY.q (oq_fieldAddr fld23_1 rfl) rfl rfl rfl ?_
      refine WY.nil ?_
      refine WL.store1 #[_, _, _, _, _] ty9 rfl rfl (by first | rfl | exact OwS.one one_) (Nat.lt_of_lt_of_le (Nat.lt_succ_self _) (Nat.le_of_ble_eq_true rfl)) rfl rfl ?_
      refine WL.q (oq_fieldAddr fld23_2 rfl) rfl rfl rfl ?_
      refine WL.store1 #[_, _, _, _, _] ty9 rfl rfl (by first | rfl | exact OwS.one one_) (Nat.lt_of_lt_of_le (Nat.lt_succ_self _) (Nat.le_of_ble_eq_true rfl)) rfl rfl ?_
      refine WL.nil (WE.then_normal (WC.sub (fr' := [(2, _), (4, _)]) ?_ ⟨rfl, rfl, trivial⟩))
      refine WC.seq (WC.region ?_)
      refine WL.q (oq_fieldAddr fld23_1 rfl) rfl rfl rfl ?_
      refine WL.q (oq_load flat9 rfl (.head _) (List.mem_singleton.2 rfl) rfl) rfl rfl rfl ?_
      refine WL.callA0 (eCut (rest.take i) [58] 0 (by simp; omega) (by decide) (by decide) (by decide)) call8 rfl rfl rfl fun v12_2 N12_2 hR12_2 hN12_2 => ?_
      rw [ecut0] at hR12_2
      have ho12_2 := hR12_2.rebase hN12_2
      have hpos := split_pos 58 (rest.take i)
      have htwo := fun n hn h2 => split_two (c := 58) (s := rest.take i) (n := n) hn h2
      have hlb := getD_le (split_part 58 (rest.take i).length (rest.take i) (Nat.le_refl _))
      obtain ⟨ls, hls⟩ : ∃ ls, split [58] (rest.take i) = ls := ⟨_, rfl⟩
      rw [hls] at ho12_2 hpos htwo hlb
      rw [List.length_take] at hlb
      refine WL.q (oq_assign rfl) rfl rfl rfl ?_
      refine WL.nil (WE.then_normal (WC.sub (fr' := [(2, _), (4, _), (7, _)]) ?_ ⟨rfl, rfl, rfl, trivial⟩))
      refine WC.cut (ι := Unit) (fun _ => [(2, Pt r2 0), (4, Pt r4 0), (7, v12_2)]) (fun _ => [N12_2, [(r4, .cells #[S sc, S (rest.take i), S (rest.drop i), S [], .bool false] 23 (0, 0))], [(r2, .cells #[S [], S [], S [], S [], .bool false] 23 (0, 0))]]) (fun _ => ∃ h, Good s sc (rest.take i) (rest.drop i) h ∧ h = ls.getD 0 []) ?_ ?_
      ·
        refine WC.seq (WC.region ?_)
        refine WL.q (oq_move rfl) rfl rfl rfl ?_
        refine WL.q (oq_len_rd ho12_2.rd Tryd.underlying28 rfl) rfl rfl rfl ?_
        refine WL.q (oq_gtr rfl rfl) rfl rfl rfl ?_
        refine WL.q (oq_move rfl) rfl rfl rfl ?_
        refine WL.split 58 rfl (fun s13_3 => ?_) (fun s13_3 => ?_)
        ·
          try simp only [Z1, Z2, Z3, Z4, Z5, Z6, Z7, Z8, Z9, Z0] at s13_3
          refine WL.skip rfl rfl rfl ?_
          refine WL.skip rfl rfl rfl ?_
          refine WL.skip rfl rfl rfl ?_
          refine WL.skip rfl rfl rfl ?_
          refine WL.q (oq_pick_t rfl rfl) rfl rfl rfl ?_
          refine WL.q (oq_move rfl) rfl rfl rfl ?_
          refine WL.skip rfl rfl rfl ?_
          refine WL.skip rfl rfl rfl ?_
          refine WL.skip rfl rfl rfl ?_
          refine WL.skip rfl rfl rfl ?_
          refine WL.skip rfl rfl rfl ?_
          refine WL.q (oq_pick_t rfl rfl) rfl rfl rfl ?_
          refine WL.q (oq_move rfl) rfl rfl rfl ?_
          refine WL.skip rfl rfl rfl ?_
          refine WL.skip rfl rfl rfl ?_
          refine WL.skip rfl rfl rfl ?_
          refine WL.skip rfl rfl rfl ?_
          refine WL.skip rfl rfl rfl ?_
          refine WL.skip rfl rfl rfl ?_
          refine WL.skip rfl rfl rfl ?_
          refine WL.skip rfl rfl rfl ?_
          refine WL.skip rfl rfl rfl ?_
          refine WL.skip rfl rfl rfl ?_
          refine WL.skip rfl rfl rfl ?_
          refine WL.skip rfl rfl rfl ?_
          refine WL.skip rfl rfl rfl ?_
          refine WL.skip rfl rfl rfl ?_
          refine WL.skip rfl rfl rfl ?_
          refine WL.skip rfl rfl rfl ?_
          refine WL.q (oq_pick_t rfl rfl) rfl rfl rfl ?_
          refine WL.q (oq_move rfl) rfl rfl rfl ?_
          refine WL.skip rfl rfl rfl ?_
          refine WL.skip rfl rfl rfl ?_
          refine WL.skip rfl rfl rfl ?_
          refine WL.skip rfl rfl rfl ?_
          refine WL.q (oq_pick_t rfl rfl) rfl rfl rfl ?_
          refine WL.nil (WE.then_normal (WC.sub (fr' := [(2, _), (4, _), (7, _), (94, _)]) ?_ ⟨rfl, rfl, rfl, rfl, trivial⟩))
          refine WC.cond_t rfl ?_
          refine WC.seq (WC.region ?_)
          refine WL.q (oq_build #[_, _, _, _, _] str23 ty23 rfl rfl) rfl rfl rfl ?_
          refine WL.f2 ?_
          refine WL.storeS #[_, _, _, _, _] ty23 rfl rfl rfl rfl (Nat.le_of_ble_eq_true rfl) rfl rfl ?_
          refine WL.q (oq_assign rfl) rfl rfl rfl ?_
          refine WL.nil (WE.then_normal (WC.sub (fr' := [(2, _), (3, _)]) ?_ ⟨rfl, rfl, trivial⟩))
          refine WC.ret (WE.then_ret ?_)
          refine WE.endDA0 (.inl rfl) (rs2 Tryd.results5 (rv_cellS [_, _, _, _, _] agg23 ty23 rfl (.head _) (List.mem_singleton.2 rfl) rfl rfl) (rv_tmp rfl)) (dr_lose hr2 (dr_forget hN12_2 (dr_lose hr4 (dr_add0 dr_refl)))) fresh0 ?_
          first | exact EU_no _ _ _ _ _ _ | exact ⟨_, _, _, _, _, _, rfl, fun _ => ⟨_, hgood, by first | exact fin_y hd hc19_6 q19 | exact fin_n hd hc19_6 q19, by rw [hh]⟩⟩
        ·
          try simp only [Z1, Z2, Z3, Z4, Z5, Z6, Z7, Z8, Z9, Z0] at s13_3
          refine WL.q (oq_move rfl) rfl rfl rfl ?_
          refine WL.q (oq_ixaddr ho12_2.rd Tryd.underlying28 ty9 rfl rfl (by (first | omega | (simp only [List.length_cons, List.length_nil, List.length_append, List.length_drop, List.length_take]; omega)))) rfl rfl rfl ?_
          refine WL.q (oq_load_str ho12_2.rd (.head _) flat9 rfl (by (first | omega | (simp only [List.length_cons, List.length_nil, List.length_append, List.length_drop, List.length_take]; omega))) (by first | exact Int.toNat_natCast _ | exact rfl)) rfl rfl rfl ?_
          refine WL.q (oq_seql rfl rfl) rfl rfl rfl ?_
          refine WL.q (oq_pick_f rfl rfl) rfl rfl rfl ?_
          refine WL.q (oq_move rfl) rfl rfl rfl ?_
          refine WL.split 64 rfl (fun s13_9 => ?_) (fun s13_9 => ?_)
          ·
            try simp only [Z1, Z2, Z3, Z4, Z5, Z6, Z7, Z8, Z9, Z0] at s13_9
            refine WL.skip rfl rfl rfl ?_
            refine WL.skip rfl rfl rfl ?_
            refine WL.skip rfl rfl rfl ?_
            refine WL.skip rfl rfl rfl ?_
            refine WL.skip rfl rfl rfl ?_
            refine WL.q (oq_pick_t rfl rfl) rfl rfl rfl ?_
            refine WL.q (oq_move rfl) rfl rfl rfl ?_
            refine WL.skip rfl rfl rfl ?_
            refine WL.skip rfl rfl rfl ?_
            refine WL.skip rfl rfl rfl ?_
            refine WL.skip rfl rfl rfl ?_
            refine WL.skip rfl rfl rfl ?_
            refine WL.skip rfl rfl rfl ?_
            refine WL.skip rfl rfl rfl ?_
            refine WL.skip rfl rfl rfl ?_
            refine WL.skip rfl rfl rfl ?_
            refine WL.skip rfl rfl rfl ?_
            refine WL.skip rfl rfl rfl ?_
            refine WL.skip rfl rfl rfl ?_
            refine WL.skip rfl rfl rfl ?_
            refine WL.skip rfl rfl rfl ?_
            refine WL.skip rfl rfl rfl ?_
            refine WL.skip rfl rfl rfl ?_
            refine WL.q (oq_pick_t rfl rfl) rfl rfl rfl ?_
            refine WL.q (oq_move rfl) rfl rfl rfl ?_
            refine WL.skip rfl rfl rfl ?_
            refine WL.skip rfl rfl rfl ?_
            refine WL.skip rfl rfl rfl ?_
            refine WL.skip rfl rfl rfl ?_
            refine WL.q (oq_pick_t rfl rfl) rfl rfl rfl ?_
            refine WL.nil (WE.then_normal (WC.sub (fr' := [(2, _), (4, _), (7, _), (94, _)]) ?_ ⟨rfl, rfl, rfl, rfl, trivial⟩))
            refine WC.cond_t rfl ?_
            refine WC.seq (WC.region ?_)
            refine WL.q (oq_build #[_, _, _, _, _] str23 ty23 rfl rfl) rfl rfl rfl ?_
            refine WL.f2 ?_
            refine WL.storeS #[_, _, _, _, _] ty23 rfl rfl rfl rfl (Nat.le_of_ble_eq_true rfl) rfl rfl ?_
            refine WL.q (oq_assign rfl) rfl rfl rfl ?_
            refine WL.nil (WE.then_normal (WC.sub (fr' := [(2, _), (3, _)]) ?_ ⟨rfl, rfl, trivial⟩))
            refine WC.ret (WE.then_ret ?_)
            refine WE.endDA0 (.inl rfl) (rs2 Tryd.results5 (rv_cellS [_, _, _, _, _] agg23 ty23 rfl (.head _) (List.mem_singleton.2 rfl) rfl rfl) (rv_tmp rfl)) (dr_lose hr2 (dr_forget hN12_2 (dr_lose hr4 (dr_add0 dr_refl)))) fresh0 ?_
            first | exact EU_no _ _ _ _ _ _ | exact ⟨_, _, _, _, _, _, rfl, fun _ => ⟨_, hgood, by first | exact fin_y hd hc19_6 q19 | exact fin_n hd hc19_6 q19, by rw [hh]⟩⟩
          ·
            try simp only [Z1, Z2, Z3, Z4, Z5, Z6, Z7, Z8, Z9, Z0] at s13_9
            refine WL.q (oq_move rfl) rfl rfl rfl ?_
            refine WL.q (oq_ixaddr ho12_2.rd Tryd.underlying28 ty9 rfl rfl (by (first | omega | (simp only [List.length_cons, List.length_nil, List.length_append, List.length_drop, List.length_take]; omega)))) rfl rfl rfl ?_
            refine WL.q (oq_load_str ho12_2.rd (.head _) flat9 rfl (by (first | omega | (simp only [List.length_cons, List.length_nil, List.length_append, List.length_drop, List.length_take]; omega))) (by first | exact Int.toNat_natCast _ | exact rfl)) rfl rfl rfl ?_
            refine WL.qc (oq_call (eAll (ls.getD 0 []) HSET (by have := hlb 0; omega) (by decide)) call9 rfl) rfl rfl rfl ?_
            refine WL.q (oq_not rfl) rfl rfl rfl ?_
            refine WL.q (oq_pick_f rfl rfl) rfl rfl rfl ?_
            refine WL.q (oq_move rfl) rfl rfl rfl ?_
            refine WL.split 71 rfl (fun s13_16 => ?_) (fun s13_16 => ?_)
            ·
              try simp only [Z1, Z2, Z3, Z4, Z5, Z6, Z7, Z8, Z9, Z0] at s13_16
              refine WL.skip rfl rfl rfl ?_
              refine WL.skip rfl rfl rfl ?_
              refine WL.skip rfl rfl rfl ?_
              refine WL.skip rfl rfl rfl ?_
              refine WL.skip rfl rfl rfl ?_
              refine WL.skip rfl rfl rfl ?_
              refine WL.skip rfl rfl rfl ?_
              refine WL.skip rfl rfl rfl ?_
              refine WL.skip rfl rfl rfl ?_
              refine WL.skip rfl rfl rfl ?_
              refine WL.skip rfl rfl rfl ?_
              refine WL.skip rfl rfl rfl ?_
              refine WL.skip rfl rfl rfl ?_
              refine WL.skip rfl rfl rfl ?_
              refine WL.skip rfl rfl rfl ?_
              refine WL.skip rfl rfl rfl ?_
              refine WL.q (oq_pick_t rfl rfl) rfl rfl rfl ?_
              refine WL.q (oq_move rfl) rfl rfl rfl ?_
              refine WL.skip rfl rfl rfl ?_
              refine WL.skip rfl rfl rfl ?_
              refine WL.skip rfl rfl rfl ?_
              refine WL.skip rfl rfl rfl ?_
              refine WL.q (oq_pick_t rfl rfl) rfl rfl rfl ?_
              refine WL.nil (WE.then_normal (WC.sub (fr' := [(2, _), (4, _), (7, _), (94, _)]) ?_ ⟨rfl, rfl, rfl, rfl, trivial⟩))
              refine WC.cond_t rfl ?_
              refine WC.seq (WC.region ?_)
              refine WL.q (oq_build #[_, _, _, _, _] str23 ty23 rfl rfl) rfl rfl rfl ?_
              refine WL.f2 ?_
              refine WL.storeS #[_, _, _, _, _] ty23 rfl rfl rfl rfl (Nat.le_of_ble_eq_true rfl) rfl rfl ?_
              refine WL.q (oq_assign rfl) rfl rfl rfl ?_
              refine WL.nil (WE.then_normal (WC.sub (fr' := [(2, _), (3, _)]) ?_ ⟨rfl, rfl, trivial⟩))
              refine WC.ret (WE.then_ret ?_)
              refine WE.endDA0 (.inl rfl) (rs2 Tryd.results5 (rv_cellS [_, _, _, _, _] agg23 ty23 rfl (.head _) (List.mem_singleton.2 rfl) rfl rfl) (rv_tmp rfl)) (dr_lose hr2 (dr_forget hN12_2 (dr_lose hr4 (dr_add0 dr_refl)))) fresh0 ?_
              first | exact EU_no _ _ _ _ _ _ | exact ⟨_, _, _, _, _, _, rfl, fun _ => ⟨_, hgood, by first | exact fin_y hd hc19_6 q19 | exact fin_n hd hc19_6 q19, by rw [hh]⟩⟩
            ·
              try simp only [Z1, Z2, Z3, Z4, Z5, Z6, Z7, Z8, Z9, Z0] at s13_16
              refine WL.q (oq_move rfl) rfl rfl rfl ?_
              refine WL.q (oq_len_rd ho12_2.rd Tryd.underlying28 rfl) rfl rfl rfl ?_
              refine WL.q (oq_eql rfl rfl) rfl rfl rfl ?_
              refine WL.q (oq_move rfl) rfl rfl rfl ?_
              refine WL.split 75 rfl (fun s13_20 => ?_) (fun s13_20 => ?_)
              ·
                try simp only [Z1, Z2, Z3, Z4, Z5, Z6, Z7, Z8, Z9, Z0] at s13_20
                refine WL.q (oq_move rfl) rfl rfl rfl ?_
                refine WL.q (oq_ixaddr ho12_2.rd Tryd.underlying28 ty9 rfl rfl (by (first | omega | (simp only [List.length_cons, List.length_nil, List.length_append, List.length_drop, List.length_take]; omega)))) rfl rfl rfl ?_
                refine WL.q (oq_load_str ho12_2.rd (.head _) flat9 rfl (by (first | omega | (simp only [List.length_cons, List.length_nil, List.length_append, List.length_drop, List.length_take]; omega))) (by first | exact Int.toNat_natCast _ | exact rfl)) rfl rfl rfl ?_
                refine WL.qc (oq_call (eAll (ls.getD 1 []) DSET (by have := hlb 1; omega) (by decide)) call9 rfl) rfl rfl rfl ?_
                refine WL.q (oq_not rfl) rfl rfl rfl ?_
                refine WL.q (oq_move rfl) rfl rfl rfl ?_
                refine WL.split 81 rfl (fun s13_26 => ?_) (fun s13_26 => ?_)
                ·
                  try simp only [Z1, Z2, Z3, Z4, Z5, Z6, Z7, Z8, Z9, Z0] at s13_26
                  refine WL.skip rfl rfl rfl ?_
                  refine WL.skip rfl rfl rfl ?_
                  refine WL.skip rfl rfl rfl ?_
                  refine WL.skip rfl rfl rfl ?_
                  refine WL.q (oq_pick_t rfl rfl) rfl rfl rfl ?_
                  refine WL.q (oq_pick_t rfl rfl) rfl rfl rfl ?_
                  refine WL.q (oq_pick_f rfl rfl) rfl rfl rfl ?_
                  refine WL.q (oq_move rfl) rfl rfl rfl ?_
                  refine WL.skip rfl rfl rfl ?_
                  refine WL.skip rfl rfl rfl ?_
                  refine WL.skip rfl rfl rfl ?_
                  refine WL.skip rfl rfl rfl ?_
                  refine WL.q (oq_pick_t rfl rfl) rfl rfl rfl ?_
                  refine WL.nil (WE.then_normal (WC.sub (fr' := [(2, _), (4, _), (7, _), (94, _)]) ?_ ⟨rfl, rfl, rfl, rfl, trivial⟩))
                  refine WC.cond_t rfl ?_
                  refine WC.seq (WC.region ?_)
                  refine WL.q (oq_build #[_, _, _, _, _] str23 ty23 rfl rfl) rfl rfl rfl ?_
                  refine WL.f2 ?_
                  refine WL.storeS #[_, _, _, _, _] ty23 rfl rfl rfl rfl (Nat.le_of_ble_eq_true rfl) rfl rfl ?_
                  refine WL.q (oq_assign rfl) rfl rfl rfl ?_
                  refine WL.nil (WE.then_normal (WC.sub (fr' := [(2, _), (3, _)]) ?_ ⟨rfl, rfl, trivial⟩))
                  refine WC.ret (WE.then_ret ?_)
                  refine WE.endDA0 (.inl rfl) (rs2 Tryd.results5 (rv_cellS [_, _, _, _, _] agg23 ty23 rfl (.head _) (List.mem_singleton.2 rfl) rfl rfl) (rv_tmp rfl)) (dr_lose hr2 (dr_forget hN12_2 (dr_lose hr4 (dr_add0 dr_refl)))) fresh0 ?_
                  first | exact EU_no _ _ _ _ _ _ | exact ⟨_, _, _, _, _, _, rfl, fun _ => ⟨_, hgood, by first | exact fin_y hd hc19_6 q19 | exact fin_n hd hc19_6 q19, by rw [hh]⟩⟩
                ·
                  try simp only [Z1, Z2, Z3, Z4, Z5, Z6, Z7, Z8, Z9, Z0] at s13_26
                  refine WL.q (oq_move rfl) rfl rfl rfl ?_
                  refine WL.q (oq_ixaddr ho12_2.rd Tryd.underlying28 ty9 rfl rfl (by (first | omega | (simp only [List.length_cons, List.length_nil, List.length_append, List.length_drop, List.length_take]; omega)))) rfl rfl rfl ?_
                  refine WL.q (oq_load_str ho12_2.rd (.head _) flat9 rfl (by (first | omega | (simp only [List.length_cons, List.length_nil, List.length_append, List.length_drop, List.length_take]; omega))) (by first | exact Int.toNat_natCast _ | exact rfl)) rfl rfl rfl ?_
                  refine WL.q (oq_seql rfl rfl) rfl rfl rfl ?_
                  refine WL.q (oq_pick_f rfl rfl) rfl rfl rfl ?_
                  refine WL.q (oq_pick_t rfl rfl) rfl rfl rfl ?_
                  refine WL.q (oq_pick_f rfl rfl) rfl rfl rfl ?_
                  refine WL.q (oq_move rfl) rfl rfl rfl ?_
                  refine WL.split 89 rfl (fun s13_34 => ?_) (fun s13_34 => ?_)
                  ·
                    try simp only [Z1, Z2, Z3, Z4, Z5, Z6, Z7, Z8, Z9, Z0] at s13_34
                    refine WL.skip rfl rfl rfl ?_
                    refine WL.skip rfl rfl rfl ?_
                    refine WL.skip rfl rfl rfl ?_
                    refine WL.skip rfl rfl rfl ?_
                    refine WL.q (oq_pick_t rfl rfl) rfl rfl rfl ?_
                    refine WL.nil (WE.then_normal (WC.sub (fr' := [(2, _), (4, _), (7, _), (94, _)]) ?_ ⟨rfl, rfl, rfl, rfl, trivial⟩))
                    refine WC.cond_t rfl ?_
                    refine WC.seq (WC.region ?_)
                    refine WL.q (oq_build #[_, _, _, _, _] str23 ty23 rfl rfl) rfl rfl rfl ?_
                    refine WL.f2 ?_
                    refine WL.storeS #[_, _, _, _, _] ty23 rfl rfl rfl rfl (Nat.le_of_ble_eq_true rfl) rfl rfl ?_
                    refine WL.q (oq_assign rfl) rfl rfl rfl ?_
                    refine WL.nil (WE.then_normal (WC.sub (fr' := [(2, _), (3, _)]) ?_ ⟨rfl, rfl, trivial⟩))
                    refine WC.ret (WE.then_ret ?_)
                    refine WE.endDA0 (.inl rfl) (rs2 Tryd.results5 (rv_cellS [_, _, _, _, _] agg23 ty23 rfl (.head _) (List.mem_singleton.2 rfl) rfl rfl) (rv_tmp rfl)) (dr_lose hr2 (dr_forget hN12_2 (dr_lose hr4 (dr_add0 dr_refl)))) fresh0 ?_
                    first | exact EU_no _ _ _ _ _ _ | exact ⟨_, _, _, _, _, _, rfl, fun _ => ⟨_, hgood, by first | exact fin_y hd hc19_6 q19 | exact fin_n hd hc19_6 q19, by rw [hh]⟩⟩
                  ·
                    try simp only [Z1, Z2, Z3, Z4, Z5, Z6, Z7, Z8, Z9, Z0] at s13_34
                    refine WL.q (oq_fieldAddr fld23_2 rfl) rfl rfl rfl ?_
                    refine WL.q (oq_load flat9 rfl (.tail _ (.head _)) (List.mem_singleton.2 rfl) rfl) rfl rfl rfl ?_
                    refine WL.qc (oq_call (eAll (rest.drop i) PSET (by simp; omega) (by decide)) call9 rfl) rfl rfl rfl ?_
                    refine WL.q (oq_not rfl) rfl rfl rfl ?_
                    refine WL.q (oq_pick_f rfl rfl) rfl rfl rfl ?_
                    refine WL.nil (WE.then_normal (WC.sub (fr' := [(2, _), (4, _), (7, _), (94, _)]) ?_ ⟨rfl, rfl, rfl, rfl, trivial⟩))
                    refine WC.cond rfl (fun q13 => ?_) (fun q13 => ?_)
                    ·
                      try simp only [Z1, Z2, Z3, Z4, Z5, Z6, Z7, Z8, Z9, Z0] at q13
                      refine WC.seq (WC.region ?_)
                      refine WL.q (oq_build #[_, _, _, _, _] str23 ty23 rfl rfl) rfl rfl rfl ?_
                      refine WL.f2 ?_
                      refine WL.storeS #[_, _, _, _, _] ty23 rfl rfl rfl rfl (Nat.le_of_ble_eq_true rfl) rfl rfl ?_
                      refine WL.q (oq_assign rfl) rfl rfl rfl ?_
                      refine WL.nil (WE.then_normal (WC.sub (fr' := [(2, _), (3, _)]) ?_ ⟨rfl, rfl, trivial⟩))
                      refine WC.ret (WE.then_ret ?_)
                      refine WE.endDA0 (.inl rfl) (rs2 Tryd.results5 (rv_cellS [_, _, _, _, _] agg23 ty23 rfl (.head _) (List.mem_singleton.2 rfl) rfl rfl) (rv_tmp rfl)) (dr_lose hr2 (dr_forget hN12_2 (dr_lose hr4 (dr_add0 dr_refl)))) fresh0 ?_
                      first | exact EU_no _ _ _ _ _ _ | exact ⟨_, _, _, _, _, _, rfl, fun _ => ⟨_, hgood, by first | exact fin_y hd hc19_6 q19 | exact fin_n hd hc19_6 q19, by rw [hh]⟩⟩
                    ·
                      try simp only [Z1, Z2, Z3, Z4, Z5, Z6, Z7, Z8, Z9, Z0] at q13
                      refine WC.skip ?_
                      refine WE.meet () ?_ ⟨rfl, rfl, rfl, trivial⟩ (List.Perm.refl _)
                      try dsimp only
                      exact good_mk hsc hse hsl htwo s13_3 s13_9 s13_16 (fun _ => ⟨s13_26, s13_34⟩) q13
              ·
                try simp only [Z1, Z2, Z3, Z4, Z5, Z6, Z7, Z8, Z9, Z0] at s13_20
                refine WL.skip rfl rfl rfl ?_
                refine WL.skip rfl rfl rfl ?_
                refine WL.skip rfl rfl rfl ?_
                refine WL.skip rfl rfl rfl ?_
                refine WL.skip rfl rfl rfl ?_
                refine WL.skip rfl rfl rfl ?_
                refine WL.skip rfl rfl rfl ?_
                refine WL.skip rfl rfl rfl ?_
                refine WL.skip rfl rfl rfl ?_
                refine WL.skip rfl rfl rfl ?_
                refine WL.skip rfl rfl rfl ?_
                refine WL.q (oq_pick_f rfl rfl) rfl rfl rfl ?_
                refine WL.q (oq_pick_f rfl rfl) rfl rfl rfl ?_
                refine WL.q (oq_move rfl) rfl rfl rfl ?_
                refine WL.q (oq_fieldAddr fld23_2 rfl) rfl rfl rfl ?_
                refine WL.q (oq_load flat9 rfl (.tail _ (.head _)) (List.mem_singleton.2 rfl) rfl) rfl rfl rfl ?_
                refine WL.qc (oq_call (eAll (rest.drop i) PSET (by simp; omega) (by decide)) call9 rfl) rfl rfl rfl ?_
                refine WL.q (oq_not rfl) rfl rfl rfl ?_
                refine WL.q (oq_pick_f rfl rfl) rfl rfl rfl ?_
                refine WL.nil (WE.then_normal (WC.sub (fr' := [(2, _), (4, _), (7, _), (94, _)]) ?_ ⟨rfl, rfl, rfl, rfl, trivial⟩))
                refine WC.cond rfl (fun q13 => ?_) (fun q13 => ?_)
                ·
                  try simp only [Z1, Z2, Z3, Z4, Z5, Z6, Z7, Z8, Z9, Z0] at q13
                  refine WC.seq (WC.region ?_)
                  refine WL.q (oq_build #[_, _, _, _, _] str23 ty23 rfl rfl) rfl rfl rfl ?_
                  refine WL.f2 ?_
                  refine WL.storeS #[_, _, _, _, _] ty23 rfl rfl rfl rfl (Nat.le_of_ble_eq_true rfl) rfl rfl ?_
                  refine WL.q (oq_assign rfl) rfl rfl rfl ?_
                  refine WL.nil (WE.then_normal (WC.sub (fr' := [(2, _), (3, _)]) ?_ ⟨rfl, rfl, trivial⟩))
                  refine WC.ret (WE.then_ret ?_)
                  refine WE.endDA0 (.inl rfl) (rs2 Tryd.results5 (rv_cellS [_, _, _, _, _] agg23 ty23 rfl (.head _) (List.mem_singleton.2 rfl) rfl rfl) (rv_tmp rfl)) (dr_lose hr2 (dr_forget hN12_2 (dr_lose hr4 (dr_add0 dr_refl)))) fresh0 ?_
                  first | exact EU_no _ _ _ _ _ _ | exact ⟨_, _, _, _, _, _, rfl, fun _ => ⟨_, hgood, by first | exact fin_y hd hc19_6 q19 | exact fin_n hd hc19_6 q19, by rw [hh]⟩⟩
                ·
                  try simp only [Z1, Z2, Z3, Z4, Z5, Z6, Z7, Z8, Z9, Z0] at q13
                  refine WC.skip ?_
                  refine WE.meet () ?_ ⟨rfl, rfl, rfl, trivial⟩ (List.Perm.refl _)
                  try dsimp only
                  exact good_mk hsc hse hsl htwo s13_3 s13_9 s13_16 (fun h => absurd h s13_20) q13
      · rintro _ hp
        try dsimp only at hp
        obtain ⟨h, hgood, hh⟩ := hp
        show WC _ _ _ _ _ _ ([(2, Pt r2 0), (4, Pt r4 0), (7, v12_2)]) ([N12_2, [(r4, .cells #[S sc, S (rest.take i), S (rest.drop i), S [], .bool false] 23 (0, 0))], [(r2, .cells #[S [], S [], S [], S [], .bool false] 23 (0, 0))]])
        refine WC.seq (WC.region ?_)
        refine WL.q (oq_move rfl) rfl rfl rfl ?_
        refine WL.q (oq_ixaddr ho12_2.rd Tryd.underlying28 ty9 rfl rfl (by (first | omega | (simp only [List.length_cons, List.length_nil, List.length_append, List.length_drop, List.length_take]; omega)))) rfl rfl rfl ?_
        refine WL.q (oq_load_str ho12_2.rd (.head _) flat9 rfl (by (first | omega | (simp only [List.length_cons, List.length_nil, List.length_append, List.length_drop, List.length_take]; omega))) (by first | exact Int.toNat_natCast _ | exact rfl)) rfl rfl rfl ?_
        refine WL.callA0 (eFour (ls.getD 0 []) (by have := hlb 0; omega)) call10 rfl rfl rfl fun v15_3 N15_3 hR15_3 hN15_3 => ?_
        subst hR15_3
        refine WL.q (oq_fieldAddr fld23_4 rfl) rfl rfl rfl ?_
        refine WL.f2 ?_
        refine WL.store1 #[_, _, _, _, _] ty4 rfl rfl (by first | rfl | exact OwS.one one_) (Nat.lt_of_lt_of_le (Nat.lt_succ_self _) (Nat.le_of_ble_eq_true rfl)) rfl rfl ?_
        refine WL.nil (WE.then_normal (WC.sub (fr' := [(2, _), (4, _)]) ?_ ⟨rfl, rfl, trivial⟩))
        refine WC.seq (WC.region ?_)
        refine WL.q (oq_fieldAddr fld23_2 rfl) rfl rfl rfl ?_
        refine WL.q (oq_load flat9 rfl (.head _) (List.mem_singleton.2 rfl) rfl) rfl rfl rfl ?_
        refine WL.q (oq_fieldAddr fld23_3 rfl) rfl rfl rfl ?_
        refine WL.store1 #[_, _, _, _, _] ty9 rfl rfl (by first | rfl | exact OwS.one one_) (Nat.lt_of_lt_of_le (Nat.lt_succ_self _) (Nat.le_of_ble_eq_true rfl)) rfl rfl ?_
        refine WL.nil (WE.then_normal (WC.sub (fr' := [(2, _), (4, _)]) ?_ ⟨rfl, rfl, trivial⟩))
        refine WC.cut (ι := (List UInt8)) (fun (d : List UInt8) => [(2, Pt r2 0), (4, Pt r4 0)]) (fun (d : List UInt8) => [[(r4, .cells #[S sc, S (rest.take i), S (rest.drop i), S d, .bool (four (ls.getD 0 []))] 23 (0, 0))], [(r2, .cells #[S [], S [], S [], S [], .bool false] 23 (0, 0))]]) (fun (d : List UInt8) => d = ini (rest.drop i) ∧ True) ?_ ?_
        ·
          refine WC.seq (WC.region ?_)
          refine WL.q (oq_fieldAddr fld23_2 rfl) rfl rfl rfl ?_
          refine WL.q (oq_load flat9 rfl (.head _) (List.mem_singleton.2 rfl) rfl) rfl rfl rfl ?_
          refine WL.q (oq_seql rfl rfl) rfl rfl rfl ?_
          refine WL.q (oq_move rfl) rfl rfl rfl ?_
          refine WL.split 107 rfl (fun s17_3 => ?_) (fun s17_3 => ?_)
          ·
            try simp only [Z1, Z2, Z3, Z4, Z5, Z6, Z7, Z8, Z9, Z0] at s17_3
            refine WL.skip rfl rfl rfl ?_
            refine WL.skip rfl rfl rfl ?_
            refine WL.skip rfl rfl rfl ?_
            refine WL.skip rfl rfl rfl ?_
            refine WL.q (oq_pick_t rfl rfl) rfl rfl rfl ?_
            refine WL.nil (WE.then_normal (WC.sub (fr' := [(2, _), (4, _), (112, _)]) ?_ ⟨rfl, rfl, rfl, trivial⟩))
            refine WC.cond_t rfl ?_
            refine WC.region ?_
            refine WL.q (oq_fieldAddr fld23_3 rfl) rfl rfl rfl ?_
            refine WL.q (oq_load flat9 rfl (.head _) (List.mem_singleton.2 rfl) rfl) rfl rfl rfl ?_
            refine WL.q (oq_concat rfl rfl (by (first | omega | (simp only [List.length_cons, List.length_nil, List.length_append, List.length_drop, List.length_take]; omega)))) rfl rfl rfl ?_
            refine WL.q (oq_fieldAddr fld23_3 rfl) rfl rfl rfl ?_
            refine WL.store1 #[_, _, _, _, _] ty9 rfl rfl (by first | rfl | exact OwS.one one_) (Nat.lt_of_lt_of_le (Nat.lt_succ_self _) (Nat.le_of_ble_eq_true rfl)) rfl rfl ?_
            refine WL.nil ?_
            refine WE.f1 ?_
            refine WE.forget hN15_3 ?_
            refine WE.f1 ?_
            refine WE.forget ho12_2.fresh ?_
            refine WE.meet ([47] ++ rest.drop i) ?_ ⟨rfl, rfl, trivial⟩ (List.Perm.refl _)
            try dsimp only
            exact ⟨(if_pos (.inl (List.eq_nil_of_length_eq_zero s17_3))).symm, trivial⟩
          ·
            try simp only [Z1, Z2, Z3, Z4, Z5, Z6, Z7, Z8, Z9, Z0] at s17_3
            refine WL.q (oq_fieldAddr fld23_2 rfl) rfl rfl rfl ?_
            refine WL.q (oq_load flat9 rfl (.head _) (List.mem_singleton.2 rfl) rfl) rfl rfl rfl ?_
            refine WL.index_s Tryd.underlying9 rfl rfl (by (first | omega | (simp only [List.length_cons, List.length_nil, List.length_append, List.length_drop, List.length_take]; omega))) rfl rfl fun c17_6 hc17_6 hc17_6l hc17_6u => ?_
            refine WL.q (oq_neq rfl rfl) rfl rfl rfl ?_
            refine WL.q (oq_pick_f rfl rfl) rfl rfl rfl ?_
            refine WL.nil (WE.then_normal (WC.sub (fr' := [(2, _), (4, _), (112, _)]) ?_ ⟨rfl, rfl, rfl, trivial⟩))
            refine WC.cond rfl (fun q17 => ?_) (fun q17 => ?_)
            ·
              try simp only [Z1, Z2, Z3, Z4, Z5, Z6, Z7, Z8, Z9, Z0] at q17
              refine WC.region ?_
              refine WL.q (oq_fieldAddr fld23_3 rfl) rfl rfl rfl ?_
              refine WL.q (oq_load flat9 rfl (.head _) (List.mem_singleton.2 rfl) rfl) rfl rfl rfl ?_
              refine WL.q (oq_concat rfl rfl (by (first | omega | (simp only [List.length_cons, List.length_nil, List.length_append, List.length_drop, List.length_take]; omega)))) rfl rfl rfl ?_
              refine WL.q (oq_fieldAddr fld23_3 rfl) rfl rfl rfl ?_
              refine WL.store1 #[_, _, _, _, _] ty9 rfl rfl (by first | rfl | exact OwS.one one_) (Nat.lt_of_lt_of_le (Nat.lt_succ_self _) (Nat.le_of_ble_eq_true rfl)) rfl rfl ?_
              refine WL.nil ?_
              refine WE.f1 ?_
              refine WE.forget hN15_3 ?_
              refine WE.f1 ?_
              refine WE.forget ho12_2.fresh ?_
              refine WE.meet ([47] ++ rest.drop i) ?_ ⟨rfl, rfl, trivial⟩ (List.Perm.refl _)
              try dsimp only
              exact ⟨(if_pos (.inr (by rw [← hc17_6]; exact q17))).symm, trivial⟩
            ·
              try simp only [Z1, Z2, Z3, Z4, Z5, Z6, Z7, Z8, Z9, Z0] at q17
              refine WC.skip ?_
              refine WE.f1 ?_
              refine WE.forget hN15_3 ?_
              refine WE.f1 ?_
              refine WE.forget ho12_2.fresh ?_
              refine WE.meet (rest.drop i) ?_ ⟨rfl, rfl, trivial⟩ (List.Perm.refl _)
              try dsimp only
              exact ⟨(if_neg (by rintro (h | h); exact s17_3 (by rw [h]; rfl); exact h (by rw [← hc17_6]; omega))).symm, trivial⟩
        · rintro d hp
          try dsimp only at hp
          obtain ⟨hd, _⟩ := hp
          show WC _ _ _ _ _ _ ([(2, Pt r2 0), (4, Pt r4 0)]) ([[(r4, .cells #[S sc, S (rest.take i), S (rest.drop i), S d, .bool (four (ls.getD 0 []))] 23 (0, 0))], [(r2, .cells #[S [], S [], S [], S [], .bool false] 23 (0, 0))]])
          have hil := ini_len (rest.drop i)
          rw [List.length_drop, ← hd] at hil
          refine WC.seq (WC.seq (WC.region ?_))
          refine WL.q (oq_fieldAddr fld23_3 rfl) rfl rfl rfl ?_
          refine WL.q (oq_load flat9 rfl (.head _) (List.mem_singleton.2 rfl) rfl) rfl rfl rfl ?_
          refine WL.q (oq_fieldAddr fld23_3 rfl) rfl rfl rfl ?_
          refine WL.q (oq_load flat9 rfl (.head _) (List.mem_singleton.2 rfl) rfl) rfl rfl rfl ?_
          refine WL.q (oq_len_s Tryd.underlying9 rfl) rfl rfl rfl ?_
          refine WL.q (oq_sub rfl rfl (by rw [i64_lo, i64_hi]; (first | omega | (simp only [List.length_cons, List.length_nil, List.length_append, List.length_drop, List.length_take]; omega)))) rfl rfl rfl ?_
          refine WL.index_s Tryd.underlying9 rfl rfl (by (first | omega | (simp only [List.length_cons, List.length_nil, List.length_append, List.length_drop, List.length_take]; omega))) rfl rfl fun c19_6 hc19_6 hc19_6l hc19_6u => ?_
          refine WL.q (oq_neq rfl rfl) rfl rfl rfl ?_
          refine WL.nil (WE.then_normal (WC.sub (fr' := [(2, _), (4, _), (124, _)]) ?_ ⟨rfl, rfl, rfl, trivial⟩))
          refine WC.cond rfl (fun q19 => ?_) (fun q19 => ?_)
          ·
            try simp only [Z1, Z2, Z3, Z4, Z5, Z6, Z7, Z8, Z9, Z0] at q19
            refine WC.region ?_
            refine WL.q (oq_fieldAddr fld23_3 rfl) rfl rfl rfl ?_
            refine WL.q (oq_load flat9 rfl (.head _) (List.mem_singleton.2 rfl) rfl) rfl rfl rfl ?_
            refine WL.q (oq_concat rfl rfl (by (first | omega | (simp only [List.length_cons, List.length_nil, List.length_append, List.length_drop, List.length_take]; omega)))) rfl rfl rfl ?_
            refine WL.q (oq_fieldAddr fld23_3 rfl) rfl rfl rfl ?_
            refine WL.store1 #[_, _, _, _, _] ty9 rfl rfl (by first | rfl | exact OwS.one one_) (Nat.lt_of_lt_of_le (Nat.lt_succ_self _) (Nat.le_of_ble_eq_true rfl)) rfl rfl ?_
            refine WL.nil (WE.then_normal (WC.sub (fr' := [(2, _), (4, _)]) ?_ ⟨rfl, rfl, trivial⟩))
            refine WC.seq (WC.region ?_)
            refine WL.q (oq_loadS [_, _, _, _, _] agg23 ty23 rfl (.head _) (List.mem_singleton.2 rfl) rfl rfl) rfl rfl rfl ?_
            refine WL.f1 ?_
            refine WL.storeS #[_, _, _, _, _] ty23 rfl rfl rfl rfl (Nat.le_of_ble_eq_true rfl) rfl rfl ?_
            refine WL.q (oq_assign rfl) rfl rfl rfl ?_
            refine WL.nil (WE.then_normal (WC.sub (fr' := [(2, _), (3, _)]) ?_ ⟨rfl, rfl, trivial⟩))
            refine WC.ret ?_
            refine WE.endDA0 (.inl rfl) (rs2 Tryd.results5 (rv_cellS [_, _, _, _, _] agg23 ty23 rfl (.head _) (List.mem_singleton.2 rfl) rfl rfl) (rv_tmp rfl)) (dr_lose hr2 (dr_lose hr4 (dr_add0 dr_refl))) fresh0 ?_
            first | exact EU_no _ _ _ _ _ _ | exact ⟨_, _, _, _, _, _, rfl, fun _ => ⟨_, hgood, by first | exact fin_y hd hc19_6 q19 | exact fin_n hd hc19_6 q19, by rw [hh]⟩⟩
          ·
            try simp only [Z1, Z2, Z3, Z4, Z5, Z6, Z7, Z8, Z9, Z0] at q19
            refine WC.skip (WE.then_normal (WC.sub (fr' := [(2, _), (4, _)]) ?_ ⟨rfl, rfl, trivial⟩))
            refine WC.seq (WC.region ?_)
            refine WL.q (oq_loadS [_, _, _, _, _] agg23 ty23 rfl (.head _) (List.mem_singleton.2 rfl) rfl rfl) rfl rfl rfl ?_
            refine WL.f1 ?_
            refine WL.storeS #[_, _, _, _, _] ty23 rfl rfl rfl rfl (Nat.le_of_ble_eq_true rfl) rfl rfl ?_
            refine WL.q (oq_assign rfl) rfl rfl rfl ?_
            refine WL.nil (WE.then_normal (WC.sub (fr' := [(2, _), (3, _)]) ?_ ⟨rfl, rfl, trivial⟩))
            refine WC.ret ?_
            refine WE.endDA0 (.inl rfl) (rs2 Tryd.results5 (rv_cellS [_, _, _, _, _] agg23 ty23 rfl (.head _) (List.mem_singleton.2 rfl) rfl rfl) (rv_tmp rfl)) (dr_lose hr2 (dr_lose hr4 (dr_add0 dr_refl))) fresh0 ?_
            first | exact EU_no _ _ _ _ _ _ | exact ⟨_, _, _, _, _, _, rfl, fun _ => ⟨_, hgood, by first | exact fin_y hd hc19_6 q19 | exact fin_n hd hc19_6 q19, by rw [hh]⟩⟩
end M1
end Go.Proofs.YtefaegocllppkaaDoor
