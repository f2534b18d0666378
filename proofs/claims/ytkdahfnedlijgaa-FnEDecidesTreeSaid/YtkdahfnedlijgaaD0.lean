/- Walks of the decision diagrams, questions. -/
import Derived.Test.YtkdahfnedlijgaaVF
import Derived.Test.YtkdahfnedlijgaaL2
import Derived.Test.YtkdahfnedlijgaaP0
import Derived.Test.YtkdahfnedlijgaaProg
namespace Go.Proofs.Ytkdahfnedlijgaa
open Go Go.RowKit V L2
set_option linter.unusedSimpArgs false
set_option linter.unusedVariables false
set_option maxRecDepth 10000
namespace D0
theorem call11 : Callable Try.prog 11 := ⟨_, Try.func11, rfl, by kernel_rfl⟩
theorem flat3 : Flat Try.prog 3 := ⟨_, Try.underlying3, by simp⟩
theorem flat4 : Flat Try.prog 4 := ⟨_, Try.underlying4, by simp⟩
theorem flat21 : Flat Try.prog 21 := ⟨_, Try.underlying21, by simp⟩
theorem flat22 : Flat Try.prog 22 := ⟨_, Try.underlying22, by simp⟩
theorem flat23 : Flat Try.prog 23 := ⟨_, Try.underlying23, by simp⟩
theorem ty3 : Ty Try.prog 3 (.int .i64 0) 1 8 := ty_of (by kernel_rfl)
theorem ty4 : Ty Try.prog 4 (.bool false) 1 1 := ty_of (by kernel_rfl)
theorem ty21 : Ty Try.prog 21 (.int .i32 0) 1 4 := ty_of (by kernel_rfl)
theorem conc9 : Conc Try.prog 9 := ⟨_, Try.underlying9, by simp⟩

/-! ### Words -/
/-- one question of a decision diagram; 'f': what follows -/
def estepAt (ns : List Int) (ts : List Bool) (ref at_ : Int) (f : Int → Int) : Int :=
  if 100000000 ≤ ref then ref - 100000000 else if ref = 1 ∨ ref = -1 ∨ ref = 0 ∨ (ns.length : Int) < 3 * at_ then 0
  else if ns.getD ((at_ - 1) * 3).toNat 0 < 0 ∨ (ts.length : Int) ≤ ns.getD ((at_ - 1) * 3).toNat 0 then 0
  else f (if (decide (ref < 0) != ts.getD (ns.getD ((at_ - 1) * 3).toNat 0).toNat false) = true then ns.getD ((at_ - 1) * 3 + 1).toNat 0 else ns.getD ((at_ - 1) * 3 + 2).toNat 0)
def estep (ns : List Int) (ts : List Bool) (ref : Int) (f : Int → Int) : Int := estepAt ns ts ref (if ref < 0 then -ref else ref) f
def edec (ns : List Int) (ts : List Bool) : Nat → Int → Int
  | 0, ref => estep ns ts ref fun _ => 0
  | k + 1, ref => estep ns ts ref (edec ns ts k)
def enext (ns : List Int) (ts : List Bool) (k : Nat) : Int → Int := match k with | 0 => fun _ => 0 | k + 1 => edec ns ts k
theorem edec_step (ns : List Int) (ts : List Bool) (k : Nat) (ref : Int) : edec ns ts k ref = estep ns ts ref (enext ns ts k) := by cases k <;> rfl
theorem estep_res {ns : List Int} {ts : List Bool} {ref : Int} {f : Int → Int} (h : 100000000 ≤ ref) : estep ns ts ref f = ref - 100000000 := if_pos h
theorem estep_zero {ns : List Int} {ts : List Bool} {ref at_ : Int} {f : Int → Int} (h0 : ref < 100000000) (ha : at_ = if ref < 0 then -ref else ref) (h : ref = 1 ∨ ref = -1 ∨ ref = 0 ∨ (ns.length : Int) < 3 * at_) : estep ns ts ref f = 0 := by
  unfold estep; rw [← ha]; unfold estepAt; rw [if_neg (by omega), if_pos h]
theorem estep_cond {ns : List Int} {ts : List Bool} {ref at_ : Int} {f : Int → Int} (h0 : ref < 100000000) (ha : at_ = if ref < 0 then -ref else ref) (h : ns.getD ((at_ - 1) * 3).toNat 0 < 0 ∨ (ts.length : Int) ≤ ns.getD ((at_ - 1) * 3).toNat 0) : estep ns ts ref f = 0 := by
  unfold estep; rw [← ha]; unfold estepAt
  rw [if_neg (by omega), if_pos h]
  exact ite_self _
theorem estep_on {ns : List Int} {ts : List Bool} {ref at_ x : Int} {f : Int → Int} (h0 : ref < 100000000) (ha : at_ = if ref < 0 then -ref else ref) (h1 : ¬ (ref = 1 ∨ ref = -1 ∨ ref = 0)) (h2 : 3 * at_ ≤ (ns.length : Int)) (h : ¬ (ns.getD ((at_ - 1) * 3).toNat 0 < 0 ∨ (ts.length : Int) ≤ ns.getD ((at_ - 1) * 3).toNat 0))
    (hx : x = if (decide (ref < 0) != ts.getD (ns.getD ((at_ - 1) * 3).toNat 0).toNat false) = true then ns.getD ((at_ - 1) * 3 + 1).toNat 0 else ns.getD ((at_ - 1) * 3 + 2).toNat 0) :
    estep ns ts ref f = f x := by
  unfold estep; rw [← ha]; unfold estepAt
  rw [if_neg (by omega), if_neg (by omega), if_neg h, hx]
theorem edec_0 {ns : List Int} {ts : List Bool} {ref : Int} (h0 : ref < 100000000) : edec ns ts 0 ref = 0 := by
  show estep ns ts ref (fun _ => 0) = 0
  unfold estep
  generalize (if ref < 0 then -ref else ref) = a
  unfold estepAt
  rw [if_neg (by omega)]
  dsimp only
  rw [ite_self, ite_self]
theorem edec_next {ns : List Int} {ts : List Bool} {ref at_ x : Int} {k : Nat} (h0 : ref < 100000000) (ha : at_ = if ref < 0 then -ref else ref) (h1 : ¬ (ref = 1 ∨ ref = -1 ∨ ref = 0)) (h2 : 3 * at_ ≤ (ns.length : Int)) (h : ¬ (ns.getD ((at_ - 1) * 3).toNat 0 < 0 ∨ (ts.length : Int) ≤ ns.getD ((at_ - 1) * 3).toNat 0))
    (hx : x = if (decide (ref < 0) != ts.getD (ns.getD ((at_ - 1) * 3).toNat 0).toNat false) = true then ns.getD ((at_ - 1) * 3 + 1).toNat 0 else ns.getD ((at_ - 1) * 3 + 2).toNat 0) : edec ns ts (k + 1) ref = edec ns ts k x :=
  estep_on h0 ha h1 h2 h hx
theorem el_rng {ns : List Int} {lo hi : Int} (h : ∀ z ∈ ns, lo ≤ z ∧ z ≤ hi) (h0 : lo ≤ 0 ∧ 0 ≤ hi) (i : Nat) : lo ≤ ns.getD i 0 ∧ ns.getD i 0 ≤ hi := by
  rw [List.getD_eq_getElem?_getD]
  cases hh : ns[i]? with
  | none => exact h0
  | some x => exact h x (List.mem_of_getElem? hh)
/-- a block of one cell -/
def cell (b : Nat) (v : Value) (t : TypeId) : Hp := [(b, .cells #[v] t (0, 0))]
/-- given.example/pub-tinwright/impl.EDecide$2 -/
theorem ask (base : Nat) (ba bn bt : Nat) (vn vt : Value) (A : Hp) (ns : List Int) (ts : List Bool) (hrn : RdS 1 vn A ns.length (intsV .i32 ns)) (hrt : RdS 1 vt A ts.length (boolsV ts)) (a : Nat) (i : Int) (ha : a ≤ 4000000000) : FnG Try.prog 11 [I i, Pt ba 0, Pt bn 0, Pt bt 0] base [[(ba, .cells #[I (a : Int)] 3 (0, 0))], [(bn, .cells #[vn] 22 (0, 0))], [(bt, .cells #[vt] 23 (0, 0))], A] (fun v Hs => v = .bool (ts.getD i.toNat false) ∧ Hs = [[(ba, .cells #[I ((a : Int) + 1)] 3 (0, 0))], [(bn, .cells #[vn] 22 (0, 0))], [(bt, .cells #[vt] 23 (0, 0))], A] ∧ a + 1 ≤ ns.length ∧ 0 ≤ i ∧ i < ts.length) (fun Hs => Hs = [[(ba, .cells #[I ((a : Int) + 1)] 3 (0, 0))], [(bn, .cells #[vn] 22 (0, 0))], [(bt, .cells #[vt] 23 (0, 0))], A] ∧ (ns.length < a + 1 ∨ ¬ (0 ≤ i ∧ i < ts.length))) := by
  refine FnG.enter (n := 17) Try.func11 rfl rfl fun w0 R0 hbase => ?_
  subst hbase
  show WC _ _ _ _ _ _ _ ([[(ba, .cells #[I (a : Int)] 3 (0, 0))], [(bn, .cells #[vn] 22 (0, 0))], [(bt, .cells #[vt] 23 (0, 0))], A, R0])
  refine WC.sub (fr' := [(0, _), (1, _), (2, _), (3, _)]) ?_ ⟨rfl, rfl, rfl, rfl, trivial⟩
  refine WC.seq ?_
  refine WC.region ?_
  refine WL.q (oq_assign rfl) rfl rfl rfl ?_
  refine WL.nil ?_
  refine WE.then_normal ?_
  refine WC.sub (fr' := [(0, _), (1, _), (2, _), (3, _)]) ?_ ⟨rfl, rfl, rfl, rfl, trivial⟩
  refine WC.seq ?_
  refine WC.seq ?_
  refine WC.region ?_
  refine WL.q (oq_load flat3 rfl (.head _) (List.mem_singleton.2 rfl) rfl) rfl rfl rfl ?_
  refine WL.q (oq_add rfl rfl (by rw [i64_lo, i64_hi]; (first | omega | (simp only [List.length_cons, List.length_nil, List.length_append, List.length_drop, List.length_take]; omega)))) rfl rfl rfl ?_
  refine WL.store ty3 rfl rfl rfl (by simp) (by simp) rfl ?_
  refine WL.nil ?_
  refine WE.then_normal ?_
  refine WC.sub (fr' := [(0, _), (1, _), (2, _), (3, _)]) ?_ ⟨rfl, rfl, rfl, rfl, trivial⟩
  refine WC.seq ?_
  refine WC.region ?_
  refine WL.q (oq_load flat3 rfl (.head _) (List.mem_singleton.2 rfl) rfl) rfl rfl rfl ?_
  refine WL.q (oq_load flat22 rfl (.tail _ (.head _)) (List.mem_singleton.2 rfl) rfl) rfl rfl rfl ?_
  refine WL.q (oq_len_rd hrn Try.underlying22 rfl) rfl rfl rfl ?_
  refine WL.q (oq_gtr rfl rfl) rfl rfl rfl ?_
  refine WL.nil ?_
  refine WE.then_normal ?_
  refine WC.sub (fr' := [(0, _), (3, _), (11, _)]) ?_ ⟨rfl, rfl, rfl, trivial⟩
  refine WC.cond rfl (fun q2 => ?_) (fun q2 => ?_)
  ·
    try simp only [Bool.not_eq_eq_eq_not, Bool.not_true, Bool.not_false, decide_eq_true_eq, decide_eq_false_iff_not, Int.not_lt, Int.not_le, ne_eq, Decidable.not_not, ← List.length_eq_zero_iff] at q2
    refine WC.region ?_
    refine WL.q (oq_makeI conc9 rfl) rfl rfl rfl ?_
    refine WL.panic rfl rfl fun pt pv => ?_
    refine WE.then_panic ?_
    refine WE.endP [_, _, _, _] rfl ?_
    -- panic 0
    exact ⟨rfl, .inl (by omega)⟩
  ·
    try simp only [Bool.not_eq_eq_eq_not, Bool.not_true, Bool.not_false, decide_eq_true_eq, decide_eq_false_iff_not, Int.not_lt, Int.not_le, ne_eq, Decidable.not_not, ← List.length_eq_zero_iff] at q2
    refine WC.skip ?_
    refine WE.then_normal ?_
    refine WC.sub (fr' := [(0, _), (3, _)]) ?_ ⟨rfl, rfl, trivial⟩
    refine WC.seq ?_
    refine WC.region ?_
    refine WL.q (oq_load flat23 rfl (.tail _ (.tail _ (.head _))) (List.mem_singleton.2 rfl) rfl) rfl rfl rfl ?_
    refine WL.q (oq_move rfl) rfl rfl rfl ?_
    refine WL.ixp hrt Try.underlying23 ty4 rfl rfl rfl rfl (fun x4_2 => ?_) (fun x4_2 pt pv => ?_)
    ·
      refine WL.q (oq_load_bool hrt (.tail _ (.tail _ (.tail _ (.head _)))) flat4 rfl (by (first | omega | (simp only [List.length_cons, List.length_nil, List.length_append, List.length_drop, List.length_take]; omega))) (by first | exact Int.toNat_natCast _ | exact rfl)) rfl rfl rfl ?_
      refine WL.q (oq_assign rfl) rfl rfl rfl ?_
      refine WL.nil ?_
      refine WE.then_normal ?_
      refine WC.sub (fr' := [(5, _)]) ?_ ⟨rfl, trivial⟩
      refine WC.ret ?_
      refine WE.endG [_, _, _, _] rfl (.inl rfl) (res1 Try.results11 rfl) ?_
      -- end 0
      exact ⟨rfl, rfl, by omega, x4_2.1, x4_2.2⟩
    ·
      refine WE.then_panic ?_
      refine WE.endP [_, _, _, _] rfl ?_
      -- panic 1
      exact ⟨rfl, .inr x4_2⟩

/-- given.example/pub-tinwright/pub/smithy/endpoints/private/bdd.Evaluate -/
theorem evalu (base : Nat) (ba bn bt : Nat) (vn vt : Value) (A : Hp) (ns : List Int) (ts : List Bool) (hrn : RdS 1 vn A ns.length (intsV .i32 ns)) (hrt : RdS 1 vt A ts.length (boolsV ts)) (hl : ns.length ≤ 600) (hns : ∀ z ∈ ns, -100000000 ≤ z ∧ z ≤ 2147483647) (root : Int) (hroot : -100000000 ≤ root ∧ root ≤ 2147483647) : FnG Try.prog 10 [vn, .int .i32 root, .func (.func 11) #[] #[Pt ba 0, Pt bn 0, Pt bt 0]] base [[(ba, .cells #[I 0] 3 (0, 0))], [(bn, .cells #[vn] 22 (0, 0))], [(bt, .cells #[vt] 23 (0, 0))], A] (fun v Hs => v = .int .i32 (edec ns ts ns.length root) ∧ ∃ a : Nat, Hs = [[(ba, .cells #[I (a : Int)] 3 (0, 0))], [(bn, .cells #[vn] 22 (0, 0))], [(bt, .cells #[vt] 23 (0, 0))], A]) (fun Hs => edec ns ts ns.length root = 0 ∧ ∃ a : Nat, Hs = [[(ba, .cells #[I (a : Int)] 3 (0, 0))], [(bn, .cells #[vn] 22 (0, 0))], [(bt, .cells #[vt] 23 (0, 0))], A]) := by
  refine FnG.enter (n := 56) Try.func10 rfl rfl fun w0 R0 hbase => ?_
  subst hbase
  show WC _ _ _ _ _ _ _ ([[(ba, .cells #[I 0] 3 (0, 0))], [(bn, .cells #[vn] 22 (0, 0))], [(bt, .cells #[vt] 23 (0, 0))], A, R0])
  refine WC.sub (fr' := [(0, _), (1, _), (2, _)]) ?_ ⟨rfl, rfl, rfl, trivial⟩
  refine WC.seq ?_
  refine WC.region ?_
  refine WL.q (oq_assign rfl) rfl rfl rfl ?_
  refine WL.nil ?_
  refine WE.then_normal ?_
  refine WC.sub (fr' := [(0, _), (1, _), (2, _)]) ?_ ⟨rfl, rfl, rfl, trivial⟩
  refine WC.seq ?_
  refine WC.region ?_
  refine WL.q (oq_move rfl) rfl rfl rfl ?_
  refine WL.q (oq_assign rfl) rfl rfl rfl ?_
  refine WL.nil ?_
  refine WE.then_normal ?_
  refine WC.sub (fr' := [(0, _), (2, _), (7, _)]) ?_ ⟨rfl, rfl, rfl, trivial⟩
  refine WC.block ?_
  refine WC.loop (ι := Int × Nat) (fun i_ => (fun (r : Int) (a : Nat) => [(0, vn), (2, .func (.func 11) #[] #[Pt ba 0, Pt bn 0, Pt bt 0]), (7, .int .i32 r)]) i_.1 i_.2) (fun i_ => (fun (r : Int) (a : Nat) => [[(ba, .cells #[I (a : Int)] 3 (0, 0))], [(bn, .cells #[vn] 22 (0, 0))], [(bt, .cells #[vt] 23 (0, 0))], A, R0]) i_.1 i_.2) (fun i_ => (fun (r : Int) (a : Nat) => a ≤ ns.length ∧ (-100000000 ≤ r ∧ r ≤ 2147483647) ∧ edec ns ts (ns.length - a) r = edec ns ts ns.length root) i_.1 i_.2) (fun i_ => (fun (r : Int) (a : Nat) => ns.length - a) i_.1 i_.2) ((root, 0)) ?_ ⟨rfl, rfl, rfl, trivial⟩ (List.Perm.refl _) ?_
  · try dsimp only
    exact ⟨by omega, hroot, by simp⟩
  · rintro ⟨r, a⟩ hp
    try dsimp only at hp
    obtain ⟨ha, hr, hf⟩ := hp
    show WC _ _ _ _ _ _ ([(0, vn), (2, .func (.func 11) #[] #[Pt ba 0, Pt bn 0, Pt bt 0]), (7, .int .i32 r)]) ([[(ba, .cells #[I (a : Int)] 3 (0, 0))], [(bn, .cells #[vn] 22 (0, 0))], [(bt, .cells #[vt] 23 (0, 0))], A, R0])
    refine WC.block ?_
    refine WC.seq ?_
    refine WC.seq ?_
    refine WC.region ?_
    refine WL.q (oq_move rfl) rfl rfl rfl ?_
    refine WL.q (oq_geq rfl rfl) rfl rfl rfl ?_
    refine WL.nil ?_
    refine WE.then_normal ?_
    refine WC.sub (fr' := [(0, _), (2, _), (7, _), (16, _)]) ?_ ⟨rfl, rfl, rfl, rfl, trivial⟩
    refine WC.cond rfl (fun q2 => ?_) (fun q2 => ?_)
    ·
      try simp only [Bool.not_eq_eq_eq_not, Bool.not_true, Bool.not_false, decide_eq_true_eq, decide_eq_false_iff_not, Int.not_lt, Int.not_le, ne_eq, Decidable.not_not, ← List.length_eq_zero_iff] at q2
      refine WC.seq ?_
      refine WC.region ?_
      refine WL.q (oq_move rfl) rfl rfl rfl ?_
      refine WL.q (oq_sub rfl rfl (by rw [i32_lo, i32_hi]; (first | omega | (simp only [List.length_cons, List.length_nil, List.length_append, List.length_drop, List.length_take]; omega)))) rfl rfl rfl ?_
      refine WL.q (oq_assign rfl) rfl rfl rfl ?_
      refine WL.nil ?_
      refine WE.then_normal ?_
      refine WC.sub (fr' := [(6, _)]) ?_ ⟨rfl, trivial⟩
      refine WC.ret ?_
      refine WE.then_ret ?_
      refine WE.block_ret ?_
      refine WE.then_ret ?_
      refine WE.block_ret ?_
      refine WE.endG [_, _, _, _] rfl (.inl rfl) (res1 Try.results10 rfl) ?_
      -- end 0
      exact ⟨by rw [← hf, edec_step, estep_res (by omega)], a, rfl⟩
    ·
      try simp only [Bool.not_eq_eq_eq_not, Bool.not_true, Bool.not_false, decide_eq_true_eq, decide_eq_false_iff_not, Int.not_lt, Int.not_le, ne_eq, Decidable.not_not, ← List.length_eq_zero_iff] at q2
      refine WC.skip ?_
      refine WE.then_normal ?_
      refine WC.sub (fr' := [(0, _), (2, _), (7, _)]) ?_ ⟨rfl, rfl, rfl, trivial⟩
      refine WC.seq ?_
      refine WC.seq ?_
      refine WC.region ?_
      refine WL.q (oq_move rfl) rfl rfl rfl ?_
      refine WL.q (oq_eql rfl rfl) rfl rfl rfl ?_
      refine WL.q (oq_move rfl) rfl rfl rfl ?_
      refine WL.split 21 rfl (fun s4_2 => ?_) (fun s4_2 => ?_)
      ·
        try simp only [Bool.not_eq_eq_eq_not, Bool.not_true, Bool.not_false, decide_eq_true_eq, decide_eq_false_iff_not, Int.not_lt, Int.not_le, ne_eq, Decidable.not_not, ← List.length_eq_zero_iff] at s4_2
        refine WL.skip rfl rfl rfl ?_
        refine WL.skip rfl rfl rfl ?_
        refine WL.q (oq_pick_t rfl rfl) rfl rfl rfl ?_
        refine WL.nil ?_
        refine WE.then_normal ?_
        refine WC.sub (fr' := [(0, _), (2, _), (7, _), (24, _)]) ?_ ⟨rfl, rfl, rfl, rfl, trivial⟩
        refine WC.cond_t rfl ?_
        refine WC.seq ?_
        refine WC.region ?_
        refine WL.q (oq_assign rfl) rfl rfl rfl ?_
        refine WL.nil ?_
        refine WE.then_normal ?_
        refine WC.sub (fr' := [(6, _)]) ?_ ⟨rfl, trivial⟩
        refine WC.ret ?_
        refine WE.then_ret ?_
        refine WE.block_ret ?_
        refine WE.then_ret ?_
        refine WE.block_ret ?_
        refine WE.endG [_, _, _, _] rfl (.inl rfl) (res1 Try.results10 rfl) ?_
        -- end 1
        exact ⟨by rw [← hf, edec_step, estep_zero (by omega) rfl (by omega)], a, rfl⟩
      ·
        try simp only [Bool.not_eq_eq_eq_not, Bool.not_true, Bool.not_false, decide_eq_true_eq, decide_eq_false_iff_not, Int.not_lt, Int.not_le, ne_eq, Decidable.not_not, ← List.length_eq_zero_iff] at s4_2
        refine WL.q (oq_move rfl) rfl rfl rfl ?_
        refine WL.q (oq_eql rfl rfl) rfl rfl rfl ?_
        refine WL.q (oq_pick_f rfl rfl) rfl rfl rfl ?_
        refine WL.nil ?_
        refine WE.then_normal ?_
        refine WC.sub (fr' := [(0, _), (2, _), (7, _), (24, _)]) ?_ ⟨rfl, rfl, rfl, rfl, trivial⟩
        refine WC.cond rfl (fun q4 => ?_) (fun q4 => ?_)
        ·
          try simp only [Bool.not_eq_eq_eq_not, Bool.not_true, Bool.not_false, decide_eq_true_eq, decide_eq_false_iff_not, Int.not_lt, Int.not_le, ne_eq, Decidable.not_not, ← List.length_eq_zero_iff] at q4
          refine WC.seq ?_
          refine WC.region ?_
          refine WL.q (oq_assign rfl) rfl rfl rfl ?_
          refine WL.nil ?_
          refine WE.then_normal ?_
          refine WC.sub (fr' := [(6, _)]) ?_ ⟨rfl, trivial⟩
          refine WC.ret ?_
          refine WE.then_ret ?_
          refine WE.block_ret ?_
          refine WE.then_ret ?_
          refine WE.block_ret ?_
          refine WE.endG [_, _, _, _] rfl (.inl rfl) (res1 Try.results10 rfl) ?_
          -- end 2
          exact ⟨by rw [← hf, edec_step, estep_zero (by omega) rfl (by omega)], a, rfl⟩
        ·
          try simp only [Bool.not_eq_eq_eq_not, Bool.not_true, Bool.not_false, decide_eq_true_eq, decide_eq_false_iff_not, Int.not_lt, Int.not_le, ne_eq, Decidable.not_not, ← List.length_eq_zero_iff] at q4
          refine WC.skip ?_
          refine WE.then_normal ?_
          refine WC.sub (fr' := [(0, _), (2, _), (7, _)]) ?_ ⟨rfl, rfl, rfl, trivial⟩
          refine WC.seq ?_
          refine WC.region ?_
          refine WL.q (oq_move rfl) rfl rfl rfl ?_
          refine WL.q (oq_lss rfl rfl) rfl rfl rfl ?_
          refine WL.q (oq_assign rfl) rfl rfl rfl ?_
          refine WL.nil ?_
          refine WE.then_normal ?_
          refine WC.sub (fr' := [(0, _), (2, _), (7, _), (8, _)]) ?_ ⟨rfl, rfl, rfl, rfl, trivial⟩
          refine WC.seq ?_
          refine WC.region ?_
          refine WL.q (oq_move rfl) rfl rfl rfl ?_
          refine WL.q (oq_assign rfl) rfl rfl rfl ?_
          refine WL.nil ?_
          refine WE.then_normal ?_
          refine WC.sub (fr' := [(0, _), (2, _), (7, _), (8, _), (9, _)]) ?_ ⟨rfl, rfl, rfl, rfl, rfl, trivial⟩
          refine WC.cut (ι := Int) (fun (at_ : Int) => [(0, vn), (2, .func (.func 11) #[] #[Pt ba 0, Pt bn 0, Pt bt 0]), (7, .int .i32 r), (8, .bool (decide (r < 0))), (9, .int .i32 at_)]) (fun (at_ : Int) => [[(ba, .cells #[I (a : Int)] 3 (0, 0))], [(bn, .cells #[vn] 22 (0, 0))], [(bt, .cells #[vt] 23 (0, 0))], A, R0]) (fun (at_ : Int) => at_ = if r < 0 then -r else r) ?_ ?_
          ·
            refine WC.seq ?_
            refine WC.region ?_
            refine WL.q (oq_move rfl) rfl rfl rfl ?_
            refine WL.nil ?_
            refine WE.then_normal ?_
            refine WC.sub (fr' := [(0, _), (2, _), (7, _), (8, _), (9, _), (28, _)]) ?_ ⟨rfl, rfl, rfl, rfl, rfl, rfl, trivial⟩
            refine WC.cond rfl (fun q8 => ?_) (fun q8 => ?_)
            ·
              try simp only [Bool.not_eq_eq_eq_not, Bool.not_true, Bool.not_false, decide_eq_true_eq, decide_eq_false_iff_not, Int.not_lt, Int.not_le, ne_eq, Decidable.not_not, ← List.length_eq_zero_iff] at q8
              refine WC.region ?_
              refine WL.q (oq_move rfl) rfl rfl rfl ?_
              refine WL.q (oq_neg rfl (by rw [i32_lo, i32_hi]; (first | omega | (simp only [List.length_cons, List.length_nil, List.length_append, List.length_drop, List.length_take]; omega)))) rfl rfl rfl ?_
              refine WL.q (oq_assign rfl) rfl rfl rfl ?_
              refine WL.nil ?_
              refine WE.meet _ ?_ ⟨rfl, rfl, rfl, rfl, rfl, trivial⟩ (List.Perm.refl _)
              try dsimp only
              first | rw [if_pos (by simpa using q8)] | rw [if_neg (by simpa using q8)]   -- meet 0
            ·
              try simp only [Bool.not_eq_eq_eq_not, Bool.not_true, Bool.not_false, decide_eq_true_eq, decide_eq_false_iff_not, Int.not_lt, Int.not_le, ne_eq, Decidable.not_not, ← List.length_eq_zero_iff] at q8
              refine WC.skip ?_
              refine WE.meet _ ?_ ⟨rfl, rfl, rfl, rfl, rfl, trivial⟩ (List.Perm.refl _)
              try dsimp only
              first | rw [if_pos (by simpa using q8)] | rw [if_neg (by simpa using q8)]   -- meet 1
          · rintro at_ hp
            try dsimp only at hp
            show WC _ _ _ _ _ _ ([(0, vn), (2, .func (.func 11) #[] #[Pt ba 0, Pt bn 0, Pt bt 0]), (7, .int .i32 r), (8, .bool (decide (r < 0))), (9, .int .i32 at_)]) ([[(ba, .cells #[I (a : Int)] 3 (0, 0))], [(bn, .cells #[vn] 22 (0, 0))], [(bt, .cells #[vt] 23 (0, 0))], A, R0])
            have hat : at_ ≤ 100000000 ∧ 0 ≤ at_ := by rw [hp]; split <;> omega
            have ha0 : at_ = 0 ↔ r = 0 := by rw [hp]; split <;> omega
            refine WC.seq ?_
            refine WC.region ?_
            refine WL.q (oq_move rfl) rfl rfl rfl ?_
            refine WL.q (oq_sub rfl rfl (by rw [i32_lo, i32_hi]; (first | omega | (simp only [List.length_cons, List.length_nil, List.length_append, List.length_drop, List.length_take]; omega)))) rfl rfl rfl ?_
            refine WL.q (oq_mul rfl rfl (by rw [i32_lo, i32_hi]; (first | omega | (simp only [List.length_cons, List.length_nil, List.length_append, List.length_drop, List.length_take]; omega)))) rfl rfl rfl ?_
            refine WL.q (oq_assign rfl) rfl rfl rfl ?_
            refine WL.nil ?_
            refine WE.then_normal ?_
            refine WC.sub (fr' := [(0, _), (2, _), (8, _), (10, _)]) ?_ ⟨rfl, rfl, rfl, rfl, trivial⟩
            refine WC.seq ?_
            refine WC.region ?_
            refine WL.q (oq_move rfl) rfl rfl rfl ?_
            refine WL.q (oq_move rfl) rfl rfl rfl ?_
            refine WL.ixp hrn Try.underlying22 ty21 rfl rfl rfl rfl (fun x11_2 => ?_) (fun x11_2 pt pv => ?_)
            ·
              refine WL.q (oq_load_int hrn (.tail _ (.tail _ (.tail _ (.head _)))) flat21 rfl (by (first | omega | (simp only [List.length_cons, List.length_nil, List.length_append, List.length_drop, List.length_take]; omega))) (by exact Eq.refl (Int.toNat _))) rfl rfl rfl ?_
              refine WL.q (oq_assign rfl) rfl rfl rfl ?_
              refine WL.nil ?_
              refine WE.then_normal ?_
              refine WC.sub (fr' := [(0, _), (2, _), (8, _), (10, _), (11, _)]) ?_ ⟨rfl, rfl, rfl, rfl, rfl, trivial⟩
              refine WC.seq ?_
              refine WC.region ?_
              refine WL.q (oq_move rfl) rfl rfl rfl ?_
              refine WL.q (oq_move rfl) rfl rfl rfl ?_
              refine WL.q (oq_add rfl rfl (by rw [i32_lo, i32_hi]; (first | omega | (simp only [List.length_cons, List.length_nil, List.length_append, List.length_drop, List.length_take]; omega)))) rfl rfl rfl ?_
              refine WL.ixp hrn Try.underlying22 ty21 rfl rfl rfl rfl (fun x12_3 => ?_) (fun x12_3 pt pv => ?_)
              ·
                refine WL.q (oq_load_int hrn (.tail _ (.tail _ (.tail _ (.head _)))) flat21 rfl (by (first | omega | (simp only [List.length_cons, List.length_nil, List.length_append, List.length_drop, List.length_take]; omega))) (by exact Eq.refl (Int.toNat _))) rfl rfl rfl ?_
                refine WL.q (oq_assign rfl) rfl rfl rfl ?_
                refine WL.nil ?_
                refine WE.then_normal ?_
                refine WC.sub (fr' := [(0, _), (2, _), (8, _), (10, _), (11, _), (12, _)]) ?_ ⟨rfl, rfl, rfl, rfl, rfl, rfl, trivial⟩
                refine WC.seq ?_
                refine WC.region ?_
                refine WL.q (oq_move rfl) rfl rfl rfl ?_
                refine WL.q (oq_move rfl) rfl rfl rfl ?_
                refine WL.q (oq_add rfl rfl (by rw [i32_lo, i32_hi]; (first | omega | (simp only [List.length_cons, List.length_nil, List.length_append, List.length_drop, List.length_take]; omega)))) rfl rfl rfl ?_
                refine WL.ixp hrn Try.underlying22 ty21 rfl rfl rfl rfl (fun x13_3 => ?_) (fun x13_3 pt pv => ?_)
                ·
                  refine WL.q (oq_load_int hrn (.tail _ (.tail _ (.tail _ (.head _)))) flat21 rfl (by (first | omega | (simp only [List.length_cons, List.length_nil, List.length_append, List.length_drop, List.length_take]; omega))) (by exact Eq.refl (Int.toNat _))) rfl rfl rfl ?_
                  refine WL.q (oq_assign rfl) rfl rfl rfl ?_
                  refine WL.nil ?_
                  refine WE.then_normal ?_
                  refine WC.sub (fr' := [(0, _), (2, _), (8, _), (11, _), (12, _), (13, _)]) ?_ ⟨rfl, rfl, rfl, rfl, rfl, rfl, trivial⟩
                  refine WC.seq ?_
                  have hcr := el_rng hns (by omega) ((at_ - 1) * 3).toNat
                  refine WC.region ?_
                  refine WL.q (oq_move rfl) rfl rfl rfl ?_
                  refine WL.q (oq_move rfl) rfl rfl rfl ?_
                  refine WL.q (oq_move rfl) rfl rfl rfl ?_
                  refine WL.q (oq_conv Try.underlying21 Try.underlying3 rfl (by rw [i64_lo, i64_hi]; (first | omega | (simp only [List.length_cons, List.length_nil, List.length_append, List.length_drop, List.length_take]; omega)))) rfl rfl rfl ?_
                  refine WL.f3 ?_
                  refine WL.f3 ?_
                  refine WL.f3 ?_
                  refine WL.f3 ?_
                  refine WL.callG (first := []) (vs := [I _]) (cap := [Pt ba 0, Pt bn 0, Pt bt 0]) (ask _ ba bn bt vn vt A ns ts hrn hrt a _ (by omega)) call11 rfl rfl rfl rfl rfl (fun v14_4 Hs14_4 hR14_4 => ?_) (fun Hs14_4 hR14_4 pt pv => ?_)
                  ·
                    obtain ⟨rfl, rfl, ha1, hi1, hi2⟩ := hR14_4
                    refine WL.app4 ?_
                    refine WL.q (oq_bneq Try.underlying4 rfl rfl) rfl rfl rfl ?_
                    refine WL.nil ?_
                    refine WE.then_normal ?_
                    refine WC.sub (fr' := [(0, _), (2, _), (12, _), (13, _), (53, _)]) ?_ ⟨rfl, rfl, rfl, rfl, rfl, trivial⟩
                    refine WC.cond rfl (fun q14 => ?_) (fun q14 => ?_)
                    ·
                      try simp only [Bool.not_eq_eq_eq_not, Bool.not_true, Bool.not_false, decide_eq_true_eq, decide_eq_false_iff_not, Int.not_lt, Int.not_le, ne_eq, Decidable.not_not, ← List.length_eq_zero_iff] at q14
                      refine WC.region ?_
                      refine WL.q (oq_move rfl) rfl rfl rfl ?_
                      refine WL.q (oq_assign rfl) rfl rfl rfl ?_
                      refine WL.nil ?_
                      refine WE.block_normal ?_
                      refine WE.again (ns.getD ((at_ - 1) * 3 + 1).toNat 0, a + 1) ?_ ?_ ⟨rfl, rfl, rfl, trivial⟩ (List.Perm.refl _)
                      · try dsimp only   -- again 0
                        refine ⟨by omega, el_rng hns (by omega) _, ?_⟩
                        rw [← hf, show ns.length - a = (ns.length - (a + 1)) + 1 by omega]
                        exact (edec_next q2 hp (by omega) (by omega) (by omega) (by rw [if_pos (by simpa using q14)])).symm
                      · (try dsimp only); omega
                    ·
                      try simp only [Bool.not_eq_eq_eq_not, Bool.not_true, Bool.not_false, decide_eq_true_eq, decide_eq_false_iff_not, Int.not_lt, Int.not_le, ne_eq, Decidable.not_not, ← List.length_eq_zero_iff] at q14
                      refine WC.region ?_
                      refine WL.q (oq_move rfl) rfl rfl rfl ?_
                      refine WL.q (oq_assign rfl) rfl rfl rfl ?_
                      refine WL.nil ?_
                      refine WE.block_normal ?_
                      refine WE.again (ns.getD ((at_ - 1) * 3 + 2).toNat 0, a + 1) ?_ ?_ ⟨rfl, rfl, rfl, trivial⟩ (List.Perm.refl _)
                      · try dsimp only   -- again 1
                        refine ⟨by omega, el_rng hns (by omega) _, ?_⟩
                        rw [← hf, show ns.length - a = (ns.length - (a + 1)) + 1 by omega]
                        exact (edec_next q2 hp (by omega) (by omega) (by omega) (by rw [if_neg (by simpa using q14)])).symm
                      · (try dsimp only); omega
                  ·
                    obtain ⟨rfl, hno⟩ := hR14_4
                    refine WE.app4 ?_
                    refine WE.then_panic ?_
                    refine WE.block_panic ?_
                    refine WE.then_panic ?_
                    refine WE.block_panic ?_
                    refine WE.endP [_, _, _, _] rfl ?_
                    -- panic 0
                    refine ⟨?_, a + 1, rfl⟩
                    rw [← hf]
                    rcases hno with h | h
                    · rw [show ns.length - a = 0 by omega]; exact edec_0 (by omega)
                    · rw [edec_step, estep_cond (by omega) hp (by omega)]
                ·
                  refine WE.then_panic ?_
                  refine WE.block_panic ?_
                  refine WE.then_panic ?_
                  refine WE.block_panic ?_
                  refine WE.endP [_, _, _, _] rfl ?_
                  -- panic 1
                  exact ⟨by rw [← hf, edec_step, estep_zero (by omega) hp (by omega)], a, rfl⟩
              ·
                refine WE.then_panic ?_
                refine WE.block_panic ?_
                refine WE.then_panic ?_
                refine WE.block_panic ?_
                refine WE.endP [_, _, _, _] rfl ?_
                -- panic 2
                exact ⟨by rw [← hf, edec_step, estep_zero (by omega) hp (by omega)], a, rfl⟩
            ·
              refine WE.then_panic ?_
              refine WE.block_panic ?_
              refine WE.then_panic ?_
              refine WE.block_panic ?_
              refine WE.endP [_, _, _, _] rfl ?_
              -- panic 3
              exact ⟨by rw [← hf, edec_step, estep_zero (by omega) hp (by omega)], a, rfl⟩

end D0
end Go.Proofs.Ytkdahfnedlijgaa
