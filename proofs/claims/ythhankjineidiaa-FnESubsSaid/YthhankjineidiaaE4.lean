/- Walks of the law on parts of a text. -/
import Derived.Test.YthhankjineidiaaV7
import Derived.Test.YthhankjineidiaaL2
import Derived.Test.YthhankjineidiaaL1
import Derived.Test.YthhankjineidiaaP0
import Derived.Test.YthhankjineidiaaProg
namespace Go.Proofs.Ythhankjineidiaa
open Go Go.RowKit V L2 L1
set_option linter.unusedSimpArgs false
set_option linter.unusedVariables false
set_option maxRecDepth 10000
namespace E4
theorem call20 : Callable Try.prog 20 := ⟨_, Try.func20, rfl, by kernel_rfl⟩
theorem call30 : Callable Try.prog 30 := ⟨_, Try.func30, rfl, by kernel_rfl⟩
theorem call31 : Callable Try.prog 31 := ⟨_, Try.func31, rfl, by kernel_rfl⟩
theorem call46 : Callable Try.prog 46 := ⟨_, Try.func46, rfl, by kernel_rfl⟩
theorem flat9 : Flat Try.prog 9 := ⟨_, Try.underlying9, by simp⟩
theorem ty9 : Ty Try.prog 9 (S []) 1 16 := ty_of (by kernel_rfl)

def asc (c : UInt8) : Bool := decide (c.toNat < 128)
def epart (s : List UInt8) (a b : Int) (r : Bool) : Option (List UInt8) :=
  if s.all asc = false ∨ a < 0 ∨ b ≤ a ∨ (s.length : Int) < b then none else some (if r then cut s ((s.length : Int) - b) ((s.length : Int) - a) else cut s a b)
theorem ep_none {s : List UInt8} {a b : Int} {r : Bool} (h : s.all asc = false ∨ a < 0 ∨ b ≤ a ∨ (s.length : Int) < b) : epart s a b r = none := if_pos h
theorem ep_some {s : List UInt8} {a b : Int} {r : Bool} (ha : s.all asc = true) (h : 0 ≤ a ∧ a < b ∧ b ≤ (s.length : Int)) : epart s a b r = some (if r then cut s ((s.length : Int) - b) ((s.length : Int) - a) else cut s a b) :=
  if_neg (by rw [ha]; simp; omega)
theorem asc_drop (s : List UInt8) (i : Nat) (h : i < s.length) : (s.drop i).all asc = (asc s[i] && (s.drop (i + 1)).all asc) := by
  rw [List.drop_eq_getElem_cons h]; rfl
theorem asc_no (s : List UInt8) (i : Nat) (h : i < s.length) (hr : 127 < ((decAt s i).1 : Int)) (hf : s.all asc = (s.drop i).all asc) : s.all asc = false := by
  rw [hf, asc_drop s i h]
  have : ¬ s[i].toNat < 128 := fun hc => by
    have e : decAt s i = (s[i].toNat, 1) := decAt_ascii s i h hc
    rw [e] at hr; simp at hr; omega
  rw [show asc s[i] = false from decide_eq_false this]; rfl
theorem asc_yes (s : List UInt8) (i : Nat) (h : i < s.length) (hr : ((decAt s i).1 : Int) ≤ 127) (hf : s.all asc = (s.drop i).all asc) : s.all asc = (s.drop (i + (decAt s i).2)).all asc := by
  have hc : s[i].toNat < 128 := by
    rcases Nat.lt_or_ge s[i].toNat 128 with h1 | h1
    · exact h1
    · have e : 128 ≤ (decAt s i).1 := decAt_wide s i h (by omega)
      omega
  have e : decAt s i = (s[i].toNat, 1) := decAt_ascii s i h hc
  rw [e, hf, asc_drop s i h, show asc s[i] = true from decide_eq_true hc]; rfl
theorem asc_end (s : List UInt8) (i : Nat) (h : s.length ≤ i) (hf : s.all asc = (s.drop i).all asc) : s.all asc = true := by
  rw [hf, List.drop_eq_nil_of_le h]; rfl
theorem asc_byte (s : List UInt8) (i : Nat) (h : i < s.length) : asc s[i] = decide (byteAt s i < 128) := by
  rw [byteAt_get s i h]; unfold asc; rw [Bool.eq_iff_iff]; simp only [decide_eq_true_eq]; omega
/-- the result of a function that gives a part, or nil -/
def PartR (o : Option (List UInt8)) (v : Value) (N : Hp) : Prop := ∃ p, v = .pointer p ∧ p.isNone = o.isNone ∧ ∀ x, o = some x → ∃ b, p = some ⟨b, 0, none⟩ ∧ N = [(b, .cells #[S x] 9 (0, 0))]
theorem PartR.no {o : Option (List UInt8)} (h : o = none) : PartR o (.pointer none) [] := ⟨none, rfl, by rw [h]; rfl, fun x hx => by rw [h] at hx; cases hx⟩
theorem PartR.yes {o : Option (List UInt8)} {x : List UInt8} {b : Nat} {c : Array Value} (h : o = some x) (hc : c = #[S x]) : PartR o (Pt b 0) [(b, .cells c 9 (0, 0))] := ⟨_, rfl, by rw [h]; rfl, fun y hy => by rw [h] at hy; cases hy; exact ⟨b, rfl, by rw [hc]⟩⟩
/-- given.example/pub-tinwright/pub/smithy/endpoints/private/rulesfn.SubString -/
theorem sub0 (s : List UInt8) (a b : Int) (hs : s.length ≤ 4000000000) : FnA Try.prog 46 [S s, I a, I b, .bool false] [] (PartR (epart s a b false)) := by
  refine FnA.enter0 (n := 56) Try.func46 rfl rfl fun w0 => ?_
  refine WC.sub (fr' := [(0, _), (1, _), (2, _), (3, _)]) ?_ ⟨rfl, rfl, rfl, rfl, trivial⟩
  refine WC.seq ?_
  refine WC.region ?_
  refine WL.q (oq_assign rfl) rfl rfl rfl ?_
  refine WL.nil ?_
  refine WE.then_normal ?_
  refine WC.sub (fr' := [(0, _), (1, _), (2, _), (3, _)]) ?_ ⟨rfl, rfl, rfl, rfl, trivial⟩
  refine WC.seq ?_
  refine WC.seq ?_
  refine WC.region ?_
  refine WL.q (oq_move rfl) rfl rfl rfl ?_
  refine WL.q (oq_lss rfl rfl) rfl rfl rfl ?_
  refine WL.q (oq_move rfl) rfl rfl rfl ?_
  refine WL.split 16 rfl (fun s1_2 => ?_) (fun s1_2 => ?_)
  ·
    try simp only [Bool.not_eq_eq_eq_not, Bool.not_true, Bool.not_false, decide_eq_true_eq, decide_eq_false_iff_not, Int.not_lt, Int.not_le, ne_eq, Decidable.not_not, ← List.length_eq_zero_iff] at s1_2
    refine WL.skip rfl rfl rfl ?_
    refine WL.skip rfl rfl rfl ?_
    refine WL.q (oq_pick_t rfl rfl) rfl rfl rfl ?_
    refine WL.q (oq_move rfl) rfl rfl rfl ?_
    refine WL.skip rfl rfl rfl ?_
    refine WL.skip rfl rfl rfl ?_
    refine WL.skip rfl rfl rfl ?_
    refine WL.q (oq_pick_t rfl rfl) rfl rfl rfl ?_
    refine WL.q (oq_move rfl) rfl rfl rfl ?_
    refine WL.skip rfl rfl rfl ?_
    refine WL.skip rfl rfl rfl ?_
    refine WL.skip rfl rfl rfl ?_
    refine WL.skip rfl rfl rfl ?_
    refine WL.q (oq_pick_t rfl rfl) rfl rfl rfl ?_
    refine WL.nil ?_
    refine WE.then_normal ?_
    refine WC.sub (fr' := [(0, _), (1, _), (2, _), (3, _), (30, _)]) ?_ ⟨rfl, rfl, rfl, rfl, rfl, trivial⟩
    refine WC.cond_t rfl ?_
    refine WC.seq ?_
    refine WC.region ?_
    refine WL.q (oq_assign rfl) rfl rfl rfl ?_
    refine WL.nil ?_
    refine WE.then_normal ?_
    refine WC.sub (fr' := [(8, _)]) ?_ ⟨rfl, trivial⟩
    refine WC.ret ?_
    refine WE.then_ret ?_
    refine WE.add0 ?_
    refine WE.endA0 (.inl rfl) (res1 Try.results46 rfl) ?_ fresh0
    -- end 0
    exact PartR.no (ep_none (by omega))
  ·
    try simp only [Bool.not_eq_eq_eq_not, Bool.not_true, Bool.not_false, decide_eq_true_eq, decide_eq_false_iff_not, Int.not_lt, Int.not_le, ne_eq, Decidable.not_not, ← List.length_eq_zero_iff] at s1_2
    refine WL.q (oq_move rfl) rfl rfl rfl ?_
    refine WL.q (oq_lss rfl rfl) rfl rfl rfl ?_
    refine WL.q (oq_pick_f rfl rfl) rfl rfl rfl ?_
    refine WL.q (oq_move rfl) rfl rfl rfl ?_
    refine WL.split 20 rfl (fun s1_6 => ?_) (fun s1_6 => ?_)
    ·
      try simp only [Bool.not_eq_eq_eq_not, Bool.not_true, Bool.not_false, decide_eq_true_eq, decide_eq_false_iff_not, Int.not_lt, Int.not_le, ne_eq, Decidable.not_not, ← List.length_eq_zero_iff] at s1_6
      refine WL.skip rfl rfl rfl ?_
      refine WL.skip rfl rfl rfl ?_
      refine WL.skip rfl rfl rfl ?_
      refine WL.q (oq_pick_t rfl rfl) rfl rfl rfl ?_
      refine WL.q (oq_move rfl) rfl rfl rfl ?_
      refine WL.skip rfl rfl rfl ?_
      refine WL.skip rfl rfl rfl ?_
      refine WL.skip rfl rfl rfl ?_
      refine WL.skip rfl rfl rfl ?_
      refine WL.q (oq_pick_t rfl rfl) rfl rfl rfl ?_
      refine WL.nil ?_
      refine WE.then_normal ?_
      refine WC.sub (fr' := [(0, _), (1, _), (2, _), (3, _), (30, _)]) ?_ ⟨rfl, rfl, rfl, rfl, rfl, trivial⟩
      refine WC.cond_t rfl ?_
      refine WC.seq ?_
      refine WC.region ?_
      refine WL.q (oq_assign rfl) rfl rfl rfl ?_
      refine WL.nil ?_
      refine WE.then_normal ?_
      refine WC.sub (fr' := [(8, _)]) ?_ ⟨rfl, trivial⟩
      refine WC.ret ?_
      refine WE.then_ret ?_
      refine WE.add0 ?_
      refine WE.endA0 (.inl rfl) (res1 Try.results46 rfl) ?_ fresh0
      -- end 1
      exact PartR.no (ep_none (by omega))
    ·
      try simp only [Bool.not_eq_eq_eq_not, Bool.not_true, Bool.not_false, decide_eq_true_eq, decide_eq_false_iff_not, Int.not_lt, Int.not_le, ne_eq, Decidable.not_not, ← List.length_eq_zero_iff] at s1_6
      refine WL.q (oq_move rfl) rfl rfl rfl ?_
      refine WL.q (oq_move rfl) rfl rfl rfl ?_
      refine WL.q (oq_geq rfl rfl) rfl rfl rfl ?_
      refine WL.q (oq_pick_f rfl rfl) rfl rfl rfl ?_
      refine WL.q (oq_move rfl) rfl rfl rfl ?_
      refine WL.split 25 rfl (fun s1_11 => ?_) (fun s1_11 => ?_)
      ·
        try simp only [Bool.not_eq_eq_eq_not, Bool.not_true, Bool.not_false, decide_eq_true_eq, decide_eq_false_iff_not, Int.not_lt, Int.not_le, ne_eq, Decidable.not_not, ← List.length_eq_zero_iff] at s1_11
        refine WL.skip rfl rfl rfl ?_
        refine WL.skip rfl rfl rfl ?_
        refine WL.skip rfl rfl rfl ?_
        refine WL.skip rfl rfl rfl ?_
        refine WL.q (oq_pick_t rfl rfl) rfl rfl rfl ?_
        refine WL.nil ?_
        refine WE.then_normal ?_
        refine WC.sub (fr' := [(0, _), (1, _), (2, _), (3, _), (30, _)]) ?_ ⟨rfl, rfl, rfl, rfl, rfl, trivial⟩
        refine WC.cond_t rfl ?_
        refine WC.seq ?_
        refine WC.region ?_
        refine WL.q (oq_assign rfl) rfl rfl rfl ?_
        refine WL.nil ?_
        refine WE.then_normal ?_
        refine WC.sub (fr' := [(8, _)]) ?_ ⟨rfl, trivial⟩
        refine WC.ret ?_
        refine WE.then_ret ?_
        refine WE.add0 ?_
        refine WE.endA0 (.inl rfl) (res1 Try.results46 rfl) ?_ fresh0
        -- end 2
        exact PartR.no (ep_none (by omega))
      ·
        try simp only [Bool.not_eq_eq_eq_not, Bool.not_true, Bool.not_false, decide_eq_true_eq, decide_eq_false_iff_not, Int.not_lt, Int.not_le, ne_eq, Decidable.not_not, ← List.length_eq_zero_iff] at s1_11
        refine WL.q (oq_move rfl) rfl rfl rfl ?_
        refine WL.q (oq_len_s Try.underlying9 rfl) rfl rfl rfl ?_
        refine WL.q (oq_move rfl) rfl rfl rfl ?_
        refine WL.q (oq_lss rfl rfl) rfl rfl rfl ?_
        refine WL.q (oq_pick_f rfl rfl) rfl rfl rfl ?_
        refine WL.nil ?_
        refine WE.then_normal ?_
        refine WC.sub (fr' := [(0, _), (1, _), (2, _), (3, _), (30, _)]) ?_ ⟨rfl, rfl, rfl, rfl, rfl, trivial⟩
        refine WC.cond rfl (fun q1 => ?_) (fun q1 => ?_)
        ·
          try simp only [Bool.not_eq_eq_eq_not, Bool.not_true, Bool.not_false, decide_eq_true_eq, decide_eq_false_iff_not, Int.not_lt, Int.not_le, ne_eq, Decidable.not_not, ← List.length_eq_zero_iff] at q1
          refine WC.seq ?_
          refine WC.region ?_
          refine WL.q (oq_assign rfl) rfl rfl rfl ?_
          refine WL.nil ?_
          refine WE.then_normal ?_
          refine WC.sub (fr' := [(8, _)]) ?_ ⟨rfl, trivial⟩
          refine WC.ret ?_
          refine WE.then_ret ?_
          refine WE.add0 ?_
          refine WE.endA0 (.inl rfl) (res1 Try.results46 rfl) ?_ fresh0
          -- end 3
          exact PartR.no (ep_none (by omega))
        ·
          try simp only [Bool.not_eq_eq_eq_not, Bool.not_true, Bool.not_false, decide_eq_true_eq, decide_eq_false_iff_not, Int.not_lt, Int.not_le, ne_eq, Decidable.not_not, ← List.length_eq_zero_iff] at q1
          refine WC.skip ?_
          refine WE.then_normal ?_
          refine WC.sub (fr' := [(0, _), (1, _), (2, _), (3, _)]) ?_ ⟨rfl, rfl, rfl, rfl, trivial⟩
          refine WC.seq ?_
          refine WC.seq ?_
          refine WC.region ?_
          refine WL.q (oq_move rfl) rfl rfl rfl ?_
          refine WL.range_s Try.underlying9 rfl rfl rfl fun it hit => ?_
          refine WL.nil ?_
          refine WE.then_normal ?_
          refine WC.sub (fr' := [(0, _), (1, _), (2, _), (3, _), (32, _)]) ?_ ⟨rfl, rfl, rfl, rfl, rfl, trivial⟩
          refine WC.block ?_
          refine WC.loop (ι := Nat) (fun (i : Nat) => [(0, S s), (1, I a), (2, I b), (3, .bool false), (32, Pt it 0)]) (fun (i : Nat) => [[(it, .stringIter ⟨⟨s⟩⟩ i)]]) (fun (i : Nat) => s.all asc = (s.drop i).all asc) (fun (i : Nat) => s.length - i) (0) ?_ ⟨rfl, rfl, rfl, rfl, rfl, trivial⟩ (List.Perm.refl _) ?_
          · try dsimp only
            rfl
          · rintro i hp
            try dsimp only at hp
            show WC _ _ _ _ _ _ ([(0, S s), (1, I a), (2, I b), (3, .bool false), (32, Pt it 0)]) ([[(it, .stringIter ⟨⟨s⟩⟩ i)]])
            refine WC.seq ?_
            refine WC.region ?_
            refine WL.next_s rfl rfl rfl (fun n4 => ?_) (fun n4 => ?_)
            ·
              refine WL.q (oq_extract rfl rfl) rfl rfl rfl ?_
              refine WL.nil ?_
              refine WE.then_normal ?_
              refine WC.sub (fr' := [(0, _), (1, _), (2, _), (3, _), (32, _), (33, _), (34, _)]) ?_ ⟨rfl, rfl, rfl, rfl, rfl, rfl, rfl, trivial⟩
              refine WC.seq ?_
              refine WC.cond_t rfl ?_
              refine WC.skip ?_
              refine WE.then_normal ?_
              refine WC.sub (fr' := [(0, _), (1, _), (2, _), (3, _), (32, _), (33, _)]) ?_ ⟨rfl, rfl, rfl, rfl, rfl, rfl, trivial⟩
              refine WC.block ?_
              refine WC.seq ?_
              refine WC.region ?_
              refine WL.q (oq_extract rfl rfl) rfl rfl rfl ?_
              refine WL.q (oq_assign rfl) rfl rfl rfl ?_
              refine WL.nil ?_
              refine WE.then_normal ?_
              refine WC.sub (fr' := [(0, _), (1, _), (2, _), (3, _), (10, _), (32, _)]) ?_ ⟨rfl, rfl, rfl, rfl, rfl, rfl, trivial⟩
              refine WC.seq ?_
              refine WC.region ?_
              refine WL.q (oq_move rfl) rfl rfl rfl ?_
              refine WL.q (oq_gtr rfl rfl) rfl rfl rfl ?_
              refine WL.nil ?_
              refine WE.then_normal ?_
              refine WC.sub (fr' := [(0, _), (1, _), (2, _), (3, _), (32, _), (37, _)]) ?_ ⟨rfl, rfl, rfl, rfl, rfl, rfl, trivial⟩
              refine WC.cond rfl (fun q6 => ?_) (fun q6 => ?_)
              ·
                try simp only [Bool.not_eq_eq_eq_not, Bool.not_true, Bool.not_false, decide_eq_true_eq, decide_eq_false_iff_not, Int.not_lt, Int.not_le, ne_eq, Decidable.not_not, ← List.length_eq_zero_iff] at q6
                refine WC.seq ?_
                refine WC.region ?_
                refine WL.q (oq_assign rfl) rfl rfl rfl ?_
                refine WL.nil ?_
                refine WE.then_normal ?_
                refine WC.sub (fr' := [(8, _)]) ?_ ⟨rfl, trivial⟩
                refine WC.ret ?_
                refine WE.block_ret ?_
                refine WE.then_ret ?_
                refine WE.block_ret ?_
                refine WE.then_ret ?_
                refine WE.lose hit ?_
                refine WE.add0 ?_
                refine WE.endA0 (.inl rfl) (res1 Try.results46 rfl) ?_ fresh0
                -- end 4
                exact PartR.no (ep_none (.inl (asc_no s i n4 (by omega) hp)))
              ·
                try simp only [Bool.not_eq_eq_eq_not, Bool.not_true, Bool.not_false, decide_eq_true_eq, decide_eq_false_iff_not, Int.not_lt, Int.not_le, ne_eq, Decidable.not_not, ← List.length_eq_zero_iff] at q6
                refine WC.skip ?_
                refine WE.block_normal ?_
                have hw := decAt_width s i n4
                refine WE.again (i + (decAt s i).2) ?_ ?_ ⟨rfl, rfl, rfl, rfl, rfl, trivial⟩ (List.Perm.refl _)
                · try dsimp only   -- again 0
                  exact asc_yes s i n4 (by omega) hp
                · (try dsimp only); omega
            ·
              refine WL.q (oq_extract rfl rfl) rfl rfl rfl ?_
              refine WL.nil ?_
              refine WE.then_normal ?_
              refine WC.sub (fr' := [(0, _), (1, _), (2, _), (3, _), (32, _), (33, _), (34, _)]) ?_ ⟨rfl, rfl, rfl, rfl, rfl, rfl, rfl, trivial⟩
              refine WC.seq ?_
              refine WC.cond_f rfl ?_
              refine WC.exit ?_
              refine WE.then_exit ?_
              refine WE.then_exit ?_
              refine WE.block_same ?_
              refine WE.then_normal ?_
              refine WC.sub (fr' := [(0, _), (1, _), (2, _), (3, _)]) ?_ ⟨rfl, rfl, rfl, rfl, trivial⟩
              refine WC.seq ?_
              refine WC.seq ?_
              refine WC.region ?_
              refine WL.q (oq_move rfl) rfl rfl rfl ?_
              refine WL.q (oq_not rfl) rfl rfl rfl ?_
              refine WL.nil ?_
              refine WE.then_normal ?_
              refine WC.sub (fr' := [(0, _), (1, _), (2, _), (39, _)]) ?_ ⟨rfl, rfl, rfl, rfl, trivial⟩
              refine WC.cond_t rfl ?_
              refine WC.seq ?_
              refine WC.region ?_
              refine WL.q (oq_move rfl) rfl rfl rfl ?_
              refine WL.q (oq_move rfl) rfl rfl rfl ?_
              refine WL.q (oq_move rfl) rfl rfl rfl ?_
              refine WL.q (oq_slice_s2 Try.underlying9 rfl rfl rfl (by (first | omega | (simp only [List.length_cons, List.length_nil, List.length_append, List.length_drop, List.length_take]; omega)))) rfl rfl rfl ?_
              refine WL.alloc ty9 rfl rfl fun b9_4 hb9_4 => ?_
              refine WL.store ty9 rfl rfl rfl (by decide) (by simp) rfl ?_
              refine WL.nil ?_
              refine WE.then_normal ?_
              refine WC.sub (fr' := [(11, _)]) ?_ ⟨rfl, trivial⟩
              refine WC.seq ?_
              refine WC.region ?_
              refine WL.q (oq_assign rfl) rfl rfl rfl ?_
              refine WL.nil ?_
              refine WE.then_normal ?_
              refine WC.sub (fr' := [(8, _)]) ?_ ⟨rfl, trivial⟩
              refine WC.ret ?_
              refine WE.then_ret ?_
              refine WE.f1 ?_
              refine WE.lose hit ?_
              refine WE.endA0 (.inl rfl) (res1 Try.results46 rfl) ?_ (fresh1 hb9_4)
              -- end 5
              exact PartR.yes (ep_some (asc_end s i n4 hp) (by omega)) rfl

/-- given.example/pub-tinwright/pub/smithy/endpoints/private/rulesfn.SubString -/
theorem sub1 (s : List UInt8) (a b : Int) (hs : s.length ≤ 4000000000) : FnA Try.prog 46 [S s, I a, I b, .bool true] [] (PartR (epart s a b true)) := by
  refine FnA.enter0 (n := 56) Try.func46 rfl rfl fun w0 => ?_
  refine WC.sub (fr' := [(0, _), (1, _), (2, _), (3, _)]) ?_ ⟨rfl, rfl, rfl, rfl, trivial⟩
  refine WC.seq ?_
  refine WC.region ?_
  refine WL.q (oq_assign rfl) rfl rfl rfl ?_
  refine WL.nil ?_
  refine WE.then_normal ?_
  refine WC.sub (fr' := [(0, _), (1, _), (2, _), (3, _)]) ?_ ⟨rfl, rfl, rfl, rfl, trivial⟩
  refine WC.seq ?_
  refine WC.seq ?_
  refine WC.region ?_
  refine WL.q (oq_move rfl) rfl rfl rfl ?_
  refine WL.q (oq_lss rfl rfl) rfl rfl rfl ?_
  refine WL.q (oq_move rfl) rfl rfl rfl ?_
  refine WL.split 16 rfl (fun s1_2 => ?_) (fun s1_2 => ?_)
  ·
    try simp only [Bool.not_eq_eq_eq_not, Bool.not_true, Bool.not_false, decide_eq_true_eq, decide_eq_false_iff_not, Int.not_lt, Int.not_le, ne_eq, Decidable.not_not, ← List.length_eq_zero_iff] at s1_2
    refine WL.skip rfl rfl rfl ?_
    refine WL.skip rfl rfl rfl ?_
    refine WL.q (oq_pick_t rfl rfl) rfl rfl rfl ?_
    refine WL.q (oq_move rfl) rfl rfl rfl ?_
    refine WL.skip rfl rfl rfl ?_
    refine WL.skip rfl rfl rfl ?_
    refine WL.skip rfl rfl rfl ?_
    refine WL.q (oq_pick_t rfl rfl) rfl rfl rfl ?_
    refine WL.q (oq_move rfl) rfl rfl rfl ?_
    refine WL.skip rfl rfl rfl ?_
    refine WL.skip rfl rfl rfl ?_
    refine WL.skip rfl rfl rfl ?_
    refine WL.skip rfl rfl rfl ?_
    refine WL.q (oq_pick_t rfl rfl) rfl rfl rfl ?_
    refine WL.nil ?_
    refine WE.then_normal ?_
    refine WC.sub (fr' := [(0, _), (1, _), (2, _), (3, _), (30, _)]) ?_ ⟨rfl, rfl, rfl, rfl, rfl, trivial⟩
    refine WC.cond_t rfl ?_
    refine WC.seq ?_
    refine WC.region ?_
    refine WL.q (oq_assign rfl) rfl rfl rfl ?_
    refine WL.nil ?_
    refine WE.then_normal ?_
    refine WC.sub (fr' := [(8, _)]) ?_ ⟨rfl, trivial⟩
    refine WC.ret ?_
    refine WE.then_ret ?_
    refine WE.add0 ?_
    refine WE.endA0 (.inl rfl) (res1 Try.results46 rfl) ?_ fresh0
    -- end 0
    exact PartR.no (ep_none (by omega))
  ·
    try simp only [Bool.not_eq_eq_eq_not, Bool.not_true, Bool.not_false, decide_eq_true_eq, decide_eq_false_iff_not, Int.not_lt, Int.not_le, ne_eq, Decidable.not_not, ← List.length_eq_zero_iff] at s1_2
    refine WL.q (oq_move rfl) rfl rfl rfl ?_
    refine WL.q (oq_lss rfl rfl) rfl rfl rfl ?_
    refine WL.q (oq_pick_f rfl rfl) rfl rfl rfl ?_
    refine WL.q (oq_move rfl) rfl rfl rfl ?_
    refine WL.split 20 rfl (fun s1_6 => ?_) (fun s1_6 => ?_)
    ·
      try simp only [Bool.not_eq_eq_eq_not, Bool.not_true, Bool.not_false, decide_eq_true_eq, decide_eq_false_iff_not, Int.not_lt, Int.not_le, ne_eq, Decidable.not_not, ← List.length_eq_zero_iff] at s1_6
      refine WL.skip rfl rfl rfl ?_
      refine WL.skip rfl rfl rfl ?_
      refine WL.skip rfl rfl rfl ?_
      refine WL.q (oq_pick_t rfl rfl) rfl rfl rfl ?_
      refine WL.q (oq_move rfl) rfl rfl rfl ?_
      refine WL.skip rfl rfl rfl ?_
      refine WL.skip rfl rfl rfl ?_
      refine WL.skip rfl rfl rfl ?_
      refine WL.skip rfl rfl rfl ?_
      refine WL.q (oq_pick_t rfl rfl) rfl rfl rfl ?_
      refine WL.nil ?_
      refine WE.then_normal ?_
      refine WC.sub (fr' := [(0, _), (1, _), (2, _), (3, _), (30, _)]) ?_ ⟨rfl, rfl, rfl, rfl, rfl, trivial⟩
      refine WC.cond_t rfl ?_
      refine WC.seq ?_
      refine WC.region ?_
      refine WL.q (oq_assign rfl) rfl rfl rfl ?_
      refine WL.nil ?_
      refine WE.then_normal ?_
      refine WC.sub (fr' := [(8, _)]) ?_ ⟨rfl, trivial⟩
      refine WC.ret ?_
      refine WE.then_ret ?_
      refine WE.add0 ?_
      refine WE.endA0 (.inl rfl) (res1 Try.results46 rfl) ?_ fresh0
      -- end 1
      exact PartR.no (ep_none (by omega))
    ·
      try simp only [Bool.not_eq_eq_eq_not, Bool.not_true, Bool.not_false, decide_eq_true_eq, decide_eq_false_iff_not, Int.not_lt, Int.not_le, ne_eq, Decidable.not_not, ← List.length_eq_zero_iff] at s1_6
      refine WL.q (oq_move rfl) rfl rfl rfl ?_
      refine WL.q (oq_move rfl) rfl rfl rfl ?_
      refine WL.q (oq_geq rfl rfl) rfl rfl rfl ?_
      refine WL.q (oq_pick_f rfl rfl) rfl rfl rfl ?_
      refine WL.q (oq_move rfl) rfl rfl rfl ?_
      refine WL.split 25 rfl (fun s1_11 => ?_) (fun s1_11 => ?_)
      ·
        try simp only [Bool.not_eq_eq_eq_not, Bool.not_true, Bool.not_false, decide_eq_true_eq, decide_eq_false_iff_not, Int.not_lt, Int.not_le, ne_eq, Decidable.not_not, ← List.length_eq_zero_iff] at s1_11
        refine WL.skip rfl rfl rfl ?_
        refine WL.skip rfl rfl rfl ?_
        refine WL.skip rfl rfl rfl ?_
        refine WL.skip rfl rfl rfl ?_
        refine WL.q (oq_pick_t rfl rfl) rfl rfl rfl ?_
        refine WL.nil ?_
        refine WE.then_normal ?_
        refine WC.sub (fr' := [(0, _), (1, _), (2, _), (3, _), (30, _)]) ?_ ⟨rfl, rfl, rfl, rfl, rfl, trivial⟩
        refine WC.cond_t rfl ?_
        refine WC.seq ?_
        refine WC.region ?_
        refine WL.q (oq_assign rfl) rfl rfl rfl ?_
        refine WL.nil ?_
        refine WE.then_normal ?_
        refine WC.sub (fr' := [(8, _)]) ?_ ⟨rfl, trivial⟩
        refine WC.ret ?_
        refine WE.then_ret ?_
        refine WE.add0 ?_
        refine WE.endA0 (.inl rfl) (res1 Try.results46 rfl) ?_ fresh0
        -- end 2
        exact PartR.no (ep_none (by omega))
      ·
        try simp only [Bool.not_eq_eq_eq_not, Bool.not_true, Bool.not_false, decide_eq_true_eq, decide_eq_false_iff_not, Int.not_lt, Int.not_le, ne_eq, Decidable.not_not, ← List.length_eq_zero_iff] at s1_11
        refine WL.q (oq_move rfl) rfl rfl rfl ?_
        refine WL.q (oq_len_s Try.underlying9 rfl) rfl rfl rfl ?_
        refine WL.q (oq_move rfl) rfl rfl rfl ?_
        refine WL.q (oq_lss rfl rfl) rfl rfl rfl ?_
        refine WL.q (oq_pick_f rfl rfl) rfl rfl rfl ?_
        refine WL.nil ?_
        refine WE.then_normal ?_
        refine WC.sub (fr' := [(0, _), (1, _), (2, _), (3, _), (30, _)]) ?_ ⟨rfl, rfl, rfl, rfl, rfl, trivial⟩
        refine WC.cond rfl (fun q1 => ?_) (fun q1 => ?_)
        ·
          try simp only [Bool.not_eq_eq_eq_not, Bool.not_true, Bool.not_false, decide_eq_true_eq, decide_eq_false_iff_not, Int.not_lt, Int.not_le, ne_eq, Decidable.not_not, ← List.length_eq_zero_iff] at q1
          refine WC.seq ?_
          refine WC.region ?_
          refine WL.q (oq_assign rfl) rfl rfl rfl ?_
          refine WL.nil ?_
          refine WE.then_normal ?_
          refine WC.sub (fr' := [(8, _)]) ?_ ⟨rfl, trivial⟩
          refine WC.ret ?_
          refine WE.then_ret ?_
          refine WE.add0 ?_
          refine WE.endA0 (.inl rfl) (res1 Try.results46 rfl) ?_ fresh0
          -- end 3
          exact PartR.no (ep_none (by omega))
        ·
          try simp only [Bool.not_eq_eq_eq_not, Bool.not_true, Bool.not_false, decide_eq_true_eq, decide_eq_false_iff_not, Int.not_lt, Int.not_le, ne_eq, Decidable.not_not, ← List.length_eq_zero_iff] at q1
          refine WC.skip ?_
          refine WE.then_normal ?_
          refine WC.sub (fr' := [(0, _), (1, _), (2, _), (3, _)]) ?_ ⟨rfl, rfl, rfl, rfl, trivial⟩
          refine WC.seq ?_
          refine WC.seq ?_
          refine WC.region ?_
          refine WL.q (oq_move rfl) rfl rfl rfl ?_
          refine WL.range_s Try.underlying9 rfl rfl rfl fun it hit => ?_
          refine WL.nil ?_
          refine WE.then_normal ?_
          refine WC.sub (fr' := [(0, _), (1, _), (2, _), (3, _), (32, _)]) ?_ ⟨rfl, rfl, rfl, rfl, rfl, trivial⟩
          refine WC.block ?_
          refine WC.loop (ι := Nat) (fun (i : Nat) => [(0, S s), (1, I a), (2, I b), (3, .bool true), (32, Pt it 0)]) (fun (i : Nat) => [[(it, .stringIter ⟨⟨s⟩⟩ i)]]) (fun (i : Nat) => s.all asc = (s.drop i).all asc) (fun (i : Nat) => s.length - i) (0) ?_ ⟨rfl, rfl, rfl, rfl, rfl, trivial⟩ (List.Perm.refl _) ?_
          · try dsimp only
            rfl
          · rintro i hp
            try dsimp only at hp
            show WC _ _ _ _ _ _ ([(0, S s), (1, I a), (2, I b), (3, .bool true), (32, Pt it 0)]) ([[(it, .stringIter ⟨⟨s⟩⟩ i)]])
            refine WC.seq ?_
            refine WC.region ?_
            refine WL.next_s rfl rfl rfl (fun n4 => ?_) (fun n4 => ?_)
            ·
              refine WL.q (oq_extract rfl rfl) rfl rfl rfl ?_
              refine WL.nil ?_
              refine WE.then_normal ?_
              refine WC.sub (fr' := [(0, _), (1, _), (2, _), (3, _), (32, _), (33, _), (34, _)]) ?_ ⟨rfl, rfl, rfl, rfl, rfl, rfl, rfl, trivial⟩
              refine WC.seq ?_
              refine WC.cond_t rfl ?_
              refine WC.skip ?_
              refine WE.then_normal ?_
              refine WC.sub (fr' := [(0, _), (1, _), (2, _), (3, _), (32, _), (33, _)]) ?_ ⟨rfl, rfl, rfl, rfl, rfl, rfl, trivial⟩
              refine WC.block ?_
              refine WC.seq ?_
              refine WC.region ?_
              refine WL.q (oq_extract rfl rfl) rfl rfl rfl ?_
              refine WL.q (oq_assign rfl) rfl rfl rfl ?_
              refine WL.nil ?_
              refine WE.then_normal ?_
              refine WC.sub (fr' := [(0, _), (1, _), (2, _), (3, _), (10, _), (32, _)]) ?_ ⟨rfl, rfl, rfl, rfl, rfl, rfl, trivial⟩
              refine WC.seq ?_
              refine WC.region ?_
              refine WL.q (oq_move rfl) rfl rfl rfl ?_
              refine WL.q (oq_gtr rfl rfl) rfl rfl rfl ?_
              refine WL.nil ?_
              refine WE.then_normal ?_
              refine WC.sub (fr' := [(0, _), (1, _), (2, _), (3, _), (32, _), (37, _)]) ?_ ⟨rfl, rfl, rfl, rfl, rfl, rfl, trivial⟩
              refine WC.cond rfl (fun q6 => ?_) (fun q6 => ?_)
              ·
                try simp only [Bool.not_eq_eq_eq_not, Bool.not_true, Bool.not_false, decide_eq_true_eq, decide_eq_false_iff_not, Int.not_lt, Int.not_le, ne_eq, Decidable.not_not, ← List.length_eq_zero_iff] at q6
                refine WC.seq ?_
                refine WC.region ?_
                refine WL.q (oq_assign rfl) rfl rfl rfl ?_
                refine WL.nil ?_
                refine WE.then_normal ?_
                refine WC.sub (fr' := [(8, _)]) ?_ ⟨rfl, trivial⟩
                refine WC.ret ?_
                refine WE.block_ret ?_
                refine WE.then_ret ?_
                refine WE.block_ret ?_
                refine WE.then_ret ?_
                refine WE.lose hit ?_
                refine WE.add0 ?_
                refine WE.endA0 (.inl rfl) (res1 Try.results46 rfl) ?_ fresh0
                -- end 4
                exact PartR.no (ep_none (.inl (asc_no s i n4 (by omega) hp)))
              ·
                try simp only [Bool.not_eq_eq_eq_not, Bool.not_true, Bool.not_false, decide_eq_true_eq, decide_eq_false_iff_not, Int.not_lt, Int.not_le, ne_eq, Decidable.not_not, ← List.length_eq_zero_iff] at q6
                refine WC.skip ?_
                refine WE.block_normal ?_
                have hw := decAt_width s i n4
                refine WE.again (i + (decAt s i).2) ?_ ?_ ⟨rfl, rfl, rfl, rfl, rfl, trivial⟩ (List.Perm.refl _)
                · try dsimp only   -- again 0
                  exact asc_yes s i n4 (by omega) hp
                · (try dsimp only); omega
            ·
              refine WL.q (oq_extract rfl rfl) rfl rfl rfl ?_
              refine WL.nil ?_
              refine WE.then_normal ?_
              refine WC.sub (fr' := [(0, _), (1, _), (2, _), (3, _), (32, _), (33, _), (34, _)]) ?_ ⟨rfl, rfl, rfl, rfl, rfl, rfl, rfl, trivial⟩
              refine WC.seq ?_
              refine WC.cond_f rfl ?_
              refine WC.exit ?_
              refine WE.then_exit ?_
              refine WE.then_exit ?_
              refine WE.block_same ?_
              refine WE.then_normal ?_
              refine WC.sub (fr' := [(0, _), (1, _), (2, _), (3, _)]) ?_ ⟨rfl, rfl, rfl, rfl, trivial⟩
              refine WC.seq ?_
              refine WC.seq ?_
              refine WC.region ?_
              refine WL.q (oq_move rfl) rfl rfl rfl ?_
              refine WL.q (oq_not rfl) rfl rfl rfl ?_
              refine WL.nil ?_
              refine WE.then_normal ?_
              refine WC.sub (fr' := [(0, _), (1, _), (2, _), (39, _)]) ?_ ⟨rfl, rfl, rfl, rfl, trivial⟩
              refine WC.cond_f rfl ?_
              refine WC.skip ?_
              refine WE.then_normal ?_
              refine WC.sub (fr' := [(0, _), (1, _), (2, _)]) ?_ ⟨rfl, rfl, rfl, trivial⟩
              refine WC.seq ?_
              refine WC.region ?_
              refine WL.q (oq_move rfl) rfl rfl rfl ?_
              refine WL.q (oq_len_s Try.underlying9 rfl) rfl rfl rfl ?_
              refine WL.q (oq_move rfl) rfl rfl rfl ?_
              refine WL.q (oq_sub rfl rfl (by rw [i64_lo, i64_hi]; (first | omega | (simp only [List.length_cons, List.length_nil, List.length_append, List.length_drop, List.length_take]; omega)))) rfl rfl rfl ?_
              refine WL.q (oq_assign rfl) rfl rfl rfl ?_
              refine WL.nil ?_
              refine WE.then_normal ?_
              refine WC.sub (fr' := [(0, _), (1, _), (12, _)]) ?_ ⟨rfl, rfl, rfl, trivial⟩
              refine WC.seq ?_
              refine WC.region ?_
              refine WL.q (oq_move rfl) rfl rfl rfl ?_
              refine WL.q (oq_len_s Try.underlying9 rfl) rfl rfl rfl ?_
              refine WL.q (oq_move rfl) rfl rfl rfl ?_
              refine WL.q (oq_sub rfl rfl (by rw [i64_lo, i64_hi]; (first | omega | (simp only [List.length_cons, List.length_nil, List.length_append, List.length_drop, List.length_take]; omega)))) rfl rfl rfl ?_
              refine WL.q (oq_assign rfl) rfl rfl rfl ?_
              refine WL.nil ?_
              refine WE.then_normal ?_
              refine WC.sub (fr' := [(0, _), (12, _), (13, _)]) ?_ ⟨rfl, rfl, rfl, trivial⟩
              refine WC.seq ?_
              refine WC.region ?_
              refine WL.q (oq_move rfl) rfl rfl rfl ?_
              refine WL.q (oq_move rfl) rfl rfl rfl ?_
              refine WL.q (oq_move rfl) rfl rfl rfl ?_
              refine WL.callA0 (sub0 s ((s.length : Int) - b) ((s.length : Int) - a) hs) call46 rfl rfl rfl fun v13_3 N13_3 hR13_3 hN13_3 => ?_
              refine WL.q (oq_assign rfl) rfl rfl rfl ?_
              refine WL.nil ?_
              refine WE.then_normal ?_
              refine WC.sub (fr' := [(8, _)]) ?_ ⟨rfl, trivial⟩
              refine WC.ret ?_
              refine WE.f1 ?_
              refine WE.lose hit ?_
              refine WE.endA0 (.inl rfl) (res1 Try.results46 rfl) ?_ (hN13_3)
              -- end 5
              have e := asc_end s i n4 hp
              rw [ep_some e (by omega)]
              rw [ep_some e (by omega)] at hR13_3
              exact hR13_3


theorem sub (s : List UInt8) (a b : Int) (r : Bool) (hs : s.length ≤ 4000000000) : FnA Try.prog 46 [S s, I a, I b, .bool r] [] (PartR (epart s a b r)) := by
  cases r
  · exact sub0 s a b hs
  · exact sub1 s a b hs
/-- given.example/pub-tinwright/impl.ESub -/
theorem esub (s : List UInt8) (a b : Int) (r : Bool) (hs : s.length ≤ 4000000000) : Fn0 Try.prog 30 [S s, I a, I b, .bool r] (.tuple #[S ((epart s a b r).getD []), .bool (epart s a b r).isSome]) := by
  refine Fn0.enter (n := 21) Try.func30 rfl rfl fun w0 => ?_
  refine WC.sub (fr' := [(0, _), (1, _), (2, _), (3, _)]) ?_ ⟨rfl, rfl, rfl, rfl, trivial⟩
  refine WC.seq ?_
  refine WC.region ?_
  refine WL.q (oq_assign rfl) rfl rfl rfl ?_
  refine WL.q (oq_assign rfl) rfl rfl rfl ?_
  refine WL.nil ?_
  refine WE.then_normal ?_
  refine WC.sub (fr' := [(0, _), (1, _), (2, _), (3, _)]) ?_ ⟨rfl, rfl, rfl, rfl, trivial⟩
  refine WC.seq ?_
  refine WC.region ?_
  refine WL.q (oq_move rfl) rfl rfl rfl ?_
  refine WL.q (oq_move rfl) rfl rfl rfl ?_
  refine WL.q (oq_move rfl) rfl rfl rfl ?_
  refine WL.q (oq_move rfl) rfl rfl rfl ?_
  refine WL.callA0 (sub s a b r hs) call46 rfl rfl rfl fun v1_4 N1_4 hR1_4 hN1_4 => ?_
  obtain ⟨p, rfl, hp0, hp1⟩ := hR1_4
  refine WL.q (oq_assign rfl) rfl rfl rfl ?_
  refine WL.nil ?_
  refine WE.then_normal ?_
  refine WC.sub (fr' := [(10, _)]) ?_ ⟨rfl, trivial⟩
  refine WC.seq ?_
  refine WC.seq ?_
  refine WC.region ?_
  refine WL.q (oq_move rfl) rfl rfl rfl ?_
  refine WL.q (oq_peql Try.underlying58 rfl rfl) rfl rfl rfl ?_
  refine WL.nil ?_
  refine WE.then_normal ?_
  refine WC.sub (fr' := [(10, _), (17, _)]) ?_ ⟨rfl, rfl, trivial⟩
  refine WC.cond rfl (fun q2 => ?_) (fun q2 => ?_)
  ·
    try simp only [Bool.not_eq_eq_eq_not, Bool.not_true, Bool.not_false, decide_eq_true_eq, decide_eq_false_iff_not, Int.not_lt, Int.not_le, ne_eq, Decidable.not_not, ← List.length_eq_zero_iff] at q2
    refine WC.seq ?_
    refine WC.region ?_
    refine WL.q (oq_assign rfl) rfl rfl rfl ?_
    refine WL.q (oq_assign rfl) rfl rfl rfl ?_
    refine WL.nil ?_
    refine WE.then_normal ?_
    refine WC.sub (fr' := [(8, _), (9, _)]) ?_ ⟨rfl, rfl, trivial⟩
    refine WC.ret ?_
    refine WE.then_ret ?_
    refine WE.forget hN1_4 ?_
    refine WE.end0 (.inl rfl) (res2 Try.results30 rfl rfl) ?_
    -- end 0
    first | (rw [hp0, Option.isNone_iff_eq_none] at q2; rw [q2]; rfl) | rfl
  ·
    try simp only [Bool.not_eq_eq_eq_not, Bool.not_true, Bool.not_false, decide_eq_true_eq, decide_eq_false_iff_not, Int.not_lt, Int.not_le, ne_eq, Decidable.not_not, ← List.length_eq_zero_iff] at q2
    refine WC.skip ?_
    refine WE.then_normal ?_
    refine WC.sub (fr' := [(10, _)]) ?_ ⟨rfl, trivial⟩
    refine WC.seq ?_
    cases hg : epart s a b r with
    | none => rw [hg] at hp0; simp_all
    | some x =>
    obtain ⟨b, rfl, rfl⟩ := hp1 x hg
    refine WC.region ?_
    refine WL.q (oq_move rfl) rfl rfl rfl ?_
    refine WL.q (oq_nilCheck rfl) rfl rfl rfl ?_
    refine WL.q (oq_load flat9 rfl (.head _) (List.mem_singleton.2 rfl) rfl) rfl rfl rfl ?_
    refine WL.q (oq_assign rfl) rfl rfl rfl ?_
    refine WL.q (oq_assign rfl) rfl rfl rfl ?_
    refine WL.nil ?_
    refine WE.then_normal ?_
    refine WC.sub (fr' := [(8, _), (9, _)]) ?_ ⟨rfl, rfl, trivial⟩
    refine WC.ret ?_
    refine WE.forget hN1_4 ?_
    refine WE.end0 (.inl rfl) (res2 Try.results30 rfl rfl) ?_
    -- end 1
    first | (rw [hp0, Option.isNone_iff_eq_none] at q2; rw [q2]; rfl) | rfl

/-- given.example/pub-tinwright/spec.EPart -/
theorem epart_ (s : List UInt8) (a b : Int) (r : Bool) (hs : s.length ≤ 4000000000) (hb : -9223372036854775808 ≤ b ∧ b ≤ 9223372036854775807) (ha : -9223372036854775808 ≤ a ∧ a ≤ 9223372036854775807) : Fn0 Try.prog 31 [S s, I a, I b, .bool r] (.tuple #[S ((epart s a b r).getD []), .bool (epart s a b r).isSome]) := by
  refine Fn0.enter (n := 49) Try.func31 rfl rfl fun w0 => ?_
  refine WC.sub (fr' := [(0, _), (1, _), (2, _), (3, _)]) ?_ ⟨rfl, rfl, rfl, rfl, trivial⟩
  refine WC.seq ?_
  refine WC.region ?_
  refine WL.q (oq_assign rfl) rfl rfl rfl ?_
  refine WL.q (oq_assign rfl) rfl rfl rfl ?_
  refine WL.nil ?_
  refine WE.then_normal ?_
  refine WC.sub (fr' := [(0, _), (1, _), (2, _), (3, _)]) ?_ ⟨rfl, rfl, rfl, rfl, trivial⟩
  refine WC.seq ?_
  refine WC.seq ?_
  refine WC.region ?_
  refine WL.q (oq_assign rfl) rfl rfl rfl ?_
  refine WL.nil ?_
  refine WE.then_normal ?_
  refine WC.sub (fr' := [(0, _), (1, _), (2, _), (3, _), (10, _)]) ?_ ⟨rfl, rfl, rfl, rfl, rfl, trivial⟩
  refine WC.block ?_
  refine WC.loop (ι := Nat) (fun (i : Nat) => [(0, S s), (1, I a), (2, I b), (3, .bool r), (10, I (i : Int))]) (fun (i : Nat) => []) (fun (i : Nat) => i ≤ s.length ∧ s.all asc = (s.drop i).all asc) (fun (i : Nat) => s.length - i) (0) ?_ ⟨rfl, rfl, rfl, rfl, rfl, trivial⟩ (List.Perm.refl _) ?_
  · try dsimp only
    exact ⟨by omega, rfl⟩
  · rintro i hp
    try dsimp only at hp
    obtain ⟨hi, hf⟩ := hp
    show WC _ _ _ _ _ _ ([(0, S s), (1, I a), (2, I b), (3, .bool r), (10, I (i : Int))]) ([])
    refine WC.seq ?_
    refine WC.seq ?_
    refine WC.region ?_
    refine WL.q (oq_move rfl) rfl rfl rfl ?_
    refine WL.q (oq_move rfl) rfl rfl rfl ?_
    refine WL.q (oq_len_s Try.underlying9 rfl) rfl rfl rfl ?_
    refine WL.q (oq_lss rfl rfl) rfl rfl rfl ?_
    refine WL.nil ?_
    refine WE.then_normal ?_
    refine WC.sub (fr' := [(0, _), (1, _), (2, _), (3, _), (10, _), (14, _)]) ?_ ⟨rfl, rfl, rfl, rfl, rfl, rfl, trivial⟩
    refine WC.cond rfl (fun q2 => ?_) (fun q2 => ?_)
    ·
      try simp only [Bool.not_eq_eq_eq_not, Bool.not_true, Bool.not_false, decide_eq_true_eq, decide_eq_false_iff_not, Int.not_lt, Int.not_le, ne_eq, Decidable.not_not, ← List.length_eq_zero_iff] at q2
      refine WC.skip ?_
      refine WE.then_normal ?_
      refine WC.sub (fr' := [(0, _), (1, _), (2, _), (3, _), (10, _)]) ?_ ⟨rfl, rfl, rfl, rfl, rfl, trivial⟩
      refine WC.seq ?_
      refine WC.block ?_
      refine WC.seq ?_
      refine WC.region ?_
      refine WL.q (oq_move rfl) rfl rfl rfl ?_
      refine WL.q (oq_move rfl) rfl rfl rfl ?_
      refine WL.index_s Try.underlying9 rfl rfl (by (first | omega | (simp only [List.length_cons, List.length_nil, List.length_append, List.length_drop, List.length_take]; omega))) rfl rfl fun c4_2 hc4_2 hc4_2l hc4_2u => ?_
      refine WL.q (oq_geq rfl rfl) rfl rfl rfl ?_
      refine WL.nil ?_
      refine WE.then_normal ?_
      refine WC.sub (fr' := [(0, _), (1, _), (2, _), (3, _), (10, _), (20, _)]) ?_ ⟨rfl, rfl, rfl, rfl, rfl, rfl, trivial⟩
      refine WC.cond rfl (fun q4 => ?_) (fun q4 => ?_)
      ·
        try simp only [Bool.not_eq_eq_eq_not, Bool.not_true, Bool.not_false, decide_eq_true_eq, decide_eq_false_iff_not, Int.not_lt, Int.not_le, ne_eq, Decidable.not_not, ← List.length_eq_zero_iff] at q4
        refine WC.seq ?_
        refine WC.region ?_
        refine WL.q (oq_assign rfl) rfl rfl rfl ?_
        refine WL.q (oq_assign rfl) rfl rfl rfl ?_
        refine WL.nil ?_
        refine WE.then_normal ?_
        refine WC.sub (fr' := [(8, _), (9, _)]) ?_ ⟨rfl, rfl, trivial⟩
        refine WC.ret ?_
        refine WE.block_ret ?_
        refine WE.then_ret ?_
        refine WE.then_ret ?_
        refine WE.block_ret ?_
        refine WE.then_ret ?_
        refine WE.end0 (.inl rfl) (res2 Try.results31 rfl rfl) ?_
        -- end 0
        rw [ep_none (.inl (by rw [hf, asc_drop s i (by omega), asc_byte s i (by omega), decide_eq_false (by omega)]; rfl))]; rfl
      ·
        try simp only [Bool.not_eq_eq_eq_not, Bool.not_true, Bool.not_false, decide_eq_true_eq, decide_eq_false_iff_not, Int.not_lt, Int.not_le, ne_eq, Decidable.not_not, ← List.length_eq_zero_iff] at q4
        refine WC.skip ?_
        refine WE.block_normal ?_
        refine WE.then_normal ?_
        refine WC.sub (fr' := [(0, _), (1, _), (2, _), (3, _), (10, _)]) ?_ ⟨rfl, rfl, rfl, rfl, rfl, trivial⟩
        refine WC.region ?_
        refine WL.q (oq_move rfl) rfl rfl rfl ?_
        refine WL.q (oq_add rfl rfl (by rw [i64_lo, i64_hi]; (first | omega | (simp only [List.length_cons, List.length_nil, List.length_append, List.length_drop, List.length_take]; omega)))) rfl rfl rfl ?_
        refine WL.q (oq_assign rfl) rfl rfl rfl ?_
        refine WL.nil ?_
        refine WE.again (i + 1) ?_ ?_ ⟨rfl, rfl, rfl, rfl, rfl, trivial⟩ (List.Perm.refl _)
        · try dsimp only   -- again 0
          exact ⟨by omega, by rw [hf, asc_drop s i (by omega), asc_byte s i (by omega), decide_eq_true (by omega)]; rfl⟩
        · (try dsimp only); omega
    ·
      try simp only [Bool.not_eq_eq_eq_not, Bool.not_true, Bool.not_false, decide_eq_true_eq, decide_eq_false_iff_not, Int.not_lt, Int.not_le, ne_eq, Decidable.not_not, ← List.length_eq_zero_iff] at q2
      refine WC.exit ?_
      refine WE.then_exit ?_
      refine WE.then_exit ?_
      refine WE.block_same ?_
      refine WE.then_normal ?_
      refine WC.sub (fr' := [(0, _), (1, _), (2, _), (3, _)]) ?_ ⟨rfl, rfl, rfl, rfl, trivial⟩
      refine WC.seq ?_
      refine WC.seq ?_
      refine WC.region ?_
      refine WL.q (oq_move rfl) rfl rfl rfl ?_
      refine WL.q (oq_lss rfl rfl) rfl rfl rfl ?_
      refine WL.q (oq_move rfl) rfl rfl rfl ?_
      refine WL.split 23 rfl (fun s6_2 => ?_) (fun s6_2 => ?_)
      ·
        try simp only [Bool.not_eq_eq_eq_not, Bool.not_true, Bool.not_false, decide_eq_true_eq, decide_eq_false_iff_not, Int.not_lt, Int.not_le, ne_eq, Decidable.not_not, ← List.length_eq_zero_iff] at s6_2
        refine WL.skip rfl rfl rfl ?_
        refine WL.skip rfl rfl rfl ?_
        refine WL.skip rfl rfl rfl ?_
        refine WL.q (oq_pick_t rfl rfl) rfl rfl rfl ?_
        refine WL.q (oq_move rfl) rfl rfl rfl ?_
        refine WL.skip rfl rfl rfl ?_
        refine WL.skip rfl rfl rfl ?_
        refine WL.skip rfl rfl rfl ?_
        refine WL.skip rfl rfl rfl ?_
        refine WL.q (oq_pick_t rfl rfl) rfl rfl rfl ?_
        refine WL.nil ?_
        refine WE.then_normal ?_
        refine WC.sub (fr' := [(0, _), (1, _), (2, _), (3, _), (33, _)]) ?_ ⟨rfl, rfl, rfl, rfl, rfl, trivial⟩
        refine WC.cond_t rfl ?_
        refine WC.seq ?_
        refine WC.region ?_
        refine WL.q (oq_assign rfl) rfl rfl rfl ?_
        refine WL.q (oq_assign rfl) rfl rfl rfl ?_
        refine WL.nil ?_
        refine WE.then_normal ?_
        refine WC.sub (fr' := [(8, _), (9, _)]) ?_ ⟨rfl, rfl, trivial⟩
        refine WC.ret ?_
        refine WE.then_ret ?_
        refine WE.end0 (.inl rfl) (res2 Try.results31 rfl rfl) ?_
        -- end 1
        first | (rw [ep_none (by omega)]; rfl) | (rw [ep_some (asc_end s i (by omega) hf) (by omega)]; first | (rw [q8]; rfl) | (subst q8; rfl) | simp_all)
      ·
        try simp only [Bool.not_eq_eq_eq_not, Bool.not_true, Bool.not_false, decide_eq_true_eq, decide_eq_false_iff_not, Int.not_lt, Int.not_le, ne_eq, Decidable.not_not, ← List.length_eq_zero_iff] at s6_2
        refine WL.q (oq_move rfl) rfl rfl rfl ?_
        refine WL.q (oq_move rfl) rfl rfl rfl ?_
        refine WL.q (oq_geq rfl rfl) rfl rfl rfl ?_
        refine WL.q (oq_pick_f rfl rfl) rfl rfl rfl ?_
        refine WL.q (oq_move rfl) rfl rfl rfl ?_
        refine WL.split 28 rfl (fun s6_7 => ?_) (fun s6_7 => ?_)
        ·
          try simp only [Bool.not_eq_eq_eq_not, Bool.not_true, Bool.not_false, decide_eq_true_eq, decide_eq_false_iff_not, Int.not_lt, Int.not_le, ne_eq, Decidable.not_not, ← List.length_eq_zero_iff] at s6_7
          refine WL.skip rfl rfl rfl ?_
          refine WL.skip rfl rfl rfl ?_
          refine WL.skip rfl rfl rfl ?_
          refine WL.skip rfl rfl rfl ?_
          refine WL.q (oq_pick_t rfl rfl) rfl rfl rfl ?_
          refine WL.nil ?_
          refine WE.then_normal ?_
          refine WC.sub (fr' := [(0, _), (1, _), (2, _), (3, _), (33, _)]) ?_ ⟨rfl, rfl, rfl, rfl, rfl, trivial⟩
          refine WC.cond_t rfl ?_
          refine WC.seq ?_
          refine WC.region ?_
          refine WL.q (oq_assign rfl) rfl rfl rfl ?_
          refine WL.q (oq_assign rfl) rfl rfl rfl ?_
          refine WL.nil ?_
          refine WE.then_normal ?_
          refine WC.sub (fr' := [(8, _), (9, _)]) ?_ ⟨rfl, rfl, trivial⟩
          refine WC.ret ?_
          refine WE.then_ret ?_
          refine WE.end0 (.inl rfl) (res2 Try.results31 rfl rfl) ?_
          -- end 2
          first | (rw [ep_none (by omega)]; rfl) | (rw [ep_some (asc_end s i (by omega) hf) (by omega)]; first | (rw [q8]; rfl) | (subst q8; rfl) | simp_all)
        ·
          try simp only [Bool.not_eq_eq_eq_not, Bool.not_true, Bool.not_false, decide_eq_true_eq, decide_eq_false_iff_not, Int.not_lt, Int.not_le, ne_eq, Decidable.not_not, ← List.length_eq_zero_iff] at s6_7
          refine WL.q (oq_move rfl) rfl rfl rfl ?_
          refine WL.q (oq_move rfl) rfl rfl rfl ?_
          refine WL.q (oq_len_s Try.underlying9 rfl) rfl rfl rfl ?_
          refine WL.q (oq_gtr rfl rfl) rfl rfl rfl ?_
          refine WL.q (oq_pick_f rfl rfl) rfl rfl rfl ?_
          refine WL.nil ?_
          refine WE.then_normal ?_
          refine WC.sub (fr' := [(0, _), (1, _), (2, _), (3, _), (33, _)]) ?_ ⟨rfl, rfl, rfl, rfl, rfl, trivial⟩
          refine WC.cond rfl (fun q6 => ?_) (fun q6 => ?_)
          ·
            try simp only [Bool.not_eq_eq_eq_not, Bool.not_true, Bool.not_false, decide_eq_true_eq, decide_eq_false_iff_not, Int.not_lt, Int.not_le, ne_eq, Decidable.not_not, ← List.length_eq_zero_iff] at q6
            refine WC.seq ?_
            refine WC.region ?_
            refine WL.q (oq_assign rfl) rfl rfl rfl ?_
            refine WL.q (oq_assign rfl) rfl rfl rfl ?_
            refine WL.nil ?_
            refine WE.then_normal ?_
            refine WC.sub (fr' := [(8, _), (9, _)]) ?_ ⟨rfl, rfl, trivial⟩
            refine WC.ret ?_
            refine WE.then_ret ?_
            refine WE.end0 (.inl rfl) (res2 Try.results31 rfl rfl) ?_
            -- end 3
            first | (rw [ep_none (by omega)]; rfl) | (rw [ep_some (asc_end s i (by omega) hf) (by omega)]; first | (rw [q8]; rfl) | (subst q8; rfl) | simp_all)
          ·
            try simp only [Bool.not_eq_eq_eq_not, Bool.not_true, Bool.not_false, decide_eq_true_eq, decide_eq_false_iff_not, Int.not_lt, Int.not_le, ne_eq, Decidable.not_not, ← List.length_eq_zero_iff] at q6
            refine WC.skip ?_
            refine WE.then_normal ?_
            refine WC.sub (fr' := [(0, _), (1, _), (2, _), (3, _)]) ?_ ⟨rfl, rfl, rfl, rfl, trivial⟩
            refine WC.seq ?_
            refine WC.seq ?_
            refine WC.region ?_
            refine WL.q (oq_move rfl) rfl rfl rfl ?_
            refine WL.nil ?_
            refine WE.then_normal ?_
            refine WC.sub (fr' := [(0, _), (1, _), (2, _), (34, _)]) ?_ ⟨rfl, rfl, rfl, rfl, trivial⟩
            refine WC.cond rfl (fun q8 => ?_) (fun q8 => ?_)
            ·
              try simp only [Bool.not_eq_eq_eq_not, Bool.not_true, Bool.not_false, decide_eq_true_eq, decide_eq_false_iff_not, Int.not_lt, Int.not_le, ne_eq, Decidable.not_not, ← List.length_eq_zero_iff] at q8
              refine WC.seq ?_
              refine WC.region ?_
              refine WL.q (oq_move rfl) rfl rfl rfl ?_
              refine WL.q (oq_move rfl) rfl rfl rfl ?_
              refine WL.q (oq_len_s Try.underlying9 rfl) rfl rfl rfl ?_
              refine WL.q (oq_move rfl) rfl rfl rfl ?_
              refine WL.q (oq_sub rfl rfl (by rw [i64_lo, i64_hi]; (first | omega | (simp only [List.length_cons, List.length_nil, List.length_append, List.length_drop, List.length_take]; omega)))) rfl rfl rfl ?_
              refine WL.q (oq_move rfl) rfl rfl rfl ?_
              refine WL.q (oq_len_s Try.underlying9 rfl) rfl rfl rfl ?_
              refine WL.q (oq_move rfl) rfl rfl rfl ?_
              refine WL.q (oq_sub rfl rfl (by rw [i64_lo, i64_hi]; (first | omega | (simp only [List.length_cons, List.length_nil, List.length_append, List.length_drop, List.length_take]; omega)))) rfl rfl rfl ?_
              refine WL.q (oq_slice_s2 Try.underlying9 rfl rfl rfl (by (first | omega | (simp only [List.length_cons, List.length_nil, List.length_append, List.length_drop, List.length_take]; omega)))) rfl rfl rfl ?_
              refine WL.q (oq_assign rfl) rfl rfl rfl ?_
              refine WL.q (oq_assign rfl) rfl rfl rfl ?_
              refine WL.nil ?_
              refine WE.then_normal ?_
              refine WC.sub (fr' := [(8, _), (9, _)]) ?_ ⟨rfl, rfl, trivial⟩
              refine WC.ret ?_
              refine WE.then_ret ?_
              refine WE.end0 (.inl rfl) (res2 Try.results31 rfl rfl) ?_
              -- end 4
              first | (rw [ep_none (by omega)]; rfl) | (rw [ep_some (asc_end s i (by omega) hf) (by omega)]; first | (rw [q8]; rfl) | (subst q8; rfl) | simp_all)
            ·
              try simp only [Bool.not_eq_eq_eq_not, Bool.not_true, Bool.not_false, decide_eq_true_eq, decide_eq_false_iff_not, Int.not_lt, Int.not_le, ne_eq, Decidable.not_not, ← List.length_eq_zero_iff] at q8
              refine WC.skip ?_
              refine WE.then_normal ?_
              refine WC.sub (fr' := [(0, _), (1, _), (2, _)]) ?_ ⟨rfl, rfl, rfl, trivial⟩
              refine WC.seq ?_
              refine WC.region ?_
              refine WL.q (oq_move rfl) rfl rfl rfl ?_
              refine WL.q (oq_move rfl) rfl rfl rfl ?_
              refine WL.q (oq_move rfl) rfl rfl rfl ?_
              refine WL.q (oq_slice_s2 Try.underlying9 rfl rfl rfl (by (first | omega | (simp only [List.length_cons, List.length_nil, List.length_append, List.length_drop, List.length_take]; omega)))) rfl rfl rfl ?_
              refine WL.q (oq_assign rfl) rfl rfl rfl ?_
              refine WL.q (oq_assign rfl) rfl rfl rfl ?_
              refine WL.nil ?_
              refine WE.then_normal ?_
              refine WC.sub (fr' := [(8, _), (9, _)]) ?_ ⟨rfl, rfl, trivial⟩
              refine WC.ret ?_
              refine WE.end0 (.inl rfl) (res2 Try.results31 rfl rfl) ?_
              -- end 5
              first | (rw [ep_none (by omega)]; rfl) | (rw [ep_some (asc_end s i (by omega) hf) (by omega)]; first | (rw [q8]; rfl) | (subst q8; rfl) | simp_all)

/-- given.example/pub-tinwright/laws.FnESubs -/
theorem law (s : List UInt8) (a b : Int) (r : Bool) (ha : -9223372036854775808 ≤ a ∧ a ≤ 9223372036854775807) (hb : -9223372036854775808 ≤ b ∧ b ≤ 9223372036854775807) : Fn0 Try.prog 10 [S s, I a, I b, .bool r] (.bool true) := by
  refine Fn0.enter (n := 51) Try.func10 rfl rfl fun w0 => ?_
  refine WC.sub (fr' := [(0, _), (1, _), (2, _), (3, _)]) ?_ ⟨rfl, rfl, rfl, rfl, trivial⟩
  refine WC.seq ?_
  refine WC.region ?_
  refine WL.q (oq_assign rfl) rfl rfl rfl ?_
  refine WL.nil ?_
  refine WE.then_normal ?_
  refine WC.sub (fr' := [(0, _), (1, _), (2, _), (3, _)]) ?_ ⟨rfl, rfl, rfl, rfl, trivial⟩
  refine WC.seq ?_
  refine WC.seq ?_
  refine WC.region ?_
  refine WL.q (oq_move rfl) rfl rfl rfl ?_
  refine WL.q (oq_len_s Try.underlying9 rfl) rfl rfl rfl ?_
  refine WL.q (oq_gtr rfl rfl) rfl rfl rfl ?_
  refine WL.nil ?_
  refine WE.then_normal ?_
  refine WC.sub (fr' := [(0, _), (1, _), (2, _), (3, _), (15, _)]) ?_ ⟨rfl, rfl, rfl, rfl, rfl, trivial⟩
  refine WC.cond rfl (fun q1 => ?_) (fun q1 => ?_)
  ·
    try simp only [Bool.not_eq_eq_eq_not, Bool.not_true, Bool.not_false, decide_eq_true_eq, decide_eq_false_iff_not, Int.not_lt, Int.not_le, ne_eq, Decidable.not_not, ← List.length_eq_zero_iff] at q1
    refine WC.seq ?_
    refine WC.region ?_
    refine WL.q (oq_assign rfl) rfl rfl rfl ?_
    refine WL.nil ?_
    refine WE.then_normal ?_
    refine WC.sub (fr' := [(8, _)]) ?_ ⟨rfl, trivial⟩
    refine WC.ret ?_
    refine WE.then_ret ?_
    refine WE.end0 (.inl rfl) (res1 Try.results10 rfl) ?_
    -- end 0
    first | rfl | (exfalso; simp_all)
  ·
    try simp only [Bool.not_eq_eq_eq_not, Bool.not_true, Bool.not_false, decide_eq_true_eq, decide_eq_false_iff_not, Int.not_lt, Int.not_le, ne_eq, Decidable.not_not, ← List.length_eq_zero_iff] at q1
    refine WC.skip ?_
    refine WE.then_normal ?_
    refine WC.sub (fr' := [(0, _), (1, _), (2, _), (3, _)]) ?_ ⟨rfl, rfl, rfl, rfl, trivial⟩
    refine WC.seq ?_
    refine WC.seq ?_
    refine WC.region ?_
    refine WL.q (oq_move rfl) rfl rfl rfl ?_
    refine WL.q (oq_len_s Try.underlying9 rfl) rfl rfl rfl ?_
    refine WL.q (oq_gtr rfl rfl) rfl rfl rfl ?_
    refine WL.nil ?_
    refine WE.then_normal ?_
    refine WC.sub (fr' := [(0, _), (1, _), (2, _), (3, _), (18, _)]) ?_ ⟨rfl, rfl, rfl, rfl, rfl, trivial⟩
    refine WC.cond rfl (fun q3 => ?_) (fun q3 => ?_)
    ·
      try simp only [Bool.not_eq_eq_eq_not, Bool.not_true, Bool.not_false, decide_eq_true_eq, decide_eq_false_iff_not, Int.not_lt, Int.not_le, ne_eq, Decidable.not_not, ← List.length_eq_zero_iff] at q3
      refine WC.seq ?_
      refine WC.region ?_
      refine WL.qc (oq_call (L2.eAwake) call20 rfl) rfl rfl rfl ?_
      refine WL.q (oq_assign rfl) rfl rfl rfl ?_
      refine WL.nil ?_
      refine WE.then_normal ?_
      refine WC.sub (fr' := [(8, _)]) ?_ ⟨rfl, trivial⟩
      refine WC.ret ?_
      refine WE.then_ret ?_
      refine WE.end0 (.inl rfl) (res1 Try.results10 rfl) ?_
      -- end 1
      first | rfl | (exfalso; simp_all)
    ·
      try simp only [Bool.not_eq_eq_eq_not, Bool.not_true, Bool.not_false, decide_eq_true_eq, decide_eq_false_iff_not, Int.not_lt, Int.not_le, ne_eq, Decidable.not_not, ← List.length_eq_zero_iff] at q3
      refine WC.skip ?_
      refine WE.then_normal ?_
      refine WC.sub (fr' := [(0, _), (1, _), (2, _), (3, _)]) ?_ ⟨rfl, rfl, rfl, rfl, trivial⟩
      refine WC.seq ?_
      refine WC.region ?_
      refine WL.q (oq_move rfl) rfl rfl rfl ?_
      refine WL.q (oq_move rfl) rfl rfl rfl ?_
      refine WL.q (oq_move rfl) rfl rfl rfl ?_
      refine WL.q (oq_move rfl) rfl rfl rfl ?_
      refine WL.qc (oq_call (esub s a b r (by omega)) call30 rfl) rfl rfl rfl ?_
      refine WL.q (oq_move rfl) rfl rfl rfl ?_
      refine WL.q (oq_extract rfl rfl) rfl rfl rfl ?_
      refine WL.q (oq_extract rfl rfl) rfl rfl rfl ?_
      refine WL.q (oq_assign rfl) rfl rfl rfl ?_
      refine WL.q (oq_assign rfl) rfl rfl rfl ?_
      refine WL.nil ?_
      refine WE.then_normal ?_
      refine WC.sub (fr' := [(0, _), (1, _), (2, _), (3, _), (9, _), (10, _)]) ?_ ⟨rfl, rfl, rfl, rfl, rfl, rfl, trivial⟩
      refine WC.seq ?_
      refine WC.region ?_
      refine WL.q (oq_move rfl) rfl rfl rfl ?_
      refine WL.q (oq_move rfl) rfl rfl rfl ?_
      refine WL.q (oq_move rfl) rfl rfl rfl ?_
      refine WL.q (oq_move rfl) rfl rfl rfl ?_
      refine WL.qc (oq_call (epart_ s a b r (by omega) hb ha) call31 rfl) rfl rfl rfl ?_
      refine WL.q (oq_move rfl) rfl rfl rfl ?_
      refine WL.q (oq_extract rfl rfl) rfl rfl rfl ?_
      refine WL.q (oq_extract rfl rfl) rfl rfl rfl ?_
      refine WL.q (oq_assign rfl) rfl rfl rfl ?_
      refine WL.q (oq_assign rfl) rfl rfl rfl ?_
      refine WL.nil ?_
      refine WE.then_normal ?_
      refine WC.sub (fr' := [(9, _), (10, _), (11, _), (12, _)]) ?_ ⟨rfl, rfl, rfl, rfl, trivial⟩
      refine WC.seq ?_
      refine WC.region ?_
      refine WL.q (oq_move rfl) rfl rfl rfl ?_
      refine WL.q (oq_move rfl) rfl rfl rfl ?_
      refine WL.q (oq_beql Try.underlying4 rfl rfl) rfl rfl rfl ?_
      refine WL.q (oq_move rfl) rfl rfl rfl ?_
      refine WL.split 39 rfl (fun s7_3 => ?_) (fun s7_3 => ?_)
      ·
        try simp only [Bool.not_eq_eq_eq_not, Bool.not_true, Bool.not_false, decide_eq_true_eq, decide_eq_false_iff_not, Int.not_lt, Int.not_le, ne_eq, Decidable.not_not, ← List.length_eq_zero_iff] at s7_3
        refine WL.q (oq_move rfl) rfl rfl rfl ?_
        refine WL.q (oq_not rfl) rfl rfl rfl ?_
        refine WL.q (oq_move rfl) rfl rfl rfl ?_
        refine WL.split 42 rfl (fun s7_6 => ?_) (fun s7_6 => ?_)
        ·
          try simp only [Bool.not_eq_eq_eq_not, Bool.not_true, Bool.not_false, decide_eq_true_eq, decide_eq_false_iff_not, Int.not_lt, Int.not_le, ne_eq, Decidable.not_not, ← List.length_eq_zero_iff] at s7_6
          refine WL.skip rfl rfl rfl ?_
          refine WL.skip rfl rfl rfl ?_
          refine WL.skip rfl rfl rfl ?_
          refine WL.q (oq_pick_t rfl rfl) rfl rfl rfl ?_
          refine WL.q (oq_pick_t rfl rfl) rfl rfl rfl ?_
          refine WL.q (oq_move rfl) rfl rfl rfl ?_
          refine WL.qc (oq_call (L2.eAwake) call20 rfl) rfl rfl rfl ?_
          refine WL.q (oq_pick_t rfl rfl) rfl rfl rfl ?_
          refine WL.q (oq_assign rfl) rfl rfl rfl ?_
          refine WL.nil ?_
          refine WE.then_normal ?_
          refine WC.sub (fr' := [(8, _)]) ?_ ⟨rfl, trivial⟩
          refine WC.ret ?_
          refine WE.end0 (.inl rfl) (res1 Try.results10 rfl) ?_
          -- end 2
          first | rfl | (exfalso; simp_all)
        ·
          try simp only [Bool.not_eq_eq_eq_not, Bool.not_true, Bool.not_false, decide_eq_true_eq, decide_eq_false_iff_not, Int.not_lt, Int.not_le, ne_eq, Decidable.not_not, ← List.length_eq_zero_iff] at s7_6
          refine WL.q (oq_move rfl) rfl rfl rfl ?_
          refine WL.q (oq_move rfl) rfl rfl rfl ?_
          refine WL.q (oq_seql rfl rfl) rfl rfl rfl ?_
          refine WL.q (oq_pick_f rfl rfl) rfl rfl rfl ?_
          refine WL.q (oq_pick_t rfl rfl) rfl rfl rfl ?_
          refine WL.q (oq_move rfl) rfl rfl rfl ?_
          refine WL.split 48 rfl (fun s7_12 => ?_) (fun s7_12 => ?_)
          ·
            try simp only [Bool.not_eq_eq_eq_not, Bool.not_true, Bool.not_false, decide_eq_true_eq, decide_eq_false_iff_not, Int.not_lt, Int.not_le, ne_eq, Decidable.not_not, ← List.length_eq_zero_iff] at s7_12
            refine WL.qc (oq_call (L2.eAwake) call20 rfl) rfl rfl rfl ?_
            refine WL.q (oq_pick_t rfl rfl) rfl rfl rfl ?_
            refine WL.q (oq_assign rfl) rfl rfl rfl ?_
            refine WL.nil ?_
            refine WE.then_normal ?_
            refine WC.sub (fr' := [(8, _)]) ?_ ⟨rfl, trivial⟩
            refine WC.ret ?_
            refine WE.end0 (.inl rfl) (res1 Try.results10 rfl) ?_
            -- end 3
            first | rfl | (exfalso; simp_all)
          ·
            try simp only [Bool.not_eq_eq_eq_not, Bool.not_true, Bool.not_false, decide_eq_true_eq, decide_eq_false_iff_not, Int.not_lt, Int.not_le, ne_eq, Decidable.not_not, ← List.length_eq_zero_iff] at s7_12
            refine WL.skip rfl rfl rfl ?_
            refine WL.q (oq_pick_f rfl rfl) rfl rfl rfl ?_
            refine WL.q (oq_assign rfl) rfl rfl rfl ?_
            refine WL.nil ?_
            refine WE.then_normal ?_
            refine WC.sub (fr' := [(8, _)]) ?_ ⟨rfl, trivial⟩
            refine WC.ret ?_
            refine WE.end0 (.inl rfl) (res1 Try.results10 rfl) ?_
            -- end 4
            first | rfl | (exfalso; simp_all)
      ·
        try simp only [Bool.not_eq_eq_eq_not, Bool.not_true, Bool.not_false, decide_eq_true_eq, decide_eq_false_iff_not, Int.not_lt, Int.not_le, ne_eq, Decidable.not_not, ← List.length_eq_zero_iff] at s7_3
        refine WL.skip rfl rfl rfl ?_
        refine WL.skip rfl rfl rfl ?_
        refine WL.skip rfl rfl rfl ?_
        refine WL.skip rfl rfl rfl ?_
        refine WL.skip rfl rfl rfl ?_
        refine WL.skip rfl rfl rfl ?_
        refine WL.skip rfl rfl rfl ?_
        refine WL.q (oq_pick_f rfl rfl) rfl rfl rfl ?_
        refine WL.q (oq_move rfl) rfl rfl rfl ?_
        refine WL.skip rfl rfl rfl ?_
        refine WL.q (oq_pick_f rfl rfl) rfl rfl rfl ?_
        refine WL.q (oq_assign rfl) rfl rfl rfl ?_
        refine WL.nil ?_
        refine WE.then_normal ?_
        refine WC.sub (fr' := [(8, _)]) ?_ ⟨rfl, trivial⟩
        refine WC.ret ?_
        refine WE.end0 (.inl rfl) (res1 Try.results10 rfl) ?_
        -- end 5
        first | rfl | (exfalso; simp_all)

end E4
end Go.Proofs.Ythhankjineidiaa
