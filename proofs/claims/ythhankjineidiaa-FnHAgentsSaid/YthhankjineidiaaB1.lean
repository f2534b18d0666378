/- Walks of the law on user agents. -/
import Derived.Test.YthhankjineidiaaVB
import Derived.Test.YthhankjineidiaaB0
import Derived.Test.YthhankjineidiaaL2
import Derived.Test.YthhankjineidiaaJ0
import Derived.Test.YthhankjineidiaaP0
import Derived.Test.YthhankjineidiaaProg
namespace Go.Proofs.Ythhankjineidiaa
open Go Go.RowKit V B0 L2 J0
set_option linter.unusedSimpArgs false
set_option linter.unusedVariables false
set_option maxRecDepth 10000
namespace B1
theorem call15 : Callable Try.prog 15 := ⟨_, Try.func15, rfl, by kernel_rfl⟩
theorem call32 : Callable Try.prog 32 := ⟨_, Try.func32, rfl, by kernel_rfl⟩
theorem call33 : Callable Try.prog 33 := ⟨_, Try.func33, rfl, by kernel_rfl⟩
theorem call34 : Callable Try.prog 34 := ⟨_, Try.func34, rfl, by kernel_rfl⟩
theorem call47 : Callable Try.prog 47 := ⟨_, Try.func47, rfl, by kernel_rfl⟩
theorem call48 : Callable Try.prog 48 := ⟨_, Try.func48, rfl, by kernel_rfl⟩
theorem call49 : Callable Try.prog 49 := ⟨_, Try.func49, rfl, by kernel_rfl⟩
theorem call50 : Callable Try.prog 50 := ⟨_, Try.func50, rfl, by kernel_rfl⟩
theorem call51 : Callable Try.prog 51 := ⟨_, Try.func51, rfl, by kernel_rfl⟩
theorem call61 : Callable Try.prog 61 := ⟨_, Try.func61, rfl, by kernel_rfl⟩
theorem call62 : Callable Try.prog 62 := ⟨_, Try.func62, rfl, by kernel_rfl⟩
theorem call68 : Callable Try.prog 68 := ⟨_, Try.func68, rfl, by kernel_rfl⟩
theorem call69 : Callable Try.prog 69 := ⟨_, Try.func69, rfl, by kernel_rfl⟩
theorem call70 : Callable Try.prog 70 := ⟨_, Try.func70, rfl, by kernel_rfl⟩
theorem call71 : Callable Try.prog 71 := ⟨_, Try.func71, rfl, by kernel_rfl⟩
theorem call72 : Callable Try.prog 72 := ⟨_, Try.func72, rfl, by kernel_rfl⟩
theorem flat4 : Flat Try.prog 4 := ⟨_, Try.underlying4, by simp⟩
theorem flat9 : Flat Try.prog 9 := ⟨_, Try.underlying9, by simp⟩
theorem flat75 : Flat Try.prog 75 := ⟨_, Try.underlying75, by simp⟩
theorem ty4 : Ty Try.prog 4 (.bool false) 1 1 := ty_of (by kernel_rfl)
theorem ty5 : Ty Try.prog 5 (.int .u8 0) 1 1 := ty_of (by kernel_rfl)
theorem ty9 : Ty Try.prog 9 (S []) 1 16 := ty_of (by kernel_rfl)
theorem ty43 : Ty Try.prog 43 (.agg #[(S []), (S []), (.bool false)]) 3 40 := ty_of (by kernel_rfl)
theorem ty75 : Ty Try.prog 75 (.slice none 0 0) 1 24 := ty_of (by kernel_rfl)
theorem ty77 : Ty Try.prog 77 (.agg #[(.pointer none), (.slice none 0 0)]) 2 32 := ty_of (by kernel_rfl)
theorem ty79 : Ty Try.prog 79 (.agg #[(.pointer none), (.slice none 0 0)]) 2 32 := ty_of (by kernel_rfl)
theorem agg43 : Agg Try.prog 43 := agg_of Try.underlying43
theorem str77 : Str Try.prog 77 #[(0, 1), (1, 1)] := ⟨_, Try.underlying77, fun w => by kernel_rfl⟩
theorem str79 : Str Try.prog 79 #[(0, 2)] := ⟨_, Try.underlying79, fun w => by kernel_rfl⟩
theorem fld43_0 : Fld Try.prog 43 0 0 9 := fld_of Try.underlying43 rfl rfl rfl ty9 (by decide)
theorem fld43_1 : Fld Try.prog 43 1 1 9 := fld_of Try.underlying43 rfl rfl rfl ty9 (by decide)
theorem fld43_2 : Fld Try.prog 43 2 2 4 := fld_of Try.underlying43 rfl rfl rfl ty4 (by decide)
theorem fld77_1 : Fld Try.prog 77 1 1 75 := fld_of Try.underlying77 rfl rfl rfl ty75 (by decide)
theorem fld79_0 : Fld Try.prog 79 0 0 77 := fld_of Try.underlying79 rfl rfl rfl ty77 (by decide)

structure HP where
  k : List UInt8
  v : List UInt8
  b : Bool
def HP0 : HP := ⟨[], [], false⟩
def hpf (p : HP) : List Value := [S p.k, S p.v, .bool p.b]
def sml (s : List UInt8) : Bool := decide ((s.length : Int) ≤ 2147483647)
def smlP (p : HP) : Bool := sml p.k && sml p.v
def fits9 (l : List HP) : Bool := decide ((l.length : Int) ≤ 2147483647) && l.all smlP
theorem fits9_len {l : List HP} (h : fits9 l = true) : l.length ≤ 2147483647 := by unfold fits9 at h; simp at h; omega
theorem fits9_el {l : List HP} (h : fits9 l = true) (i : Nat) (hi : i < l.length) : (l.getD i HP0).k.length ≤ 2147483647 ∧ (l.getD i HP0).v.length ≤ 2147483647 := by
  unfold fits9 at h
  simp only [Bool.and_eq_true, List.all_eq_true] at h
  rw [List.getD_eq_getElem?_getD, List.getElem?_eq_getElem hi]
  have := h.2 l[i] (List.getElem_mem hi)
  unfold smlP sml at this
  simp only [Bool.and_eq_true, decide_eq_true_eq] at this
  simp only [Option.getD_some]
  omega
def partOf (p : HP) : List UInt8 := if p.b then p.k ++ [47] ++ p.v else p.k
def gap (acc : List UInt8) : List UInt8 := if acc = [] then acc else acc ++ [32]
def agf (acc : List UInt8) (p : HP) : List UInt8 := gap acc ++ partOf p
def agent (l : List HP) : List UInt8 := l.foldl agf []
theorem agent_step (l : List HP) (i : Nat) (h : i < l.length) : agent (l.take (i + 1)) = agf (agent (l.take i)) (l.getD i HP0) := by
  unfold agent
  rw [List.take_succ_eq_append_getElem h, List.foldl_append, List.getD_eq_getElem?_getD, List.getElem?_eq_getElem h]; rfl
theorem gap_len (a : List UInt8) : (gap a).length ≤ a.length + 1 := by unfold gap; split <;> simp
theorem part_len (p : HP) : (partOf p).length ≤ p.k.length + p.v.length + 1 := by unfold partOf; split <;> (try simp only [List.length_append, List.length_cons, List.length_nil]) <;> omega
theorem agent_len (l : List HP) (hb : ∀ i, i < l.length → (l.getD i HP0).k.length + (l.getD i HP0).v.length ≤ 100) : ∀ i, i ≤ l.length → (agent (l.take i)).length ≤ 102 * i := by
  intro i
  induction i with
  | zero => intro _; simp [agent]
  | succ i ih =>
    intro h
    rw [agent_step l i (by omega)]
    unfold agf
    rw [List.length_append]
    have := gap_len (agent (l.take i))
    have := part_len (l.getD i HP0)
    have := ih (by omega)
    have := hb i (by omega)
    omega
theorem lies79 : liesAt Try.prog Try.prog.depth 79 (2 / Try.prog.cellsOf 79) 0 77 1 = true := by kernel_rfl
/-- given.example/pub-tinwright/laws.zzFits10 -/
theorem fits10 (k v : List UInt8) (b : Bool) : Fn0 Try.prog 47 [.agg #[S k, S v, .bool b]] (.bool (sml k && sml v)) := by
  refine Fn0.enter (n := 11) Try.func47 rfl rfl fun w0 => ?_
  refine WC.sub (fr' := [(0, _)]) ?_ ⟨rfl, trivial⟩
  refine WC.seq ?_
  refine WC.region ?_
  refine WL.box rfl rfl rfl fun b0_0 hb0_0 => ?_
  refine WL.q (oq_assign rfl) rfl rfl rfl ?_
  refine WL.nil ?_
  refine WE.then_normal ?_
  refine WC.sub (fr' := [(1, _)]) ?_ ⟨rfl, trivial⟩
  refine WC.seq ?_
  refine WC.seq ?_
  refine WC.region ?_
  refine WL.q (oq_fieldAddr fld43_0 rfl) rfl rfl rfl ?_
  refine WL.q (oq_load flat9 rfl (.head _) (List.mem_singleton.2 rfl) rfl) rfl rfl rfl ?_
  refine WL.q (oq_len_s Try.underlying9 rfl) rfl rfl rfl ?_
  refine WL.q (oq_gtr rfl rfl) rfl rfl rfl ?_
  refine WL.nil ?_
  refine WE.then_normal ?_
  refine WC.sub (fr' := [(1, _), (6, _)]) ?_ ⟨rfl, rfl, trivial⟩
  refine WC.cond rfl (fun q1 => ?_) (fun q1 => ?_)
  ·
    try simp only [Bool.not_eq_eq_eq_not, Bool.not_true, Bool.not_false, decide_eq_true_eq, decide_eq_false_iff_not, Int.not_lt, Int.not_le, ne_eq, Decidable.not_not, ← List.length_eq_zero_iff] at q1
    refine WC.seq ?_
    refine WC.region ?_
    refine WL.q (oq_assign rfl) rfl rfl rfl ?_
    refine WL.nil ?_
    refine WE.then_normal ?_
    refine WC.sub (fr' := [(2, _)]) ?_ ⟨rfl, trivial⟩
    refine WC.ret ?_
    refine WE.then_ret ?_
    refine WE.lose hb0_0 ?_
    refine WE.end0 (.inl rfl) (res1 Try.results47 rfl) ?_
    -- end 0
    unfold sml; first | (rw [decide_eq_true (by omega), decide_eq_true (by omega)]; rfl) | (rw [decide_eq_false (by omega)]; rfl) | (rw [decide_eq_true (by omega), decide_eq_false (by omega)]; rfl)
  ·
    try simp only [Bool.not_eq_eq_eq_not, Bool.not_true, Bool.not_false, decide_eq_true_eq, decide_eq_false_iff_not, Int.not_lt, Int.not_le, ne_eq, Decidable.not_not, ← List.length_eq_zero_iff] at q1
    refine WC.skip ?_
    refine WE.then_normal ?_
    refine WC.sub (fr' := [(1, _)]) ?_ ⟨rfl, trivial⟩
    refine WC.seq ?_
    refine WC.seq ?_
    refine WC.region ?_
    refine WL.q (oq_fieldAddr fld43_1 rfl) rfl rfl rfl ?_
    refine WL.q (oq_load flat9 rfl (.head _) (List.mem_singleton.2 rfl) rfl) rfl rfl rfl ?_
    refine WL.q (oq_len_s Try.underlying9 rfl) rfl rfl rfl ?_
    refine WL.q (oq_gtr rfl rfl) rfl rfl rfl ?_
    refine WL.nil ?_
    refine WE.then_normal ?_
    refine WC.sub (fr' := [(10, _)]) ?_ ⟨rfl, trivial⟩
    refine WC.cond rfl (fun q3 => ?_) (fun q3 => ?_)
    ·
      try simp only [Bool.not_eq_eq_eq_not, Bool.not_true, Bool.not_false, decide_eq_true_eq, decide_eq_false_iff_not, Int.not_lt, Int.not_le, ne_eq, Decidable.not_not, ← List.length_eq_zero_iff] at q3
      refine WC.seq ?_
      refine WC.region ?_
      refine WL.q (oq_assign rfl) rfl rfl rfl ?_
      refine WL.nil ?_
      refine WE.then_normal ?_
      refine WC.sub (fr' := [(2, _)]) ?_ ⟨rfl, trivial⟩
      refine WC.ret ?_
      refine WE.then_ret ?_
      refine WE.lose hb0_0 ?_
      refine WE.end0 (.inl rfl) (res1 Try.results47 rfl) ?_
      -- end 1
      unfold sml; first | (rw [decide_eq_true (by omega), decide_eq_true (by omega)]; rfl) | (rw [decide_eq_false (by omega)]; rfl) | (rw [decide_eq_true (by omega), decide_eq_false (by omega)]; rfl)
    ·
      try simp only [Bool.not_eq_eq_eq_not, Bool.not_true, Bool.not_false, decide_eq_true_eq, decide_eq_false_iff_not, Int.not_lt, Int.not_le, ne_eq, Decidable.not_not, ← List.length_eq_zero_iff] at q3
      refine WC.skip ?_
      refine WE.then_normal ?_
      refine WC.sub (fr' := []) ?_ trivial
      refine WC.seq ?_
      refine WC.region ?_
      refine WL.q (oq_assign rfl) rfl rfl rfl ?_
      refine WL.nil ?_
      refine WE.then_normal ?_
      refine WC.sub (fr' := [(2, _)]) ?_ ⟨rfl, trivial⟩
      refine WC.ret ?_
      refine WE.lose hb0_0 ?_
      refine WE.end0 (.inl rfl) (res1 Try.results47 rfl) ?_
      -- end 2
      unfold sml; first | (rw [decide_eq_true (by omega), decide_eq_true (by omega)]; rfl) | (rw [decide_eq_false (by omega)]; rfl) | (rw [decide_eq_true (by omega), decide_eq_false (by omega)]; rfl)

/-- given.example/pub-tinwright/laws.zzFits9 -/
theorem fits9_ (v : Value) (A : Hp) (l : List HP) (hr : RdS 3 v A l.length (recsV hpf l)) : FnR Try.prog 32 [v] A (.bool (fits9 l)) := by
  refine FnR.enter (n := 18) Try.func32 rfl rfl fun w0 => ?_
  refine WC.sub (fr' := [(0, _)]) ?_ ⟨rfl, trivial⟩
  refine WC.seq ?_
  refine WC.region ?_
  refine WL.q (oq_assign rfl) rfl rfl rfl ?_
  refine WL.nil ?_
  refine WE.then_normal ?_
  refine WC.sub (fr' := [(0, _)]) ?_ ⟨rfl, trivial⟩
  refine WC.seq ?_
  refine WC.seq ?_
  refine WC.region ?_
  refine WL.q (oq_move rfl) rfl rfl rfl ?_
  refine WL.q (oq_len_rd hr Try.underlying40 rfl) rfl rfl rfl ?_
  refine WL.q (oq_gtr rfl rfl) rfl rfl rfl ?_
  refine WL.nil ?_
  refine WE.then_normal ?_
  refine WC.sub (fr' := [(0, _), (7, _)]) ?_ ⟨rfl, rfl, trivial⟩
  refine WC.cond rfl (fun q1 => ?_) (fun q1 => ?_)
  ·
    try simp only [Bool.not_eq_eq_eq_not, Bool.not_true, Bool.not_false, decide_eq_true_eq, decide_eq_false_iff_not, Int.not_lt, Int.not_le, ne_eq, Decidable.not_not, ← List.length_eq_zero_iff] at q1
    refine WC.seq ?_
    refine WC.region ?_
    refine WL.q (oq_assign rfl) rfl rfl rfl ?_
    refine WL.nil ?_
    refine WE.then_normal ?_
    refine WC.sub (fr' := [(2, _)]) ?_ ⟨rfl, trivial⟩
    refine WC.ret ?_
    refine WE.then_ret ?_
    refine WE.endR (.inl rfl) (res1 Try.results32 rfl) ?_
    -- end 0
    unfold fits9; rw [decide_eq_false (by omega)]; rfl
  ·
    try simp only [Bool.not_eq_eq_eq_not, Bool.not_true, Bool.not_false, decide_eq_true_eq, decide_eq_false_iff_not, Int.not_lt, Int.not_le, ne_eq, Decidable.not_not, ← List.length_eq_zero_iff] at q1
    refine WC.skip ?_
    refine WE.then_normal ?_
    refine WC.sub (fr' := [(0, _)]) ?_ ⟨rfl, trivial⟩
    refine WC.seq ?_
    refine WC.seq ?_
    refine WC.region ?_
    refine WL.q (oq_move rfl) rfl rfl rfl ?_
    refine WL.q (oq_len_rd hr Try.underlying40 rfl) rfl rfl rfl ?_
    refine WL.q (oq_move rfl) rfl rfl rfl ?_
    refine WL.nil ?_
    refine WE.then_normal ?_
    refine WC.sub (fr' := [(8, _), (9, _), (10, _)]) ?_ ⟨rfl, rfl, rfl, trivial⟩
    refine WC.block ?_
    refine WC.loop (ι := Nat) (fun (i : Nat) => [(8, v), (9, I (l.length : Int)), (10, I (i : Int))]) (fun (i : Nat) => [A]) (fun (i : Nat) => i ≤ l.length ∧ l.all smlP = (l.drop i).all smlP) (fun (i : Nat) => l.length - i) (0) ?_ ⟨rfl, rfl, rfl, trivial⟩ (List.Perm.refl _) ?_
    · try dsimp only
      exact ⟨by omega, rfl⟩
    · rintro i hp
      try dsimp only at hp
      obtain ⟨hi, hf⟩ := hp
      show WC _ _ _ _ _ _ ([(8, v), (9, I (l.length : Int)), (10, I (i : Int))]) ([A])
      refine WC.seq ?_
      refine WC.region ?_
      refine WL.q (oq_lss rfl rfl) rfl rfl rfl ?_
      refine WL.nil ?_
      refine WE.then_normal ?_
      refine WC.sub (fr' := [(8, _), (9, _), (10, _), (11, _)]) ?_ ⟨rfl, rfl, rfl, rfl, trivial⟩
      refine WC.seq ?_
      refine WC.cond rfl (fun q4 => ?_) (fun q4 => ?_)
      ·
        try simp only [Bool.not_eq_eq_eq_not, Bool.not_true, Bool.not_false, decide_eq_true_eq, decide_eq_false_iff_not, Int.not_lt, Int.not_le, ne_eq, Decidable.not_not, ← List.length_eq_zero_iff] at q4
        refine WC.skip ?_
        refine WE.then_normal ?_
        refine WC.sub (fr' := [(8, _), (9, _), (10, _)]) ?_ ⟨rfl, rfl, rfl, trivial⟩
        refine WC.seq ?_
        refine WC.block ?_
        refine WC.seq ?_
        refine WC.region ?_
        refine WL.q (oq_ixaddr hr Try.underlying40 ty43 rfl rfl (by (first | omega | (simp only [List.length_cons, List.length_nil, List.length_append, List.length_drop, List.length_take]; omega)))) rfl rfl rfl ?_
        refine WL.q (oq_loadEl (f := hpf) HP0 [_, _, _] (fun _ => rfl) agg43 ty43 hr (.head _) rfl (by (first | omega | (simp only [List.length_cons, List.length_nil, List.length_append, List.length_drop, List.length_take]; omega))) (by first | exact Int.toNat_natCast _ | exact rfl) rfl) rfl rfl rfl ?_
        refine WL.alloc ty43 rfl rfl fun b5_2 hb5_2 => ?_
        refine WL.storeS #[_, _, _] ty43 rfl rfl rfl rfl (Nat.le_of_ble_eq_true rfl) rfl rfl ?_
        refine WL.nil ?_
        refine WE.then_normal ?_
        refine WC.sub (fr' := [(4, _), (8, _), (9, _), (10, _)]) ?_ ⟨rfl, rfl, rfl, rfl, trivial⟩
        refine WC.seq ?_
        refine WC.region ?_
        refine WL.q (oq_loadS [_, _, _] agg43 ty43 rfl (.head _) (List.mem_singleton.2 rfl) rfl rfl) rfl rfl rfl ?_
        refine WL.qc (oq_call (fits10 _ _ _) call47 rfl) rfl rfl rfl ?_
        refine WL.q (oq_not rfl) rfl rfl rfl ?_
        refine WL.nil ?_
        refine WE.then_normal ?_
        refine WC.sub (fr' := [(8, _), (9, _), (10, _), (16, _)]) ?_ ⟨rfl, rfl, rfl, rfl, trivial⟩
        refine WC.cond rfl (fun q6 => ?_) (fun q6 => ?_)
        ·
          try simp only [Bool.not_eq_eq_eq_not, Bool.not_true, Bool.not_false, decide_eq_true_eq, decide_eq_false_iff_not, Int.not_lt, Int.not_le, ne_eq, Decidable.not_not, ← List.length_eq_zero_iff] at q6
          refine WC.seq ?_
          refine WC.region ?_
          refine WL.q (oq_assign rfl) rfl rfl rfl ?_
          refine WL.nil ?_
          refine WE.then_normal ?_
          refine WC.sub (fr' := [(2, _)]) ?_ ⟨rfl, trivial⟩
          refine WC.ret ?_
          refine WE.block_ret ?_
          refine WE.then_ret ?_
          refine WE.then_ret ?_
          refine WE.block_ret ?_
          refine WE.then_ret ?_
          refine WE.lose hb5_2 ?_
          refine WE.endR (.inl rfl) (res1 Try.results32 rfl) ?_
          -- end 1
          unfold fits9; rw [hf, all_get l i HP0 (by omega), show smlP (l.getD i HP0) = false from q6, Bool.false_and, Bool.and_false]
        ·
          try simp only [Bool.not_eq_eq_eq_not, Bool.not_true, Bool.not_false, decide_eq_true_eq, decide_eq_false_iff_not, Int.not_lt, Int.not_le, ne_eq, Decidable.not_not, ← List.length_eq_zero_iff] at q6
          refine WC.skip ?_
          refine WE.block_normal ?_
          refine WE.then_normal ?_
          refine WC.sub (fr' := [(8, _), (9, _), (10, _)]) ?_ ⟨rfl, rfl, rfl, trivial⟩
          refine WC.region ?_
          refine WL.q (oq_add rfl rfl (by rw [i64_lo, i64_hi]; (first | omega | (simp only [List.length_cons, List.length_nil, List.length_append, List.length_drop, List.length_take]; omega)))) rfl rfl rfl ?_
          refine WL.q (oq_move rfl) rfl rfl rfl ?_
          refine WL.nil ?_
          refine WE.lose hb5_2 ?_
          refine WE.again (i + 1) ?_ ?_ ⟨rfl, rfl, rfl, trivial⟩ (List.Perm.refl _)
          · try dsimp only   -- again 0
            exact ⟨by omega, by rw [hf, all_get l i HP0 (by omega), show smlP (l.getD i HP0) = true from q6, Bool.true_and]⟩
          · (try dsimp only); omega
      ·
        try simp only [Bool.not_eq_eq_eq_not, Bool.not_true, Bool.not_false, decide_eq_true_eq, decide_eq_false_iff_not, Int.not_lt, Int.not_le, ne_eq, Decidable.not_not, ← List.length_eq_zero_iff] at q4
        refine WC.exit ?_
        refine WE.then_exit ?_
        refine WE.then_exit ?_
        refine WE.block_same ?_
        refine WE.then_normal ?_
        refine WC.sub (fr' := []) ?_ trivial
        refine WC.seq ?_
        refine WC.region ?_
        refine WL.q (oq_assign rfl) rfl rfl rfl ?_
        refine WL.nil ?_
        refine WE.then_normal ?_
        refine WC.sub (fr' := [(2, _)]) ?_ ⟨rfl, trivial⟩
        refine WC.ret ?_
        refine WE.endR (.inl rfl) (res1 Try.results32 rfl) ?_
        -- end 2
        unfold fits9; rw [hf, List.drop_eq_nil_of_le (by omega), decide_eq_true (by omega)]; rfl

/-- unicode/utf8.AppendRune -/
theorem appendRune (base : Nat) (v : Value) (A : Hp) (l : List UInt8) (hb : BufS base 5 v A l) (hlen : l.length < 100000000000000) : FnW Try.prog 72 [v, .int .i32 32] base [A] (fun r Hs => ∃ A1, Hs = [A1] ∧ BufS base 5 r A1 (l ++ [32])) := by
  refine FnW.enter (n := 16) Try.func72 rfl rfl fun w0 R0 hbase => ?_
  subst hbase
  show WC _ _ _ _ _ _ _ ([A, R0])
  refine WC.sub (fr' := [(0, _), (1, _)]) ?_ ⟨rfl, rfl, trivial⟩
  refine WC.seq ?_
  refine WC.region ?_
  refine WL.q (oq_assign rfl) rfl rfl rfl ?_
  refine WL.nil ?_
  refine WE.then_normal ?_
  refine WC.sub (fr' := [(0, _), (1, _)]) ?_ ⟨rfl, rfl, trivial⟩
  refine WC.seq ?_
  refine WC.seq ?_
  refine WC.region ?_
  refine WL.q (oq_move rfl) rfl rfl rfl ?_
  refine WL.q (oq_conv Try.underlying21 Try.underlying95 rfl (by rw [u32_lo, u32_hi]; (first | omega | (simp only [List.length_cons, List.length_nil, List.length_append, List.length_drop, List.length_take]; omega)))) rfl rfl rfl ?_
  refine WL.q (oq_leq rfl rfl) rfl rfl rfl ?_
  refine WL.nil ?_
  refine WE.then_normal ?_
  refine WC.sub (fr' := [(0, _), (1, _), (7, _)]) ?_ ⟨rfl, rfl, rfl, trivial⟩
  refine WC.cond_t rfl ?_
  refine WC.seq ?_
  refine WC.region ?_
  refine WL.q (oq_move rfl) rfl rfl rfl ?_
  refine WL.q (oq_move rfl) rfl rfl rfl ?_
  refine WL.q (oq_conv Try.underlying21 Try.underlying5 rfl (by rw [u8_lo, u8_hi]; (first | omega | (simp only [List.length_cons, List.length_nil, List.length_append, List.length_drop, List.length_take]; omega)))) rfl rfl rfl ?_
  refine WL.append1 hb.1 Try.underlying75 ty5 rfl (by decide) (fun _ => rfl) rfl rfl (by unfold maxLen; omega) (by omega) rfl rfl (fun _ => rfl) rfl fun v2 A2 u2 ho2 hne2 => ?_
  refine WL.q (oq_assign rfl) rfl rfl rfl ?_
  refine WL.nil ?_
  refine WE.then_normal ?_
  refine WC.sub (fr' := [(4, _)]) ?_ ⟨rfl, trivial⟩
  refine WC.ret ?_
  refine WE.then_ret ?_
  refine WE.endW1 (.inl rfl) (res1 Try.results72 rfl) ?_
  -- end 0
  exact ⟨_, rfl, BufS.snoc (c := 32) (by decide) (by decide) ho2⟩

/-- (*strings.Builder).WriteRune -/
theorem writeRune (base b : Nat) (e : TypeId) (p v : Value) (A : Hp) (l : List UInt8) (hp : Own b p) (hl : liesAt Try.prog Try.prog.depth e (2 / Try.prog.cellsOf e) 0 77 1 = true) (hb : BufS base 5 v A l) (hlen : l.length < 100000000000000) : FnW Try.prog 69 [Pt b 0, .int .i32 32] base [[(b, .cells #[p, v] e (0, 0))], A] (fun r Hs => ∃ v1 A1, (∃ k, r = .tuple #[I k, .nilIface]) ∧ Hs = [[(b, .cells #[Pt b 0, v1] e (0, 0))], A1] ∧ BufS base 5 v1 A1 (l ++ [32])) := by
  refine FnW.enter (n := 30) Try.func69 rfl rfl fun w0 R0 hbase => ?_
  subst hbase
  show WC _ _ _ _ _ _ _ ([[(b, .cells #[p, v] e (0, 0))], A, R0])
  refine WC.sub (fr' := [(0, _), (1, _)]) ?_ ⟨rfl, rfl, trivial⟩
  refine WC.seq ?_
  refine WC.region ?_
  refine WL.q (oq_assign rfl) rfl rfl rfl ?_
  refine WL.q (oq_assign rfl) rfl rfl rfl ?_
  refine WL.nil ?_
  refine WE.then_normal ?_
  refine WC.sub (fr' := [(0, _), (1, _)]) ?_ ⟨rfl, rfl, trivial⟩
  refine WC.seq ?_
  refine WC.region ?_
  refine WL.q (oq_move rfl) rfl rfl rfl ?_
  refine WL.callW1 (B0.copyCheck _ b e p v hp hl) call71 rfl rfl rfl fun v1_1 Hs1_1 hR1_1 => ?_
  obtain ⟨rfl, rfl⟩ := hR1_1
  refine WL.to1 ?_
  refine WL.nil ?_
  refine WE.then_normal ?_
  refine WC.sub (fr' := [(0, _), (1, _)]) ?_ ⟨rfl, rfl, trivial⟩
  refine WC.seq ?_
  refine WC.region ?_
  refine WL.q (oq_move rfl) rfl rfl rfl ?_
  refine WL.q (oq_nilCheck rfl) rfl rfl rfl ?_
  refine WL.q (oq_fieldAddr fld77_1 rfl) rfl rfl rfl ?_
  refine WL.q (oq_load flat75 rfl (.head _) (List.mem_singleton.2 rfl) rfl) rfl rfl rfl ?_
  refine WL.q (oq_len_rd hb.1.rd Try.underlying75 rfl) rfl rfl rfl ?_
  refine WL.q (oq_assign rfl) rfl rfl rfl ?_
  refine WL.nil ?_
  refine WE.then_normal ?_
  refine WC.sub (fr' := [(0, _), (1, _), (6, _)]) ?_ ⟨rfl, rfl, rfl, trivial⟩
  refine WC.seq ?_
  refine WC.region ?_
  refine WL.q (oq_move rfl) rfl rfl rfl ?_
  refine WL.q (oq_move rfl) rfl rfl rfl ?_
  refine WL.q (oq_nilCheck rfl) rfl rfl rfl ?_
  refine WL.q (oq_fieldAddr fld77_1 rfl) rfl rfl rfl ?_
  refine WL.q (oq_load flat75 rfl (.head _) (List.mem_singleton.2 rfl) rfl) rfl rfl rfl ?_
  refine WL.q (oq_move rfl) rfl rfl rfl ?_
  refine WL.f1 ?_
  refine WL.callW1 (appendRune _ v A l hb hlen) call72 rfl rfl rfl fun v3_6 Hs3_6 hR3_6 => ?_
  obtain ⟨A3, rfl, hb3⟩ := hR3_6
  refine WL.to1 ?_
  refine WL.q (oq_nilCheck rfl) rfl rfl rfl ?_
  refine WL.q (oq_fieldAddr fld77_1 rfl) rfl rfl rfl ?_
  refine WL.f1 ?_
  refine WL.store1 #[_, _] ty75 rfl rfl (by first | rfl | exact OwS.one hb3.1) (Nat.lt_of_lt_of_le (Nat.lt_succ_self _) (Nat.le_of_ble_eq_true rfl)) rfl rfl ?_
  refine WL.nil ?_
  refine WE.then_normal ?_
  refine WC.sub (fr' := [(0, _), (6, _)]) ?_ ⟨rfl, rfl, trivial⟩
  refine WC.seq ?_
  refine WC.region ?_
  refine WL.q (oq_move rfl) rfl rfl rfl ?_
  refine WL.q (oq_nilCheck rfl) rfl rfl rfl ?_
  refine WL.q (oq_fieldAddr fld77_1 rfl) rfl rfl rfl ?_
  refine WL.q (oq_load flat75 rfl (.head _) (List.mem_singleton.2 rfl) rfl) rfl rfl rfl ?_
  refine WL.q (oq_len_rd hb3.1.rd Try.underlying75 rfl) rfl rfl rfl ?_
  refine WL.q (oq_move rfl) rfl rfl rfl ?_
  refine WL.q (oq_sub rfl rfl (by rw [i64_lo, i64_hi]; (first | omega | (simp only [List.length_cons, List.length_nil, List.length_append, List.length_drop, List.length_take]; omega)))) rfl rfl rfl ?_
  refine WL.q (oq_assign rfl) rfl rfl rfl ?_
  refine WL.q (oq_assign rfl) rfl rfl rfl ?_
  refine WL.nil ?_
  refine WE.then_normal ?_
  refine WC.sub (fr' := [(4, _), (5, _)]) ?_ ⟨rfl, rfl, trivial⟩
  refine WC.ret ?_
  refine WE.endW2 (.inl rfl) (res2 Try.results69 rfl rfl) ?_
  -- end 0
  exact ⟨_, _, ⟨_, rfl⟩, rfl, hb3⟩

/-- (*given.example/pub-tinwright/pub/smithy/transport/http.UserAgentBuilder).appendTo -/
theorem appendTo (base b : Nat) (e : TypeId) (p v : Value) (A : Hp) (l : List UInt8) (hp : Own b p) (hl : liesAt Try.prog Try.prog.depth e (2 / Try.prog.cellsOf e) 0 77 1 = true) (hb : BufS base 5 v A l) (s : List UInt8) (hlen : l.length + s.length < 10000000000) : FnW Try.prog 61 [Pt b 0, S s] base [[(b, .cells #[p, v] e (0, 0))], A] (fun r Hs => ∃ v1 A1, r = .tuple #[] ∧ Hs = [[(b, .cells #[Pt b 0, v1] e (0, 0))], A1] ∧ BufS base 5 v1 A1 (gap l ++ s)) := by
  refine FnW.enter (n := 18) Try.func61 rfl rfl fun w0 R0 hbase => ?_
  subst hbase
  show WC _ _ _ _ _ _ _ ([[(b, .cells #[p, v] e (0, 0))], A, R0])
  refine WC.sub (fr' := [(0, _), (1, _)]) ?_ ⟨rfl, rfl, trivial⟩
  refine WC.cut (ι := Value × Value × Hp) (fun i_ => (fun (p1 : Value) (v1 : Value) (A1 : Hp) => [(0, Pt b 0), (1, S s)]) i_.1 i_.2.1 i_.2.2) (fun i_ => (fun (p1 : Value) (v1 : Value) (A1 : Hp) => [[(b, .cells #[p1, v1] e (0, 0))], A1, R0]) i_.1 i_.2.1 i_.2.2) (fun i_ => (fun (p1 : Value) (v1 : Value) (A1 : Hp) => Own b p1 ∧ BufS w0.heap.size 5 v1 A1 (gap l)) i_.1 i_.2.1 i_.2.2) ?_ ?_
  ·
    refine WC.seq ?_
    refine WC.region ?_
    refine WL.q (oq_move rfl) rfl rfl rfl ?_
    refine WL.q (oq_nilCheck rfl) rfl rfl rfl ?_
    refine WL.q (oq_fieldAddr fld79_0 rfl) rfl rfl rfl ?_
    refine WL.f1 ?_
    refine WL.f1 ?_
    refine WL.callW2 (B0.blen _ b e p v A l hp hl hb (by omega)) call68 rfl rfl rfl fun v0_3 Hs0_3 hR0_3 => ?_
    obtain ⟨rfl, rfl⟩ := hR0_3
    refine WL.to2 ?_
    refine WL.q (oq_gtr rfl rfl) rfl rfl rfl ?_
    refine WL.nil ?_
    refine WE.then_normal ?_
    refine WC.sub (fr' := [(0, _), (1, _), (8, _)]) ?_ ⟨rfl, rfl, rfl, trivial⟩
    refine WC.cond rfl (fun q0 => ?_) (fun q0 => ?_)
    ·
      try simp only [Bool.not_eq_eq_eq_not, Bool.not_true, Bool.not_false, decide_eq_true_eq, decide_eq_false_iff_not, Int.not_lt, Int.not_le, ne_eq, Decidable.not_not, ← List.length_eq_zero_iff] at q0
      refine WC.region ?_
      refine WL.q (oq_move rfl) rfl rfl rfl ?_
      refine WL.q (oq_nilCheck rfl) rfl rfl rfl ?_
      refine WL.q (oq_fieldAddr fld79_0 rfl) rfl rfl rfl ?_
      refine WL.f1 ?_
      refine WL.f1 ?_
      refine WL.callW2 (writeRune _ b e p v A l hp hl hb (by omega)) call69 rfl rfl rfl fun v1_3 Hs1_3 hR1_3 => ?_
      obtain ⟨x1_3, A1_3, _, rfl, hb1_3⟩ := hR1_3
      refine WL.to2 ?_
      refine WL.nil ?_
      refine WE.meet (_, _, _) ?_ ⟨rfl, rfl, trivial⟩ (List.Perm.refl _)
      try dsimp only
      exact ⟨.inr rfl, by rw [gap, if_neg (fun e => by rw [e] at q0; simp at q0)]; exact hb1_3⟩   -- meet 0
    ·
      try simp only [Bool.not_eq_eq_eq_not, Bool.not_true, Bool.not_false, decide_eq_true_eq, decide_eq_false_iff_not, Int.not_lt, Int.not_le, ne_eq, Decidable.not_not, ← List.length_eq_zero_iff] at q0
      refine WC.skip ?_
      refine WE.meet (_, _, _) ?_ ⟨rfl, rfl, trivial⟩ (List.Perm.refl _)
      try dsimp only
      exact ⟨hp, by rw [gap, if_pos (List.eq_nil_of_length_eq_zero (by omega))]; exact hb⟩   -- meet 1
  · rintro ⟨p1, v1, A1⟩ hp
    try dsimp only at hp
    obtain ⟨hp1, hb1⟩ := hp
    show WC _ _ _ _ _ _ ([(0, Pt b 0), (1, S s)]) ([[(b, .cells #[p1, v1] e (0, 0))], A1, R0])
    refine WC.region ?_
    refine WL.q (oq_move rfl) rfl rfl rfl ?_
    refine WL.q (oq_nilCheck rfl) rfl rfl rfl ?_
    refine WL.q (oq_fieldAddr fld79_0 rfl) rfl rfl rfl ?_
    refine WL.q (oq_move rfl) rfl rfl rfl ?_
    refine WL.f1 ?_
    refine WL.f1 ?_
    refine WL.callW2 (B0.writeString _ b e p1 v1 A1 (gap l) hp1 hl hb1 s (by have := gap_len l; omega)) call70 rfl rfl rfl fun v2_4 Hs2_4 hR2_4 => ?_
    obtain ⟨x2_4, A2_4, _, rfl, hb2_4⟩ := hR2_4
    refine WL.to2 ?_
    refine WL.nil ?_
    refine WE.endW2 (.inr rfl) (res0 Try.results61) ?_
    -- end 0
    exact ⟨_, _, rfl, rfl, hb2_4⟩

/-- (*given.example/pub-tinwright/pub/smithy/transport/http.UserAgentBuilder).AddKeyValue -/
theorem addKeyValue (base b : Nat) (e : TypeId) (p v : Value) (A : Hp) (l : List UInt8) (hp : Own b p) (hl : liesAt Try.prog Try.prog.depth e (2 / Try.prog.cellsOf e) 0 77 1 = true) (hb : BufS base 5 v A l) (s t : List UInt8) (hlen : l.length + s.length + t.length < 1000000000) : FnW Try.prog 49 [Pt b 0, S s, S t] base [[(b, .cells #[p, v] e (0, 0))], A] (fun r Hs => ∃ v1 A1, r = .tuple #[] ∧ Hs = [[(b, .cells #[Pt b 0, v1] e (0, 0))], A1] ∧ BufS base 5 v1 A1 (gap l ++ (s ++ [47] ++ t))) := by
  refine FnW.enter (n := 12) Try.func49 rfl rfl fun w0 R0 hbase => ?_
  subst hbase
  show WC _ _ _ _ _ _ _ ([[(b, .cells #[p, v] e (0, 0))], A, R0])
  refine WC.sub (fr' := [(0, _), (1, _), (2, _)]) ?_ ⟨rfl, rfl, rfl, trivial⟩
  refine WC.region ?_
  refine WL.q (oq_move rfl) rfl rfl rfl ?_
  refine WL.q (oq_move rfl) rfl rfl rfl ?_
  refine WL.q (oq_concat rfl rfl (by (first | omega | (simp only [List.length_cons, List.length_nil, List.length_append, List.length_drop, List.length_take]; omega)))) rfl rfl rfl ?_
  refine WL.q (oq_move rfl) rfl rfl rfl ?_
  refine WL.q (oq_concat rfl rfl (by (first | omega | (simp only [List.length_cons, List.length_nil, List.length_append, List.length_drop, List.length_take]; omega)))) rfl rfl rfl ?_
  refine WL.f1 ?_
  refine WL.f1 ?_
  refine WL.callW2 (appendTo _ b e p v A l hp hl hb (s ++ [47] ++ t) (by simp only [List.length_append, List.length_cons, List.length_nil]; omega)) call61 rfl rfl rfl fun v0_5 Hs0_5 hR0_5 => ?_
  obtain ⟨x0_5, A0_5, _, rfl, hb0_5⟩ := hR0_5
  refine WL.to2 ?_
  refine WL.nil ?_
  refine WE.endW2 (.inr rfl) (res0 Try.results49) ?_
  -- end 0
  exact ⟨_, _, rfl, rfl, hb0_5⟩

/-- (*given.example/pub-tinwright/pub/smithy/transport/http.UserAgentBuilder).AddKey -/
theorem addKey (base b : Nat) (e : TypeId) (p v : Value) (A : Hp) (l : List UInt8) (hp : Own b p) (hl : liesAt Try.prog Try.prog.depth e (2 / Try.prog.cellsOf e) 0 77 1 = true) (hb : BufS base 5 v A l) (s : List UInt8) (hlen : l.length + s.length < 1000000000) : FnW Try.prog 50 [Pt b 0, S s] base [[(b, .cells #[p, v] e (0, 0))], A] (fun r Hs => ∃ v1 A1, r = .tuple #[] ∧ Hs = [[(b, .cells #[Pt b 0, v1] e (0, 0))], A1] ∧ BufS base 5 v1 A1 (gap l ++ s)) := by
  refine FnW.enter (n := 7) Try.func50 rfl rfl fun w0 R0 hbase => ?_
  subst hbase
  show WC _ _ _ _ _ _ _ ([[(b, .cells #[p, v] e (0, 0))], A, R0])
  refine WC.sub (fr' := [(0, _), (1, _)]) ?_ ⟨rfl, rfl, trivial⟩
  refine WC.region ?_
  refine WL.q (oq_move rfl) rfl rfl rfl ?_
  refine WL.q (oq_move rfl) rfl rfl rfl ?_
  refine WL.f1 ?_
  refine WL.f1 ?_
  refine WL.callW2 (appendTo _ b e p v A l hp hl hb s (by omega)) call61 rfl rfl rfl fun v0_2 Hs0_2 hR0_2 => ?_
  obtain ⟨x0_2, A0_2, _, rfl, hb0_2⟩ := hR0_2
  refine WL.to2 ?_
  refine WL.nil ?_
  refine WE.endW2 (.inr rfl) (res0 Try.results50) ?_
  -- end 0
  exact ⟨_, _, rfl, rfl, hb0_2⟩

/-- (*given.example/pub-tinwright/pub/smithy/transport/http.UserAgentBuilder).Build -/
theorem build (base b : Nat) (e : TypeId) (p v : Value) (A : Hp) (l : List UInt8) (hp : Own b p) (hl : liesAt Try.prog Try.prog.depth e (2 / Try.prog.cellsOf e) 0 77 1 = true) (hb : BufS base 5 v A l) (hlen : l.length < 1000000000) : FnW Try.prog 51 [Pt b 0] base [[(b, .cells #[p, v] e (0, 0))], A] (fun r Hs => r = S l ∧ Hs = [[(b, .cells #[p, v] e (0, 0))]]) := by
  refine FnW.enter (n := 7) Try.func51 rfl rfl fun w0 R0 hbase => ?_
  subst hbase
  show WC _ _ _ _ _ _ _ ([[(b, .cells #[p, v] e (0, 0))], A, R0])
  refine WC.sub (fr' := [(0, _)]) ?_ ⟨rfl, trivial⟩
  refine WC.seq ?_
  refine WC.region ?_
  refine WL.q (oq_assign rfl) rfl rfl rfl ?_
  refine WL.nil ?_
  refine WE.then_normal ?_
  refine WC.sub (fr' := [(0, _)]) ?_ ⟨rfl, trivial⟩
  refine WC.seq ?_
  refine WC.region ?_
  refine WL.q (oq_move rfl) rfl rfl rfl ?_
  refine WL.q (oq_nilCheck rfl) rfl rfl rfl ?_
  refine WL.q (oq_fieldAddr fld79_0 rfl) rfl rfl rfl ?_
  refine WL.f1 ?_
  refine WL.f1 ?_
  refine WL.callW2 (B0.bstring _ b e p v A l hp hl hb (by omega)) call62 rfl rfl rfl fun v1_3 Hs1_3 hR1_3 => ?_
  obtain ⟨rfl, rfl⟩ := hR1_3
  refine WL.to1 ?_
  refine WL.q (oq_assign rfl) rfl rfl rfl ?_
  refine WL.nil ?_
  refine WE.then_normal ?_
  refine WC.sub (fr' := [(2, _)]) ?_ ⟨rfl, trivial⟩
  refine WC.ret ?_
  refine WE.endW1 (.inl rfl) (res1 Try.results51 rfl) ?_
  -- end 0
  exact ⟨rfl, rfl⟩

/-- given.example/pub-tinwright/pub/smithy/transport/http.NewUserAgentBuilder -/
theorem newUA  : FnA Try.prog 48 [] [] (fun v N => ∃ b, v = Pt b 0 ∧ N = [(b, .cells #[.pointer none, .slice none 0 0] 79 (0, 0))]) := by
  refine FnA.enter0 (n := 4) Try.func48 rfl rfl fun w0 => ?_
  refine WC.sub (fr' := []) ?_ trivial
  refine WC.seq ?_
  refine WC.region ?_
  refine WL.q (oq_assign rfl) rfl rfl rfl ?_
  refine WL.nil ?_
  refine WE.then_normal ?_
  refine WC.sub (fr' := []) ?_ trivial
  refine WC.seq ?_
  refine WC.region ?_
  refine WL.q (oq_build #[_, _] str77 ty77 rfl rfl) rfl rfl rfl ?_
  refine WL.q (oq_build #[_, _] str79 ty79 rfl rfl) rfl rfl rfl ?_
  refine WL.box rfl rfl rfl fun bx hbx => ?_
  refine WL.q (oq_assign rfl) rfl rfl rfl ?_
  refine WL.nil ?_
  refine WE.then_normal ?_
  refine WC.sub (fr' := [(0, _)]) ?_ ⟨rfl, trivial⟩
  refine WC.ret ?_
  refine WE.endA0 (.inl rfl) (res1 Try.results48 rfl) ?_ (fresh1 hbx)
  -- end 0
  exact ⟨_, rfl, rfl⟩

/-- given.example/pub-tinwright/impl.HAgent -/
theorem hAgent (v : Value) (A : Hp) (l : List HP) (hr : RdS 3 v A l.length (recsV hpf l)) (hn : l.length ≤ 50) (hb : ∀ i, i < l.length → (l.getD i HP0).k.length + (l.getD i HP0).v.length ≤ 100) : FnR Try.prog 33 [v] A (S (agent l)) := by
  refine FnR.enter (n := 28) Try.func33 rfl rfl fun w0 => ?_
  refine WC.sub (fr' := [(0, _)]) ?_ ⟨rfl, trivial⟩
  refine WC.seq ?_
  refine WC.region ?_
  refine WL.q (oq_assign rfl) rfl rfl rfl ?_
  refine WL.nil ?_
  refine WE.then_normal ?_
  refine WC.sub (fr' := [(0, _)]) ?_ ⟨rfl, trivial⟩
  refine WC.seq ?_
  refine WC.region ?_
  refine WL.callA0 (newUA) call48 rfl rfl rfl fun v1_0 N1_0 hR1_0 hN1_0 => ?_
  obtain ⟨b, rfl, rfl⟩ := hR1_0
  have hb0 := hN1_0 b _ (List.mem_singleton.2 rfl)
  refine WL.q (oq_assign rfl) rfl rfl rfl ?_
  refine WL.nil ?_
  refine WE.then_normal ?_
  refine WC.sub (fr' := [(0, _), (3, _)]) ?_ ⟨rfl, rfl, trivial⟩
  refine WC.seq ?_
  refine WC.seq ?_
  refine WC.add0 ?_
  refine WC.region ?_
  refine WL.q (oq_move rfl) rfl rfl rfl ?_
  refine WL.q (oq_len_rd hr Try.underlying40 rfl) rfl rfl rfl ?_
  refine WL.q (oq_move rfl) rfl rfl rfl ?_
  refine WL.nil ?_
  refine WE.then_normal ?_
  refine WC.sub (fr' := [(3, _), (7, _), (8, _), (9, _)]) ?_ ⟨rfl, rfl, rfl, rfl, trivial⟩
  refine WC.block ?_
  refine WC.f2 ?_
  refine WC.f1 ?_
  refine WC.f2 ?_
  refine WC.loop (ι := Nat × Value × Value × Hp) (fun i_ => (fun (i : Nat) (p : Value) (w_ : Value) (Ab : Hp) => [(3, Pt b 0), (7, v), (8, I (l.length : Int)), (9, I (i : Int))]) i_.1 i_.2.1 i_.2.2.1 i_.2.2.2) (fun i_ => (fun (i : Nat) (p : Value) (w_ : Value) (Ab : Hp) => [[(b, .cells #[p, w_] 79 (0, 0))], Ab, A]) i_.1 i_.2.1 i_.2.2.1 i_.2.2.2) (fun i_ => (fun (i : Nat) (p : Value) (w_ : Value) (Ab : Hp) => i ≤ l.length ∧ Own b p ∧ BufS w0.heap.size 5 w_ Ab (agent (l.take i))) i_.1 i_.2.1 i_.2.2.1 i_.2.2.2) (fun i_ => (fun (i : Nat) (p : Value) (w_ : Value) (Ab : Hp) => l.length - i) i_.1 i_.2.1 i_.2.2.1 i_.2.2.2) ((0, _, _, _)) ?_ ⟨rfl, rfl, rfl, rfl, trivial⟩ (List.Perm.refl _) ?_
  · try dsimp only
    exact ⟨by omega, .inl rfl, BufS.nil _ _⟩
  · rintro ⟨i, p, w_, Ab⟩ hp
    try dsimp only at hp
    obtain ⟨hi, hp, hbf⟩ := hp
    show WC _ _ _ _ _ _ ([(3, Pt b 0), (7, v), (8, I (l.length : Int)), (9, I (i : Int))]) ([[(b, .cells #[p, w_] 79 (0, 0))], Ab, A])
    refine WC.seq ?_
    refine WC.region ?_
    refine WL.q (oq_lss rfl rfl) rfl rfl rfl ?_
    refine WL.nil ?_
    refine WE.then_normal ?_
    refine WC.sub (fr' := [(3, _), (7, _), (8, _), (9, _), (10, _)]) ?_ ⟨rfl, rfl, rfl, rfl, rfl, trivial⟩
    refine WC.seq ?_
    refine WC.cond rfl (fun q3 => ?_) (fun q3 => ?_)
    ·
      try simp only [Bool.not_eq_eq_eq_not, Bool.not_true, Bool.not_false, decide_eq_true_eq, decide_eq_false_iff_not, Int.not_lt, Int.not_le, ne_eq, Decidable.not_not, ← List.length_eq_zero_iff] at q3
      refine WC.skip ?_
      refine WE.then_normal ?_
      refine WC.sub (fr' := [(3, _), (7, _), (8, _), (9, _)]) ?_ ⟨rfl, rfl, rfl, rfl, trivial⟩
      refine WC.seq ?_
      refine WC.block ?_
      refine WC.seq ?_
      refine WC.region ?_
      refine WL.q (oq_ixaddr hr Try.underlying40 ty43 rfl rfl (by (first | omega | (simp only [List.length_cons, List.length_nil, List.length_append, List.length_drop, List.length_take]; omega)))) rfl rfl rfl ?_
      refine WL.q (oq_loadEl (f := hpf) HP0 [_, _, _] (fun _ => rfl) agg43 ty43 hr (.tail _ (.tail _ (.head _))) rfl (by (first | omega | (simp only [List.length_cons, List.length_nil, List.length_append, List.length_drop, List.length_take]; omega))) (by first | exact Int.toNat_natCast _ | exact rfl) rfl) rfl rfl rfl ?_
      refine WL.alloc ty43 rfl rfl fun b4_2 hb4_2 => ?_
      refine WL.storeS #[_, _, _] ty43 rfl rfl rfl rfl (Nat.le_of_ble_eq_true rfl) rfl rfl ?_
      refine WL.nil ?_
      refine WE.then_normal ?_
      refine WC.sub (fr' := [(3, _), (5, _), (7, _), (8, _), (9, _)]) ?_ ⟨rfl, rfl, rfl, rfl, rfl, trivial⟩
      refine WC.seq ?_
      refine WC.region ?_
      refine WL.q (oq_fieldAddr fld43_2 rfl) rfl rfl rfl ?_
      refine WL.q (oq_load flat4 rfl (.head _) (List.mem_singleton.2 rfl) rfl) rfl rfl rfl ?_
      refine WL.nil ?_
      refine WE.then_normal ?_
      refine WC.sub (fr' := [(3, _), (5, _), (7, _), (8, _), (9, _), (14, _)]) ?_ ⟨rfl, rfl, rfl, rfl, rfl, rfl, trivial⟩
      refine WC.cond rfl (fun q5 => ?_) (fun q5 => ?_)
      ·
        try simp only [Bool.not_eq_eq_eq_not, Bool.not_true, Bool.not_false, decide_eq_true_eq, decide_eq_false_iff_not, Int.not_lt, Int.not_le, ne_eq, Decidable.not_not, ← List.length_eq_zero_iff] at q5
        refine WC.region ?_
        refine WL.q (oq_move rfl) rfl rfl rfl ?_
        refine WL.q (oq_fieldAddr fld43_0 rfl) rfl rfl rfl ?_
        refine WL.q (oq_load flat9 rfl (.head _) (List.mem_singleton.2 rfl) rfl) rfl rfl rfl ?_
        refine WL.q (oq_fieldAddr fld43_1 rfl) rfl rfl rfl ?_
        refine WL.q (oq_load flat9 rfl (.head _) (List.mem_singleton.2 rfl) rfl) rfl rfl rfl ?_
        refine WL.f2 ?_
        refine WL.f2 ?_
        refine WL.callW2 (addKeyValue _ b 79 p w_ Ab (agent (l.take i)) hp lies79 hbf (l.getD i HP0).k (l.getD i HP0).v (by have hal := agent_len l hb i (by omega); have hgl := gap_len (agent (l.take i)); have hbi := hb i (by omega); omega)) call49 rfl rfl rfl fun v6_5 Hs6_5 hR6_5 => ?_
        obtain ⟨x6_5, A6_5, _, rfl, hb6_5⟩ := hR6_5
        refine WL.to2 ?_
        refine WL.nil ?_
        refine WE.block_normal ?_
        refine WE.then_normal ?_
        refine WC.sub (fr' := [(3, _), (7, _), (8, _), (9, _)]) ?_ ⟨rfl, rfl, rfl, rfl, trivial⟩
        refine WC.region ?_
        refine WL.q (oq_add rfl rfl (by rw [i64_lo, i64_hi]; (first | omega | (simp only [List.length_cons, List.length_nil, List.length_append, List.length_drop, List.length_take]; omega)))) rfl rfl rfl ?_
        refine WL.q (oq_move rfl) rfl rfl rfl ?_
        refine WL.nil ?_
        refine WE.f2 ?_
        refine WE.lose hb4_2 ?_
        refine WE.again (i + 1, _, _, _) ?_ ?_ ⟨rfl, rfl, rfl, rfl, trivial⟩ (List.Perm.refl _)
        · try dsimp only   -- again 0
          exact ⟨by omega, .inr rfl, by rw [agent_step l i (by omega), agf, partOf, if_pos q5]; exact hb6_5⟩
        · (try dsimp only); omega
      ·
        try simp only [Bool.not_eq_eq_eq_not, Bool.not_true, Bool.not_false, decide_eq_true_eq, decide_eq_false_iff_not, Int.not_lt, Int.not_le, ne_eq, Decidable.not_not, ← List.length_eq_zero_iff] at q5
        refine WC.region ?_
        refine WL.q (oq_move rfl) rfl rfl rfl ?_
        refine WL.q (oq_fieldAddr fld43_0 rfl) rfl rfl rfl ?_
        refine WL.q (oq_load flat9 rfl (.head _) (List.mem_singleton.2 rfl) rfl) rfl rfl rfl ?_
        refine WL.f2 ?_
        refine WL.f2 ?_
        refine WL.callW2 (addKey _ b 79 p w_ Ab (agent (l.take i)) hp lies79 hbf (l.getD i HP0).k (by have hal := agent_len l hb i (by omega); have hgl := gap_len (agent (l.take i)); have hbi := hb i (by omega); omega)) call50 rfl rfl rfl fun v7_3 Hs7_3 hR7_3 => ?_
        obtain ⟨x7_3, A7_3, _, rfl, hb7_3⟩ := hR7_3
        refine WL.to2 ?_
        refine WL.nil ?_
        refine WE.block_normal ?_
        refine WE.then_normal ?_
        refine WC.sub (fr' := [(3, _), (7, _), (8, _), (9, _)]) ?_ ⟨rfl, rfl, rfl, rfl, trivial⟩
        refine WC.region ?_
        refine WL.q (oq_add rfl rfl (by rw [i64_lo, i64_hi]; (first | omega | (simp only [List.length_cons, List.length_nil, List.length_append, List.length_drop, List.length_take]; omega)))) rfl rfl rfl ?_
        refine WL.q (oq_move rfl) rfl rfl rfl ?_
        refine WL.nil ?_
        refine WE.f2 ?_
        refine WE.lose hb4_2 ?_
        refine WE.again (i + 1, _, _, _) ?_ ?_ ⟨rfl, rfl, rfl, rfl, trivial⟩ (List.Perm.refl _)
        · try dsimp only   -- again 1
          exact ⟨by omega, .inr rfl, by rw [agent_step l i (by omega), agf, partOf, if_neg (by simpa using q5)]; exact hb7_3⟩
        · (try dsimp only); omega
    ·
      try simp only [Bool.not_eq_eq_eq_not, Bool.not_true, Bool.not_false, decide_eq_true_eq, decide_eq_false_iff_not, Int.not_lt, Int.not_le, ne_eq, Decidable.not_not, ← List.length_eq_zero_iff] at q3
      refine WC.exit ?_
      refine WE.then_exit ?_
      refine WE.then_exit ?_
      refine WE.block_same ?_
      refine WE.then_normal ?_
      refine WC.sub (fr' := [(3, _)]) ?_ ⟨rfl, trivial⟩
      refine WC.seq ?_
      refine WC.region ?_
      refine WL.q (oq_move rfl) rfl rfl rfl ?_
      refine WL.f1 ?_
      refine WL.f1 ?_
      refine WL.callW2 (build _ b 79 p w_ Ab (agent (l.take i)) hp lies79 hbf (by have hal := agent_len l hb i (by omega); omega)) call51 rfl rfl rfl fun v9_1 Hs9_1 hR9_1 => ?_
      obtain ⟨rfl, rfl⟩ := hR9_1
      refine WL.to1 ?_
      refine WL.q (oq_assign rfl) rfl rfl rfl ?_
      refine WL.nil ?_
      refine WE.then_normal ?_
      refine WC.sub (fr' := [(2, _)]) ?_ ⟨rfl, trivial⟩
      refine WC.ret ?_
      refine WE.lose hb0 ?_
      refine WE.endR (.inl rfl) (res1 Try.results33 rfl) ?_
      -- end 0
      rw [List.take_of_length_le (by omega)]

/-- given.example/pub-tinwright/spec.HAgentOf -/
theorem hAgentOf (v : Value) (A : Hp) (l : List HP) (hr : RdS 3 v A l.length (recsV hpf l)) (hn : l.length ≤ 50) (hb : ∀ i, i < l.length → (l.getD i HP0).k.length + (l.getD i HP0).v.length ≤ 100) : FnR Try.prog 34 [v] A (S (agent l)) := by
  refine FnR.enter (n := 36) Try.func34 rfl rfl fun w0 => ?_
  refine WC.sub (fr' := [(0, _)]) ?_ ⟨rfl, trivial⟩
  refine WC.seq ?_
  refine WC.region ?_
  refine WL.q (oq_assign rfl) rfl rfl rfl ?_
  refine WL.nil ?_
  refine WE.then_normal ?_
  refine WC.sub (fr' := [(0, _)]) ?_ ⟨rfl, trivial⟩
  refine WC.seq ?_
  refine WC.region ?_
  refine WL.q (oq_assign rfl) rfl rfl rfl ?_
  refine WL.nil ?_
  refine WE.then_normal ?_
  refine WC.sub (fr' := [(0, _), (3, _)]) ?_ ⟨rfl, rfl, trivial⟩
  refine WC.seq ?_
  refine WC.seq ?_
  refine WC.region ?_
  refine WL.q (oq_assign rfl) rfl rfl rfl ?_
  refine WL.nil ?_
  refine WE.then_normal ?_
  refine WC.sub (fr' := [(0, _), (3, _), (4, _)]) ?_ ⟨rfl, rfl, rfl, trivial⟩
  refine WC.block ?_
  refine WC.loop (ι := Nat) (fun (i : Nat) => [(0, v), (3, S (agent (l.take i))), (4, I (i : Int))]) (fun (i : Nat) => [A]) (fun (i : Nat) => i ≤ l.length) (fun (i : Nat) => l.length - i) (0) ?_ ⟨rfl, rfl, rfl, trivial⟩ (List.Perm.refl _) ?_
  · try dsimp only
    show 0 ≤ l.length; omega
  · rintro i hp
    try dsimp only at hp
    show WC _ _ _ _ _ _ ([(0, v), (3, S (agent (l.take i))), (4, I (i : Int))]) ([A])
    refine WC.seq ?_
    refine WC.seq ?_
    refine WC.region ?_
    refine WL.q (oq_move rfl) rfl rfl rfl ?_
    refine WL.q (oq_move rfl) rfl rfl rfl ?_
    refine WL.q (oq_len_rd hr Try.underlying40 rfl) rfl rfl rfl ?_
    refine WL.q (oq_lss rfl rfl) rfl rfl rfl ?_
    refine WL.nil ?_
    refine WE.then_normal ?_
    refine WC.sub (fr' := [(0, _), (3, _), (4, _), (8, _)]) ?_ ⟨rfl, rfl, rfl, rfl, trivial⟩
    refine WC.cond rfl (fun q3 => ?_) (fun q3 => ?_)
    ·
      try simp only [Bool.not_eq_eq_eq_not, Bool.not_true, Bool.not_false, decide_eq_true_eq, decide_eq_false_iff_not, Int.not_lt, Int.not_le, ne_eq, Decidable.not_not, ← List.length_eq_zero_iff] at q3
      refine WC.skip ?_
      refine WE.then_normal ?_
      refine WC.sub (fr' := [(0, _), (3, _), (4, _)]) ?_ ⟨rfl, rfl, rfl, trivial⟩
      refine WC.seq ?_
      refine WC.block ?_
      refine WC.cut (ι := (List UInt8)) (fun (o1 : List UInt8) => [(0, v), (3, S o1), (4, I (i : Int))]) (fun (o1 : List UInt8) => [A]) (fun (o1 : List UInt8) => gap (agent (l.take i)) = o1 ∧ i < l.length) ?_ ?_
      ·
        refine WC.seq ?_
        have hal := agent_len l hb i (by omega)
        have hbi := hb i (by omega)
        refine WC.region ?_
        refine WL.q (oq_move rfl) rfl rfl rfl ?_
        refine WL.q (oq_sneq rfl rfl) rfl rfl rfl ?_
        refine WL.nil ?_
        refine WE.then_normal ?_
        refine WC.sub (fr' := [(0, _), (3, _), (4, _), (12, _)]) ?_ ⟨rfl, rfl, rfl, rfl, trivial⟩
        refine WC.cond rfl (fun q5 => ?_) (fun q5 => ?_)
        ·
          try simp only [Bool.not_eq_eq_eq_not, Bool.not_true, Bool.not_false, decide_eq_true_eq, decide_eq_false_iff_not, Int.not_lt, Int.not_le, ne_eq, Decidable.not_not, ← List.length_eq_zero_iff] at q5
          refine WC.region ?_
          refine WL.q (oq_move rfl) rfl rfl rfl ?_
          refine WL.q (oq_concat rfl rfl (by ((try simp only [List.length_append, List.length_cons, List.length_nil]); omega))) rfl rfl rfl ?_
          refine WL.q (oq_assign rfl) rfl rfl rfl ?_
          refine WL.nil ?_
          refine WE.meet _ ?_ ⟨rfl, rfl, rfl, trivial⟩ (List.Perm.refl _)
          try dsimp only
          exact ⟨by unfold gap; first | exact if_pos (by simp_all) | exact if_neg (by simp_all), by omega⟩   -- meet 0
        ·
          try simp only [Bool.not_eq_eq_eq_not, Bool.not_true, Bool.not_false, decide_eq_true_eq, decide_eq_false_iff_not, Int.not_lt, Int.not_le, ne_eq, Decidable.not_not, ← List.length_eq_zero_iff] at q5
          refine WC.skip ?_
          refine WE.meet _ ?_ ⟨rfl, rfl, rfl, trivial⟩ (List.Perm.refl _)
          try dsimp only
          exact ⟨by unfold gap; first | exact if_pos (by simp_all) | exact if_neg (by simp_all), by omega⟩   -- meet 1
      · rintro o1 hp
        try dsimp only at hp
        obtain ⟨ho1, hil⟩ := hp
        show WC _ _ _ _ _ _ ([(0, v), (3, S o1), (4, I (i : Int))]) ([A])
        refine WC.seq ?_
        have hal := agent_len l hb i (by omega)
        have hgl := gap_len (agent (l.take i))
        rw [ho1] at hgl
        have hbi := hb i (by omega)
        refine WC.region ?_
        refine WL.q (oq_move rfl) rfl rfl rfl ?_
        refine WL.q (oq_move rfl) rfl rfl rfl ?_
        refine WL.q (oq_move rfl) rfl rfl rfl ?_
        refine WL.q (oq_ixaddr hr Try.underlying40 ty43 rfl rfl (by (first | omega | (simp only [List.length_cons, List.length_nil, List.length_append, List.length_drop, List.length_take]; omega)))) rfl rfl rfl ?_
        refine WL.q (oq_fldEl fld43_0 hr rfl (by (first | omega | (simp only [List.length_cons, List.length_nil, List.length_append, List.length_drop, List.length_take]; omega)))) rfl rfl rfl ?_
        refine WL.q (oq_loadF (f := hpf) HP0 (fun _ => rfl) flat9 hr (.head _) rfl (by (first | omega | (simp only [List.length_cons, List.length_nil, List.length_append, List.length_drop, List.length_take]; omega))) (by first | exact Int.toNat_natCast _ | exact rfl) (by decide) rfl) rfl rfl rfl ?_
        refine WL.q (oq_concat rfl rfl (by ((try simp only [List.length_append, List.length_cons, List.length_nil]); omega))) rfl rfl rfl ?_
        refine WL.q (oq_assign rfl) rfl rfl rfl ?_
        refine WL.nil ?_
        refine WE.then_normal ?_
        refine WC.sub (fr' := [(0, _), (3, _), (4, _)]) ?_ ⟨rfl, rfl, rfl, trivial⟩
        refine WC.seq ?_
        refine WC.region ?_
        refine WL.q (oq_move rfl) rfl rfl rfl ?_
        refine WL.q (oq_move rfl) rfl rfl rfl ?_
        refine WL.q (oq_ixaddr hr Try.underlying40 ty43 rfl rfl (by (first | omega | (simp only [List.length_cons, List.length_nil, List.length_append, List.length_drop, List.length_take]; omega)))) rfl rfl rfl ?_
        refine WL.q (oq_fldEl fld43_2 hr rfl (by (first | omega | (simp only [List.length_cons, List.length_nil, List.length_append, List.length_drop, List.length_take]; omega)))) rfl rfl rfl ?_
        refine WL.q (oq_loadF (f := hpf) HP0 (fun _ => rfl) flat4 hr (.head _) rfl (by (first | omega | (simp only [List.length_cons, List.length_nil, List.length_append, List.length_drop, List.length_take]; omega))) (by first | exact Int.toNat_natCast _ | exact rfl) (by decide) rfl) rfl rfl rfl ?_
        refine WL.nil ?_
        refine WE.then_normal ?_
        refine WC.sub (fr' := [(0, _), (3, _), (4, _), (26, _)]) ?_ ⟨rfl, rfl, rfl, rfl, trivial⟩
        refine WC.cond rfl (fun q8 => ?_) (fun q8 => ?_)
        ·
          try simp only [Bool.not_eq_eq_eq_not, Bool.not_true, Bool.not_false, decide_eq_true_eq, decide_eq_false_iff_not, Int.not_lt, Int.not_le, ne_eq, Decidable.not_not, ← List.length_eq_zero_iff] at q8
          refine WC.region ?_
          refine WL.q (oq_move rfl) rfl rfl rfl ?_
          refine WL.q (oq_concat rfl rfl (by ((try simp only [List.length_append, List.length_cons, List.length_nil]); omega))) rfl rfl rfl ?_
          refine WL.q (oq_move rfl) rfl rfl rfl ?_
          refine WL.q (oq_move rfl) rfl rfl rfl ?_
          refine WL.q (oq_ixaddr hr Try.underlying40 ty43 rfl rfl (by (first | omega | (simp only [List.length_cons, List.length_nil, List.length_append, List.length_drop, List.length_take]; omega)))) rfl rfl rfl ?_
          refine WL.q (oq_fldEl fld43_1 hr rfl (by (first | omega | (simp only [List.length_cons, List.length_nil, List.length_append, List.length_drop, List.length_take]; omega)))) rfl rfl rfl ?_
          refine WL.q (oq_loadF (f := hpf) HP0 (fun _ => rfl) flat9 hr (.head _) rfl (by (first | omega | (simp only [List.length_cons, List.length_nil, List.length_append, List.length_drop, List.length_take]; omega))) (by first | exact Int.toNat_natCast _ | exact rfl) (by decide) rfl) rfl rfl rfl ?_
          refine WL.q (oq_concat rfl rfl (by ((try simp only [List.length_append, List.length_cons, List.length_nil]); omega))) rfl rfl rfl ?_
          refine WL.q (oq_assign rfl) rfl rfl rfl ?_
          refine WL.nil ?_
          refine WE.block_normal ?_
          refine WE.then_normal ?_
          refine WC.sub (fr' := [(0, _), (3, _), (4, _)]) ?_ ⟨rfl, rfl, rfl, trivial⟩
          refine WC.region ?_
          refine WL.q (oq_move rfl) rfl rfl rfl ?_
          refine WL.q (oq_add rfl rfl (by rw [i64_lo, i64_hi]; (first | omega | (simp only [List.length_cons, List.length_nil, List.length_append, List.length_drop, List.length_take]; omega)))) rfl rfl rfl ?_
          refine WL.q (oq_assign rfl) rfl rfl rfl ?_
          refine WL.nil ?_
          refine WE.again (i + 1) ?_ ?_ ⟨rfl, (gtv rfl (by first | ((try dsimp only); rw [agent_step l i (by omega), agf, partOf, if_pos q8, ho1]; simp; done) | ((try dsimp only); rw [agent_step l i (by omega), agf, partOf, if_neg (by simpa using q8), ho1]; done))), rfl, trivial⟩ (List.Perm.refl _)
          · try dsimp only   -- again 0
            show i + 1 ≤ l.length; omega
          · (try dsimp only); omega
        ·
          try simp only [Bool.not_eq_eq_eq_not, Bool.not_true, Bool.not_false, decide_eq_true_eq, decide_eq_false_iff_not, Int.not_lt, Int.not_le, ne_eq, Decidable.not_not, ← List.length_eq_zero_iff] at q8
          refine WC.skip ?_
          refine WE.block_normal ?_
          refine WE.then_normal ?_
          refine WC.sub (fr' := [(0, _), (3, _), (4, _)]) ?_ ⟨rfl, rfl, rfl, trivial⟩
          refine WC.region ?_
          refine WL.q (oq_move rfl) rfl rfl rfl ?_
          refine WL.q (oq_add rfl rfl (by rw [i64_lo, i64_hi]; (first | omega | (simp only [List.length_cons, List.length_nil, List.length_append, List.length_drop, List.length_take]; omega)))) rfl rfl rfl ?_
          refine WL.q (oq_assign rfl) rfl rfl rfl ?_
          refine WL.nil ?_
          refine WE.again (i + 1) ?_ ?_ ⟨rfl, (gtv rfl (by first | ((try dsimp only); rw [agent_step l i (by omega), agf, partOf, if_pos q8, ho1]; simp; done) | ((try dsimp only); rw [agent_step l i (by omega), agf, partOf, if_neg (by simpa using q8), ho1]; done))), rfl, trivial⟩ (List.Perm.refl _)
          · try dsimp only   -- again 1
            show i + 1 ≤ l.length; omega
          · (try dsimp only); omega
    ·
      try simp only [Bool.not_eq_eq_eq_not, Bool.not_true, Bool.not_false, decide_eq_true_eq, decide_eq_false_iff_not, Int.not_lt, Int.not_le, ne_eq, Decidable.not_not, ← List.length_eq_zero_iff] at q3
      refine WC.exit ?_
      refine WE.then_exit ?_
      refine WE.then_exit ?_
      refine WE.block_same ?_
      refine WE.then_normal ?_
      refine WC.sub (fr' := [(3, _)]) ?_ ⟨rfl, trivial⟩
      refine WC.seq ?_
      refine WC.region ?_
      refine WL.q (oq_move rfl) rfl rfl rfl ?_
      refine WL.q (oq_assign rfl) rfl rfl rfl ?_
      refine WL.nil ?_
      refine WE.then_normal ?_
      refine WC.sub (fr' := [(2, _)]) ?_ ⟨rfl, trivial⟩
      refine WC.ret ?_
      refine WE.endR (.inl rfl) (res1 Try.results34 rfl) ?_
      -- end 0
      rw [List.take_of_length_le (by omega)]

/-- given.example/pub-tinwright/laws.FnHAgents -/
theorem law (v : Value) (A : Hp) (l : List HP) (hr : RdS 3 v A l.length (recsV hpf l)) : FnR Try.prog 11 [v] A (.bool true) := by
  refine FnR.enter (n := 40) Try.func11 rfl rfl fun w0 => ?_
  refine WC.sub (fr' := [(0, _)]) ?_ ⟨rfl, trivial⟩
  refine WC.seq ?_
  refine WC.region ?_
  refine WL.q (oq_assign rfl) rfl rfl rfl ?_
  refine WL.nil ?_
  refine WE.then_normal ?_
  refine WC.sub (fr' := [(0, _)]) ?_ ⟨rfl, trivial⟩
  refine WC.seq ?_
  refine WC.seq ?_
  refine WC.region ?_
  refine WL.q (oq_move rfl) rfl rfl rfl ?_
  refine WL.qc (oq_callRm (fits9_ v A l hr) (.head _) call32 rfl) rfl rfl rfl ?_
  refine WL.q (oq_not rfl) rfl rfl rfl ?_
  refine WL.nil ?_
  refine WE.then_normal ?_
  refine WC.sub (fr' := [(0, _), (6, _)]) ?_ ⟨rfl, rfl, trivial⟩
  refine WC.cond rfl (fun q1 => ?_) (fun q1 => ?_)
  ·
    try simp only [Bool.not_eq_eq_eq_not, Bool.not_true, Bool.not_false, decide_eq_true_eq, decide_eq_false_iff_not, Int.not_lt, Int.not_le, ne_eq, Decidable.not_not, ← List.length_eq_zero_iff] at q1
    refine WC.seq ?_
    refine WC.region ?_
    refine WL.q (oq_assign rfl) rfl rfl rfl ?_
    refine WL.nil ?_
    refine WE.then_normal ?_
    refine WC.sub (fr' := [(2, _)]) ?_ ⟨rfl, trivial⟩
    refine WC.ret ?_
    refine WE.then_ret ?_
    refine WE.endR (.inl rfl) (res1 Try.results11 rfl) ?_
    -- end 0
    first | rfl | (exfalso; simp_all)
  ·
    try simp only [Bool.not_eq_eq_eq_not, Bool.not_true, Bool.not_false, decide_eq_true_eq, decide_eq_false_iff_not, Int.not_lt, Int.not_le, ne_eq, Decidable.not_not, ← List.length_eq_zero_iff] at q1
    refine WC.skip ?_
    refine WE.then_normal ?_
    refine WC.sub (fr' := [(0, _)]) ?_ ⟨rfl, trivial⟩
    refine WC.seq ?_
    refine WC.seq ?_
    refine WC.region ?_
    refine WL.q (oq_move rfl) rfl rfl rfl ?_
    refine WL.q (oq_len_rd hr Try.underlying40 rfl) rfl rfl rfl ?_
    refine WL.q (oq_gtr rfl rfl) rfl rfl rfl ?_
    refine WL.nil ?_
    refine WE.then_normal ?_
    refine WC.sub (fr' := [(0, _), (9, _)]) ?_ ⟨rfl, rfl, trivial⟩
    refine WC.cond rfl (fun q3 => ?_) (fun q3 => ?_)
    ·
      try simp only [Bool.not_eq_eq_eq_not, Bool.not_true, Bool.not_false, decide_eq_true_eq, decide_eq_false_iff_not, Int.not_lt, Int.not_le, ne_eq, Decidable.not_not, ← List.length_eq_zero_iff] at q3
      refine WC.seq ?_
      refine WC.region ?_
      refine WL.qc (oq_call (J0.hAwake) call15 rfl) rfl rfl rfl ?_
      refine WL.q (oq_assign rfl) rfl rfl rfl ?_
      refine WL.nil ?_
      refine WE.then_normal ?_
      refine WC.sub (fr' := [(2, _)]) ?_ ⟨rfl, trivial⟩
      refine WC.ret ?_
      refine WE.then_ret ?_
      refine WE.endR (.inl rfl) (res1 Try.results11 rfl) ?_
      -- end 1
      first | rfl | (exfalso; simp_all)
    ·
      try simp only [Bool.not_eq_eq_eq_not, Bool.not_true, Bool.not_false, decide_eq_true_eq, decide_eq_false_iff_not, Int.not_lt, Int.not_le, ne_eq, Decidable.not_not, ← List.length_eq_zero_iff] at q3
      refine WC.skip ?_
      refine WE.then_normal ?_
      refine WC.sub (fr' := [(0, _)]) ?_ ⟨rfl, trivial⟩
      refine WC.seq ?_
      refine WC.seq ?_
      refine WC.region ?_
      refine WL.q (oq_assign rfl) rfl rfl rfl ?_
      refine WL.nil ?_
      refine WE.then_normal ?_
      refine WC.sub (fr' := [(0, _), (3, _)]) ?_ ⟨rfl, rfl, trivial⟩
      refine WC.block ?_
      refine WC.loop (ι := Nat) (fun (i : Nat) => [(0, v), (3, I (i : Int))]) (fun (i : Nat) => [A]) (fun (i : Nat) => i ≤ l.length ∧ ∀ j, j < i → (l.getD j HP0).k.length + (l.getD j HP0).v.length ≤ 100) (fun (i : Nat) => l.length - i) (0) ?_ ⟨rfl, rfl, trivial⟩ (List.Perm.refl _) ?_
      · try dsimp only
        exact ⟨by omega, fun j hj => by omega⟩
      · rintro i hp
        try dsimp only at hp
        obtain ⟨hi, hf⟩ := hp
        show WC _ _ _ _ _ _ ([(0, v), (3, I (i : Int))]) ([A])
        refine WC.seq ?_
        refine WC.seq ?_
        refine WC.region ?_
        refine WL.q (oq_move rfl) rfl rfl rfl ?_
        refine WL.q (oq_move rfl) rfl rfl rfl ?_
        refine WL.q (oq_len_rd hr Try.underlying40 rfl) rfl rfl rfl ?_
        refine WL.q (oq_lss rfl rfl) rfl rfl rfl ?_
        refine WL.nil ?_
        refine WE.then_normal ?_
        refine WC.sub (fr' := [(0, _), (3, _), (14, _)]) ?_ ⟨rfl, rfl, rfl, trivial⟩
        refine WC.cond rfl (fun q6 => ?_) (fun q6 => ?_)
        ·
          try simp only [Bool.not_eq_eq_eq_not, Bool.not_true, Bool.not_false, decide_eq_true_eq, decide_eq_false_iff_not, Int.not_lt, Int.not_le, ne_eq, Decidable.not_not, ← List.length_eq_zero_iff] at q6
          refine WC.skip ?_
          refine WE.then_normal ?_
          refine WC.sub (fr' := [(0, _), (3, _)]) ?_ ⟨rfl, rfl, trivial⟩
          refine WC.seq ?_
          refine WC.block ?_
          refine WC.seq ?_
          have hfe := fits9_el q1 i (by omega)
          refine WC.quiet (by kernel_rfl) (by kernel_rfl) ?_
          refine WQ.q (oq_move rfl) rfl rfl rfl ?_
          refine WQ.q (oq_move rfl) rfl rfl rfl ?_
          refine WQ.q (oq_ixaddr hr Try.underlying40 ty43 rfl rfl (by (first | omega | (simp only [List.length_cons, List.length_nil, List.length_append, List.length_drop, List.length_take]; omega)))) rfl rfl rfl ?_
          refine WQ.q (oq_fldEl fld43_0 hr rfl (by (first | omega | (simp only [List.length_cons, List.length_nil, List.length_append, List.length_drop, List.length_take]; omega)))) rfl rfl rfl ?_
          refine WQ.q (oq_loadF (f := hpf) HP0 (fun _ => rfl) flat9 hr (.head _) rfl (by (first | omega | (simp only [List.length_cons, List.length_nil, List.length_append, List.length_drop, List.length_take]; omega))) (by first | exact Int.toNat_natCast _ | exact rfl) (by decide) rfl) rfl rfl rfl ?_
          refine WQ.q (oq_len_s Try.underlying9 rfl) rfl rfl rfl ?_
          refine WQ.q (oq_move rfl) rfl rfl rfl ?_
          refine WQ.q (oq_move rfl) rfl rfl rfl ?_
          refine WQ.q (oq_ixaddr hr Try.underlying40 ty43 rfl rfl (by (first | omega | (simp only [List.length_cons, List.length_nil, List.length_append, List.length_drop, List.length_take]; omega)))) rfl rfl rfl ?_
          refine WQ.q (oq_fldEl fld43_1 hr rfl (by (first | omega | (simp only [List.length_cons, List.length_nil, List.length_append, List.length_drop, List.length_take]; omega)))) rfl rfl rfl ?_
          refine WQ.q (oq_loadF (f := hpf) HP0 (fun _ => rfl) flat9 hr (.head _) rfl (by (first | omega | (simp only [List.length_cons, List.length_nil, List.length_append, List.length_drop, List.length_take]; omega))) (by first | exact Int.toNat_natCast _ | exact rfl) (by decide) rfl) rfl rfl rfl ?_
          refine WQ.q (oq_len_s Try.underlying9 rfl) rfl rfl rfl ?_
          refine WQ.q (oq_add rfl rfl (by rw [i64_lo, i64_hi]; (first | omega | (simp only [List.length_cons, List.length_nil, List.length_append, List.length_drop, List.length_take]; omega)))) rfl rfl rfl ?_
          refine WQ.q (oq_gtr rfl rfl) rfl rfl rfl ?_
          refine WQ.nil ?_
          refine WE.then_normal ?_
          refine WC.sub (fr' := [(0, _), (3, _), (30, _)]) ?_ ⟨rfl, rfl, rfl, trivial⟩
          refine WC.cond rfl (fun q8 => ?_) (fun q8 => ?_)
          ·
            try simp only [Bool.not_eq_eq_eq_not, Bool.not_true, Bool.not_false, decide_eq_true_eq, decide_eq_false_iff_not, Int.not_lt, Int.not_le, ne_eq, Decidable.not_not, ← List.length_eq_zero_iff] at q8
            refine WC.seq ?_
            refine WC.region ?_
            refine WL.qc (oq_call (J0.hAwake) call15 rfl) rfl rfl rfl ?_
            refine WL.q (oq_assign rfl) rfl rfl rfl ?_
            refine WL.nil ?_
            refine WE.then_normal ?_
            refine WC.sub (fr' := [(2, _)]) ?_ ⟨rfl, trivial⟩
            refine WC.ret ?_
            refine WE.block_ret ?_
            refine WE.then_ret ?_
            refine WE.then_ret ?_
            refine WE.block_ret ?_
            refine WE.then_ret ?_
            refine WE.endR (.inl rfl) (res1 Try.results11 rfl) ?_
            -- end 2
            first | rfl | (exfalso; simp_all)
          ·
            try simp only [Bool.not_eq_eq_eq_not, Bool.not_true, Bool.not_false, decide_eq_true_eq, decide_eq_false_iff_not, Int.not_lt, Int.not_le, ne_eq, Decidable.not_not, ← List.length_eq_zero_iff] at q8
            refine WC.skip ?_
            refine WE.block_normal ?_
            refine WE.then_normal ?_
            refine WC.sub (fr' := [(0, _), (3, _)]) ?_ ⟨rfl, rfl, trivial⟩
            refine WC.region ?_
            refine WL.q (oq_move rfl) rfl rfl rfl ?_
            refine WL.q (oq_add rfl rfl (by rw [i64_lo, i64_hi]; (first | omega | (simp only [List.length_cons, List.length_nil, List.length_append, List.length_drop, List.length_take]; omega)))) rfl rfl rfl ?_
            refine WL.q (oq_assign rfl) rfl rfl rfl ?_
            refine WL.nil ?_
            refine WE.again (i + 1) ?_ ?_ ⟨rfl, rfl, trivial⟩ (List.Perm.refl _)
            · try dsimp only   -- again 0
              refine ⟨by omega, fun j hj => ?_⟩
              rcases Nat.lt_or_ge j i with h | h
              · exact hf j h
              · rw [show j = i by omega]; omega
            · (try dsimp only); omega
        ·
          try simp only [Bool.not_eq_eq_eq_not, Bool.not_true, Bool.not_false, decide_eq_true_eq, decide_eq_false_iff_not, Int.not_lt, Int.not_le, ne_eq, Decidable.not_not, ← List.length_eq_zero_iff] at q6
          refine WC.exit ?_
          refine WE.then_exit ?_
          refine WE.then_exit ?_
          refine WE.block_same ?_
          refine WE.then_normal ?_
          refine WC.sub (fr' := [(0, _)]) ?_ ⟨rfl, trivial⟩
          refine WC.seq ?_
          refine WC.region ?_
          refine WL.q (oq_move rfl) rfl rfl rfl ?_
          refine WL.qc (oq_callRm (hAgent v A l hr (by omega) (fun j hj => hf j (by omega))) (.head _) call33 rfl) rfl rfl rfl ?_
          refine WL.q (oq_move rfl) rfl rfl rfl ?_
          refine WL.qc (oq_callRm (hAgentOf v A l hr (by omega) (fun j hj => hf j (by omega))) (.head _) call34 rfl) rfl rfl rfl ?_
          refine WL.q (oq_seql rfl rfl) rfl rfl rfl ?_
          refine WL.q (oq_move rfl) rfl rfl rfl ?_
          refine WL.split 37 rfl (fun s10_5 => ?_) (fun s10_5 => ?_)
          ·
            try simp only [Bool.not_eq_eq_eq_not, Bool.not_true, Bool.not_false, decide_eq_true_eq, decide_eq_false_iff_not, Int.not_lt, Int.not_le, ne_eq, Decidable.not_not, ← List.length_eq_zero_iff] at s10_5
            refine WL.qc (oq_call (J0.hAwake) call15 rfl) rfl rfl rfl ?_
            refine WL.q (oq_pick_t rfl rfl) rfl rfl rfl ?_
            refine WL.q (oq_assign rfl) rfl rfl rfl ?_
            refine WL.nil ?_
            refine WE.then_normal ?_
            refine WC.sub (fr' := [(2, _)]) ?_ ⟨rfl, trivial⟩
            refine WC.ret ?_
            refine WE.endR (.inl rfl) (res1 Try.results11 rfl) ?_
            -- end 3
            first | rfl | (exfalso; simp_all)
          ·
            try simp only [Bool.not_eq_eq_eq_not, Bool.not_true, Bool.not_false, decide_eq_true_eq, decide_eq_false_iff_not, Int.not_lt, Int.not_le, ne_eq, Decidable.not_not, ← List.length_eq_zero_iff] at s10_5
            refine WL.skip rfl rfl rfl ?_
            refine WL.q (oq_pick_f rfl rfl) rfl rfl rfl ?_
            refine WL.q (oq_assign rfl) rfl rfl rfl ?_
            refine WL.nil ?_
            refine WE.then_normal ?_
            refine WC.sub (fr' := [(2, _)]) ?_ ⟨rfl, trivial⟩
            refine WC.ret ?_
            refine WE.endR (.inl rfl) (res1 Try.results11 rfl) ?_
            -- end 4
            first | rfl | (exfalso; simp_all)

end B1
end Go.Proofs.Ythhankjineidiaa
