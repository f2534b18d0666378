/- What the guards of the law ask. -/
import Derived.Test.YtodlhaghdplclaaDoorEN
namespace Go.Proofs.YtodlhaghdplclaaDoor
open Go Go.RowKit V EA EB EC ED EE EF EG EH EI EJ EK EL EM EN
set_option linter.unusedSimpArgs false
set_option linter.unusedVariables false
set_option maxRecDepth 10000
namespace EO
theorem call12 : Callable Tryd.prog 12 := ⟨_, Tryd.func12, rfl, by kernel_rfl⟩
theorem call20 : Callable Tryd.prog 20 := ⟨_, Tryd.func20, rfl, by kernel_rfl⟩
theorem call31 : Callable Tryd.prog 31 := ⟨_, Tryd.func31, rfl, by kernel_rfl⟩
theorem flat9 : Flat Tryd.prog 9 := ⟨_, Tryd.underlying9, by simp⟩
theorem flat22 : Flat Tryd.prog 22 := ⟨_, Tryd.underlying22, by simp⟩
theorem flat23 : Flat Tryd.prog 23 := ⟨_, Tryd.underlying23, by simp⟩
theorem ty9 : Ty Tryd.prog 9 (S []) 1 16 := ty_of (by kernel_rfl)
theorem ty22 : Ty Tryd.prog 22 (.slice none 0 0) 1 24 := ty_of (by kernel_rfl)
theorem ty23 : Ty Tryd.prog 23 (.slice none 0 0) 1 24 := ty_of (by kernel_rfl)
theorem ty33 : Ty Tryd.prog 33 (.agg #[(.int .i64 0), (.int .i64 0), (.int .i64 0), (S [])]) 4 40 := ty_of (by kernel_rfl)
theorem ty35 : Ty Tryd.prog 35 (.agg #[(S []), (.int .i64 0), (.int .i64 0), (.int .i64 0), (S [])]) 5 56 := ty_of (by kernel_rfl)
theorem agg33 : Agg Tryd.prog 33 := agg_of Tryd.underlying33
theorem agg35 : Agg Tryd.prog 35 := agg_of Tryd.underlying35
theorem fld25_0 : Fld Tryd.prog 25 0 0 22 := fld_of Tryd.underlying25 rfl rfl rfl ty22 (by decide)
theorem fld25_1 : Fld Tryd.prog 25 1 1 23 := fld_of Tryd.underlying25 rfl rfl rfl ty23 (by decide)
theorem fld33_3 : Fld Tryd.prog 33 3 3 9 := fld_of Tryd.underlying33 rfl rfl rfl ty9 (by decide)
theorem fld35_0 : Fld Tryd.prog 35 0 0 9 := fld_of Tryd.underlying35 rfl rfl rfl ty9 (by decide)
theorem fld35_1 : Fld Tryd.prog 35 1 1 33 := fld_of Tryd.underlying35 rfl rfl rfl ty33 (by decide)

def fitH (h : HV) : Bool := decide (h.name.length ≤ 2147483647) && decide (h.text.length ≤ 2147483647)
def fitL (l : List HV) : Bool := decide (l.length ≤ 2147483647) && l.all fitH
def sumH (l : List HV) : Nat := (l.map fun h => h.name.length + h.text.length).sum
theorem sumH_snoc {l : List HV} {i : Nat} (hi : i < l.length) : sumH (l.take (i + 1)) = sumH (l.take i) + ((l.getD i HV0).name.length + (l.getD i HV0).text.length) := by
  rw [take_snoc hi]; simp [sumH]
theorem all_get {l : List HV} {f : HV → Bool} (h : l.all f = true) {i : Nat} (hi : i < l.length) : f (l.getD i HV0) = true := by
  rw [List.all_eq_true] at h
  refine h _ ?_
  rw [List.getD_eq_getElem?_getD, List.getElem?_eq_getElem hi]; exact List.getElem_mem hi
theorem all_not {l : List HV} {f : HV → Bool} {i : Nat} (hi : i < l.length) (h : f (l.getD i HV0) = false) : l.all f = false := by
  cases hb : l.all f with
  | false => rfl
  | true => rw [all_get hb hi] at h; cases h
theorem all_snoc {l : List HV} {f : HV → Bool} {i : Nat} (hi : i < l.length) (h : (l.take i).all f = true) (hb : f (l.getD i HV0) = true) : (l.take (i + 1)).all f = true := by
  rw [take_snoc hi, List.all_append, h, List.all_cons, hb]; rfl
theorem fitL_len {l : List HV} (h : fitL l = true) : l.length ≤ 2147483647 := by
  unfold fitL at h; rw [Bool.and_eq_true, decide_eq_true_eq] at h; exact h.1
theorem fitL_get {l : List HV} (h : fitL l = true) {i : Nat} (hi : i < l.length) : (l.getD i HV0).name.length ≤ 2147483647 ∧ (l.getD i HV0).text.length ≤ 2147483647 := by
  unfold fitL at h; rw [Bool.and_eq_true] at h
  have h2 := all_get h.2 hi
  unfold fitH at h2; rw [Bool.and_eq_true, decide_eq_true_eq, decide_eq_true_eq] at h2; exact h2
theorem sumH_le {l : List HV} (h : fitL l = true) : ∀ i, i ≤ l.length → sumH (l.take i) ≤ i * 4294967294
  | 0, _ => by simp [sumH]
  | i + 1, hi => by
    rw [sumH_snoc (by omega)]
    have h1 := sumH_le h i (by omega)
    have h2 := fitL_get h (show i < l.length by omega)
    omega
/-- given.example/pub-tinwright/laws.zzFits6 -/
theorem fits6 (h : HV) : Fn0 Tryd.prog 31 [.agg #[I h.kind, I h.width, I h.int, S h.text]] (.bool (decide (h.text.length ≤ 2147483647))) := by
  refine Fn0.enter (n := 7) Tryd.func31 rfl rfl fun w0 => ?_
  refine WC.sub (fr' := [(0, _)]) ?_ ⟨rfl, trivial⟩
  refine WC.seq (WC.region ?_)
  refine WL.box rfl rfl rfl fun b0_0 hb0_0 => ?_
  refine WL.q (oq_assign rfl) rfl rfl rfl ?_
  refine WL.nil (WE.then_normal (WC.sub (fr' := [(1, _)]) ?_ ⟨rfl, trivial⟩))
  refine WC.seq (WC.seq (WC.region ?_))
  refine WL.q (oq_fieldAddr fld33_3 rfl) rfl rfl rfl ?_
  refine WL.q (oq_load flat9 rfl (.head _) (List.mem_singleton.2 rfl) rfl) rfl rfl rfl ?_
  refine WL.q (oq_len_s Tryd.underlying9 rfl) rfl rfl rfl ?_
  refine WL.q (oq_gtr rfl rfl) rfl rfl rfl ?_
  refine WL.nil (WE.then_normal (WC.sub (fr' := [(6, _)]) ?_ ⟨rfl, trivial⟩))
  refine WC.cond rfl (fun q1 => ?_) (fun q1 => ?_)
  ·
    try simp only [Z1, Z2, Z3, Z4, Z5, Z6, Z7, Z8, Z9, Z0] at q1
    refine WC.seq (WC.region ?_)
    refine WL.q (oq_assign rfl) rfl rfl rfl ?_
    refine WL.nil (WE.then_normal (WC.sub (fr' := [(2, _)]) ?_ ⟨rfl, trivial⟩))
    refine WC.ret (WE.then_ret ?_)
    refine WE.lose hb0_0 ?_
    refine WE.end0 (.inl rfl) (res1 Tryd.results31 rfl) ?_
    -- end 0
    rw [decide_eq_false (by omega)]
  ·
    try simp only [Z1, Z2, Z3, Z4, Z5, Z6, Z7, Z8, Z9, Z0] at q1
    refine WC.skip (WE.then_normal (WC.sub (fr' := []) ?_ trivial))
    refine WC.seq (WC.region ?_)
    refine WL.q (oq_assign rfl) rfl rfl rfl ?_
    refine WL.nil (WE.then_normal (WC.sub (fr' := [(2, _)]) ?_ ⟨rfl, trivial⟩))
    refine WC.ret ?_
    refine WE.lose hb0_0 ?_
    refine WE.end0 (.inl rfl) (res1 Tryd.results31 rfl) ?_
    -- end 1
    rw [decide_eq_true (by omega)]

/-- given.example/pub-tinwright/laws.zzFits5 -/
theorem fits5 (h : HV) : Fn0 Tryd.prog 20 [.agg #[S h.name, I h.kind, I h.width, I h.int, S h.text]] (.bool (fitH h)) := by
  refine Fn0.enter (n := 11) Tryd.func20 rfl rfl fun w0 => ?_
  refine WC.sub (fr' := [(0, _)]) ?_ ⟨rfl, trivial⟩
  refine WC.seq (WC.region ?_)
  refine WL.box rfl rfl rfl fun b0_0 hb0_0 => ?_
  refine WL.q (oq_assign rfl) rfl rfl rfl ?_
  refine WL.nil (WE.then_normal (WC.sub (fr' := [(1, _)]) ?_ ⟨rfl, trivial⟩))
  refine WC.seq (WC.seq (WC.region ?_))
  refine WL.q (oq_fieldAddr fld35_0 rfl) rfl rfl rfl ?_
  refine WL.q (oq_load flat9 rfl (.head _) (List.mem_singleton.2 rfl) rfl) rfl rfl rfl ?_
  refine WL.q (oq_len_s Tryd.underlying9 rfl) rfl rfl rfl ?_
  refine WL.q (oq_gtr rfl rfl) rfl rfl rfl ?_
  refine WL.nil (WE.then_normal (WC.sub (fr' := [(1, _), (6, _)]) ?_ ⟨rfl, rfl, trivial⟩))
  refine WC.cond rfl (fun q1 => ?_) (fun q1 => ?_)
  ·
    try simp only [Z1, Z2, Z3, Z4, Z5, Z6, Z7, Z8, Z9, Z0] at q1
    refine WC.seq (WC.region ?_)
    refine WL.q (oq_assign rfl) rfl rfl rfl ?_
    refine WL.nil (WE.then_normal (WC.sub (fr' := [(2, _)]) ?_ ⟨rfl, trivial⟩))
    refine WC.ret (WE.then_ret ?_)
    refine WE.lose hb0_0 ?_
    refine WE.end0 (.inl rfl) (res1 Tryd.results20 rfl) ?_
    -- end 0
    unfold fitH; rw [decide_eq_false (by omega)]; rfl
  ·
    try simp only [Z1, Z2, Z3, Z4, Z5, Z6, Z7, Z8, Z9, Z0] at q1
    refine WC.skip (WE.then_normal (WC.sub (fr' := [(1, _)]) ?_ ⟨rfl, trivial⟩))
    refine WC.seq (WC.seq (WC.region ?_))
    refine WL.q (oq_fieldAddr fld35_1 rfl) rfl rfl rfl ?_
    refine WL.q (oq_loadS [_, _, _, _] agg33 ty33 rfl (.head _) (List.mem_singleton.2 rfl) rfl rfl) rfl rfl rfl ?_
    refine WL.qc (oq_call (fits6 h) call31 rfl) rfl rfl rfl ?_
    refine WL.q (oq_not rfl) rfl rfl rfl ?_
    refine WL.nil (WE.then_normal (WC.sub (fr' := [(10, _)]) ?_ ⟨rfl, trivial⟩))
    refine WC.cond rfl (fun q3 => ?_) (fun q3 => ?_)
    ·
      try simp only [Z1, Z2, Z3, Z4, Z5, Z6, Z7, Z8, Z9, Z0] at q3
      refine WC.seq (WC.region ?_)
      refine WL.q (oq_assign rfl) rfl rfl rfl ?_
      refine WL.nil (WE.then_normal (WC.sub (fr' := [(2, _)]) ?_ ⟨rfl, trivial⟩))
      refine WC.ret (WE.then_ret ?_)
      refine WE.lose hb0_0 ?_
      refine WE.end0 (.inl rfl) (res1 Tryd.results20 rfl) ?_
      -- end 1
      unfold fitH; rw [show decide (h.text.length ≤ 2147483647) = false by simpa using q3, Bool.and_false]
    ·
      try simp only [Z1, Z2, Z3, Z4, Z5, Z6, Z7, Z8, Z9, Z0] at q3
      refine WC.skip (WE.then_normal (WC.sub (fr' := []) ?_ trivial))
      refine WC.seq (WC.region ?_)
      refine WL.q (oq_assign rfl) rfl rfl rfl ?_
      refine WL.nil (WE.then_normal (WC.sub (fr' := [(2, _)]) ?_ ⟨rfl, trivial⟩))
      refine WC.ret ?_
      refine WE.lose hb0_0 ?_
      refine WE.end0 (.inl rfl) (res1 Tryd.results20 rfl) ?_
      -- end 2
      unfold fitH; rw [show decide (h.text.length ≤ 2147483647) = true by simpa using q3, decide_eq_true (by omega)]; rfl

/-- given.example/pub-tinwright/laws.zzFits4 -/
theorem fits4 (v : Value) (A : Hp) (l : List HV) (hr : RdS 5 v A l.length (recsV HV.row l)) : FnR Tryd.prog 12 [v] A (.bool (fitL l)) := by
  refine FnR.enter (n := 18) Tryd.func12 rfl rfl fun w0 => ?_
  refine WC.sub (fr' := [(0, _)]) ?_ ⟨rfl, trivial⟩
  refine WC.seq (WC.region ?_)
  refine WL.q (oq_assign rfl) rfl rfl rfl ?_
  refine WL.nil (WE.then_normal (WC.sub (fr' := [(0, _)]) ?_ ⟨rfl, trivial⟩))
  refine WC.seq (WC.seq (WC.region ?_))
  refine WL.q (oq_move rfl) rfl rfl rfl ?_
  refine WL.q (oq_len_rd hr Tryd.underlying22 rfl) rfl rfl rfl ?_
  refine WL.q (oq_gtr rfl rfl) rfl rfl rfl ?_
  refine WL.nil (WE.then_normal (WC.sub (fr' := [(0, _), (7, _)]) ?_ ⟨rfl, rfl, trivial⟩))
  refine WC.cond rfl (fun q1 => ?_) (fun q1 => ?_)
  ·
    try simp only [Z1, Z2, Z3, Z4, Z5, Z6, Z7, Z8, Z9, Z0] at q1
    refine WC.seq (WC.region ?_)
    refine WL.q (oq_assign rfl) rfl rfl rfl ?_
    refine WL.nil (WE.then_normal (WC.sub (fr' := [(2, _)]) ?_ ⟨rfl, trivial⟩))
    refine WC.ret (WE.then_ret ?_)
    refine WE.endR (.inl rfl) (res1 Tryd.results12 rfl) ?_
    -- end 0
    unfold fitL; rw [decide_eq_false (by omega)]; rfl
  ·
    try simp only [Z1, Z2, Z3, Z4, Z5, Z6, Z7, Z8, Z9, Z0] at q1
    refine WC.skip (WE.then_normal (WC.sub (fr' := [(0, _)]) ?_ ⟨rfl, trivial⟩))
    refine WC.seq (WC.seq (WC.region ?_))
    refine WL.q (oq_move rfl) rfl rfl rfl ?_
    refine WL.q (oq_len_rd hr Tryd.underlying22 rfl) rfl rfl rfl ?_
    refine WL.q (oq_move rfl) rfl rfl rfl ?_
    refine WL.nil (WE.then_normal (WC.sub (fr' := [(8, _), (9, _), (10, _)]) ?_ ⟨rfl, rfl, rfl, trivial⟩))
    refine WC.block ?_
    refine WC.loop (ι := Nat) (fun (i : Nat) => [(8, v), (9, I (l.length : Int)), (10, I (i : Int))]) (fun (i : Nat) => [A]) (fun (i : Nat) => i ≤ l.length ∧ (l.take i).all fitH = true) (fun (i : Nat) => l.length - i) (0) ?_ ⟨rfl, rfl, rfl, trivial⟩ (List.Perm.refl _) ?_
    · try dsimp only
      exact ⟨by omega, rfl⟩
    · rintro i hp
      try dsimp only at hp
      obtain ⟨hi, hall⟩ := hp
      show WC _ _ _ _ _ _ ([(8, v), (9, I (l.length : Int)), (10, I (i : Int))]) ([A])
      refine WC.seq (WC.region ?_)
      refine WL.q (oq_lss rfl rfl) rfl rfl rfl ?_
      refine WL.nil (WE.then_normal (WC.sub (fr' := [(8, _), (9, _), (10, _), (11, _)]) ?_ ⟨rfl, rfl, rfl, rfl, trivial⟩))
      refine WC.seq ?_
      refine WC.cond rfl (fun q4 => ?_) (fun q4 => ?_)
      ·
        try simp only [Z1, Z2, Z3, Z4, Z5, Z6, Z7, Z8, Z9, Z0] at q4
        refine WC.skip (WE.then_normal (WC.sub (fr' := [(8, _), (9, _), (10, _)]) ?_ ⟨rfl, rfl, rfl, trivial⟩))
        refine WC.seq (WC.block (WC.seq (WC.region ?_)))
        refine WL.q (oq_ixaddr hr Tryd.underlying22 ty35 rfl rfl (by (first | omega | (simp only [List.length_cons, List.length_nil, List.length_append, List.length_drop, List.length_take]; omega)))) rfl rfl rfl ?_
        refine WL.q (oq_loadEl (f := HV.row) HV0 [_, _, _, _, _] (fun _ => rfl) agg35 ty35 hr (.head _) rfl (by (first | omega | (simp only [List.length_cons, List.length_nil, List.length_append, List.length_drop, List.length_take]; omega))) (by first | exact Int.toNat_natCast _ | exact rfl) rfl) rfl rfl rfl ?_
        refine WL.alloc ty35 rfl rfl fun b5_2 hb5_2 => ?_
        refine WL.storeS #[_, _, _, _, _] ty35 rfl rfl rfl rfl (Nat.le_of_ble_eq_true rfl) rfl rfl ?_
        refine WL.nil (WE.then_normal (WC.sub (fr' := [(4, _), (8, _), (9, _), (10, _)]) ?_ ⟨rfl, rfl, rfl, rfl, trivial⟩))
        refine WC.seq (WC.region ?_)
        refine WL.q (oq_loadS [_, _, _, _, _] agg35 ty35 rfl (.head _) (List.mem_singleton.2 rfl) rfl rfl) rfl rfl rfl ?_
        refine WL.qc (oq_call (fits5 (l.getD i HV0)) call20 rfl) rfl rfl rfl ?_
        refine WL.q (oq_not rfl) rfl rfl rfl ?_
        refine WL.nil (WE.then_normal (WC.sub (fr' := [(8, _), (9, _), (10, _), (16, _)]) ?_ ⟨rfl, rfl, rfl, rfl, trivial⟩))
        refine WC.cond rfl (fun q6 => ?_) (fun q6 => ?_)
        ·
          try simp only [Z1, Z2, Z3, Z4, Z5, Z6, Z7, Z8, Z9, Z0] at q6
          refine WC.seq (WC.region ?_)
          refine WL.q (oq_assign rfl) rfl rfl rfl ?_
          refine WL.nil (WE.then_normal (WC.sub (fr' := [(2, _)]) ?_ ⟨rfl, trivial⟩))
          refine WC.ret (WE.block_ret (WE.then_ret (WE.then_ret (WE.block_ret (WE.then_ret ?_)))))
          refine WE.lose hb5_2 ?_
          refine WE.endR (.inl rfl) (res1 Tryd.results12 rfl) ?_
          -- end 1
          unfold fitL; rw [all_not (show i < l.length by omega) (by simpa using q6), Bool.and_false]
        ·
          try simp only [Z1, Z2, Z3, Z4, Z5, Z6, Z7, Z8, Z9, Z0] at q6
          refine WC.skip (WE.block_normal (WE.then_normal (WC.sub (fr' := [(8, _), (9, _), (10, _)]) ?_ ⟨rfl, rfl, rfl, trivial⟩)))
          refine WC.region ?_
          refine WL.q (oq_add rfl rfl (by rw [i64_lo, i64_hi]; (first | omega | (simp only [List.length_cons, List.length_nil, List.length_append, List.length_drop, List.length_take]; omega)))) rfl rfl rfl ?_
          refine WL.q (oq_move rfl) rfl rfl rfl ?_
          refine WL.nil ?_
          refine WE.lose hb5_2 ?_
          refine WE.again (i + 1) ?_ ?_ ⟨rfl, rfl, rfl, trivial⟩ (List.Perm.refl _)
          · try dsimp only   -- again 0
            exact ⟨by omega, all_snoc (by omega) hall (by simpa using q6)⟩
          · (try dsimp only); omega
      ·
        try simp only [Z1, Z2, Z3, Z4, Z5, Z6, Z7, Z8, Z9, Z0] at q4
        refine WC.exit (WE.then_exit (WE.then_exit (WE.block_same (WE.then_normal (WC.sub (fr' := []) ?_ trivial)))))
        refine WC.seq (WC.region ?_)
        refine WL.q (oq_assign rfl) rfl rfl rfl ?_
        refine WL.nil (WE.then_normal (WC.sub (fr' := [(2, _)]) ?_ ⟨rfl, trivial⟩))
        refine WC.ret ?_
        refine WE.endR (.inl rfl) (res1 Tryd.results12 rfl) ?_
        -- end 2
        obtain rfl : i = l.length := by omega
        rw [List.take_length] at hall
        unfold fitL; rw [hall, decide_eq_true (by omega)]; rfl

/-- given.example/pub-tinwright/laws.zzFits3 -/
theorem fits3 (vh : Value) (A : Hp) (l : List HV) (hr : RdS 5 vh A l.length (recsV HV.row l)) (pp : Option Addr) (pc n : Nat) : FnR Tryd.prog 4 [.agg #[vh, .slice pp n pc]] A (.bool (fitL l && decide (n ≤ 2147483647))) := by
  refine FnR.enter (n := 11) Tryd.func4 rfl rfl fun w0 => ?_
  refine WC.sub (fr' := [(0, _)]) ?_ ⟨rfl, trivial⟩
  refine WC.seq (WC.region ?_)
  refine WL.box rfl rfl rfl fun b0_0 hb0_0 => ?_
  refine WL.q (oq_assign rfl) rfl rfl rfl ?_
  refine WL.nil (WE.then_normal (WC.sub (fr' := [(1, _)]) ?_ ⟨rfl, trivial⟩))
  refine WC.seq (WC.seq (WC.region ?_))
  refine WL.q (oq_fieldAddr fld25_0 rfl) rfl rfl rfl ?_
  refine WL.q (oq_load flat22 rfl (.head _) (List.mem_singleton.2 rfl) rfl) rfl rfl rfl ?_
  refine WL.qc (oq_callRm (fits4 vh A l hr) (.tail _ (.head _)) call12 rfl) rfl rfl rfl ?_
  refine WL.q (oq_not rfl) rfl rfl rfl ?_
  refine WL.nil (WE.then_normal (WC.sub (fr' := [(1, _), (6, _)]) ?_ ⟨rfl, rfl, trivial⟩))
  refine WC.cond rfl (fun q1 => ?_) (fun q1 => ?_)
  ·
    try simp only [Z1, Z2, Z3, Z4, Z5, Z6, Z7, Z8, Z9, Z0] at q1
    refine WC.seq (WC.region ?_)
    refine WL.q (oq_assign rfl) rfl rfl rfl ?_
    refine WL.nil (WE.then_normal (WC.sub (fr' := [(2, _)]) ?_ ⟨rfl, trivial⟩))
    refine WC.ret (WE.then_ret ?_)
    refine WE.lose hb0_0 ?_
    refine WE.endR (.inl rfl) (res1 Tryd.results4 rfl) ?_
    -- end 0
    rw [show fitL l = false by simpa using q1]; rfl
  ·
    try simp only [Z1, Z2, Z3, Z4, Z5, Z6, Z7, Z8, Z9, Z0] at q1
    refine WC.skip (WE.then_normal (WC.sub (fr' := [(1, _)]) ?_ ⟨rfl, trivial⟩))
    refine WC.seq (WC.seq (WC.region ?_))
    refine WL.q (oq_fieldAddr fld25_1 rfl) rfl rfl rfl ?_
    refine WL.q (oq_load flat23 rfl (.head _) (List.mem_singleton.2 rfl) rfl) rfl rfl rfl ?_
    refine WL.q (oq_len_sl Tryd.underlying23 rfl) rfl rfl rfl ?_
    refine WL.q (oq_gtr rfl rfl) rfl rfl rfl ?_
    refine WL.nil (WE.then_normal (WC.sub (fr' := [(10, _)]) ?_ ⟨rfl, trivial⟩))
    refine WC.cond rfl (fun q3 => ?_) (fun q3 => ?_)
    ·
      try simp only [Z1, Z2, Z3, Z4, Z5, Z6, Z7, Z8, Z9, Z0] at q3
      refine WC.seq (WC.region ?_)
      refine WL.q (oq_assign rfl) rfl rfl rfl ?_
      refine WL.nil (WE.then_normal (WC.sub (fr' := [(2, _)]) ?_ ⟨rfl, trivial⟩))
      refine WC.ret (WE.then_ret ?_)
      refine WE.lose hb0_0 ?_
      refine WE.endR (.inl rfl) (res1 Tryd.results4 rfl) ?_
      -- end 1
      rw [decide_eq_false (by omega), Bool.and_false]
    ·
      try simp only [Z1, Z2, Z3, Z4, Z5, Z6, Z7, Z8, Z9, Z0] at q3
      refine WC.skip (WE.then_normal (WC.sub (fr' := []) ?_ trivial))
      refine WC.seq (WC.region ?_)
      refine WL.q (oq_assign rfl) rfl rfl rfl ?_
      refine WL.nil (WE.then_normal (WC.sub (fr' := [(2, _)]) ?_ ⟨rfl, trivial⟩))
      refine WC.ret ?_
      refine WE.lose hb0_0 ?_
      refine WE.endR (.inl rfl) (res1 Tryd.results4 rfl) ?_
      -- end 2
      rw [show fitL l = true by simpa using q1, decide_eq_true (by omega)]; rfl

/-- given.example/pub-tinwright/laws.vSized -/
theorem sized (vh : Value) (A : Hp) (l : List HV) (hr : RdS 5 vh A l.length (recsV HV.row l)) (pp : Option Addr) (pc n : Nat) (hf : fitL l = true) : FnR Tryd.prog 5 [.agg #[vh, .slice pp n pc]] A (.bool (decide (l.length ≤ 100) && decide (sumH l ≤ 70000) && decide (n ≤ 5000))) := by
  have hln := fitL_len hf
  refine FnR.enter (n := 44) Tryd.func5 rfl rfl fun w0 => ?_
  refine WC.sub (fr' := [(0, _)]) ?_ ⟨rfl, trivial⟩
  refine WC.seq (WC.region ?_)
  refine WL.box rfl rfl rfl fun xb hxb => ?_
  refine WL.q (oq_assign rfl) rfl rfl rfl ?_
  refine WL.nil (WE.then_normal (WC.sub (fr' := [(1, _)]) ?_ ⟨rfl, trivial⟩))
  refine WC.seq (WC.region ?_)
  refine WL.q (oq_assign rfl) rfl rfl rfl ?_
  refine WL.nil (WE.then_normal (WC.sub (fr' := [(1, _), (3, _)]) ?_ ⟨rfl, rfl, trivial⟩))
  refine WC.seq (WC.seq (WC.region ?_))
  refine WL.q (oq_assign rfl) rfl rfl rfl ?_
  refine WL.nil (WE.then_normal (WC.sub (fr' := [(1, _), (3, _), (4, _)]) ?_ ⟨rfl, rfl, rfl, trivial⟩))
  refine WC.block ?_
  refine WC.loop (ι := Nat) (fun (i : Nat) => [(1, Pt xb 0), (3, I (sumH (l.take i) : Int)), (4, I (i : Int))]) (fun (i : Nat) => [[(xb, .cells #[vh, .slice pp n pc] 25 (0, 0))], A]) (fun (i : Nat) => i ≤ l.length) (fun (i : Nat) => l.length - i) (0) ?_ ⟨rfl, rfl, rfl, trivial⟩ (List.Perm.refl _) ?_
  · try dsimp only
    omega
  · rintro i hp
    try dsimp only at hp
    obtain hi := hp
    show WC _ _ _ _ _ _ ([(1, Pt xb 0), (3, I (sumH (l.take i) : Int)), (4, I (i : Int))]) ([[(xb, .cells #[vh, .slice pp n pc] 25 (0, 0))], A])
    refine WC.seq (WC.seq (WC.region ?_))
    refine WL.q (oq_move rfl) rfl rfl rfl ?_
    refine WL.q (oq_fieldAddr fld25_0 rfl) rfl rfl rfl ?_
    refine WL.q (oq_load flat22 rfl (.head _) (List.mem_singleton.2 rfl) rfl) rfl rfl rfl ?_
    refine WL.q (oq_len_rd hr Tryd.underlying22 rfl) rfl rfl rfl ?_
    refine WL.q (oq_lss rfl rfl) rfl rfl rfl ?_
    refine WL.nil (WE.then_normal (WC.sub (fr' := [(1, _), (3, _), (4, _), (9, _)]) ?_ ⟨rfl, rfl, rfl, rfl, trivial⟩))
    refine WC.cond rfl (fun q3 => ?_) (fun q3 => ?_)
    ·
      try simp only [Z1, Z2, Z3, Z4, Z5, Z6, Z7, Z8, Z9, Z0] at q3
      refine WC.skip (WE.then_normal (WC.sub (fr' := [(1, _), (3, _), (4, _)]) ?_ ⟨rfl, rfl, rfl, trivial⟩))
      refine WC.seq (WC.block ?_)
      have hlt : i < l.length := by omega
      have hfg := fitL_get hf hlt
      have hsm := sumH_le hf i (by omega)
      refine WC.quiet (by kernel_rfl) (by kernel_rfl) ?_
      refine WQ.q (oq_move rfl) rfl rfl rfl ?_
      refine WQ.q (oq_fieldAddr fld25_0 rfl) rfl rfl rfl ?_
      refine WQ.q (oq_load flat22 rfl (.head _) (List.mem_singleton.2 rfl) rfl) rfl rfl rfl ?_
      refine WQ.q (oq_move rfl) rfl rfl rfl ?_
      refine WQ.q (oq_ixaddr hr Tryd.underlying22 ty35 rfl rfl (by (first | omega | (simp only [List.length_cons, List.length_nil, List.length_append, List.length_drop, List.length_take]; omega)))) rfl rfl rfl ?_
      refine WQ.q (oq_fldEl fld35_0 hr rfl (by (first | omega | (simp only [List.length_cons, List.length_nil, List.length_append, List.length_drop, List.length_take]; omega)))) rfl rfl rfl ?_
      refine WQ.q (oq_loadF (f := HV.row) HV0 (fun _ => rfl) flat9 hr (.tail _ (.head _)) rfl (by (first | omega | (simp only [List.length_cons, List.length_nil, List.length_append, List.length_drop, List.length_take]; omega))) (by first | exact Int.toNat_natCast _ | exact rfl) (by decide) rfl) rfl rfl rfl ?_
      refine WQ.q (oq_len_s Tryd.underlying9 rfl) rfl rfl rfl ?_
      refine WQ.q (oq_add rfl rfl (by rw [i64_lo, i64_hi]; (first | omega | (simp only [List.length_cons, List.length_nil, List.length_append, List.length_drop, List.length_take]; omega)))) rfl rfl rfl ?_
      refine WQ.q (oq_fieldAddr fld25_0 rfl) rfl rfl rfl ?_
      refine WQ.q (oq_load flat22 rfl (.head _) (List.mem_singleton.2 rfl) rfl) rfl rfl rfl ?_
      refine WQ.q (oq_move rfl) rfl rfl rfl ?_
      refine WQ.q (oq_ixaddr hr Tryd.underlying22 ty35 rfl rfl (by (first | omega | (simp only [List.length_cons, List.length_nil, List.length_append, List.length_drop, List.length_take]; omega)))) rfl rfl rfl ?_
      refine WQ.q (oq_fldEl fld35_1 hr rfl (by (first | omega | (simp only [List.length_cons, List.length_nil, List.length_append, List.length_drop, List.length_take]; omega)))) rfl rfl rfl ?_
      refine WQ.q (oq_fldElF fld33_3 hr rfl (by (first | omega | (simp only [List.length_cons, List.length_nil, List.length_append, List.length_drop, List.length_take]; omega)))) rfl rfl rfl ?_
      refine WQ.q (oq_loadF (f := HV.row) HV0 (fun _ => rfl) flat9 hr (.tail _ (.head _)) rfl (by (first | omega | (simp only [List.length_cons, List.length_nil, List.length_append, List.length_drop, List.length_take]; omega))) (by first | exact Int.toNat_natCast _ | exact rfl) (by decide) rfl) rfl rfl rfl ?_
      refine WQ.q (oq_len_s Tryd.underlying9 rfl) rfl rfl rfl ?_
      refine WQ.q (oq_add rfl rfl (by rw [i64_lo, i64_hi]; (first | omega | (simp only [List.length_cons, List.length_nil, List.length_append, List.length_drop, List.length_take]; omega)))) rfl rfl rfl ?_
      refine WQ.q (oq_assign rfl) rfl rfl rfl ?_
      refine WQ.nil (WE.block_normal (WE.then_normal (WC.sub (fr' := [(1, _), (3, _), (4, _)]) ?_ ⟨rfl, rfl, rfl, trivial⟩)))
      refine WC.region ?_
      refine WL.q (oq_move rfl) rfl rfl rfl ?_
      refine WL.q (oq_add rfl rfl (by rw [i64_lo, i64_hi]; (first | omega | (simp only [List.length_cons, List.length_nil, List.length_append, List.length_drop, List.length_take]; omega)))) rfl rfl rfl ?_
      refine WL.q (oq_assign rfl) rfl rfl rfl ?_
      refine WL.nil ?_
      refine WE.again (i + 1) ?_ ?_ ⟨rfl, (gti rfl (by (try dsimp only); rw [sumH_snoc hlt]; omega)), rfl, trivial⟩ (List.Perm.refl _)
      · try dsimp only   -- again 0
        omega
      · (try dsimp only); omega
    ·
      try simp only [Z1, Z2, Z3, Z4, Z5, Z6, Z7, Z8, Z9, Z0] at q3
      refine WC.exit (WE.then_exit (WE.then_exit (WE.block_same (WE.then_normal (WC.sub (fr' := [(1, _), (3, _)]) ?_ ⟨rfl, rfl, trivial⟩)))))
      refine WC.seq ?_
      obtain rfl : i = l.length := by omega
      rw [List.take_length]
      refine WC.region ?_
      refine WL.q (oq_fieldAddr fld25_0 rfl) rfl rfl rfl ?_
      refine WL.q (oq_load flat22 rfl (.head _) (List.mem_singleton.2 rfl) rfl) rfl rfl rfl ?_
      refine WL.q (oq_len_rd hr Tryd.underlying22 rfl) rfl rfl rfl ?_
      refine WL.q (oq_leq rfl rfl) rfl rfl rfl ?_
      refine WL.q (oq_move rfl) rfl rfl rfl ?_
      refine WL.split 34 rfl (fun s6_4 => ?_) (fun s6_4 => ?_)
      ·
        try simp only [Z1, Z2, Z3, Z4, Z5, Z6, Z7, Z8, Z9, Z0] at s6_4
        refine WL.q (oq_move rfl) rfl rfl rfl ?_
        refine WL.q (oq_leq rfl rfl) rfl rfl rfl ?_
        refine WL.q (oq_pick_t rfl rfl) rfl rfl rfl ?_
        refine WL.q (oq_move rfl) rfl rfl rfl ?_
        refine WL.split 38 rfl (fun s6_8 => ?_) (fun s6_8 => ?_)
        ·
          try simp only [Z1, Z2, Z3, Z4, Z5, Z6, Z7, Z8, Z9, Z0] at s6_8
          refine WL.q (oq_fieldAddr fld25_1 rfl) rfl rfl rfl ?_
          refine WL.q (oq_load flat23 rfl (.head _) (List.mem_singleton.2 rfl) rfl) rfl rfl rfl ?_
          refine WL.q (oq_len_sl Tryd.underlying23 rfl) rfl rfl rfl ?_
          refine WL.q (oq_leq rfl rfl) rfl rfl rfl ?_
          refine WL.q (oq_pick_t rfl rfl) rfl rfl rfl ?_
          refine WL.q (oq_assign rfl) rfl rfl rfl ?_
          refine WL.nil (WE.then_normal (WC.sub (fr' := [(2, _)]) ?_ ⟨rfl, trivial⟩))
          refine WC.ret ?_
          refine WE.lose hxb ?_
          refine WE.endR (.inl rfl) (res1 Tryd.results5 rfl) ?_
          -- end 0
          congr 1; rw [Bool.eq_iff_iff]; simp; omega
        ·
          try simp only [Z1, Z2, Z3, Z4, Z5, Z6, Z7, Z8, Z9, Z0] at s6_8
          refine WL.skip rfl rfl rfl ?_
          refine WL.skip rfl rfl rfl ?_
          refine WL.skip rfl rfl rfl ?_
          refine WL.skip rfl rfl rfl ?_
          refine WL.q (oq_pick_f rfl rfl) rfl rfl rfl ?_
          refine WL.q (oq_assign rfl) rfl rfl rfl ?_
          refine WL.nil (WE.then_normal (WC.sub (fr' := [(2, _)]) ?_ ⟨rfl, trivial⟩))
          refine WC.ret ?_
          refine WE.lose hxb ?_
          refine WE.endR (.inl rfl) (res1 Tryd.results5 rfl) ?_
          -- end 1
          congr 1; rw [Bool.eq_iff_iff]; simp; omega
      ·
        try simp only [Z1, Z2, Z3, Z4, Z5, Z6, Z7, Z8, Z9, Z0] at s6_4
        refine WL.skip rfl rfl rfl ?_
        refine WL.skip rfl rfl rfl ?_
        refine WL.q (oq_pick_f rfl rfl) rfl rfl rfl ?_
        refine WL.q (oq_move rfl) rfl rfl rfl ?_
        refine WL.skip rfl rfl rfl ?_
        refine WL.skip rfl rfl rfl ?_
        refine WL.skip rfl rfl rfl ?_
        refine WL.skip rfl rfl rfl ?_
        refine WL.q (oq_pick_f rfl rfl) rfl rfl rfl ?_
        refine WL.q (oq_assign rfl) rfl rfl rfl ?_
        refine WL.nil (WE.then_normal (WC.sub (fr' := [(2, _)]) ?_ ⟨rfl, trivial⟩))
        refine WC.ret ?_
        refine WE.lose hxb ?_
        refine WE.endR (.inl rfl) (res1 Tryd.results5 rfl) ?_
        -- end 2
        congr 1; rw [Bool.eq_iff_iff]; simp; omega

end EO
end Go.Proofs.YtodlhaghdplclaaDoor
