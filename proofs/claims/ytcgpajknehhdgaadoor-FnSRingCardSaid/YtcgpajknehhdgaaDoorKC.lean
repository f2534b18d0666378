/- Walks of the operations of a ring of bytes. -/
import Derived.Test.YtcgpajknehhdgaaDoorVB
import Derived.Test.YtcgpajknehhdgaaDoorKB
import Derived.Test.YtcgpajknehhdgaaDoorL2
import Derived.Test.YtcgpajknehhdgaaDoorP0
namespace Go.Proofs.YtcgpajknehhdgaaDoor
open Go Go.RowKit V K9 KB L2
set_option linter.unusedSimpArgs false
set_option linter.unusedVariables false
set_option maxRecDepth 10000
namespace KC
theorem call10 : Callable Tryd.prog 10 := ⟨_, Tryd.func10, rfl, by kernel_rfl⟩
theorem call18 : Callable Tryd.prog 18 := ⟨_, Tryd.func18, rfl, by kernel_rfl⟩
theorem call19 : Callable Tryd.prog 19 := ⟨_, Tryd.func19, rfl, by kernel_rfl⟩
theorem call20 : Callable Tryd.prog 20 := ⟨_, Tryd.func20, rfl, by kernel_rfl⟩
theorem call21 : Callable Tryd.prog 21 := ⟨_, Tryd.func21, rfl, by kernel_rfl⟩
theorem call41 : Callable Tryd.prog 41 := ⟨_, Tryd.func41, rfl, by kernel_rfl⟩
theorem call42 : Callable Tryd.prog 42 := ⟨_, Tryd.func42, rfl, by kernel_rfl⟩
theorem call43 : Callable Tryd.prog 43 := ⟨_, Tryd.func43, rfl, by kernel_rfl⟩
theorem call44 : Callable Tryd.prog 44 := ⟨_, Tryd.func44, rfl, by kernel_rfl⟩
theorem call45 : Callable Tryd.prog 45 := ⟨_, Tryd.func45, rfl, by kernel_rfl⟩
theorem call46 : Callable Tryd.prog 46 := ⟨_, Tryd.func46, rfl, by kernel_rfl⟩
theorem call47 : Callable Tryd.prog 47 := ⟨_, Tryd.func47, rfl, by kernel_rfl⟩
theorem flat3 : Flat Tryd.prog 3 := ⟨_, Tryd.underlying3, by simp⟩
theorem flat4 : Flat Tryd.prog 4 := ⟨_, Tryd.underlying4, by simp⟩
theorem flat9 : Flat Tryd.prog 9 := ⟨_, Tryd.underlying9, by simp⟩
theorem ty3 : Ty Tryd.prog 3 (.int .i64 0) 1 8 := ty_of (by kernel_rfl)
theorem ty4 : Ty Tryd.prog 4 (.bool false) 1 1 := ty_of (by kernel_rfl)
theorem ty5 : Ty Tryd.prog 5 (.int .u8 0) 1 1 := ty_of (by kernel_rfl)
theorem ty9 : Ty Tryd.prog 9 (S []) 1 16 := ty_of (by kernel_rfl)
theorem ty35 : Ty Tryd.prog 35 (.agg #[(S []), (.int .i64 0), (.bool false)]) 3 32 := ty_of (by kernel_rfl)
theorem ty92 : Ty Tryd.prog 92 (.agg #[(.slice none 0 0), (.int .i64 0), (.int .i64 0), (.int .i64 0)]) 4 48 := ty_of (by kernel_rfl)
theorem agg35 : Agg Tryd.prog 35 := agg_of Tryd.underlying35
theorem agg92 : Agg Tryd.prog 92 := agg_of Tryd.underlying92
theorem fld35_0 : Fld Tryd.prog 35 0 0 9 := fld_of Tryd.underlying35 rfl rfl rfl ty9 (by decide)
theorem fld35_1 : Fld Tryd.prog 35 1 1 3 := fld_of Tryd.underlying35 rfl rfl rfl ty3 (by decide)
theorem fld35_2 : Fld Tryd.prog 35 2 2 4 := fld_of Tryd.underlying35 rfl rfl rfl ty4 (by decide)

/-! ### Words: operations of a ring -/
structure RO where
  t : List UInt8
  n : Int
  b : Bool
def RO0 : RO := ⟨[], 0, false⟩
def rof (p : RO) : List Value := [S p.t, I p.n, .bool p.b]
def sml (s : List UInt8) : Bool := decide ((s.length : Int) ≤ 2147483647)
def smlP (p : RO) : Bool := sml p.t
def fitsR (l : List RO) : Bool := decide ((l.length : Int) ≤ 2147483647) && l.all smlP
theorem fitsR_len {l : List RO} (h : fitsR l = true) : l.length ≤ 2147483647 := by unfold fitsR at h; simp at h; omega
theorem fitsR_el {l : List RO} (h : fitsR l = true) (i : Nat) (hi : i < l.length) : (l.getD i RO0).t.length ≤ 2147483647 := by
  unfold fitsR at h
  simp only [Bool.and_eq_true, List.all_eq_true] at h
  rw [List.getD_eq_getElem?_getD, List.getElem?_eq_getElem hi]
  have := h.2 l[i] (List.getElem_mem hi)
  unfold smlP sml at this
  simp only [decide_eq_true_eq] at this
  simp only [Option.getD_some]
  omega
def rgot (h : List UInt8) (o : RO) : List UInt8 := if o.b then [] else if 0 < o.n then h.take o.n.toNat else []
def rnext (sz : Nat) (h : List UInt8) (o : RO) : List UInt8 := if o.b then [] else if 0 < o.n then h.drop o.n.toNat else lastn sz (h ++ o.t)
def rstep (sz : Nat) (s : List UInt8 × List (List UInt8) × List Int) (o : RO) : List UInt8 × List (List UInt8) × List Int := (rnext sz s.1 o, s.2.1 ++ [rgot s.1 o], s.2.2 ++ [((rnext sz s.1 o).length : Int)])
def rst (sz : Nat) (l : List RO) : List UInt8 × List (List UInt8) × List Int := l.foldl (rstep sz) ([], [], [])
theorem rst_step (sz : Nat) (l : List RO) (i : Nat) (h : i < l.length) : rst sz (l.take (i + 1)) = rstep sz (rst sz (l.take i)) (l.getD i RO0) := by
  unfold rst
  rw [List.take_succ_eq_append_getElem h, List.foldl_append, List.getD_eq_getElem?_getD, List.getElem?_eq_getElem h]; rfl
theorem rst_next {sz : Nat} {l : List RO} {i : Nat} {h : List UInt8} {tx : List (List UInt8)} {lf : List Int} (hi : i < l.length) (he : rst sz (l.take i) = (h, tx, lf)) : rst sz (l.take (i + 1)) = (rnext sz h (l.getD i RO0), tx ++ [rgot h (l.getD i RO0)], lf ++ [((rnext sz h (l.getD i RO0)).length : Int)]) := by
  rw [rst_step sz l i hi, he]; rfl
theorem rnext_len (sz : Nat) (h : List UInt8) (o : RO) (hh : h.length ≤ sz) : (rnext sz h o).length ≤ sz := by
  unfold rnext
  split
  · simp
  · split
    · rw [List.length_drop]; omega
    · exact lastn_len _ _
theorem rst_len (sz : Nat) (l : List RO) : ∀ i, i ≤ l.length → (rst sz (l.take i)).1.length ≤ sz ∧ (rst sz (l.take i)).2.1.length = i ∧ (rst sz (l.take i)).2.2.length = i
  | 0, _ => by simp [rst]
  | i + 1, h => by
    obtain ⟨h1, h2, h3⟩ := rst_len sz l i (by omega)
    rw [rst_step sz l i (by omega)]
    exact ⟨rnext_len sz _ _ h1, by show (_ ++ [_]).length = _; rw [List.length_append, h2]; rfl, by show (_ ++ [_]).length = _; rw [List.length_append, h3]; rfl⟩
theorem rg_b {h : List UInt8} {o : RO} {sz : Nat} (hb : o.b = true) : rgot h o = [] ∧ rnext sz h o = [] := by unfold rgot rnext; rw [if_pos hb, if_pos hb]; exact ⟨rfl, rfl⟩
theorem rg_n {h : List UInt8} {o : RO} {sz : Nat} (hb : o.b = false) (hn : 0 < o.n) : rgot h o = h.take o.n.toNat ∧ rnext sz h o = h.drop o.n.toNat := by unfold rgot rnext; rw [hb]; simp [hn]
theorem rg_w {h : List UInt8} {o : RO} {sz : Nat} (hb : o.b = false) (hn : ¬ 0 < o.n) : rgot h o = [] ∧ rnext sz h o = lastn sz (h ++ o.t) := by unfold rgot rnext; rw [hb]; simp [hn]
theorem tk_min (h : List UInt8) (k : Nat) : h.take (min k h.length) = h.take k ∧ h.drop (min k h.length) = h.drop k := by
  rcases Nat.le_total k h.length with e | e
  · rw [Nat.min_eq_left e]; exact ⟨rfl, rfl⟩
  · rw [Nat.min_eq_right e, List.take_length, List.drop_length, List.take_of_length_le e, List.drop_eq_nil_of_le e]; exact ⟨rfl, rfl⟩
theorem putB_got (h : List UInt8) (k kk : Nat) (hk : kk ≤ h.length) : List.take (kk - 0) (List.drop (0 + 0) (putB (List.replicate k 0) 0 (h.take kk))) = h.take kk := by
  have e : (h.take kk).length = kk := by rw [List.length_take]; omega
  show List.take kk (putB (List.replicate k 0) 0 (h.take kk)) = h.take kk
  unfold putB
  rw [List.take_zero, List.nil_append, List.take_left' e]

theorem take_eq {α : Type} [Inhabited α] {d : α} {a b : List α} {i : Nat} (h : a.take i = b.take i) (ha : i < a.length) (hb : i < b.length) (he : a.getD i d = b.getD i d) : a.take (i + 1) = b.take (i + 1) := by
  rw [List.take_succ_eq_append_getElem ha, List.take_succ_eq_append_getElem hb, h]
  rw [List.getD_eq_getElem?_getD, List.getD_eq_getElem?_getD, List.getElem?_eq_getElem ha, List.getElem?_eq_getElem hb] at he
  simp only [Option.getD_some] at he
  rw [he]
/-- given.example/pub-tinwright/laws.zzFits17 -/
theorem fits17 (t : List UInt8) (n : Int) (b : Bool) : Fn0 Tryd.prog 41 [.agg #[S t, I n, .bool b]] (.bool (sml t)) := by
  refine Fn0.enter (n := 7) Tryd.func41 rfl rfl fun w0 => ?_
  refine WC.sub (fr' := [(0, _)]) ?_ ⟨rfl, trivial⟩
  refine WC.seq ?_
  refine WC.region ?_
  refine WL.box rfl rfl rfl fun b0_0 hb0_0 => ?_
  refine WL.q (oq_assign rfl) rfl rfl rfl ?_
  refine WL.nil ?_
  refine WE.then_normal ?_
  refine WC.sub (fr' := [(1, _)]) ?_ ⟨rfl, trivial⟩
  refine WC.seq ?_
  refine WC.seq ?_
  refine WC.region ?_
  refine WL.q (oq_fieldAddr fld35_0 rfl) rfl rfl rfl ?_
  refine WL.q (oq_load flat9 rfl (.head _) (List.mem_singleton.2 rfl) rfl) rfl rfl rfl ?_
  refine WL.q (oq_len_s Tryd.underlying9 rfl) rfl rfl rfl ?_
  refine WL.q (oq_gtr rfl rfl) rfl rfl rfl ?_
  refine WL.nil ?_
  refine WE.then_normal ?_
  refine WC.sub (fr' := [(6, _)]) ?_ ⟨rfl, trivial⟩
  refine WC.cond rfl (fun q1 => ?_) (fun q1 => ?_)
  ·
    try simp only [Bool.not_eq_eq_eq_not, Bool.not_true, Bool.not_false, decide_eq_true_eq, decide_eq_false_iff_not, Int.not_lt, Int.not_le, ne_eq, Decidable.not_not, ← List.length_eq_zero_iff] at q1
    refine WC.seq ?_
    refine WC.region ?_
    refine WL.q (oq_assign rfl) rfl rfl rfl ?_
    refine WL.nil ?_
    refine WE.then_normal ?_
    refine WC.sub (fr' := [(2, _)]) ?_ ⟨rfl, trivial⟩
    refine WC.ret ?_
    refine WE.then_ret ?_
    refine WE.lose hb0_0 ?_
    refine WE.end0 (.inl rfl) (res1 Tryd.results41 rfl) ?_
    -- end 0
    unfold sml; first | (rw [decide_eq_true (by omega)]; done) | (rw [decide_eq_false (by omega)]; done)
  ·
    try simp only [Bool.not_eq_eq_eq_not, Bool.not_true, Bool.not_false, decide_eq_true_eq, decide_eq_false_iff_not, Int.not_lt, Int.not_le, ne_eq, Decidable.not_not, ← List.length_eq_zero_iff] at q1
    refine WC.skip ?_
    refine WE.then_normal ?_
    refine WC.sub (fr' := []) ?_ trivial
    refine WC.seq ?_
    refine WC.region ?_
    refine WL.q (oq_assign rfl) rfl rfl rfl ?_
    refine WL.nil ?_
    refine WE.then_normal ?_
    refine WC.sub (fr' := [(2, _)]) ?_ ⟨rfl, trivial⟩
    refine WC.ret ?_
    refine WE.lose hb0_0 ?_
    refine WE.end0 (.inl rfl) (res1 Tryd.results41 rfl) ?_
    -- end 1
    unfold sml; first | (rw [decide_eq_true (by omega)]; done) | (rw [decide_eq_false (by omega)]; done)

/-- given.example/pub-tinwright/laws.zzFits16 -/
theorem fits16 (v : Value) (A : Hp) (l : List RO) (hr : RdS 3 v A l.length (recsV rof l)) : FnR Tryd.prog 18 [v] A (.bool (fitsR l)) := by
  refine FnR.enter (n := 18) Tryd.func18 rfl rfl fun w0 => ?_
  refine WC.sub (fr' := [(0, _)]) ?_ ⟨rfl, trivial⟩
  refine WC.seq ?_
  refine WC.region ?_
  refine WL.q (oq_assign rfl) rfl rfl rfl ?_
  refine WL.nil ?_
  refine WE.then_normal ?_
  refine WC.sub (fr' := [(0, _)]) ?_ ⟨rfl, trivial⟩
  refine WC.seq ?_
  refine WC.seq ?_
  refine WC.region ?_
  refine WL.q (oq_move rfl) rfl rfl rfl ?_
  refine WL.q (oq_len_rd hr Tryd.underlying32 rfl) rfl rfl rfl ?_
  refine WL.q (oq_gtr rfl rfl) rfl rfl rfl ?_
  refine WL.nil ?_
  refine WE.then_normal ?_
  refine WC.sub (fr' := [(0, _), (7, _)]) ?_ ⟨rfl, rfl, trivial⟩
  refine WC.cond rfl (fun q1 => ?_) (fun q1 => ?_)
  ·
    try simp only [Bool.not_eq_eq_eq_not, Bool.not_true, Bool.not_false, decide_eq_true_eq, decide_eq_false_iff_not, Int.not_lt, Int.not_le, ne_eq, Decidable.not_not, ← List.length_eq_zero_iff] at q1
    refine WC.seq ?_
    refine WC.region ?_
    refine WL.q (oq_assign rfl) rfl rfl rfl ?_
    refine WL.nil ?_
    refine WE.then_normal ?_
    refine WC.sub (fr' := [(2, _)]) ?_ ⟨rfl, trivial⟩
    refine WC.ret ?_
    refine WE.then_ret ?_
    refine WE.endR (.inl rfl) (res1 Tryd.results18 rfl) ?_
    -- end 0
    unfold fitsR; rw [decide_eq_false (by omega)]; rfl
  ·
    try simp only [Bool.not_eq_eq_eq_not, Bool.not_true, Bool.not_false, decide_eq_true_eq, decide_eq_false_iff_not, Int.not_lt, Int.not_le, ne_eq, Decidable.not_not, ← List.length_eq_zero_iff] at q1
    refine WC.skip ?_
    refine WE.then_normal ?_
    refine WC.sub (fr' := [(0, _)]) ?_ ⟨rfl, trivial⟩
    refine WC.seq ?_
    refine WC.seq ?_
    refine WC.region ?_
    refine WL.q (oq_move rfl) rfl rfl rfl ?_
    refine WL.q (oq_len_rd hr Tryd.underlying32 rfl) rfl rfl rfl ?_
    refine WL.q (oq_move rfl) rfl rfl rfl ?_
    refine WL.nil ?_
    refine WE.then_normal ?_
    refine WC.sub (fr' := [(8, _), (9, _), (10, _)]) ?_ ⟨rfl, rfl, rfl, trivial⟩
    refine WC.block ?_
    refine WC.loop (ι := Nat) (fun (i : Nat) => [(8, v), (9, I (l.length : Int)), (10, I (i : Int))]) (fun (i : Nat) => [A]) (fun (i : Nat) => i ≤ l.length ∧ l.all smlP = (l.drop i).all smlP) (fun (i : Nat) => l.length - i) (0) ?_ ⟨rfl, rfl, rfl, trivial⟩ (List.Perm.refl _) ?_
    · try dsimp only
      exact ⟨by omega, rfl⟩
    · rintro i hp
      try dsimp only at hp
      obtain ⟨hi, hf⟩ := hp
      show WC _ _ _ _ _ _ ([(8, v), (9, I (l.length : Int)), (10, I (i : Int))]) ([A])
      refine WC.seq ?_
      refine WC.region ?_
      refine WL.q (oq_lss rfl rfl) rfl rfl rfl ?_
      refine WL.nil ?_
      refine WE.then_normal ?_
      refine WC.sub (fr' := [(8, _), (9, _), (10, _), (11, _)]) ?_ ⟨rfl, rfl, rfl, rfl, trivial⟩
      refine WC.seq ?_
      refine WC.cond rfl (fun q4 => ?_) (fun q4 => ?_)
      ·
        try simp only [Bool.not_eq_eq_eq_not, Bool.not_true, Bool.not_false, decide_eq_true_eq, decide_eq_false_iff_not, Int.not_lt, Int.not_le, ne_eq, Decidable.not_not, ← List.length_eq_zero_iff] at q4
        refine WC.skip ?_
        refine WE.then_normal ?_
        refine WC.sub (fr' := [(8, _), (9, _), (10, _)]) ?_ ⟨rfl, rfl, rfl, trivial⟩
        refine WC.seq ?_
        refine WC.block ?_
        refine WC.seq ?_
        refine WC.region ?_
        refine WL.q (oq_ixaddr hr Tryd.underlying32 ty35 rfl rfl (by (first | omega | (simp only [List.length_cons, List.length_nil, List.length_append, List.length_drop, List.length_take]; omega)))) rfl rfl rfl ?_
        refine WL.q (oq_loadEl (f := rof) RO0 [_, _, _] (fun _ => rfl) agg35 ty35 hr (.head _) rfl (by (first | omega | (simp only [List.length_cons, List.length_nil, List.length_append, List.length_drop, List.length_take]; omega))) (by first | exact Int.toNat_natCast _ | exact rfl) rfl) rfl rfl rfl ?_
        refine WL.alloc ty35 rfl rfl fun b5_2 hb5_2 => ?_
        refine WL.storeS #[_, _, _] ty35 rfl rfl rfl rfl (Nat.le_of_ble_eq_true rfl) rfl rfl ?_
        refine WL.nil ?_
        refine WE.then_normal ?_
        refine WC.sub (fr' := [(4, _), (8, _), (9, _), (10, _)]) ?_ ⟨rfl, rfl, rfl, rfl, trivial⟩
        refine WC.seq ?_
        refine WC.region ?_
        refine WL.q (oq_loadS [_, _, _] agg35 ty35 rfl (.head _) (List.mem_singleton.2 rfl) rfl rfl) rfl rfl rfl ?_
        refine WL.qc (oq_call (fits17 _ _ _) call41 rfl) rfl rfl rfl ?_
        refine WL.q (oq_not rfl) rfl rfl rfl ?_
        refine WL.nil ?_
        refine WE.then_normal ?_
        refine WC.sub (fr' := [(8, _), (9, _), (10, _), (16, _)]) ?_ ⟨rfl, rfl, rfl, rfl, trivial⟩
        refine WC.cond rfl (fun q6 => ?_) (fun q6 => ?_)
        ·
          try simp only [Bool.not_eq_eq_eq_not, Bool.not_true, Bool.not_false, decide_eq_true_eq, decide_eq_false_iff_not, Int.not_lt, Int.not_le, ne_eq, Decidable.not_not, ← List.length_eq_zero_iff] at q6
          refine WC.seq ?_
          refine WC.region ?_
          refine WL.q (oq_assign rfl) rfl rfl rfl ?_
          refine WL.nil ?_
          refine WE.then_normal ?_
          refine WC.sub (fr' := [(2, _)]) ?_ ⟨rfl, trivial⟩
          refine WC.ret ?_
          refine WE.block_ret ?_
          refine WE.then_ret ?_
          refine WE.then_ret ?_
          refine WE.block_ret ?_
          refine WE.then_ret ?_
          refine WE.lose hb5_2 ?_
          refine WE.endR (.inl rfl) (res1 Tryd.results18 rfl) ?_
          -- end 1
          unfold fitsR; rw [hf, all_get l i RO0 (by omega), show smlP (l.getD i RO0) = false from q6, Bool.false_and, Bool.and_false]
        ·
          try simp only [Bool.not_eq_eq_eq_not, Bool.not_true, Bool.not_false, decide_eq_true_eq, decide_eq_false_iff_not, Int.not_lt, Int.not_le, ne_eq, Decidable.not_not, ← List.length_eq_zero_iff] at q6
          refine WC.skip ?_
          refine WE.block_normal ?_
          refine WE.then_normal ?_
          refine WC.sub (fr' := [(8, _), (9, _), (10, _)]) ?_ ⟨rfl, rfl, rfl, trivial⟩
          refine WC.region ?_
          refine WL.q (oq_add rfl rfl (by rw [i64_lo, i64_hi]; (first | omega | (simp only [List.length_cons, List.length_nil, List.length_append, List.length_drop, List.length_take]; omega)))) rfl rfl rfl ?_
          refine WL.q (oq_move rfl) rfl rfl rfl ?_
          refine WL.nil ?_
          refine WE.lose hb5_2 ?_
          refine WE.again (i + 1) ?_ ?_ ⟨rfl, rfl, rfl, trivial⟩ (List.Perm.refl _)
          · try dsimp only   -- again 0
            exact ⟨by omega, by rw [hf, all_get l i RO0 (by omega), show smlP (l.getD i RO0) = true from q6, Bool.true_and]⟩
          · (try dsimp only); omega
      ·
        try simp only [Bool.not_eq_eq_eq_not, Bool.not_true, Bool.not_false, decide_eq_true_eq, decide_eq_false_iff_not, Int.not_lt, Int.not_le, ne_eq, Decidable.not_not, ← List.length_eq_zero_iff] at q4
        refine WC.exit ?_
        refine WE.then_exit ?_
        refine WE.then_exit ?_
        refine WE.block_same ?_
        refine WE.then_normal ?_
        refine WC.sub (fr' := []) ?_ trivial
        refine WC.seq ?_
        refine WC.region ?_
        refine WL.q (oq_assign rfl) rfl rfl rfl ?_
        refine WL.nil ?_
        refine WE.then_normal ?_
        refine WC.sub (fr' := [(2, _)]) ?_ ⟨rfl, trivial⟩
        refine WC.ret ?_
        refine WE.endR (.inl rfl) (res1 Tryd.results18 rfl) ?_
        -- end 2
        unfold fitsR; rw [hf, List.drop_eq_nil_of_le (by omega), decide_eq_true (by omega)]; rfl

/-- given.example/pub-tinwright/impl.SRing -/
theorem sRing (v : Value) (A : Hp) (l : List RO) (hr : RdS 3 v A l.length (recsV rof l)) (kE : TypeId) (pE : Addr) (hE : Eof A kE pE) (hn : l.length ≤ 100) (hb : ∀ i, i < l.length → (l.getD i RO0).t.length ≤ 500 ∧ 0 ≤ (l.getD i RO0).n ∧ (l.getD i RO0).n ≤ 5000) (sz : Nat) (hsz : 1 ≤ sz ∧ sz ≤ 1000) : FnA Tryd.prog 19 [I (sz : Int), v] A (fun r N => ∃ vt vl T U, r = .tuple #[vt, vl, S (rst sz l).1] ∧ N = T ++ U ∧ RdS 1 vt T (rst sz l).2.1.length (strsV (rst sz l).2.1) ∧ RdS 1 vl U (rst sz l).2.2.length (intsV .i64 (rst sz l).2.2)) := by
  refine FnA.enter (n := 72) Tryd.func19 rfl rfl fun w0 => ?_
  refine WC.sub (fr' := [(0, _), (1, _)]) ?_ ⟨rfl, rfl, trivial⟩
  refine WC.seq ?_
  refine WC.region ?_
  refine WL.q (oq_assign rfl) rfl rfl rfl ?_
  refine WL.q (oq_assign rfl) rfl rfl rfl ?_
  refine WL.q (oq_assign rfl) rfl rfl rfl ?_
  refine WL.nil ?_
  refine WE.then_normal ?_
  refine WC.sub (fr' := [(0, _), (1, _)]) ?_ ⟨rfl, rfl, trivial⟩
  refine WC.seq ?_
  refine WC.region ?_
  refine WL.q (oq_move rfl) rfl rfl rfl ?_
  refine WL.q (oq_max ((sz : Int)) rfl rfl (by omega)) rfl rfl rfl ?_
  refine WL.q (oq_min ((sz : Int)) rfl rfl (by omega)) rfl rfl rfl ?_
  refine WL.makeB Tryd.underlying22 ty5 rfl rfl (by omega) (by unfold maxLen; omega) rfl rfl fun sb hsb => ?_
  refine WL.callA0 (rnew sb sz) call42 rfl rfl rfl fun v1_4 N1_4 hR1_4 hN1_4 => ?_
  obtain ⟨rb, rfl, rfl⟩ := hR1_4
  have hrb := hN1_4 _ _ (List.mem_singleton.2 rfl)
  refine WL.q (oq_assign rfl) rfl rfl rfl ?_
  refine WL.nil ?_
  refine WE.then_normal ?_
  refine WC.sub (fr' := [(1, _), (7, _)]) ?_ ⟨rfl, rfl, trivial⟩
  refine WC.seq ?_
  refine WC.add0 ?_
  refine WC.region ?_
  refine WL.q (oq_assign rfl) rfl rfl rfl ?_
  refine WL.nil ?_
  refine WE.then_normal ?_
  refine WC.sub (fr' := [(1, _), (7, _), (8, _)]) ?_ ⟨rfl, rfl, rfl, trivial⟩
  refine WC.seq ?_
  refine WC.add0 ?_
  refine WC.region ?_
  refine WL.q (oq_assign rfl) rfl rfl rfl ?_
  refine WL.nil ?_
  refine WE.then_normal ?_
  refine WC.sub (fr' := [(1, _), (7, _), (8, _), (9, _)]) ?_ ⟨rfl, rfl, rfl, rfl, trivial⟩
  refine WC.seq ?_
  refine WC.seq ?_
  refine WC.region ?_
  refine WL.q (oq_move rfl) rfl rfl rfl ?_
  refine WL.q (oq_len_rd hr Tryd.underlying32 rfl) rfl rfl rfl ?_
  refine WL.q (oq_move rfl) rfl rfl rfl ?_
  refine WL.nil ?_
  refine WE.then_normal ?_
  refine WC.sub (fr' := [(7, _), (8, _), (9, _), (21, _), (22, _), (23, _)]) ?_ ⟨rfl, rfl, rfl, rfl, rfl, rfl, trivial⟩
  refine WC.block ?_
  refine WC.f4 ?_
  refine WC.f1 ?_
  refine WC.f2 ?_
  refine WC.f4 ?_
  refine WC.f4 ?_
  refine WC.loop (ι := Nat × Nat × Nat × (List UInt8) × (List UInt8) × (List (List UInt8)) × (List Int) × Value × Value × Hp × Hp) (fun i_ => (fun (i : Nat) (s1 : Nat) (e1 : Nat) (l1 : List UInt8) (h : List UInt8) (tx : List (List UInt8)) (lf : List Int) (vt : Value) (vl : Value) (T : Hp) (U : Hp) => [(7, Pt rb 0), (8, vt), (9, vl), (21, v), (22, I (l.length : Int)), (23, I (i : Int))]) i_.1 i_.2.1 i_.2.2.1 i_.2.2.2.1 i_.2.2.2.2.1 i_.2.2.2.2.2.1 i_.2.2.2.2.2.2.1 i_.2.2.2.2.2.2.2.1 i_.2.2.2.2.2.2.2.2.1 i_.2.2.2.2.2.2.2.2.2.1 i_.2.2.2.2.2.2.2.2.2.2) (fun i_ => (fun (i : Nat) (s1 : Nat) (e1 : Nat) (l1 : List UInt8) (h : List UInt8) (tx : List (List UInt8)) (lf : List Int) (vt : Value) (vl : Value) (T : Hp) (U : Hp) => [[(rb, .cells #[Sl sb 0 sz sz, I (s1 : Int), I (e1 : Int), I ((h).length : Int)] 92 (0, 0))], Bf sb 5 l1, T, U, A]) i_.1 i_.2.1 i_.2.2.1 i_.2.2.2.1 i_.2.2.2.2.1 i_.2.2.2.2.2.1 i_.2.2.2.2.2.2.1 i_.2.2.2.2.2.2.2.1 i_.2.2.2.2.2.2.2.2.1 i_.2.2.2.2.2.2.2.2.2.1 i_.2.2.2.2.2.2.2.2.2.2) (fun i_ => (fun (i : Nat) (s1 : Nat) (e1 : Nat) (l1 : List UInt8) (h : List UInt8) (tx : List (List UInt8)) (lf : List Int) (vt : Value) (vl : Value) (T : Hp) (U : Hp) => i ≤ l.length ∧ rst sz (l.take i) = (h, tx, lf) ∧ l1.length = sz ∧ Ring l1 s1 e1 h ∧ OwS w0.heap.size 9 1 vt T tx.length (strsV tx) ∧ OwS w0.heap.size 3 1 vl U lf.length (intsV .i64 lf)) i_.1 i_.2.1 i_.2.2.1 i_.2.2.2.1 i_.2.2.2.2.1 i_.2.2.2.2.2.1 i_.2.2.2.2.2.2.1 i_.2.2.2.2.2.2.2.1 i_.2.2.2.2.2.2.2.2.1 i_.2.2.2.2.2.2.2.2.2.1 i_.2.2.2.2.2.2.2.2.2.2) (fun i_ => (fun (i : Nat) (s1 : Nat) (e1 : Nat) (l1 : List UInt8) (h : List UInt8) (tx : List (List UInt8)) (lf : List Int) (vt : Value) (vl : Value) (T : Hp) (U : Hp) => l.length - i) i_.1 i_.2.1 i_.2.2.1 i_.2.2.2.1 i_.2.2.2.2.1 i_.2.2.2.2.2.1 i_.2.2.2.2.2.2.1 i_.2.2.2.2.2.2.2.1 i_.2.2.2.2.2.2.2.2.1 i_.2.2.2.2.2.2.2.2.2.1 i_.2.2.2.2.2.2.2.2.2.2) ((0, 0, 0, List.replicate sz 0, [], [], [], _, _, _, _)) ?_ ⟨rfl, rfl, rfl, rfl, rfl, rfl, trivial⟩ (List.Perm.refl _) ?_
  · try dsimp only
    exact ⟨by omega, rfl, by simp, Ring.new (by simp; omega), OwS.nil _ _ _, OwS.nil _ _ _⟩
  · rintro ⟨i, s1, e1, l1, h, tx, lf, vt, vl, T, U⟩ hp
    try dsimp only at hp
    obtain ⟨hi, hst, hl1, hr1, hot, hou⟩ := hp
    show WC _ _ _ _ _ _ ([(7, Pt rb 0), (8, vt), (9, vl), (21, v), (22, I (l.length : Int)), (23, I (i : Int))]) ([[(rb, .cells #[Sl sb 0 sz sz, I (s1 : Int), I (e1 : Int), I ((h).length : Int)] 92 (0, 0))], Bf sb 5 l1, T, U, A])
    have hrl := rst_len sz l i hi
    rw [hst] at hrl
    obtain ⟨hrl1, hrl2, hrl3⟩ := hrl
    dsimp only at hrl1 hrl2 hrl3
    refine WC.seq ?_
    refine WC.region ?_
    refine WL.q (oq_lss rfl rfl) rfl rfl rfl ?_
    refine WL.nil ?_
    refine WE.then_normal ?_
    refine WC.sub (fr' := [(7, _), (8, _), (9, _), (21, _), (22, _), (23, _), (24, _)]) ?_ ⟨rfl, rfl, rfl, rfl, rfl, rfl, rfl, trivial⟩
    refine WC.seq ?_
    refine WC.cond rfl (fun q5 => ?_) (fun q5 => ?_)
    ·
      try simp only [Bool.not_eq_eq_eq_not, Bool.not_true, Bool.not_false, decide_eq_true_eq, decide_eq_false_iff_not, Int.not_lt, Int.not_le, ne_eq, Decidable.not_not, ← List.length_eq_zero_iff] at q5
      refine WC.skip ?_
      refine WE.then_normal ?_
      refine WC.sub (fr' := [(7, _), (8, _), (9, _), (21, _), (22, _), (23, _)]) ?_ ⟨rfl, rfl, rfl, rfl, rfl, rfl, trivial⟩
      refine WC.seq ?_
      refine WC.block ?_
      refine WC.seq ?_
      have hbi := hb i (by omega)
      refine WC.region ?_
      refine WL.q (oq_ixaddr hr Tryd.underlying32 ty35 rfl rfl (by (first | omega | (simp only [List.length_cons, List.length_nil, List.length_append, List.length_drop, List.length_take]; omega)))) rfl rfl rfl ?_
      refine WL.q (oq_loadEl (f := rof) RO0 [_, _, _] (fun _ => rfl) agg35 ty35 hr (.tail _ (.tail _ (.tail _ (.tail _ (.head _))))) rfl (by (first | omega | (simp only [List.length_cons, List.length_nil, List.length_append, List.length_drop, List.length_take]; omega))) (by first | exact Int.toNat_natCast _ | exact rfl) rfl) rfl rfl rfl ?_
      refine WL.alloc ty35 rfl rfl fun b6_2 hb6_2 => ?_
      refine WL.storeS #[_, _, _] ty35 rfl rfl rfl rfl (Nat.le_of_ble_eq_true rfl) rfl rfl ?_
      refine WL.nil ?_
      refine WE.then_normal ?_
      refine WC.sub (fr' := [(7, _), (8, _), (9, _), (11, _), (21, _), (22, _), (23, _)]) ?_ ⟨rfl, rfl, rfl, rfl, rfl, rfl, rfl, trivial⟩
      refine WC.seq ?_
      refine WC.region ?_
      refine WL.q (oq_assign rfl) rfl rfl rfl ?_
      refine WL.nil ?_
      refine WE.then_normal ?_
      refine WC.sub (fr' := [(7, _), (8, _), (9, _), (11, _), (12, _), (21, _), (22, _), (23, _)]) ?_ ⟨rfl, rfl, rfl, rfl, rfl, rfl, rfl, rfl, trivial⟩
      refine WC.cut (ι := Nat × Nat × (List UInt8) × (List UInt8) × (List UInt8)) (fun i_ => (fun (s2 : Nat) (e2 : Nat) (l2 : List UInt8) (h2 : List UInt8) (got : List UInt8) => [(7, Pt rb 0), (8, vt), (9, vl), (12, S got), (21, v), (22, I (l.length : Int)), (23, I (i : Int))]) i_.1 i_.2.1 i_.2.2.1 i_.2.2.2.1 i_.2.2.2.2) (fun i_ => (fun (s2 : Nat) (e2 : Nat) (l2 : List UInt8) (h2 : List UInt8) (got : List UInt8) => [[(rb, .cells #[Sl sb 0 sz sz, I (s2 : Int), I (e2 : Int), I ((h2).length : Int)] 92 (0, 0))], Bf sb 5 l2, T, U, A]) i_.1 i_.2.1 i_.2.2.1 i_.2.2.2.1 i_.2.2.2.2) (fun i_ => (fun (s2 : Nat) (e2 : Nat) (l2 : List UInt8) (h2 : List UInt8) (got : List UInt8) => l2.length = sz ∧ Ring l2 s2 e2 h2 ∧ got = rgot h (l.getD i RO0) ∧ h2 = rnext sz h (l.getD i RO0)) i_.1 i_.2.1 i_.2.2.1 i_.2.2.2.1 i_.2.2.2.2) ?_ ?_
      ·
        refine WC.block ?_
        refine WC.seq ?_
        refine WC.region ?_
        refine WL.q (oq_fieldAddr fld35_2 rfl) rfl rfl rfl ?_
        refine WL.q (oq_load flat4 rfl (.head _) (List.mem_singleton.2 rfl) rfl) rfl rfl rfl ?_
        refine WL.q (oq_assign rfl) rfl rfl rfl ?_
        refine WL.nil ?_
        refine WE.then_normal ?_
        refine WC.sub (fr' := [(7, _), (8, _), (9, _), (11, _), (12, _), (21, _), (22, _), (23, _), (32, _)]) ?_ ⟨rfl, rfl, rfl, rfl, rfl, rfl, rfl, rfl, rfl, trivial⟩
        refine WC.cond rfl (fun q9 => ?_) (fun q9 => ?_)
        ·
          try simp only [Bool.not_eq_eq_eq_not, Bool.not_true, Bool.not_false, decide_eq_true_eq, decide_eq_false_iff_not, Int.not_lt, Int.not_le, ne_eq, Decidable.not_not, ← List.length_eq_zero_iff] at q9
          refine WC.region ?_
          refine WL.q (oq_move rfl) rfl rfl rfl ?_
          refine WL.f1 ?_
          refine WL.callW1 (rreset _ rb sb sz _ _ _) call43 rfl rfl rfl fun v10_1 Hs10_1 hR10_1 => ?_
          obtain ⟨rfl, rfl⟩ := hR10_1
          refine WL.to1 ?_
          refine WL.nil ?_
          refine WE.block_normal ?_
          refine WE.f1 ?_
          refine WE.lose hb6_2 ?_
          refine WE.meet (0, 0, l1, [], []) ?_ ⟨rfl, rfl, rfl, (gtv rfl (by first | rfl | (rw [putB_got _ _ _ (by omega)]))), rfl, rfl, rfl, trivial⟩ (List.Perm.refl _)
          try dsimp only
          exact ⟨hl1, Ring.new (by omega), (rg_b (sz := sz) q9).1.symm, (rg_b q9).2.symm⟩   -- meet 0
        ·
          try simp only [Bool.not_eq_eq_eq_not, Bool.not_true, Bool.not_false, decide_eq_true_eq, decide_eq_false_iff_not, Int.not_lt, Int.not_le, ne_eq, Decidable.not_not, ← List.length_eq_zero_iff] at q9
          refine WC.seq ?_
          refine WC.region ?_
          refine WL.q (oq_fieldAddr fld35_1 rfl) rfl rfl rfl ?_
          refine WL.q (oq_load flat3 rfl (.head _) (List.mem_singleton.2 rfl) rfl) rfl rfl rfl ?_
          refine WL.q (oq_gtr rfl rfl) rfl rfl rfl ?_
          refine WL.q (oq_assign rfl) rfl rfl rfl ?_
          refine WL.nil ?_
          refine WE.then_normal ?_
          refine WC.sub (fr' := [(7, _), (8, _), (9, _), (11, _), (12, _), (21, _), (22, _), (23, _), (37, _)]) ?_ ⟨rfl, rfl, rfl, rfl, rfl, rfl, rfl, rfl, rfl, trivial⟩
          refine WC.cond rfl (fun q11 => ?_) (fun q11 => ?_)
          ·
            try simp only [Bool.not_eq_eq_eq_not, Bool.not_true, Bool.not_false, decide_eq_true_eq, decide_eq_false_iff_not, Int.not_lt, Int.not_le, ne_eq, Decidable.not_not, ← List.length_eq_zero_iff] at q11
            refine WC.seq ?_
            obtain ⟨k, hk⟩ : ∃ k : Nat, (l.getD i RO0).n = (k : Int) := ⟨(l.getD i RO0).n.toNat, by have := (hb i (by omega)).2.1; omega⟩
            have hk5 := (hb i (by omega)).2.2
            refine WC.region ?_
            refine WL.q (oq_fieldAddr fld35_1 rfl) rfl rfl rfl ?_
            refine WL.q (oq_load flat3 rfl (.head _) (List.mem_singleton.2 rfl) rfl) rfl rfl rfl ?_
            refine WL.q (oq_min ((k : Int)) rfl rfl (by omega)) rfl rfl rfl ?_
            refine WL.makeB Tryd.underlying22 ty5 rfl rfl (by omega) (by unfold maxLen; omega) rfl rfl fun nb hnb => ?_
            refine WL.q (oq_assign rfl) rfl rfl rfl ?_
            refine WL.nil ?_
            refine WE.then_normal ?_
            refine WC.sub (fr' := [(7, _), (8, _), (9, _), (13, _), (21, _), (22, _), (23, _)]) ?_ ⟨rfl, rfl, rfl, rfl, rfl, rfl, rfl, trivial⟩
            refine WC.seq ?_
            refine WC.region ?_
            refine WL.q (oq_move rfl) rfl rfl rfl ?_
            refine WL.q (oq_move rfl) rfl rfl rfl ?_
            refine WL.f6 ?_
            refine WL.f1 ?_
            refine WL.f4 ?_
            refine WL.f4 ?_
            refine WL.callW4 (rread_ _ rb sb sz l1 s1 e1 h hl1 (by omega) hr1 nb 0 k k (List.replicate k 0) (by simp) (Nat.le_refl _) (by omega) A kE pE hE) call44 rfl rfl rfl fun v13_2 Hs13_2 hR13_2 => ?_
            obtain ⟨s3, kk, eo, hkk, heo, rfl, rfl, hr3⟩ := hR13_2
            have hpl : (putB (List.replicate k 0) 0 (h.take kk)).length = k := by rw [putB_len _ _ _ (by rw [List.length_take, List.length_replicate]; omega), List.length_replicate]
            refine WL.to4 ?_
            refine WL.q (oq_move rfl) rfl rfl rfl ?_
            refine WL.q (oq_extract rfl rfl) rfl rfl rfl ?_
            refine WL.q (oq_extract rfl rfl) rfl rfl rfl ?_
            refine WL.q (oq_assign rfl) rfl rfl rfl ?_
            refine WL.q (oq_assign rfl) rfl rfl rfl ?_
            refine WL.nil ?_
            refine WE.then_normal ?_
            refine WC.sub (fr' := [(7, _), (8, _), (9, _), (13, _), (14, _), (21, _), (22, _), (23, _)]) ?_ ⟨rfl, rfl, rfl, rfl, rfl, rfl, rfl, rfl, trivial⟩
            refine WC.region ?_
            refine WL.q (oq_move rfl) rfl rfl rfl ?_
            refine WL.q (oq_move rfl) rfl rfl rfl ?_
            refine WL.q (oq_sliceSl (j := kk) Tryd.underlying22 ty5 rfl (by (first | omega | (simp; omega))) rfl ⟨_, rfl⟩ (by (first | omega | (simp; omega))) (by (first | omega | (simp; omega)))) rfl rfl rfl ?_
            refine WL.q (oq_bytesStr (Sl.rd (by (first | omega | (simp; omega))) (by (first | omega | (simp; omega)))) (.tail _ (.tail _ (.head _))) Tryd.underlying9 Tryd.underlying22 Tryd.underlying5 rfl) rfl rfl rfl ?_
            refine WL.q (oq_assign rfl) rfl rfl rfl ?_
            refine WL.nil ?_
            refine WE.block_normal ?_
            have hgn := rg_n (h := h) (sz := sz) q9 (by omega)
            have htm := tk_min h k
            rw [hk, Int.toNat_natCast, ← htm.1, ← htm.2, ← hkk] at hgn
            refine WE.f2 ?_
            refine WE.lose hnb ?_
            refine WE.f3 ?_
            refine WE.lose hb6_2 ?_
            refine WE.f2 ?_
            refine WE.f4 ?_
            refine WE.f4 ?_
            refine WE.f4 ?_
            refine WE.f4 ?_
            refine WE.meet (s3, e1, l1, h.drop kk, h.take kk) ?_ ⟨rfl, rfl, rfl, (gtv rfl (by first | rfl | (rw [putB_got _ _ _ (by omega)]))), rfl, rfl, rfl, trivial⟩ (List.Perm.refl _)
            try dsimp only
            exact ⟨hl1, hr3, hgn.1.symm, hgn.2.symm⟩   -- meet 1
          ·
            try simp only [Bool.not_eq_eq_eq_not, Bool.not_true, Bool.not_false, decide_eq_true_eq, decide_eq_false_iff_not, Int.not_lt, Int.not_le, ne_eq, Decidable.not_not, ← List.length_eq_zero_iff] at q11
            refine WC.region ?_
            refine WL.q (oq_move rfl) rfl rfl rfl ?_
            refine WL.q (oq_fieldAddr fld35_0 rfl) rfl rfl rfl ?_
            refine WL.q (oq_load flat9 rfl (.head _) (List.mem_singleton.2 rfl) rfl) rfl rfl rfl ?_
            refine WL.toBytes Tryd.underlying9 Tryd.underlying22 Tryd.underlying5 rfl (by unfold maxLen; omega) rfl rfl fun v8_3 A8_3 hr8_3 hA8_3 => ?_
            refine WL.f3 ?_
            refine WL.f3 ?_
            refine WL.callW3 (rwrite _ rb sb sz l1 s1 e1 h hl1 (by omega) hr1 _ _ (l.getD i RO0).t hr8_3 (by omega)) call45 rfl rfl rfl fun v8_4 Hs8_4 hR8_4 => ?_
            obtain ⟨s3, e3, l3, rfl, rfl, hl3, hr3⟩ := hR8_4
            refine WL.to3 ?_
            refine WL.nil ?_
            refine WE.block_normal ?_
            have hgw := rg_w (h := h) (sz := sz) q9 (by omega)
            refine WE.f2 ?_
            refine WE.forget hA8_3 ?_
            refine WE.f2 ?_
            refine WE.lose hb6_2 ?_
            refine WE.meet (s3, e3, l3, lastn sz (h ++ (l.getD i RO0).t), []) ?_ ⟨rfl, rfl, rfl, (gtv rfl (by first | rfl | (rw [putB_got _ _ _ (by omega)]))), rfl, rfl, rfl, trivial⟩ (List.Perm.refl _)
            try dsimp only
            exact ⟨hl3, hr3, hgw.1.symm, hgw.2.symm⟩   -- meet 2
      · rintro ⟨s2, e2, l2, h2, got⟩ hp
        try dsimp only at hp
        obtain ⟨hl2, hr2, hg2, hh2⟩ := hp
        show WC _ _ _ _ _ _ ([(7, Pt rb 0), (8, vt), (9, vl), (12, S got), (21, v), (22, I (l.length : Int)), (23, I (i : Int))]) ([[(rb, .cells #[Sl sb 0 sz sz, I (s2 : Int), I (e2 : Int), I ((h2).length : Int)] 92 (0, 0))], Bf sb 5 l2, T, U, A])
        refine WC.region ?_
        refine WL.q (oq_move rfl) rfl rfl rfl ?_
        refine WL.q (oq_move rfl) rfl rfl rfl ?_
        refine WL.f2 ?_
        refine WL.append1 hot Tryd.underlying36 ty9 rfl (by decide) (fun _ => rfl) rfl rfl (by unfold maxLen; omega) (by omega) rfl rfl (fun _ => rfl) rfl fun v15 A15 u15 ho15 hne15 => ?_
        refine WL.q (oq_move rfl) rfl rfl rfl ?_
        refine WL.q (oq_move rfl) rfl rfl rfl ?_
        refine WL.qc (oq_callRm (rlen rb _ _ _ _) (.tail _ (.head _)) call46 rfl) rfl rfl rfl ?_
        refine WL.f3 ?_
        refine WL.append1 hou Tryd.underlying37 ty3 rfl (by decide) (fun _ => rfl) rfl rfl (by unfold maxLen; omega) (by omega) rfl rfl (fun _ => rfl) rfl fun v15b A15b u15b ho15b hne15b => ?_
        refine WL.q (oq_assign rfl) rfl rfl rfl ?_
        refine WL.q (oq_assign rfl) rfl rfl rfl ?_
        refine WL.nil ?_
        refine WE.block_normal ?_
        refine WE.then_normal ?_
        refine WC.sub (fr' := [(7, _), (8, _), (9, _), (21, _), (22, _), (23, _)]) ?_ ⟨rfl, rfl, rfl, rfl, rfl, rfl, trivial⟩
        refine WC.region ?_
        refine WL.q (oq_add rfl rfl (by rw [i64_lo, i64_hi]; (first | omega | (simp only [List.length_cons, List.length_nil, List.length_append, List.length_drop, List.length_take]; omega)))) rfl rfl rfl ?_
        refine WL.q (oq_move rfl) rfl rfl rfl ?_
        refine WL.nil ?_
        refine WE.f4 ?_
        refine WE.f1 ?_
        refine WE.f2 ?_
        refine WE.f4 ?_
        refine WE.f4 ?_
        refine WE.again (i + 1, s2, e2, l2, h2, tx ++ [got], lf ++ [(h2.length : Int)], _, _, _, _) ?_ ?_ ⟨rfl, rfl, rfl, rfl, rfl, rfl, trivial⟩ (List.Perm.refl _)
        · try dsimp only   -- again 0
          exact ⟨by omega, by rw [rst_next (by omega) hst, ← hg2, ← hh2], hl2, hr2, by have := ho15; simpa [strsV] using this, by have := ho15b; simpa [intsV] using this⟩
        · (try dsimp only); omega
    ·
      try simp only [Bool.not_eq_eq_eq_not, Bool.not_true, Bool.not_false, decide_eq_true_eq, decide_eq_false_iff_not, Int.not_lt, Int.not_le, ne_eq, Decidable.not_not, ← List.length_eq_zero_iff] at q5
      refine WC.exit ?_
      refine WE.then_exit ?_
      refine WE.then_exit ?_
      refine WE.block_same ?_
      refine WE.then_normal ?_
      refine WC.sub (fr' := [(7, _), (8, _), (9, _)]) ?_ ⟨rfl, rfl, rfl, trivial⟩
      refine WC.seq ?_
      refine WC.tailM (pl := [_, _]) (ql := [_, _, _]) (tl := [_, _, _, _, _]) [0, 1] [2, 3, 4] 5 [7, 8, 6, 9] (by kernel_rfl) (by kernel_rfl) (by kernel_rfl) (by kernel_rfl) (by kernel_rfl) (by kernel_rfl) (by decide) rfl rfl rfl (by decide) (by repeat (first | with_reducible exact QOk.body | with_reducible apply QOk.then | with_reducible apply QOk.block | exact QOk.body | apply QOk.then | apply QOk.block)) ?_
      refine WM.q (fun w0 => oq_move rfl) rfl rfl rfl ?_
      refine WM.q (fun w0 => oq_move rfl) rfl rfl rfl ?_
      refine WM.nil ?_
      refine WY.q (oq_move rfl) rfl rfl rfl ?_
      refine WY.q (oq_nilCheck rfl) rfl rfl rfl ?_
      refine WY.q (oq_loadS [_, _, _, _] agg92 ty92 rfl (.head _) (List.mem_singleton.2 rfl) rfl rfl) rfl rfl rfl ?_
      refine WY.nil ?_
      refine WL.f4 ?_
      refine WL.f2 ?_
      refine WL.callW2 (rbytes _ rb sb sz l1 s1 e1 h hl1 (by omega) hr1 A kE pE hE (by omega)) call47 rfl rfl rfl fun v17_5 Hs17_5 hR17_5 => ?_
      obtain ⟨B, cap, Lb, rfl, rfl, hB, hLb, hcb, hc0, hmb, htb⟩ := hR17_5
      refine WL.to3 ?_
      refine WL.q (oq_assign rfl) rfl rfl rfl ?_
      refine WL.q (oq_assign rfl) rfl rfl rfl ?_
      refine WL.q (oq_bytesStr (Sl.rd (by (first | omega | (simp; omega))) (by (first | omega | (simp; omega)))) (.head _) Tryd.underlying9 Tryd.underlying22 Tryd.underlying5 rfl) rfl rfl rfl ?_
      refine WL.q (oq_assign rfl) rfl rfl rfl ?_
      refine WL.nil ?_
      refine WE.then_normal ?_
      refine WC.sub (fr' := [(4, _), (5, _), (6, _)]) ?_ ⟨rfl, rfl, rfl, trivial⟩
      refine WC.ret ?_
      refine WE.lose hB ?_
      refine WE.lose hsb ?_
      refine WE.f1 ?_
      refine WE.lose hrb ?_
      refine WE.f2 ?_
      refine WE.f2 ?_
      refine WE.cat ?_
      refine WE.endA (.inl rfl) (res3 Tryd.results19 rfl rfl rfl) ?_ (fresh_cat (hot.fresh) (hou.fresh))
      -- end 0
      rw [List.take_of_length_le (by omega)] at hst
      rw [hst]
      exact ⟨vt, vl, T, U, by rw [List.drop_zero, htb], rfl, hot.rd, hou.rd⟩

/-- given.example/pub-tinwright/spec.SRung -/
theorem sRung (v : Value) (A : Hp) (l : List RO) (hr : RdS 3 v A l.length (recsV rof l)) (hn : l.length ≤ 100) (hb : ∀ i, i < l.length → (l.getD i RO0).t.length ≤ 500 ∧ 0 ≤ (l.getD i RO0).n ∧ (l.getD i RO0).n ≤ 5000) (sz : Nat) (hsz : 1 ≤ sz ∧ sz ≤ 1000) : FnA Tryd.prog 20 [I (sz : Int), v] A (fun r N => ∃ vt vl T U, r = .tuple #[vt, vl, S (rst sz l).1] ∧ N = T ++ U ∧ RdS 1 vt T (rst sz l).2.1.length (strsV (rst sz l).2.1) ∧ RdS 1 vl U (rst sz l).2.2.length (intsV .i64 (rst sz l).2.2)) := by
  refine FnA.enter (n := 65) Tryd.func20 rfl rfl fun w0 => ?_
  refine WC.sub (fr' := [(0, _), (1, _)]) ?_ ⟨rfl, rfl, trivial⟩
  refine WC.seq ?_
  refine WC.region ?_
  refine WL.q (oq_assign rfl) rfl rfl rfl ?_
  refine WL.q (oq_assign rfl) rfl rfl rfl ?_
  refine WL.q (oq_assign rfl) rfl rfl rfl ?_
  refine WL.nil ?_
  refine WE.then_normal ?_
  refine WC.sub (fr' := [(0, _), (1, _)]) ?_ ⟨rfl, rfl, trivial⟩
  refine WC.seq ?_
  refine WC.add0 ?_
  refine WC.region ?_
  refine WL.q (oq_assign rfl) rfl rfl rfl ?_
  refine WL.nil ?_
  refine WE.then_normal ?_
  refine WC.sub (fr' := [(0, _), (1, _), (7, _)]) ?_ ⟨rfl, rfl, rfl, trivial⟩
  refine WC.seq ?_
  refine WC.add0 ?_
  refine WC.region ?_
  refine WL.q (oq_assign rfl) rfl rfl rfl ?_
  refine WL.nil ?_
  refine WE.then_normal ?_
  refine WC.sub (fr' := [(0, _), (1, _), (7, _), (8, _)]) ?_ ⟨rfl, rfl, rfl, rfl, trivial⟩
  refine WC.seq ?_
  refine WC.region ?_
  refine WL.q (oq_assign rfl) rfl rfl rfl ?_
  refine WL.nil ?_
  refine WE.then_normal ?_
  refine WC.sub (fr' := [(0, _), (1, _), (7, _), (8, _), (9, _)]) ?_ ⟨rfl, rfl, rfl, rfl, rfl, trivial⟩
  refine WC.seq ?_
  refine WC.seq ?_
  refine WC.region ?_
  refine WL.q (oq_assign rfl) rfl rfl rfl ?_
  refine WL.nil ?_
  refine WE.then_normal ?_
  refine WC.sub (fr' := [(0, _), (1, _), (7, _), (8, _), (9, _), (10, _)]) ?_ ⟨rfl, rfl, rfl, rfl, rfl, rfl, trivial⟩
  refine WC.block ?_
  refine WC.f2 ?_
  refine WC.f1 ?_
  refine WC.f2 ?_
  refine WC.loop (ι := Nat × (List UInt8) × (List (List UInt8)) × (List Int) × Value × Value × Hp × Hp) (fun i_ => (fun (i : Nat) (h : List UInt8) (tx : List (List UInt8)) (lf : List Int) (vt : Value) (vl : Value) (T : Hp) (U : Hp) => [(0, I (sz : Int)), (1, v), (7, vt), (8, vl), (9, S h), (10, I (i : Int))]) i_.1 i_.2.1 i_.2.2.1 i_.2.2.2.1 i_.2.2.2.2.1 i_.2.2.2.2.2.1 i_.2.2.2.2.2.2.1 i_.2.2.2.2.2.2.2) (fun i_ => (fun (i : Nat) (h : List UInt8) (tx : List (List UInt8)) (lf : List Int) (vt : Value) (vl : Value) (T : Hp) (U : Hp) => [T, U, A]) i_.1 i_.2.1 i_.2.2.1 i_.2.2.2.1 i_.2.2.2.2.1 i_.2.2.2.2.2.1 i_.2.2.2.2.2.2.1 i_.2.2.2.2.2.2.2) (fun i_ => (fun (i : Nat) (h : List UInt8) (tx : List (List UInt8)) (lf : List Int) (vt : Value) (vl : Value) (T : Hp) (U : Hp) => i ≤ l.length ∧ rst sz (l.take i) = (h, tx, lf) ∧ OwS w0.heap.size 9 1 vt T tx.length (strsV tx) ∧ OwS w0.heap.size 3 1 vl U lf.length (intsV .i64 lf)) i_.1 i_.2.1 i_.2.2.1 i_.2.2.2.1 i_.2.2.2.2.1 i_.2.2.2.2.2.1 i_.2.2.2.2.2.2.1 i_.2.2.2.2.2.2.2) (fun i_ => (fun (i : Nat) (h : List UInt8) (tx : List (List UInt8)) (lf : List Int) (vt : Value) (vl : Value) (T : Hp) (U : Hp) => l.length - i) i_.1 i_.2.1 i_.2.2.1 i_.2.2.2.1 i_.2.2.2.2.1 i_.2.2.2.2.2.1 i_.2.2.2.2.2.2.1 i_.2.2.2.2.2.2.2) ((0, [], [], [], _, _, _, _)) ?_ ⟨rfl, rfl, rfl, rfl, rfl, rfl, trivial⟩ (List.Perm.refl _) ?_
  · try dsimp only
    exact ⟨by omega, rfl, OwS.nil _ _ _, OwS.nil _ _ _⟩
  · rintro ⟨i, h, tx, lf, vt, vl, T, U⟩ hp
    try dsimp only at hp
    obtain ⟨hi, hst, hot, hou⟩ := hp
    show WC _ _ _ _ _ _ ([(0, I (sz : Int)), (1, v), (7, vt), (8, vl), (9, S h), (10, I (i : Int))]) ([T, U, A])
    have hrl := rst_len sz l i hi
    rw [hst] at hrl
    obtain ⟨hrl1, hrl2, hrl3⟩ := hrl
    dsimp only at hrl1 hrl2 hrl3
    refine WC.seq ?_
    refine WC.seq ?_
    refine WC.region ?_
    refine WL.q (oq_move rfl) rfl rfl rfl ?_
    refine WL.q (oq_move rfl) rfl rfl rfl ?_
    refine WL.q (oq_len_rd hr Tryd.underlying32 rfl) rfl rfl rfl ?_
    refine WL.q (oq_lss rfl rfl) rfl rfl rfl ?_
    refine WL.nil ?_
    refine WE.then_normal ?_
    refine WC.sub (fr' := [(0, _), (1, _), (7, _), (8, _), (9, _), (10, _), (17, _)]) ?_ ⟨rfl, rfl, rfl, rfl, rfl, rfl, rfl, trivial⟩
    refine WC.cond rfl (fun q5 => ?_) (fun q5 => ?_)
    ·
      try simp only [Bool.not_eq_eq_eq_not, Bool.not_true, Bool.not_false, decide_eq_true_eq, decide_eq_false_iff_not, Int.not_lt, Int.not_le, ne_eq, Decidable.not_not, ← List.length_eq_zero_iff] at q5
      refine WC.skip ?_
      refine WE.then_normal ?_
      refine WC.sub (fr' := [(0, _), (1, _), (7, _), (8, _), (9, _), (10, _)]) ?_ ⟨rfl, rfl, rfl, rfl, rfl, rfl, trivial⟩
      refine WC.seq ?_
      refine WC.block ?_
      refine WC.seq ?_
      have hbi := hb i (by omega)
      refine WC.region ?_
      refine WL.q (oq_move rfl) rfl rfl rfl ?_
      refine WL.q (oq_move rfl) rfl rfl rfl ?_
      refine WL.q (oq_ixaddr hr Tryd.underlying32 ty35 rfl rfl (by (first | omega | (simp only [List.length_cons, List.length_nil, List.length_append, List.length_drop, List.length_take]; omega)))) rfl rfl rfl ?_
      refine WL.q (oq_loadEl (f := rof) RO0 [_, _, _] (fun _ => rfl) agg35 ty35 hr (.tail _ (.tail _ (.head _))) rfl (by (first | omega | (simp only [List.length_cons, List.length_nil, List.length_append, List.length_drop, List.length_take]; omega))) (by first | exact Int.toNat_natCast _ | exact rfl) rfl) rfl rfl rfl ?_
      refine WL.alloc ty35 rfl rfl fun b7_4 hb7_4 => ?_
      refine WL.storeS #[_, _, _] ty35 rfl rfl rfl rfl (Nat.le_of_ble_eq_true rfl) rfl rfl ?_
      refine WL.nil ?_
      refine WE.then_normal ?_
      refine WC.sub (fr' := [(0, _), (1, _), (7, _), (8, _), (9, _), (10, _), (11, _)]) ?_ ⟨rfl, rfl, rfl, rfl, rfl, rfl, rfl, trivial⟩
      refine WC.seq ?_
      refine WC.region ?_
      refine WL.q (oq_assign rfl) rfl rfl rfl ?_
      refine WL.nil ?_
      refine WE.then_normal ?_
      refine WC.sub (fr' := [(0, _), (1, _), (7, _), (8, _), (9, _), (10, _), (11, _), (12, _)]) ?_ ⟨rfl, rfl, rfl, rfl, rfl, rfl, rfl, rfl, trivial⟩
      refine WC.cut (ι := (List UInt8) × (List UInt8)) (fun i_ => (fun (h2 : List UInt8) (got : List UInt8) => [(0, I (sz : Int)), (1, v), (7, vt), (8, vl), (9, S h2), (10, I (i : Int)), (12, S got)]) i_.1 i_.2) (fun i_ => (fun (h2 : List UInt8) (got : List UInt8) => [T, U, A]) i_.1 i_.2) (fun i_ => (fun (h2 : List UInt8) (got : List UInt8) => got = rgot h (l.getD i RO0) ∧ h2 = rnext sz h (l.getD i RO0)) i_.1 i_.2) ?_ ?_
      ·
        refine WC.block ?_
        refine WC.seq ?_
        refine WC.region ?_
        refine WL.q (oq_fieldAddr fld35_2 rfl) rfl rfl rfl ?_
        refine WL.q (oq_load flat4 rfl (.head _) (List.mem_singleton.2 rfl) rfl) rfl rfl rfl ?_
        refine WL.q (oq_assign rfl) rfl rfl rfl ?_
        refine WL.nil ?_
        refine WE.then_normal ?_
        refine WC.sub (fr' := [(0, _), (1, _), (7, _), (8, _), (9, _), (10, _), (11, _), (12, _), (35, _)]) ?_ ⟨rfl, rfl, rfl, rfl, rfl, rfl, rfl, rfl, rfl, trivial⟩
        refine WC.cond rfl (fun q11 => ?_) (fun q11 => ?_)
        ·
          try simp only [Bool.not_eq_eq_eq_not, Bool.not_true, Bool.not_false, decide_eq_true_eq, decide_eq_false_iff_not, Int.not_lt, Int.not_le, ne_eq, Decidable.not_not, ← List.length_eq_zero_iff] at q11
          refine WC.region ?_
          refine WL.q (oq_assign rfl) rfl rfl rfl ?_
          refine WL.nil ?_
          refine WE.block_normal ?_
          refine WE.lose hb7_4 ?_
          refine WE.meet ([], []) ?_ ⟨rfl, rfl, rfl, rfl, (gtv rfl (by first | rfl | (unfold lastn; rw [← hd, Int.toNat_natCast]; done) | (rw [Int.toNat_natCast]))), rfl, (gtv rfl (by first | rfl | (rw [cut_take]; done) | (unfold cut; simp))), trivial⟩ (List.Perm.refl _)
          try dsimp only
          exact ⟨(rg_b (sz := sz) q11).1.symm, (rg_b q11).2.symm⟩   -- meet 0
        ·
          try simp only [Bool.not_eq_eq_eq_not, Bool.not_true, Bool.not_false, decide_eq_true_eq, decide_eq_false_iff_not, Int.not_lt, Int.not_le, ne_eq, Decidable.not_not, ← List.length_eq_zero_iff] at q11
          refine WC.seq ?_
          refine WC.region ?_
          refine WL.q (oq_fieldAddr fld35_1 rfl) rfl rfl rfl ?_
          refine WL.q (oq_load flat3 rfl (.head _) (List.mem_singleton.2 rfl) rfl) rfl rfl rfl ?_
          refine WL.q (oq_gtr rfl rfl) rfl rfl rfl ?_
          refine WL.q (oq_assign rfl) rfl rfl rfl ?_
          refine WL.nil ?_
          refine WE.then_normal ?_
          refine WC.sub (fr' := [(0, _), (1, _), (7, _), (8, _), (9, _), (10, _), (11, _), (12, _), (38, _)]) ?_ ⟨rfl, rfl, rfl, rfl, rfl, rfl, rfl, rfl, rfl, trivial⟩
          refine WC.cond rfl (fun q13 => ?_) (fun q13 => ?_)
          ·
            try simp only [Bool.not_eq_eq_eq_not, Bool.not_true, Bool.not_false, decide_eq_true_eq, decide_eq_false_iff_not, Int.not_lt, Int.not_le, ne_eq, Decidable.not_not, ← List.length_eq_zero_iff] at q13
            refine WC.seq ?_
            obtain ⟨k, hk⟩ : ∃ k : Nat, (l.getD i RO0).n = (k : Int) := ⟨(l.getD i RO0).n.toNat, by have := (hb i (by omega)).2.1; omega⟩
            obtain ⟨kk, hkk⟩ : ∃ kk, kk = min k h.length := ⟨_, rfl⟩
            refine WC.region ?_
            refine WL.q (oq_fieldAddr fld35_1 rfl) rfl rfl rfl ?_
            refine WL.q (oq_load flat3 rfl (.head _) (List.mem_singleton.2 rfl) rfl) rfl rfl rfl ?_
            refine WL.q (oq_move rfl) rfl rfl rfl ?_
            refine WL.q (oq_len_s Tryd.underlying9 rfl) rfl rfl rfl ?_
            refine WL.q (oq_min ((kk : Int)) rfl rfl (by omega)) rfl rfl rfl ?_
            refine WL.q (oq_assign rfl) rfl rfl rfl ?_
            refine WL.nil ?_
            refine WE.then_normal ?_
            refine WC.sub (fr' := [(0, _), (1, _), (7, _), (8, _), (9, _), (10, _), (13, _)]) ?_ ⟨rfl, rfl, rfl, rfl, rfl, rfl, rfl, trivial⟩
            refine WC.quiet (by kernel_rfl) (by kernel_rfl) ?_
            refine WQ.q (oq_move rfl) rfl rfl rfl ?_
            refine WQ.q (oq_move rfl) rfl rfl rfl ?_
            refine WQ.q (oq_slice_s0 Tryd.underlying9 rfl rfl (by (first | omega | (simp only [List.length_cons, List.length_nil, List.length_append, List.length_drop, List.length_take]; omega)))) rfl rfl rfl ?_
            refine WQ.q (oq_move rfl) rfl rfl rfl ?_
            refine WQ.q (oq_move rfl) rfl rfl rfl ?_
            refine WQ.q (oq_slice_s1 Tryd.underlying9 rfl rfl (by (first | omega | (simp only [List.length_cons, List.length_nil, List.length_append, List.length_drop, List.length_take]; omega)))) rfl rfl rfl ?_
            refine WQ.q (oq_assign rfl) rfl rfl rfl ?_
            refine WQ.q (oq_assign rfl) rfl rfl rfl ?_
            refine WQ.nil ?_
            refine WE.block_normal ?_
            have hgn := rg_n (h := h) (sz := sz) q11 (by omega)
            have htm := tk_min h k
            rw [hk, Int.toNat_natCast, ← htm.1, ← htm.2, ← hkk] at hgn
            refine WE.lose hb7_4 ?_
            refine WE.meet (h.drop kk, h.take kk) ?_ ⟨rfl, rfl, rfl, rfl, (gtv rfl (by first | rfl | (unfold lastn; rw [← hd, Int.toNat_natCast]; done) | (rw [Int.toNat_natCast]))), rfl, (gtv rfl (by first | rfl | (rw [cut_take]; done) | (unfold cut; simp))), trivial⟩ (List.Perm.refl _)
            try dsimp only
            exact ⟨hgn.1.symm, hgn.2.symm⟩   -- meet 1
          ·
            try simp only [Bool.not_eq_eq_eq_not, Bool.not_true, Bool.not_false, decide_eq_true_eq, decide_eq_false_iff_not, Int.not_lt, Int.not_le, ne_eq, Decidable.not_not, ← List.length_eq_zero_iff] at q13
            refine WC.seq ?_
            refine WC.region ?_
            refine WL.q (oq_move rfl) rfl rfl rfl ?_
            refine WL.q (oq_fieldAddr fld35_0 rfl) rfl rfl rfl ?_
            refine WL.q (oq_load flat9 rfl (.head _) (List.mem_singleton.2 rfl) rfl) rfl rfl rfl ?_
            refine WL.q (oq_concat rfl rfl (by (first | omega | (simp only [List.length_cons, List.length_nil, List.length_append, List.length_drop, List.length_take]; omega)))) rfl rfl rfl ?_
            refine WL.q (oq_assign rfl) rfl rfl rfl ?_
            refine WL.nil ?_
            refine WE.then_normal ?_
            refine WC.sub (fr' := [(0, _), (1, _), (7, _), (8, _), (9, _), (10, _), (12, _)]) ?_ ⟨rfl, rfl, rfl, rfl, rfl, rfl, rfl, trivial⟩
            obtain ⟨d, hd⟩ : ∃ d, d = (h ++ (l.getD i RO0).t).length - sz := ⟨_, rfl⟩
            have hdl : (h ++ (l.getD i RO0).t).length = h.length + (l.getD i RO0).t.length := List.length_append
            refine WC.region ?_
            refine WL.q (oq_move rfl) rfl rfl rfl ?_
            refine WL.q (oq_move rfl) rfl rfl rfl ?_
            refine WL.q (oq_len_s Tryd.underlying9 rfl) rfl rfl rfl ?_
            refine WL.q (oq_move rfl) rfl rfl rfl ?_
            refine WL.q (oq_sub rfl rfl (by rw [i64_lo, i64_hi]; (first | omega | (simp only [List.length_cons, List.length_nil, List.length_append, List.length_drop, List.length_take]; omega)))) rfl rfl rfl ?_
            refine WL.q (oq_max ((d : Int)) rfl rfl (by omega)) rfl rfl rfl ?_
            refine WL.q (oq_slice_s1 Tryd.underlying9 rfl rfl (by (first | omega | (simp only [List.length_cons, List.length_nil, List.length_append, List.length_drop, List.length_take]; omega)))) rfl rfl rfl ?_
            refine WL.q (oq_assign rfl) rfl rfl rfl ?_
            refine WL.nil ?_
            refine WE.block_normal ?_
            have hgw := rg_w (h := h) (sz := sz) q11 (by omega)
            refine WE.lose hb7_4 ?_
            refine WE.meet (lastn sz (h ++ (l.getD i RO0).t), []) ?_ ⟨rfl, rfl, rfl, rfl, (gtv rfl (by first | rfl | (unfold lastn; rw [← hd, Int.toNat_natCast]; done) | (rw [Int.toNat_natCast]))), rfl, (gtv rfl (by first | rfl | (rw [cut_take]; done) | (unfold cut; simp))), trivial⟩ (List.Perm.refl _)
            try dsimp only
            exact ⟨hgw.1.symm, hgw.2.symm⟩   -- meet 2
      · rintro ⟨h2, got⟩ hp
        try dsimp only at hp
        obtain ⟨hg2, hh2⟩ := hp
        show WC _ _ _ _ _ _ ([(0, I (sz : Int)), (1, v), (7, vt), (8, vl), (9, S h2), (10, I (i : Int)), (12, S got)]) ([T, U, A])
        have hl2 := rnext_len sz h (l.getD i RO0) (by omega)
        rw [← hh2] at hl2
        refine WC.region ?_
        refine WL.q (oq_move rfl) rfl rfl rfl ?_
        refine WL.q (oq_move rfl) rfl rfl rfl ?_
        refine WL.append1 hot Tryd.underlying36 ty9 rfl (by decide) (fun _ => rfl) rfl rfl (by unfold maxLen; omega) (by omega) rfl rfl (fun _ => rfl) rfl fun v16 A16 u16 ho16 hne16 => ?_
        refine WL.q (oq_move rfl) rfl rfl rfl ?_
        refine WL.q (oq_move rfl) rfl rfl rfl ?_
        refine WL.q (oq_len_s Tryd.underlying9 rfl) rfl rfl rfl ?_
        refine WL.f1 ?_
        refine WL.append1 hou Tryd.underlying37 ty3 rfl (by decide) (fun _ => rfl) rfl rfl (by unfold maxLen; omega) (by omega) rfl rfl (fun _ => rfl) rfl fun v16b A16b u16b ho16b hne16b => ?_
        refine WL.q (oq_assign rfl) rfl rfl rfl ?_
        refine WL.q (oq_assign rfl) rfl rfl rfl ?_
        refine WL.nil ?_
        refine WE.block_normal ?_
        refine WE.then_normal ?_
        refine WC.sub (fr' := [(0, _), (1, _), (7, _), (8, _), (9, _), (10, _)]) ?_ ⟨rfl, rfl, rfl, rfl, rfl, rfl, trivial⟩
        refine WC.region ?_
        refine WL.q (oq_move rfl) rfl rfl rfl ?_
        refine WL.q (oq_add rfl rfl (by rw [i64_lo, i64_hi]; (first | omega | (simp only [List.length_cons, List.length_nil, List.length_append, List.length_drop, List.length_take]; omega)))) rfl rfl rfl ?_
        refine WL.q (oq_assign rfl) rfl rfl rfl ?_
        refine WL.nil ?_
        refine WE.f2 ?_
        refine WE.f1 ?_
        refine WE.f2 ?_
        refine WE.again (i + 1, h2, tx ++ [got], lf ++ [(h2.length : Int)], _, _, _, _) ?_ ?_ ⟨rfl, rfl, rfl, rfl, rfl, rfl, trivial⟩ (List.Perm.refl _)
        · try dsimp only   -- again 0
          exact ⟨by omega, by rw [rst_next (by omega) hst, ← hg2, ← hh2], by have := ho16; simpa [strsV] using this, by have := ho16b; simpa [intsV] using this⟩
        · (try dsimp only); omega
    ·
      try simp only [Bool.not_eq_eq_eq_not, Bool.not_true, Bool.not_false, decide_eq_true_eq, decide_eq_false_iff_not, Int.not_lt, Int.not_le, ne_eq, Decidable.not_not, ← List.length_eq_zero_iff] at q5
      refine WC.exit ?_
      refine WE.then_exit ?_
      refine WE.then_exit ?_
      refine WE.block_same ?_
      refine WE.then_normal ?_
      refine WC.sub (fr' := [(7, _), (8, _), (9, _)]) ?_ ⟨rfl, rfl, rfl, trivial⟩
      refine WC.seq ?_
      refine WC.region ?_
      refine WL.q (oq_move rfl) rfl rfl rfl ?_
      refine WL.q (oq_move rfl) rfl rfl rfl ?_
      refine WL.q (oq_move rfl) rfl rfl rfl ?_
      refine WL.q (oq_assign rfl) rfl rfl rfl ?_
      refine WL.q (oq_assign rfl) rfl rfl rfl ?_
      refine WL.q (oq_assign rfl) rfl rfl rfl ?_
      refine WL.nil ?_
      refine WE.then_normal ?_
      refine WC.sub (fr' := [(4, _), (5, _), (6, _)]) ?_ ⟨rfl, rfl, rfl, trivial⟩
      refine WC.ret ?_
      refine WE.cat ?_
      refine WE.endA (.inl rfl) (res3 Tryd.results20 rfl rfl rfl) ?_ (fresh_cat (hot.fresh) (hou.fresh))
      -- end 0
      rw [List.take_of_length_le (by omega)] at hst
      rw [hst]
      exact ⟨vt, vl, T, U, rfl, rfl, hot.rd, hou.rd⟩

/-- given.example/pub-tinwright/laws.wSame -/
theorem wSame (va vb : Value) (C : Hp) (la lb : List (List UInt8)) (ha : RdS 1 va C la.length (strsV la)) (hb : RdS 1 vb C lb.length (strsV lb)) (hl : la.length ≤ 9000000000) : FnR Tryd.prog 21 [va, vb] C (.bool (decide (la = lb))) := by
  refine FnR.enter (n := 26) Tryd.func21 rfl rfl fun w0 => ?_
  refine WC.sub (fr' := [(0, _), (1, _)]) ?_ ⟨rfl, rfl, trivial⟩
  refine WC.seq ?_
  refine WC.region ?_
  refine WL.q (oq_assign rfl) rfl rfl rfl ?_
  refine WL.nil ?_
  refine WE.then_normal ?_
  refine WC.sub (fr' := [(0, _), (1, _)]) ?_ ⟨rfl, rfl, trivial⟩
  refine WC.seq ?_
  refine WC.seq ?_
  refine WC.region ?_
  refine WL.q (oq_move rfl) rfl rfl rfl ?_
  refine WL.q (oq_len_rd ha Tryd.underlying36 rfl) rfl rfl rfl ?_
  refine WL.q (oq_move rfl) rfl rfl rfl ?_
  refine WL.q (oq_len_rd hb Tryd.underlying36 rfl) rfl rfl rfl ?_
  refine WL.q (oq_neq rfl rfl) rfl rfl rfl ?_
  refine WL.nil ?_
  refine WE.then_normal ?_
  refine WC.sub (fr' := [(0, _), (1, _), (10, _)]) ?_ ⟨rfl, rfl, rfl, trivial⟩
  refine WC.cond rfl (fun q1 => ?_) (fun q1 => ?_)
  ·
    try simp only [Bool.not_eq_eq_eq_not, Bool.not_true, Bool.not_false, decide_eq_true_eq, decide_eq_false_iff_not, Int.not_lt, Int.not_le, ne_eq, Decidable.not_not, ← List.length_eq_zero_iff] at q1
    refine WC.seq ?_
    refine WC.region ?_
    refine WL.q (oq_assign rfl) rfl rfl rfl ?_
    refine WL.nil ?_
    refine WE.then_normal ?_
    refine WC.sub (fr' := [(4, _)]) ?_ ⟨rfl, trivial⟩
    refine WC.ret ?_
    refine WE.then_ret ?_
    refine WE.endR (.inl rfl) (res1 Tryd.results21 rfl) ?_
    -- end 0
    rw [decide_eq_false (fun e => q1 (by rw [e]))]
  ·
    try simp only [Bool.not_eq_eq_eq_not, Bool.not_true, Bool.not_false, decide_eq_true_eq, decide_eq_false_iff_not, Int.not_lt, Int.not_le, ne_eq, Decidable.not_not, ← List.length_eq_zero_iff] at q1
    refine WC.skip ?_
    refine WE.then_normal ?_
    refine WC.sub (fr' := [(0, _), (1, _)]) ?_ ⟨rfl, rfl, trivial⟩
    refine WC.seq ?_
    refine WC.seq ?_
    refine WC.region ?_
    refine WL.q (oq_assign rfl) rfl rfl rfl ?_
    refine WL.nil ?_
    refine WE.then_normal ?_
    refine WC.sub (fr' := [(0, _), (1, _), (5, _)]) ?_ ⟨rfl, rfl, rfl, trivial⟩
    refine WC.block ?_
    refine WC.loop (ι := Nat) (fun (i : Nat) => [(0, va), (1, vb), (5, I (i : Int))]) (fun (i : Nat) => [C]) (fun (i : Nat) => i ≤ la.length ∧ la.take i = lb.take i) (fun (i : Nat) => la.length - i) (0) ?_ ⟨rfl, rfl, rfl, trivial⟩ (List.Perm.refl _) ?_
    · try dsimp only
      exact ⟨by omega, rfl⟩
    · rintro i hp
      try dsimp only at hp
      obtain ⟨hi, hf⟩ := hp
      show WC _ _ _ _ _ _ ([(0, va), (1, vb), (5, I (i : Int))]) ([C])
      refine WC.seq ?_
      refine WC.seq ?_
      refine WC.region ?_
      refine WL.q (oq_move rfl) rfl rfl rfl ?_
      refine WL.q (oq_move rfl) rfl rfl rfl ?_
      refine WL.q (oq_len_rd ha Tryd.underlying36 rfl) rfl rfl rfl ?_
      refine WL.q (oq_lss rfl rfl) rfl rfl rfl ?_
      refine WL.nil ?_
      refine WE.then_normal ?_
      refine WC.sub (fr' := [(0, _), (1, _), (5, _), (14, _)]) ?_ ⟨rfl, rfl, rfl, rfl, trivial⟩
      refine WC.cond rfl (fun q4 => ?_) (fun q4 => ?_)
      ·
        try simp only [Bool.not_eq_eq_eq_not, Bool.not_true, Bool.not_false, decide_eq_true_eq, decide_eq_false_iff_not, Int.not_lt, Int.not_le, ne_eq, Decidable.not_not, ← List.length_eq_zero_iff] at q4
        refine WC.skip ?_
        refine WE.then_normal ?_
        refine WC.sub (fr' := [(0, _), (1, _), (5, _)]) ?_ ⟨rfl, rfl, rfl, trivial⟩
        refine WC.seq ?_
        refine WC.block ?_
        refine WC.seq ?_
        refine WC.quiet (by kernel_rfl) (by kernel_rfl) ?_
        refine WQ.q (oq_move rfl) rfl rfl rfl ?_
        refine WQ.q (oq_move rfl) rfl rfl rfl ?_
        refine WQ.q (oq_ixaddr ha Tryd.underlying36 ty9 rfl rfl (by (first | omega | (simp only [List.length_cons, List.length_nil, List.length_append, List.length_drop, List.length_take]; omega)))) rfl rfl rfl ?_
        refine WQ.q (oq_load_str ha (.head _) flat9 rfl (by (first | omega | (simp only [List.length_cons, List.length_nil, List.length_append, List.length_drop, List.length_take]; omega))) (by first | exact Int.toNat_natCast _ | exact rfl)) rfl rfl rfl ?_
        refine WQ.q (oq_move rfl) rfl rfl rfl ?_
        refine WQ.q (oq_move rfl) rfl rfl rfl ?_
        refine WQ.q (oq_ixaddr hb Tryd.underlying36 ty9 rfl rfl (by (first | omega | (simp only [List.length_cons, List.length_nil, List.length_append, List.length_drop, List.length_take]; omega)))) rfl rfl rfl ?_
        refine WQ.q (oq_load_str hb (.head _) flat9 rfl (by (first | omega | (simp only [List.length_cons, List.length_nil, List.length_append, List.length_drop, List.length_take]; omega))) (by first | exact Int.toNat_natCast _ | exact rfl)) rfl rfl rfl ?_
        refine WQ.q (oq_sneq rfl rfl) rfl rfl rfl ?_
        refine WQ.nil ?_
        refine WE.then_normal ?_
        refine WC.sub (fr' := [(0, _), (1, _), (5, _), (25, _)]) ?_ ⟨rfl, rfl, rfl, rfl, trivial⟩
        refine WC.cond rfl (fun q6 => ?_) (fun q6 => ?_)
        ·
          try simp only [Bool.not_eq_eq_eq_not, Bool.not_true, Bool.not_false, decide_eq_true_eq, decide_eq_false_iff_not, Int.not_lt, Int.not_le, ne_eq, Decidable.not_not, ← List.length_eq_zero_iff] at q6
          refine WC.seq ?_
          refine WC.region ?_
          refine WL.q (oq_assign rfl) rfl rfl rfl ?_
          refine WL.nil ?_
          refine WE.then_normal ?_
          refine WC.sub (fr' := [(4, _)]) ?_ ⟨rfl, trivial⟩
          refine WC.ret ?_
          refine WE.block_ret ?_
          refine WE.then_ret ?_
          refine WE.then_ret ?_
          refine WE.block_ret ?_
          refine WE.then_ret ?_
          refine WE.endR (.inl rfl) (res1 Tryd.results21 rfl) ?_
          -- end 1
          rw [decide_eq_false (fun e => q6 (by rw [e]))]
        ·
          try simp only [Bool.not_eq_eq_eq_not, Bool.not_true, Bool.not_false, decide_eq_true_eq, decide_eq_false_iff_not, Int.not_lt, Int.not_le, ne_eq, Decidable.not_not, ← List.length_eq_zero_iff] at q6
          refine WC.skip ?_
          refine WE.block_normal ?_
          refine WE.then_normal ?_
          refine WC.sub (fr' := [(0, _), (1, _), (5, _)]) ?_ ⟨rfl, rfl, rfl, trivial⟩
          refine WC.region ?_
          refine WL.q (oq_move rfl) rfl rfl rfl ?_
          refine WL.q (oq_add rfl rfl (by rw [i64_lo, i64_hi]; (first | omega | (simp only [List.length_cons, List.length_nil, List.length_append, List.length_drop, List.length_take]; omega)))) rfl rfl rfl ?_
          refine WL.q (oq_assign rfl) rfl rfl rfl ?_
          refine WL.nil ?_
          refine WE.again (i + 1) ?_ ?_ ⟨rfl, rfl, rfl, trivial⟩ (List.Perm.refl _)
          · try dsimp only   -- again 0
            exact ⟨by omega, take_eq hf (by omega) (by omega) q6⟩
          · (try dsimp only); omega
      ·
        try simp only [Bool.not_eq_eq_eq_not, Bool.not_true, Bool.not_false, decide_eq_true_eq, decide_eq_false_iff_not, Int.not_lt, Int.not_le, ne_eq, Decidable.not_not, ← List.length_eq_zero_iff] at q4
        refine WC.exit ?_
        refine WE.then_exit ?_
        refine WE.then_exit ?_
        refine WE.block_same ?_
        refine WE.then_normal ?_
        refine WC.sub (fr' := []) ?_ trivial
        refine WC.seq ?_
        refine WC.region ?_
        refine WL.q (oq_assign rfl) rfl rfl rfl ?_
        refine WL.nil ?_
        refine WE.then_normal ?_
        refine WC.sub (fr' := [(4, _)]) ?_ ⟨rfl, trivial⟩
        refine WC.ret ?_
        refine WE.endR (.inl rfl) (res1 Tryd.results21 rfl) ?_
        -- end 2
        rw [decide_eq_true]; rwa [List.take_of_length_le (by omega), List.take_of_length_le (by omega)] at hf

/-- given.example/pub-tinwright/laws.FnSRing -/
theorem law (v : Value) (A : Hp) (l : List RO) (hr : RdS 3 v A l.length (recsV rof l)) (kE : TypeId) (pE : Addr) (hE : Eof A kE pE) (s : Int) (hs : -9223372036854775808 ≤ s ∧ s ≤ 9223372036854775807) : FnR Tryd.prog 6 [I s, v] A (.bool true) := by
  refine FnR.enter (n := 104) Tryd.func6 rfl rfl fun w0 => ?_
  refine WC.sub (fr' := [(0, _), (1, _)]) ?_ ⟨rfl, rfl, trivial⟩
  refine WC.seq ?_
  refine WC.region ?_
  refine WL.q (oq_assign rfl) rfl rfl rfl ?_
  refine WL.nil ?_
  refine WE.then_normal ?_
  refine WC.sub (fr' := [(0, _), (1, _)]) ?_ ⟨rfl, rfl, trivial⟩
  refine WC.seq ?_
  refine WC.seq ?_
  refine WC.region ?_
  refine WL.q (oq_move rfl) rfl rfl rfl ?_
  refine WL.qc (oq_callRm (fits16 v A l hr) (.head _) call18 rfl) rfl rfl rfl ?_
  refine WL.q (oq_not rfl) rfl rfl rfl ?_
  refine WL.nil ?_
  refine WE.then_normal ?_
  refine WC.sub (fr' := [(0, _), (1, _), (15, _)]) ?_ ⟨rfl, rfl, rfl, trivial⟩
  refine WC.cond rfl (fun q1 => ?_) (fun q1 => ?_)
  ·
    try simp only [Bool.not_eq_eq_eq_not, Bool.not_true, Bool.not_false, decide_eq_true_eq, decide_eq_false_iff_not, Int.not_lt, Int.not_le, ne_eq, Decidable.not_not, ← List.length_eq_zero_iff] at q1
    refine WC.seq ?_
    refine WC.region ?_
    refine WL.q (oq_assign rfl) rfl rfl rfl ?_
    refine WL.nil ?_
    refine WE.then_normal ?_
    refine WC.sub (fr' := [(4, _)]) ?_ ⟨rfl, trivial⟩
    refine WC.ret ?_
    refine WE.then_ret ?_
    refine WE.endR (.inl rfl) (res1 Tryd.results6 rfl) ?_
    -- end 0
    first | rfl | (exfalso; simp_all; done)
  ·
    try simp only [Bool.not_eq_eq_eq_not, Bool.not_true, Bool.not_false, decide_eq_true_eq, decide_eq_false_iff_not, Int.not_lt, Int.not_le, ne_eq, Decidable.not_not, ← List.length_eq_zero_iff] at q1
    refine WC.skip ?_
    refine WE.then_normal ?_
    refine WC.sub (fr' := [(0, _), (1, _)]) ?_ ⟨rfl, rfl, trivial⟩
    refine WC.seq ?_
    refine WC.seq ?_
    refine WC.region ?_
    refine WL.q (oq_move rfl) rfl rfl rfl ?_
    refine WL.q (oq_lss rfl rfl) rfl rfl rfl ?_
    refine WL.q (oq_move rfl) rfl rfl rfl ?_
    refine WL.split 18 rfl (fun s3_2 => ?_) (fun s3_2 => ?_)
    ·
      try simp only [Bool.not_eq_eq_eq_not, Bool.not_true, Bool.not_false, decide_eq_true_eq, decide_eq_false_iff_not, Int.not_lt, Int.not_le, ne_eq, Decidable.not_not, ← List.length_eq_zero_iff] at s3_2
      refine WL.skip rfl rfl rfl ?_
      refine WL.skip rfl rfl rfl ?_
      refine WL.q (oq_pick_t rfl rfl) rfl rfl rfl ?_
      refine WL.q (oq_move rfl) rfl rfl rfl ?_
      refine WL.skip rfl rfl rfl ?_
      refine WL.skip rfl rfl rfl ?_
      refine WL.skip rfl rfl rfl ?_
      refine WL.q (oq_pick_t rfl rfl) rfl rfl rfl ?_
      refine WL.nil ?_
      refine WE.then_normal ?_
      refine WC.sub (fr' := [(0, _), (1, _), (26, _)]) ?_ ⟨rfl, rfl, rfl, trivial⟩
      refine WC.cond_t rfl ?_
      refine WC.seq ?_
      refine WC.region ?_
      refine WL.qc (oq_call (L2.eAwake) call10 rfl) rfl rfl rfl ?_
      refine WL.q (oq_assign rfl) rfl rfl rfl ?_
      refine WL.nil ?_
      refine WE.then_normal ?_
      refine WC.sub (fr' := [(4, _)]) ?_ ⟨rfl, trivial⟩
      refine WC.ret ?_
      refine WE.then_ret ?_
      refine WE.endR (.inl rfl) (res1 Tryd.results6 rfl) ?_
      -- end 1
      first | rfl | (exfalso; simp_all; done)
    ·
      try simp only [Bool.not_eq_eq_eq_not, Bool.not_true, Bool.not_false, decide_eq_true_eq, decide_eq_false_iff_not, Int.not_lt, Int.not_le, ne_eq, Decidable.not_not, ← List.length_eq_zero_iff] at s3_2
      refine WL.q (oq_move rfl) rfl rfl rfl ?_
      refine WL.q (oq_gtr rfl rfl) rfl rfl rfl ?_
      refine WL.q (oq_pick_f rfl rfl) rfl rfl rfl ?_
      refine WL.q (oq_move rfl) rfl rfl rfl ?_
      refine WL.split 22 rfl (fun s3_6 => ?_) (fun s3_6 => ?_)
      ·
        try simp only [Bool.not_eq_eq_eq_not, Bool.not_true, Bool.not_false, decide_eq_true_eq, decide_eq_false_iff_not, Int.not_lt, Int.not_le, ne_eq, Decidable.not_not, ← List.length_eq_zero_iff] at s3_6
        refine WL.skip rfl rfl rfl ?_
        refine WL.skip rfl rfl rfl ?_
        refine WL.skip rfl rfl rfl ?_
        refine WL.q (oq_pick_t rfl rfl) rfl rfl rfl ?_
        refine WL.nil ?_
        refine WE.then_normal ?_
        refine WC.sub (fr' := [(0, _), (1, _), (26, _)]) ?_ ⟨rfl, rfl, rfl, trivial⟩
        refine WC.cond_t rfl ?_
        refine WC.seq ?_
        refine WC.region ?_
        refine WL.qc (oq_call (L2.eAwake) call10 rfl) rfl rfl rfl ?_
        refine WL.q (oq_assign rfl) rfl rfl rfl ?_
        refine WL.nil ?_
        refine WE.then_normal ?_
        refine WC.sub (fr' := [(4, _)]) ?_ ⟨rfl, trivial⟩
        refine WC.ret ?_
        refine WE.then_ret ?_
        refine WE.endR (.inl rfl) (res1 Tryd.results6 rfl) ?_
        -- end 2
        first | rfl | (exfalso; simp_all; done)
      ·
        try simp only [Bool.not_eq_eq_eq_not, Bool.not_true, Bool.not_false, decide_eq_true_eq, decide_eq_false_iff_not, Int.not_lt, Int.not_le, ne_eq, Decidable.not_not, ← List.length_eq_zero_iff] at s3_6
        refine WL.q (oq_move rfl) rfl rfl rfl ?_
        refine WL.q (oq_len_rd hr Tryd.underlying32 rfl) rfl rfl rfl ?_
        refine WL.q (oq_gtr rfl rfl) rfl rfl rfl ?_
        refine WL.q (oq_pick_f rfl rfl) rfl rfl rfl ?_
        refine WL.nil ?_
        refine WE.then_normal ?_
        refine WC.sub (fr' := [(0, _), (1, _), (26, _)]) ?_ ⟨rfl, rfl, rfl, trivial⟩
        refine WC.cond rfl (fun q3 => ?_) (fun q3 => ?_)
        ·
          try simp only [Bool.not_eq_eq_eq_not, Bool.not_true, Bool.not_false, decide_eq_true_eq, decide_eq_false_iff_not, Int.not_lt, Int.not_le, ne_eq, Decidable.not_not, ← List.length_eq_zero_iff] at q3
          refine WC.seq ?_
          refine WC.region ?_
          refine WL.qc (oq_call (L2.eAwake) call10 rfl) rfl rfl rfl ?_
          refine WL.q (oq_assign rfl) rfl rfl rfl ?_
          refine WL.nil ?_
          refine WE.then_normal ?_
          refine WC.sub (fr' := [(4, _)]) ?_ ⟨rfl, trivial⟩
          refine WC.ret ?_
          refine WE.then_ret ?_
          refine WE.endR (.inl rfl) (res1 Tryd.results6 rfl) ?_
          -- end 3
          first | rfl | (exfalso; simp_all; done)
        ·
          try simp only [Bool.not_eq_eq_eq_not, Bool.not_true, Bool.not_false, decide_eq_true_eq, decide_eq_false_iff_not, Int.not_lt, Int.not_le, ne_eq, Decidable.not_not, ← List.length_eq_zero_iff] at q3
          refine WC.skip ?_
          refine WE.then_normal ?_
          refine WC.sub (fr' := [(0, _), (1, _)]) ?_ ⟨rfl, rfl, trivial⟩
          refine WC.seq ?_
          refine WC.seq ?_
          refine WC.region ?_
          refine WL.q (oq_assign rfl) rfl rfl rfl ?_
          refine WL.nil ?_
          refine WE.then_normal ?_
          refine WC.sub (fr' := [(0, _), (1, _), (5, _)]) ?_ ⟨rfl, rfl, rfl, trivial⟩
          refine WC.block ?_
          refine WC.loop (ι := Nat) (fun (i : Nat) => [(0, I s), (1, v), (5, I (i : Int))]) (fun (i : Nat) => [A]) (fun (i : Nat) => i ≤ l.length ∧ ∀ j, j < i → (l.getD j RO0).t.length ≤ 500 ∧ 0 ≤ (l.getD j RO0).n ∧ (l.getD j RO0).n ≤ 5000) (fun (i : Nat) => l.length - i) (0) ?_ ⟨rfl, rfl, rfl, trivial⟩ (List.Perm.refl _) ?_
          · try dsimp only
            exact ⟨by omega, fun j hj => by omega⟩
          · rintro i hp
            try dsimp only at hp
            obtain ⟨hi, hf⟩ := hp
            show WC _ _ _ _ _ _ ([(0, I s), (1, v), (5, I (i : Int))]) ([A])
            refine WC.seq ?_
            refine WC.seq ?_
            refine WC.region ?_
            refine WL.q (oq_move rfl) rfl rfl rfl ?_
            refine WL.q (oq_move rfl) rfl rfl rfl ?_
            refine WL.q (oq_len_rd hr Tryd.underlying32 rfl) rfl rfl rfl ?_
            refine WL.q (oq_lss rfl rfl) rfl rfl rfl ?_
            refine WL.nil ?_
            refine WE.then_normal ?_
            refine WC.sub (fr' := [(0, _), (1, _), (5, _), (31, _)]) ?_ ⟨rfl, rfl, rfl, rfl, trivial⟩
            refine WC.cond rfl (fun q6 => ?_) (fun q6 => ?_)
            ·
              try simp only [Bool.not_eq_eq_eq_not, Bool.not_true, Bool.not_false, decide_eq_true_eq, decide_eq_false_iff_not, Int.not_lt, Int.not_le, ne_eq, Decidable.not_not, ← List.length_eq_zero_iff] at q6
              refine WC.skip ?_
              refine WE.then_normal ?_
              refine WC.sub (fr' := [(0, _), (1, _), (5, _)]) ?_ ⟨rfl, rfl, rfl, trivial⟩
              refine WC.seq ?_
              refine WC.block ?_
              refine WC.seq ?_
              refine WC.region ?_
              refine WL.q (oq_move rfl) rfl rfl rfl ?_
              refine WL.q (oq_move rfl) rfl rfl rfl ?_
              refine WL.q (oq_ixaddr hr Tryd.underlying32 ty35 rfl rfl (by (first | omega | (simp only [List.length_cons, List.length_nil, List.length_append, List.length_drop, List.length_take]; omega)))) rfl rfl rfl ?_
              refine WL.q (oq_fldEl fld35_0 hr rfl (by (first | omega | (simp only [List.length_cons, List.length_nil, List.length_append, List.length_drop, List.length_take]; omega)))) rfl rfl rfl ?_
              refine WL.q (oq_loadF (f := rof) RO0 (fun _ => rfl) flat9 hr (.head _) rfl (by (first | omega | (simp only [List.length_cons, List.length_nil, List.length_append, List.length_drop, List.length_take]; omega))) (by first | exact Int.toNat_natCast _ | exact rfl) (by decide) rfl) rfl rfl rfl ?_
              refine WL.q (oq_len_s Tryd.underlying9 rfl) rfl rfl rfl ?_
              refine WL.q (oq_gtr rfl rfl) rfl rfl rfl ?_
              refine WL.q (oq_move rfl) rfl rfl rfl ?_
              refine WL.split 41 rfl (fun s8_7 => ?_) (fun s8_7 => ?_)
              ·
                try simp only [Bool.not_eq_eq_eq_not, Bool.not_true, Bool.not_false, decide_eq_true_eq, decide_eq_false_iff_not, Int.not_lt, Int.not_le, ne_eq, Decidable.not_not, ← List.length_eq_zero_iff] at s8_7
                refine WL.skip rfl rfl rfl ?_
                refine WL.skip rfl rfl rfl ?_
                refine WL.skip rfl rfl rfl ?_
                refine WL.skip rfl rfl rfl ?_
                refine WL.skip rfl rfl rfl ?_
                refine WL.skip rfl rfl rfl ?_
                refine WL.q (oq_pick_t rfl rfl) rfl rfl rfl ?_
                refine WL.q (oq_move rfl) rfl rfl rfl ?_
                refine WL.skip rfl rfl rfl ?_
                refine WL.skip rfl rfl rfl ?_
                refine WL.skip rfl rfl rfl ?_
                refine WL.skip rfl rfl rfl ?_
                refine WL.skip rfl rfl rfl ?_
                refine WL.skip rfl rfl rfl ?_
                refine WL.q (oq_pick_t rfl rfl) rfl rfl rfl ?_
                refine WL.nil ?_
                refine WE.then_normal ?_
                refine WC.sub (fr' := [(0, _), (1, _), (5, _), (56, _)]) ?_ ⟨rfl, rfl, rfl, rfl, trivial⟩
                refine WC.cond_t rfl ?_
                refine WC.seq ?_
                refine WC.region ?_
                refine WL.qc (oq_call (L2.eAwake) call10 rfl) rfl rfl rfl ?_
                refine WL.q (oq_assign rfl) rfl rfl rfl ?_
                refine WL.nil ?_
                refine WE.then_normal ?_
                refine WC.sub (fr' := [(4, _)]) ?_ ⟨rfl, trivial⟩
                refine WC.ret ?_
                refine WE.block_ret ?_
                refine WE.then_ret ?_
                refine WE.then_ret ?_
                refine WE.block_ret ?_
                refine WE.then_ret ?_
                refine WE.endR (.inl rfl) (res1 Tryd.results6 rfl) ?_
                -- end 4
                first | rfl | (exfalso; simp_all; done)
              ·
                try simp only [Bool.not_eq_eq_eq_not, Bool.not_true, Bool.not_false, decide_eq_true_eq, decide_eq_false_iff_not, Int.not_lt, Int.not_le, ne_eq, Decidable.not_not, ← List.length_eq_zero_iff] at s8_7
                refine WL.q (oq_move rfl) rfl rfl rfl ?_
                refine WL.q (oq_move rfl) rfl rfl rfl ?_
                refine WL.q (oq_ixaddr hr Tryd.underlying32 ty35 rfl rfl (by (first | omega | (simp only [List.length_cons, List.length_nil, List.length_append, List.length_drop, List.length_take]; omega)))) rfl rfl rfl ?_
                refine WL.q (oq_fldEl fld35_1 hr rfl (by (first | omega | (simp only [List.length_cons, List.length_nil, List.length_append, List.length_drop, List.length_take]; omega)))) rfl rfl rfl ?_
                refine WL.q (oq_loadF (f := rof) RO0 (fun _ => rfl) flat3 hr (.head _) rfl (by (first | omega | (simp only [List.length_cons, List.length_nil, List.length_append, List.length_drop, List.length_take]; omega))) (by first | exact Int.toNat_natCast _ | exact rfl) (by decide) rfl) rfl rfl rfl ?_
                refine WL.q (oq_lss rfl rfl) rfl rfl rfl ?_
                refine WL.q (oq_pick_f rfl rfl) rfl rfl rfl ?_
                refine WL.q (oq_move rfl) rfl rfl rfl ?_
                refine WL.split 49 rfl (fun s8_15 => ?_) (fun s8_15 => ?_)
                ·
                  try simp only [Bool.not_eq_eq_eq_not, Bool.not_true, Bool.not_false, decide_eq_true_eq, decide_eq_false_iff_not, Int.not_lt, Int.not_le, ne_eq, Decidable.not_not, ← List.length_eq_zero_iff] at s8_15
                  refine WL.skip rfl rfl rfl ?_
                  refine WL.skip rfl rfl rfl ?_
                  refine WL.skip rfl rfl rfl ?_
                  refine WL.skip rfl rfl rfl ?_
                  refine WL.skip rfl rfl rfl ?_
                  refine WL.skip rfl rfl rfl ?_
                  refine WL.q (oq_pick_t rfl rfl) rfl rfl rfl ?_
                  refine WL.nil ?_
                  refine WE.then_normal ?_
                  refine WC.sub (fr' := [(0, _), (1, _), (5, _), (56, _)]) ?_ ⟨rfl, rfl, rfl, rfl, trivial⟩
                  refine WC.cond_t rfl ?_
                  refine WC.seq ?_
                  refine WC.region ?_
                  refine WL.qc (oq_call (L2.eAwake) call10 rfl) rfl rfl rfl ?_
                  refine WL.q (oq_assign rfl) rfl rfl rfl ?_
                  refine WL.nil ?_
                  refine WE.then_normal ?_
                  refine WC.sub (fr' := [(4, _)]) ?_ ⟨rfl, trivial⟩
                  refine WC.ret ?_
                  refine WE.block_ret ?_
                  refine WE.then_ret ?_
                  refine WE.then_ret ?_
                  refine WE.block_ret ?_
                  refine WE.then_ret ?_
                  refine WE.endR (.inl rfl) (res1 Tryd.results6 rfl) ?_
                  -- end 5
                  first | rfl | (exfalso; simp_all; done)
                ·
                  try simp only [Bool.not_eq_eq_eq_not, Bool.not_true, Bool.not_false, decide_eq_true_eq, decide_eq_false_iff_not, Int.not_lt, Int.not_le, ne_eq, Decidable.not_not, ← List.length_eq_zero_iff] at s8_15
                  refine WL.q (oq_move rfl) rfl rfl rfl ?_
                  refine WL.q (oq_move rfl) rfl rfl rfl ?_
                  refine WL.q (oq_ixaddr hr Tryd.underlying32 ty35 rfl rfl (by (first | omega | (simp only [List.length_cons, List.length_nil, List.length_append, List.length_drop, List.length_take]; omega)))) rfl rfl rfl ?_
                  refine WL.q (oq_fldEl fld35_1 hr rfl (by (first | omega | (simp only [List.length_cons, List.length_nil, List.length_append, List.length_drop, List.length_take]; omega)))) rfl rfl rfl ?_
                  refine WL.q (oq_loadF (f := rof) RO0 (fun _ => rfl) flat3 hr (.head _) rfl (by (first | omega | (simp only [List.length_cons, List.length_nil, List.length_append, List.length_drop, List.length_take]; omega))) (by first | exact Int.toNat_natCast _ | exact rfl) (by decide) rfl) rfl rfl rfl ?_
                  refine WL.q (oq_gtr rfl rfl) rfl rfl rfl ?_
                  refine WL.q (oq_pick_f rfl rfl) rfl rfl rfl ?_
                  refine WL.nil ?_
                  refine WE.then_normal ?_
                  refine WC.sub (fr' := [(0, _), (1, _), (5, _), (56, _)]) ?_ ⟨rfl, rfl, rfl, rfl, trivial⟩
                  refine WC.cond rfl (fun q8 => ?_) (fun q8 => ?_)
                  ·
                    try simp only [Bool.not_eq_eq_eq_not, Bool.not_true, Bool.not_false, decide_eq_true_eq, decide_eq_false_iff_not, Int.not_lt, Int.not_le, ne_eq, Decidable.not_not, ← List.length_eq_zero_iff] at q8
                    refine WC.seq ?_
                    refine WC.region ?_
                    refine WL.qc (oq_call (L2.eAwake) call10 rfl) rfl rfl rfl ?_
                    refine WL.q (oq_assign rfl) rfl rfl rfl ?_
                    refine WL.nil ?_
                    refine WE.then_normal ?_
                    refine WC.sub (fr' := [(4, _)]) ?_ ⟨rfl, trivial⟩
                    refine WC.ret ?_
                    refine WE.block_ret ?_
                    refine WE.then_ret ?_
                    refine WE.then_ret ?_
                    refine WE.block_ret ?_
                    refine WE.then_ret ?_
                    refine WE.endR (.inl rfl) (res1 Tryd.results6 rfl) ?_
                    -- end 6
                    first | rfl | (exfalso; simp_all; done)
                  ·
                    try simp only [Bool.not_eq_eq_eq_not, Bool.not_true, Bool.not_false, decide_eq_true_eq, decide_eq_false_iff_not, Int.not_lt, Int.not_le, ne_eq, Decidable.not_not, ← List.length_eq_zero_iff] at q8
                    refine WC.skip ?_
                    refine WE.block_normal ?_
                    refine WE.then_normal ?_
                    refine WC.sub (fr' := [(0, _), (1, _), (5, _)]) ?_ ⟨rfl, rfl, rfl, trivial⟩
                    refine WC.region ?_
                    refine WL.q (oq_move rfl) rfl rfl rfl ?_
                    refine WL.q (oq_add rfl rfl (by rw [i64_lo, i64_hi]; (first | omega | (simp only [List.length_cons, List.length_nil, List.length_append, List.length_drop, List.length_take]; omega)))) rfl rfl rfl ?_
                    refine WL.q (oq_assign rfl) rfl rfl rfl ?_
                    refine WL.nil ?_
                    refine WE.again (i + 1) ?_ ?_ ⟨rfl, rfl, rfl, trivial⟩ (List.Perm.refl _)
                    · try dsimp only   -- again 0
                      refine ⟨by omega, fun j hj => ?_⟩
                      rcases Nat.lt_or_ge j i with h | h
                      · exact hf j h
                      · rw [show j = i by omega]; omega
                    · (try dsimp only); omega
            ·
              try simp only [Bool.not_eq_eq_eq_not, Bool.not_true, Bool.not_false, decide_eq_true_eq, decide_eq_false_iff_not, Int.not_lt, Int.not_le, ne_eq, Decidable.not_not, ← List.length_eq_zero_iff] at q6
              refine WC.exit ?_
              refine WE.then_exit ?_
              refine WE.then_exit ?_
              refine WE.block_same ?_
              refine WE.then_normal ?_
              refine WC.sub (fr' := [(0, _), (1, _)]) ?_ ⟨rfl, rfl, trivial⟩
              refine WC.seq ?_
              obtain ⟨sz, rfl⟩ : ∃ sz : Nat, s = (sz : Int) := ⟨s.toNat, by omega⟩
              have hrl := rst_len sz l l.length (Nat.le_refl _)
              rw [List.take_length] at hrl
              refine WC.region ?_
              refine WL.q (oq_move rfl) rfl rfl rfl ?_
              refine WL.q (oq_move rfl) rfl rfl rfl ?_
              refine WL.callA (sRing v A l hr kE pE hE (by omega) (fun j hj => hf j (by omega)) sz (by omega)) call19 rfl rfl rfl fun v10_2 N10_2 hR10_2 hN10_2 => ?_
              obtain ⟨vt, vl, T1, U1, rfl, rfl, hrt, hru⟩ := hR10_2
              refine WL.q (oq_move rfl) rfl rfl rfl ?_
              refine WL.q (oq_extract rfl rfl) rfl rfl rfl ?_
              refine WL.q (oq_extract rfl rfl) rfl rfl rfl ?_
              refine WL.q (oq_extract rfl rfl) rfl rfl rfl ?_
              refine WL.q (oq_assign rfl) rfl rfl rfl ?_
              refine WL.q (oq_assign rfl) rfl rfl rfl ?_
              refine WL.q (oq_assign rfl) rfl rfl rfl ?_
              refine WL.nil ?_
              refine WE.then_normal ?_
              refine WC.sub (fr' := [(0, _), (1, _), (6, _), (7, _), (8, _)]) ?_ ⟨rfl, rfl, rfl, rfl, rfl, trivial⟩
              refine WC.seq ?_
              refine WC.region ?_
              refine WL.q (oq_move rfl) rfl rfl rfl ?_
              refine WL.q (oq_move rfl) rfl rfl rfl ?_
              refine WL.f1 ?_
              refine WL.callA (sRung v A l hr (by omega) (fun j hj => hf j (by omega)) sz (by omega)) call20 rfl rfl rfl fun v11_2 N11_2 hR11_2 hN11_2 => ?_
              obtain ⟨vt2, vl2, T2, U2, rfl, rfl, hwt, hwl⟩ := hR11_2
              have hCf := fresh_cat hN10_2 hN11_2
              have hrt3 : RdS 1 vt ((T1 ++ U1) ++ (T2 ++ U2)) _ _ := hrt.weaken fun x hx => List.mem_append_left _ (List.mem_append_left _ hx)
              have hru3 : RdS 1 vl ((T1 ++ U1) ++ (T2 ++ U2)) _ _ := hru.weaken fun x hx => List.mem_append_left _ (List.mem_append_right _ hx)
              have hwt3 : RdS 1 vt2 ((T1 ++ U1) ++ (T2 ++ U2)) _ _ := hwt.weaken fun x hx => List.mem_append_right _ (List.mem_append_left _ hx)
              have hwl3 : RdS 1 vl2 ((T1 ++ U1) ++ (T2 ++ U2)) _ _ := hwl.weaken fun x hx => List.mem_append_right _ (List.mem_append_right _ hx)
              refine WL.q (oq_move rfl) rfl rfl rfl ?_
              refine WL.q (oq_extract rfl rfl) rfl rfl rfl ?_
              refine WL.q (oq_extract rfl rfl) rfl rfl rfl ?_
              refine WL.q (oq_extract rfl rfl) rfl rfl rfl ?_
              refine WL.q (oq_assign rfl) rfl rfl rfl ?_
              refine WL.q (oq_assign rfl) rfl rfl rfl ?_
              refine WL.q (oq_assign rfl) rfl rfl rfl ?_
              refine WL.nil ?_
              refine WE.then_normal ?_
              refine WC.sub (fr' := [(6, _), (7, _), (8, _), (9, _), (10, _), (11, _)]) ?_ ⟨rfl, rfl, rfl, rfl, rfl, rfl, trivial⟩
              refine WC.seq ?_
              refine WC.seq ?_
              refine WC.region ?_
              refine WL.q (oq_move rfl) rfl rfl rfl ?_
              refine WL.q (oq_move rfl) rfl rfl rfl ?_
              refine WL.f2 ?_
              refine WL.cat ?_
              refine WL.qc (oq_callRm (wSame _ _ ((T1 ++ U1) ++ (T2 ++ U2)) _ _ hrt3 hwt3 (by omega)) (.head _) call21 rfl) rfl rfl rfl ?_
              refine WL.q (oq_not rfl) rfl rfl rfl ?_
              refine WL.q (oq_move rfl) rfl rfl rfl ?_
              refine WL.split 76 rfl (fun s12_4 => ?_) (fun s12_4 => ?_)
              ·
                try simp only [Bool.not_eq_eq_eq_not, Bool.not_true, Bool.not_false, decide_eq_true_eq, decide_eq_false_iff_not, Int.not_lt, Int.not_le, ne_eq, Decidable.not_not, ← List.length_eq_zero_iff] at s12_4
                refine WL.skip rfl rfl rfl ?_
                refine WL.skip rfl rfl rfl ?_
                refine WL.skip rfl rfl rfl ?_
                refine WL.skip rfl rfl rfl ?_
                refine WL.skip rfl rfl rfl ?_
                refine WL.q (oq_pick_t rfl rfl) rfl rfl rfl ?_
                refine WL.q (oq_move rfl) rfl rfl rfl ?_
                refine WL.skip rfl rfl rfl ?_
                refine WL.skip rfl rfl rfl ?_
                refine WL.skip rfl rfl rfl ?_
                refine WL.q (oq_pick_t rfl rfl) rfl rfl rfl ?_
                refine WL.nil ?_
                refine WE.then_normal ?_
                refine WC.sub (fr' := [(7, _), (10, _), (87, _)]) ?_ ⟨rfl, rfl, rfl, trivial⟩
                refine WC.cond_t rfl ?_
                refine WC.seq ?_
                refine WC.region ?_
                refine WL.q (oq_assign rfl) rfl rfl rfl ?_
                refine WL.nil ?_
                refine WE.then_normal ?_
                refine WC.sub (fr' := [(4, _)]) ?_ ⟨rfl, trivial⟩
                refine WC.ret ?_
                refine WE.then_ret ?_
                refine WE.forget hCf ?_
                refine WE.endR (.inl rfl) (res1 Tryd.results6 rfl) ?_
                -- end 7
                first | rfl | (exfalso; simp_all; done)
              ·
                try simp only [Bool.not_eq_eq_eq_not, Bool.not_true, Bool.not_false, decide_eq_true_eq, decide_eq_false_iff_not, Int.not_lt, Int.not_le, ne_eq, Decidable.not_not, ← List.length_eq_zero_iff] at s12_4
                refine WL.q (oq_move rfl) rfl rfl rfl ?_
                refine WL.q (oq_len_rd hru3 Tryd.underlying37 rfl) rfl rfl rfl ?_
                refine WL.q (oq_move rfl) rfl rfl rfl ?_
                refine WL.q (oq_len_rd hwl3 Tryd.underlying37 rfl) rfl rfl rfl ?_
                refine WL.q (oq_neq rfl rfl) rfl rfl rfl ?_
                refine WL.q (oq_pick_f rfl rfl) rfl rfl rfl ?_
                refine WL.q (oq_move rfl) rfl rfl rfl ?_
                refine WL.split 83 rfl (fun s12_11 => ?_) (fun s12_11 => ?_)
                ·
                  try simp only [Bool.not_eq_eq_eq_not, Bool.not_true, Bool.not_false, decide_eq_true_eq, decide_eq_false_iff_not, Int.not_lt, Int.not_le, ne_eq, Decidable.not_not, ← List.length_eq_zero_iff] at s12_11
                  refine WL.skip rfl rfl rfl ?_
                  refine WL.skip rfl rfl rfl ?_
                  refine WL.skip rfl rfl rfl ?_
                  refine WL.q (oq_pick_t rfl rfl) rfl rfl rfl ?_
                  refine WL.nil ?_
                  refine WE.then_normal ?_
                  refine WC.sub (fr' := [(7, _), (10, _), (87, _)]) ?_ ⟨rfl, rfl, rfl, trivial⟩
                  refine WC.cond_t rfl ?_
                  refine WC.seq ?_
                  refine WC.region ?_
                  refine WL.q (oq_assign rfl) rfl rfl rfl ?_
                  refine WL.nil ?_
                  refine WE.then_normal ?_
                  refine WC.sub (fr' := [(4, _)]) ?_ ⟨rfl, trivial⟩
                  refine WC.ret ?_
                  refine WE.then_ret ?_
                  refine WE.forget hCf ?_
                  refine WE.endR (.inl rfl) (res1 Tryd.results6 rfl) ?_
                  -- end 8
                  first | rfl | (exfalso; simp_all; done)
                ·
                  try simp only [Bool.not_eq_eq_eq_not, Bool.not_true, Bool.not_false, decide_eq_true_eq, decide_eq_false_iff_not, Int.not_lt, Int.not_le, ne_eq, Decidable.not_not, ← List.length_eq_zero_iff] at s12_11
                  refine WL.q (oq_move rfl) rfl rfl rfl ?_
                  refine WL.q (oq_move rfl) rfl rfl rfl ?_
                  refine WL.q (oq_sneq rfl rfl) rfl rfl rfl ?_
                  refine WL.q (oq_pick_f rfl rfl) rfl rfl rfl ?_
                  refine WL.nil ?_
                  refine WE.then_normal ?_
                  refine WC.sub (fr' := [(7, _), (10, _), (87, _)]) ?_ ⟨rfl, rfl, rfl, trivial⟩
                  refine WC.cond rfl (fun q12 => ?_) (fun q12 => ?_)
                  ·
                    try simp only [Bool.not_eq_eq_eq_not, Bool.not_true, Bool.not_false, decide_eq_true_eq, decide_eq_false_iff_not, Int.not_lt, Int.not_le, ne_eq, Decidable.not_not, ← List.length_eq_zero_iff] at q12
                    refine WC.seq ?_
                    refine WC.region ?_
                    refine WL.q (oq_assign rfl) rfl rfl rfl ?_
                    refine WL.nil ?_
                    refine WE.then_normal ?_
                    refine WC.sub (fr' := [(4, _)]) ?_ ⟨rfl, trivial⟩
                    refine WC.ret ?_
                    refine WE.then_ret ?_
                    refine WE.forget hCf ?_
                    refine WE.endR (.inl rfl) (res1 Tryd.results6 rfl) ?_
                    -- end 9
                    first | rfl | (exfalso; simp_all; done)
                  ·
                    try simp only [Bool.not_eq_eq_eq_not, Bool.not_true, Bool.not_false, decide_eq_true_eq, decide_eq_false_iff_not, Int.not_lt, Int.not_le, ne_eq, Decidable.not_not, ← List.length_eq_zero_iff] at q12
                    refine WC.skip ?_
                    refine WE.then_normal ?_
                    refine WC.sub (fr' := [(7, _), (10, _)]) ?_ ⟨rfl, rfl, trivial⟩
                    refine WC.seq ?_
                    refine WC.seq ?_
                    refine WC.region ?_
                    refine WL.q (oq_assign rfl) rfl rfl rfl ?_
                    refine WL.nil ?_
                    refine WE.then_normal ?_
                    refine WC.sub (fr' := [(7, _), (10, _), (12, _)]) ?_ ⟨rfl, rfl, rfl, trivial⟩
                    refine WC.block ?_
                    refine WC.loop (ι := Nat) (fun (k : Nat) => [(7, vl), (10, vl2), (12, I (k : Int))]) (fun (k : Nat) => [((T1 ++ U1) ++ (T2 ++ U2)), A]) (fun (k : Nat) => k ≤ (rst sz l).2.2.length) (fun (k : Nat) => (rst sz l).2.2.length - k) (0) ?_ ⟨rfl, rfl, rfl, trivial⟩ (List.Perm.refl _) ?_
                    · try dsimp only
                      show 0 ≤ _; omega
                    · rintro k hp
                      try dsimp only at hp
                      show WC _ _ _ _ _ _ ([(7, vl), (10, vl2), (12, I (k : Int))]) ([((T1 ++ U1) ++ (T2 ++ U2)), A])
                      refine WC.seq ?_
                      refine WC.seq ?_
                      refine WC.region ?_
                      refine WL.q (oq_move rfl) rfl rfl rfl ?_
                      refine WL.q (oq_move rfl) rfl rfl rfl ?_
                      refine WL.q (oq_len_rd hru3 Tryd.underlying37 rfl) rfl rfl rfl ?_
                      refine WL.q (oq_lss rfl rfl) rfl rfl rfl ?_
                      refine WL.nil ?_
                      refine WE.then_normal ?_
                      refine WC.sub (fr' := [(7, _), (10, _), (12, _), (91, _)]) ?_ ⟨rfl, rfl, rfl, rfl, trivial⟩
                      refine WC.cond rfl (fun q15 => ?_) (fun q15 => ?_)
                      ·
                        try simp only [Bool.not_eq_eq_eq_not, Bool.not_true, Bool.not_false, decide_eq_true_eq, decide_eq_false_iff_not, Int.not_lt, Int.not_le, ne_eq, Decidable.not_not, ← List.length_eq_zero_iff] at q15
                        refine WC.skip ?_
                        refine WE.then_normal ?_
                        refine WC.sub (fr' := [(7, _), (10, _), (12, _)]) ?_ ⟨rfl, rfl, rfl, trivial⟩
                        refine WC.seq ?_
                        refine WC.block ?_
                        refine WC.seq ?_
                        refine WC.quiet (by kernel_rfl) (by kernel_rfl) ?_
                        refine WQ.q (oq_move rfl) rfl rfl rfl ?_
                        refine WQ.q (oq_move rfl) rfl rfl rfl ?_
                        refine WQ.q (oq_ixaddr hru3 Tryd.underlying37 ty3 rfl rfl (by (first | omega | (simp only [List.length_cons, List.length_nil, List.length_append, List.length_drop, List.length_take]; omega)))) rfl rfl rfl ?_
                        refine WQ.q (oq_load_int hru3 (.head _) flat3 rfl (by (first | omega | (simp only [List.length_cons, List.length_nil, List.length_append, List.length_drop, List.length_take]; omega))) (by first | exact Int.toNat_natCast _ | exact rfl)) rfl rfl rfl ?_
                        refine WQ.q (oq_move rfl) rfl rfl rfl ?_
                        refine WQ.q (oq_move rfl) rfl rfl rfl ?_
                        refine WQ.q (oq_ixaddr hwl3 Tryd.underlying37 ty3 rfl rfl (by (first | omega | (simp only [List.length_cons, List.length_nil, List.length_append, List.length_drop, List.length_take]; omega)))) rfl rfl rfl ?_
                        refine WQ.q (oq_load_int hwl3 (.head _) flat3 rfl (by (first | omega | (simp only [List.length_cons, List.length_nil, List.length_append, List.length_drop, List.length_take]; omega))) (by first | exact Int.toNat_natCast _ | exact rfl)) rfl rfl rfl ?_
                        refine WQ.q (oq_neq rfl rfl) rfl rfl rfl ?_
                        refine WQ.nil ?_
                        refine WE.then_normal ?_
                        refine WC.sub (fr' := [(7, _), (10, _), (12, _), (102, _)]) ?_ ⟨rfl, rfl, rfl, rfl, trivial⟩
                        refine WC.cond rfl (fun q17 => ?_) (fun q17 => ?_)
                        ·
                          try simp only [Bool.not_eq_eq_eq_not, Bool.not_true, Bool.not_false, decide_eq_true_eq, decide_eq_false_iff_not, Int.not_lt, Int.not_le, ne_eq, Decidable.not_not, ← List.length_eq_zero_iff] at q17
                          refine WC.seq ?_
                          refine WC.region ?_
                          refine WL.q (oq_assign rfl) rfl rfl rfl ?_
                          refine WL.nil ?_
                          refine WE.then_normal ?_
                          refine WC.sub (fr' := [(4, _)]) ?_ ⟨rfl, trivial⟩
                          refine WC.ret ?_
                          refine WE.block_ret ?_
                          refine WE.then_ret ?_
                          refine WE.then_ret ?_
                          refine WE.block_ret ?_
                          refine WE.then_ret ?_
                          refine WE.forget hCf ?_
                          refine WE.endR (.inl rfl) (res1 Tryd.results6 rfl) ?_
                          -- end 10
                          first | rfl | (exfalso; simp_all; done)
                        ·
                          try simp only [Bool.not_eq_eq_eq_not, Bool.not_true, Bool.not_false, decide_eq_true_eq, decide_eq_false_iff_not, Int.not_lt, Int.not_le, ne_eq, Decidable.not_not, ← List.length_eq_zero_iff] at q17
                          refine WC.skip ?_
                          refine WE.block_normal ?_
                          refine WE.then_normal ?_
                          refine WC.sub (fr' := [(7, _), (10, _), (12, _)]) ?_ ⟨rfl, rfl, rfl, trivial⟩
                          refine WC.region ?_
                          refine WL.q (oq_move rfl) rfl rfl rfl ?_
                          refine WL.q (oq_add rfl rfl (by rw [i64_lo, i64_hi]; (first | omega | (simp only [List.length_cons, List.length_nil, List.length_append, List.length_drop, List.length_take]; omega)))) rfl rfl rfl ?_
                          refine WL.q (oq_assign rfl) rfl rfl rfl ?_
                          refine WL.nil ?_
                          refine WE.again (k + 1) ?_ ?_ ⟨rfl, rfl, rfl, trivial⟩ (List.Perm.refl _)
                          · try dsimp only   -- again 0
                            show k + 1 ≤ _; omega
                          · (try dsimp only); omega
                      ·
                        try simp only [Bool.not_eq_eq_eq_not, Bool.not_true, Bool.not_false, decide_eq_true_eq, decide_eq_false_iff_not, Int.not_lt, Int.not_le, ne_eq, Decidable.not_not, ← List.length_eq_zero_iff] at q15
                        refine WC.exit ?_
                        refine WE.then_exit ?_
                        refine WE.then_exit ?_
                        refine WE.block_same ?_
                        refine WE.then_normal ?_
                        refine WC.sub (fr' := []) ?_ trivial
                        refine WC.seq ?_
                        refine WC.region ?_
                        refine WL.qc (oq_call (L2.eAwake) call10 rfl) rfl rfl rfl ?_
                        refine WL.q (oq_assign rfl) rfl rfl rfl ?_
                        refine WL.nil ?_
                        refine WE.then_normal ?_
                        refine WC.sub (fr' := [(4, _)]) ?_ ⟨rfl, trivial⟩
                        refine WC.ret ?_
                        refine WE.forget hCf ?_
                        refine WE.endR (.inl rfl) (res1 Tryd.results6 rfl) ?_
                        -- end 11
                        first | rfl | (exfalso; simp_all; done)

end KC
end Go.Proofs.YtcgpajknehhdgaaDoor
