/- Numbers as bytes. -/
import Derived.Test.YtodlhaghdplclaaDoorED
namespace Go.Proofs.YtodlhaghdplclaaDoor
open Go Go.RowKit V EA EB EC ED
set_option linter.unusedSimpArgs false
set_option linter.unusedVariables false
set_option maxRecDepth 10000
namespace EE
theorem flat20 : Flat Tryd.prog 20 := ⟨_, Tryd.underlying20, by simp⟩
theorem ty2 : Ty Tryd.prog 2 (.int .i64 0) 1 8 := ty_of (by kernel_rfl)
theorem ty5 : Ty Tryd.prog 5 (.int .u8 0) 1 1 := ty_of (by kernel_rfl)
theorem ty20 : Ty Tryd.prog 20 .nilIface 1 16 := ty_of (by kernel_rfl)
theorem ty54 : Ty Tryd.prog 54 (.int .u32 0) 1 4 := ty_of (by kernel_rfl)
theorem ty101 : Ty Tryd.prog 101 (.int .u8 0) 1 1 := ty_of (by kernel_rfl)
theorem ty102 : Ty Tryd.prog 102 (.int .i8 0) 1 1 := ty_of (by kernel_rfl)
theorem ty103 : Ty Tryd.prog 103 (.int .u16 0) 1 2 := ty_of (by kernel_rfl)
theorem ty105 : Ty Tryd.prog 105 (.int .i16 0) 1 2 := ty_of (by kernel_rfl)
theorem ty106 : Ty Tryd.prog 106 (.int .i32 0) 1 4 := ty_of (by kernel_rfl)
theorem ty107 : Ty Tryd.prog 107 (.int .i64 0) 1 8 := ty_of (by kernel_rfl)
theorem conc2 : Conc Tryd.prog 2 := ⟨_, Tryd.underlying2, by simp⟩
theorem conc5 : Conc Tryd.prog 5 := ⟨_, Tryd.underlying5, by simp⟩
theorem conc54 : Conc Tryd.prog 54 := ⟨_, Tryd.underlying54, by simp⟩
theorem conc101 : Conc Tryd.prog 101 := ⟨_, Tryd.underlying101, by simp⟩
theorem conc102 : Conc Tryd.prog 102 := ⟨_, Tryd.underlying102, by simp⟩
theorem conc103 : Conc Tryd.prog 103 := ⟨_, Tryd.underlying103, by simp⟩
theorem conc105 : Conc Tryd.prog 105 := ⟨_, Tryd.underlying105, by simp⟩
theorem conc106 : Conc Tryd.prog 106 := ⟨_, Tryd.underlying106, by simp⟩
theorem conc107 : Conc Tryd.prog 107 := ⟨_, Tryd.underlying107, by simp⟩

/-- a number that is written: its type, kind, width in bytes, value -/
structure Num where
  k : TypeId
  ik : IntKind
  w : Nat
  x : Int
def Num.val (d : Num) : Value := .iface d.k (.int d.ik d.x)
def Num.kinds : List (TypeId × IntKind × Nat) := [(101, .u8, 1), (5, .u8, 1), (102, .i8, 1), (103, .u16, 2), (105, .i16, 2), (54, .u32, 4), (106, .i32, 4), (2, .i64, 8), (107, .i64, 8)]
def Num.ok (d : Num) : Prop := (d.k, d.ik, d.w) ∈ Num.kinds
theorem Num.ok.w8 {d : Num} (h : d.ok) : d.w ≤ 8 ∧ 1 ≤ d.w := by
  unfold Num.ok Num.kinds at h
  simp only [List.mem_cons, Prod.mk.injEq, List.not_mem_nil, or_false] at h
  omega
theorem Num.of {d : Num} {k : Nat} {ik : IntKind} {w : Nat} (h : d.ok) (hk : d.k = k) (hm : ((Num.kinds.find? (fun r => r.1 == k)).map fun r => (r.2.1, r.2.2)) = some (ik, w)) : d.ik = ik ∧ d.w = w := by
  obtain ⟨k', ik', w', x⟩ := d
  subst hk
  unfold Num.ok Num.kinds at h
  simp only [List.mem_cons, Prod.mk.injEq, List.not_mem_nil, or_false] at h
  rcases h with ⟨rfl, rfl, rfl⟩ | ⟨rfl, rfl, rfl⟩ | ⟨rfl, rfl, rfl⟩ | ⟨rfl, rfl, rfl⟩ | ⟨rfl, rfl, rfl⟩ | ⟨rfl, rfl, rfl⟩ | ⟨rfl, rfl, rfl⟩ | ⟨rfl, rfl, rfl⟩ | ⟨rfl, rfl, rfl⟩ <;> (simp [Num.kinds, List.find?] at hm; simp [hm])
def bytesN (ds : List Num) : List UInt8 := ds.flatMap fun d => be d.w d.x
theorem bytesN_snoc (ds : List Num) (i : Nat) (h : i < ds.length) : bytesN (ds.take (i + 1)) = bytesN (ds.take i) ++ be ds[i].w ds[i].x := by
  unfold bytesN; rw [List.take_add_one, List.flatMap_append, List.getElem?_eq_getElem h]; simp
theorem bytesN_len (ds : List Num) (h : ∀ d ∈ ds, d.ok) : (bytesN ds).length ≤ 8 * ds.length := by
  unfold bytesN
  induction ds with
  | nil => simp
  | cons d r ih =>
    have h1 := ih fun d hd => h d (List.mem_cons_of_mem _ hd)
    have h2 := (h d List.mem_cons_self).w8
    rw [List.flatMap_cons, List.length_append, be_len, List.length_cons]; omega
theorem be_u64 (w : Nat) (x : Int) (h : w ≤ 8) : be w (IntKind.u64.wrap x) = be w x := by
  have e : IntKind.u64.wrap x = x % 2 ^ (8 * 8) := by simp [IntKind.wrap, IntKind.signed, IntKind.bits]
  rw [e, be_mod w 8 x h]
/-- given.example/pub-tinwright/spec.vNumber -/
theorem vNumber (X : Int) (w : Nat) (hX : 0 ≤ X ∧ X < 18446744073709551616) (hw : w ≤ 8) : FnA Tryd.prog 17 [.int .u64 X, I (w : Int)] [] (fun v N => OwS 0 5 1 v N (be w X).length (bytesV (be w X))) := by
  have hbl := be_len w X
  refine FnA.enter0 (n := 22) Tryd.func17 rfl rfl fun w0 => ?_
  refine WC.sub (fr' := [(0, _), (1, _)]) ?_ ⟨rfl, rfl, trivial⟩
  refine WC.seq (WC.region ?_)
  refine WL.q (oq_assign rfl) rfl rfl rfl ?_
  refine WL.nil (WE.then_normal (WC.sub (fr' := [(0, _), (1, _)]) ?_ ⟨rfl, rfl, trivial⟩))
  refine WC.seq ?_
  refine WC.add0 ?_
  refine WC.region ?_
  refine WL.q (oq_assign rfl) rfl rfl rfl ?_
  refine WL.nil (WE.then_normal (WC.sub (fr' := [(0, _), (1, _), (5, _)]) ?_ ⟨rfl, rfl, rfl, trivial⟩))
  refine WC.seq (WC.seq (WC.region ?_))
  refine WL.q (oq_move rfl) rfl rfl rfl ?_
  refine WL.q (oq_sub rfl rfl (by rw [i64_lo, i64_hi]; (first | omega | (simp only [List.length_cons, List.length_nil, List.length_append, List.length_drop, List.length_take]; omega)))) rfl rfl rfl ?_
  refine WL.q (oq_assign rfl) rfl rfl rfl ?_
  refine WL.nil (WE.then_normal (WC.sub (fr' := [(0, _), (5, _), (6, _)]) ?_ ⟨rfl, rfl, rfl, trivial⟩))
  refine WC.block ?_
  refine WC.loop (ι := Nat × Value × Hp) (fun i_ => (fun (j : Nat) (v : Value) (A : Hp) => [(0, .int .u64 X), (5, v), (6, I ((j : Int) - 1))]) i_.1 i_.2.1 i_.2.2) (fun i_ => (fun (j : Nat) (v : Value) (A : Hp) => [A]) i_.1 i_.2.1 i_.2.2) (fun i_ => (fun (j : Nat) (v : Value) (A : Hp) => j ≤ w ∧ OwS w0.heap.size 5 1 v A (w - j) (bytesV ((be w X).take (w - j)))) i_.1 i_.2.1 i_.2.2) (fun i_ => (fun (j : Nat) (v : Value) (A : Hp) => j) i_.1 i_.2.1 i_.2.2) ((w, _, _)) ?_ ⟨rfl, rfl, rfl, trivial⟩ (List.Perm.refl _) ?_
  · try dsimp only
    exact ⟨by omega, by rw [Nat.sub_self]; exact OwS.nil _ _ _⟩
  · rintro ⟨j, v, A⟩ hp
    try dsimp only at hp
    obtain ⟨hm, ho⟩ := hp
    show WC _ _ _ _ _ _ ([(0, .int .u64 X), (5, v), (6, I ((j : Int) - 1))]) ([A])
    refine WC.seq (WC.seq (WC.region ?_))
    refine WL.q (oq_move rfl) rfl rfl rfl ?_
    refine WL.q (oq_geq rfl rfl) rfl rfl rfl ?_
    refine WL.nil (WE.then_normal (WC.sub (fr' := [(0, _), (5, _), (6, _), (10, _)]) ?_ ⟨rfl, rfl, rfl, rfl, trivial⟩))
    refine WC.cond rfl (fun q3 => ?_) (fun q3 => ?_)
    ·
      try simp only [Z1, Z2, Z3, Z4, Z5, Z6, Z7, Z8, Z9, Z0] at q3
      refine WC.skip (WE.then_normal (WC.sub (fr' := [(0, _), (5, _), (6, _)]) ?_ ⟨rfl, rfl, rfl, trivial⟩))
      refine WC.seq (WC.block (WC.region ?_))
      refine WL.q (oq_move rfl) rfl rfl rfl ?_
      refine WL.q (oq_move rfl) rfl rfl rfl ?_
      refine WL.q (oq_move rfl) rfl rfl rfl ?_
      refine WL.q (oq_mul rfl rfl (by rw [i64_lo, i64_hi]; (first | omega | (simp only [List.length_cons, List.length_nil, List.length_append, List.length_drop, List.length_take]; omega)))) rfl rfl rfl ?_
      refine WL.q (oq_shr rfl rfl (by omega)) rfl rfl rfl ?_
      refine WL.q (oq_convw Tryd.underlying53 Tryd.underlying5 rfl) rfl rfl rfl ?_
      refine WL.append1 ho Tryd.underlying23 ty5 rfl (by decide) (fun _ => rfl) rfl rfl (by unfold maxLen; omega) (by omega) rfl rfl (fun _ => rfl) rfl fun v5 A5 u5 ho5 hne5 => ?_
      refine WL.q (oq_assign rfl) rfl rfl rfl ?_
      refine WL.nil (WE.block_normal (WE.then_normal (WC.sub (fr' := [(0, _), (5, _), (6, _)]) ?_ ⟨rfl, rfl, rfl, trivial⟩)))
      refine WC.region ?_
      rw [be_snocj (show 0 < j by omega) hm hw] at ho5
      refine WL.q (oq_move rfl) rfl rfl rfl ?_
      refine WL.q (oq_sub rfl rfl (by rw [i64_lo, i64_hi]; (first | omega | (simp only [List.length_cons, List.length_nil, List.length_append, List.length_drop, List.length_take]; omega)))) rfl rfl rfl ?_
      refine WL.q (oq_assign rfl) rfl rfl rfl ?_
      refine WL.nil ?_
      refine WE.again (j - 1, _, _) ?_ ?_ ⟨rfl, rfl, (gti rfl (by (try dsimp only); omega)), trivial⟩ (List.Perm.refl _)
      · try dsimp only   -- again 0
        exact ⟨by omega, by rw [show w - (j - 1) = w - j + 1 by omega] at ho5 ⊢; exact ho5⟩
      · (try dsimp only); omega
    ·
      try simp only [Z1, Z2, Z3, Z4, Z5, Z6, Z7, Z8, Z9, Z0] at q3
      refine WC.exit (WE.then_exit (WE.then_exit (WE.block_same (WE.then_normal (WC.sub (fr' := [(5, _)]) ?_ ⟨rfl, trivial⟩)))))
      refine WC.seq (WC.region ?_)
      refine WL.q (oq_move rfl) rfl rfl rfl ?_
      refine WL.q (oq_assign rfl) rfl rfl rfl ?_
      refine WL.nil (WE.then_normal (WC.sub (fr' := [(4, _)]) ?_ ⟨rfl, trivial⟩))
      refine WC.ret ?_
      refine WE.endA0 (.inl rfl) (res1 Tryd.results17 rfl) ?_ (ho.fresh)
      -- end 0
      obtain rfl : j = 0 := by omega
      rw [Nat.sub_zero, List.take_of_length_le (by omega)] at ho
      exact own_bytes ho rfl

/-- given.example/pub-tinwright/pub/smithy/eventstream.zzWrite -/
theorem zzWrite (base : Nat) (k : TypeId) (r : Value) (f : FuncId) (Wt : List UInt8 → Hp → Prop) (hW : Wr base k r f Wt) (acc0 : List UInt8) (G : Hp) (hG : Wt acc0 G) (v : Value) (D : Hp) (ds : List Num) (hr : RdS 1 v D ds.length (ds.map Num.val)) (hds : ∀ d ∈ ds, d.ok) (hdn : ds.length ≤ 1000) (hal : acc0.length + 8 * ds.length ≤ 300000) : FnW Tryd.prog 28 [.iface k r, v] base [D, G] (fun w Hs => ∃ G2, w = .nilIface ∧ Hs = [D, G2] ∧ Wt (acc0 ++ bytesN ds) G2) := by
  refine FnW.enter (n := 98) Tryd.func28 rfl rfl fun w0 R0 hbase => ?_
  subst hbase
  show WC _ _ _ _ _ _ _ ([D, G, R0])
  refine WC.sub (fr' := [(0, _), (1, _)]) ?_ ⟨rfl, rfl, trivial⟩
  refine WC.seq (WC.region ?_)
  refine WL.q (oq_assign rfl) rfl rfl rfl ?_
  refine WL.nil (WE.then_normal (WC.sub (fr' := [(0, _), (1, _)]) ?_ ⟨rfl, rfl, trivial⟩))
  refine WC.seq (WC.seq (WC.region ?_))
  refine WL.q (oq_move rfl) rfl rfl rfl ?_
  refine WL.q (oq_len_rd hr Tryd.underlying100 rfl) rfl rfl rfl ?_
  refine WL.q (oq_move rfl) rfl rfl rfl ?_
  refine WL.nil (WE.then_normal (WC.sub (fr' := [(0, _), (22, _), (23, _), (24, _)]) ?_ ⟨rfl, rfl, rfl, rfl, trivial⟩))
  refine WC.block ?_
  refine WC.loop (ι := Nat × Hp) (fun i_ => (fun (i : Nat) (X : Hp) => [(0, .iface k r), (22, v), (23, I (ds.length : Int)), (24, I (i : Int))]) i_.1 i_.2) (fun i_ => (fun (i : Nat) (X : Hp) => [D, X, R0]) i_.1 i_.2) (fun i_ => (fun (i : Nat) (X : Hp) => i ≤ ds.length ∧ Wt (acc0 ++ bytesN (ds.take i)) X) i_.1 i_.2) (fun i_ => (fun (i : Nat) (X : Hp) => ds.length - i) i_.1 i_.2) ((0, G)) ?_ ⟨rfl, rfl, rfl, rfl, trivial⟩ (List.Perm.refl _) ?_
  · try dsimp only
    exact ⟨by omega, by simpa [bytesN] using hG⟩
  · rintro ⟨i, X⟩ hp
    try dsimp only at hp
    obtain ⟨hi, hX⟩ := hp
    show WC _ _ _ _ _ _ ([(0, .iface k r), (22, v), (23, I (ds.length : Int)), (24, I (i : Int))]) ([D, X, R0])
    refine WC.seq (WC.region ?_)
    refine WL.q (oq_lss rfl rfl) rfl rfl rfl ?_
    refine WL.nil (WE.then_normal (WC.sub (fr' := [(0, _), (22, _), (23, _), (24, _), (25, _)]) ?_ ⟨rfl, rfl, rfl, rfl, rfl, trivial⟩))
    refine WC.seq ?_
    refine WC.cond rfl (fun q2 => ?_) (fun q2 => ?_)
    ·
      try simp only [Z1, Z2, Z3, Z4, Z5, Z6, Z7, Z8, Z9, Z0] at q2
      refine WC.skip (WE.then_normal (WC.sub (fr' := [(0, _), (22, _), (23, _), (24, _)]) ?_ ⟨rfl, rfl, rfl, rfl, trivial⟩))
      refine WC.seq (WC.block (WC.seq ?_))
      have hlt : i < ds.length := by omega
      have hok := hds ds[i] (List.getElem_mem hlt)
      obtain ⟨hw8, hw1⟩ := hok.w8
      refine WC.region ?_
      refine WL.q (oq_ixaddr hr Tryd.underlying100 ty20 rfl rfl (by (first | omega | (simp only [List.length_cons, List.length_nil, List.length_append, List.length_drop, List.length_take]; omega)))) rfl rfl rfl ?_
      refine WL.q (oq_load_el hr (by repeat (first | exact .head _ | apply List.Mem.tail)) flat20 rfl (by omega) (u := ds[i].val) (by rw [Int.toNat_natCast, List.getElem?_map, List.getElem?_eq_getElem hlt]; rfl)) rfl rfl rfl ?_
      refine WL.q (oq_assign rfl) rfl rfl rfl ?_
      refine WL.nil (WE.then_normal (WC.sub (fr' := [(0, _), (6, _), (22, _), (23, _), (24, _)]) ?_ ⟨rfl, rfl, rfl, rfl, rfl, trivial⟩))
      refine WC.seq (WC.region ?_)
      refine WL.q (oq_assign rfl) rfl rfl rfl ?_
      refine WL.nil (WE.then_normal (WC.sub (fr' := [(0, _), (6, _), (7, _), (22, _), (23, _), (24, _)]) ?_ ⟨rfl, rfl, rfl, rfl, rfl, rfl, trivial⟩))
      refine WC.seq (WC.region ?_)
      refine WL.q (oq_assign rfl) rfl rfl rfl ?_
      refine WL.nil (WE.then_normal (WC.sub (fr' := [(0, _), (6, _), (7, _), (8, _), (22, _), (23, _), (24, _)]) ?_ ⟨rfl, rfl, rfl, rfl, rfl, rfl, rfl, trivial⟩))
      refine WC.cut (ι := Unit) (fun _ => [(0, .iface k r), (7, .int .u64 (IntKind.u64.wrap ds[i].x)), (8, I (ds[i].w : Int)), (22, v), (23, I (ds.length : Int)), (24, I (i : Int))]) (fun _ => [D, X, R0]) (fun _ => True) ?_ ?_
      ·
        refine WC.seq (WC.region ?_)
        refine WL.q (oq_move rfl) rfl rfl rfl ?_
        refine WL.nil (WE.then_normal (WC.sub (fr' := [(0, _), (7, _), (8, _), (22, _), (23, _), (24, _), (28, _)]) ?_ ⟨rfl, rfl, rfl, rfl, rfl, rfl, rfl, trivial⟩))
        refine WC.block (WC.seq (WC.region ?_))
        refine WL.q (oq_askG conc101 ty101 rfl) rfl rfl rfl ?_
        refine WL.q (oq_extract rfl rfl) rfl rfl rfl ?_
        refine WL.q (oq_extract rfl rfl) rfl rfl rfl ?_
        refine WL.nil (WE.then_normal (WC.sub (fr' := [(0, _), (7, _), (8, _), (22, _), (23, _), (24, _), (28, _), (30, _), (31, _)]) ?_ ⟨rfl, rfl, rfl, rfl, rfl, rfl, rfl, rfl, rfl, trivial⟩))
        refine WC.cond rfl (fun q7 => ?_) (fun q7 => ?_)
        ·
          try simp only [Z1, Z2, Z3, Z4, Z5, Z6, Z7, Z8, Z9, Z0] at q7
          refine WC.seq ?_
          rw [if_pos q7]
          obtain ⟨hik, hwd⟩ := Num.of (ik := .u8) (w := 1) hok q7 (by decide)
          rw [hik]
          refine WC.region ?_
          refine WL.q (oq_assign rfl) rfl rfl rfl ?_
          refine WL.nil (WE.then_normal (WC.sub (fr' := [(0, _), (9, _), (22, _), (23, _), (24, _)]) ?_ ⟨rfl, rfl, rfl, rfl, rfl, trivial⟩))
          refine WC.region ?_
          refine WL.q (oq_move rfl) rfl rfl rfl ?_
          refine WL.q (oq_convw Tryd.underlying101 Tryd.underlying53 rfl) rfl rfl rfl ?_
          refine WL.q (oq_assign rfl) rfl rfl rfl ?_
          refine WL.q (oq_assign rfl) rfl rfl rfl ?_
          refine WL.nil (WE.block_normal ?_)
          refine WE.meet () ?_ ⟨rfl, rfl, (gti rfl (by (try dsimp only); omega)), rfl, rfl, rfl, trivial⟩ (List.Perm.refl _)
          try dsimp only
          all_goals trivial   -- meet 0
        ·
          try simp only [Z1, Z2, Z3, Z4, Z5, Z6, Z7, Z8, Z9, Z0] at q7
          refine WC.seq (WC.region ?_)
          refine WL.q (oq_askG conc5 ty5 rfl) rfl rfl rfl ?_
          refine WL.q (oq_extract rfl rfl) rfl rfl rfl ?_
          refine WL.q (oq_extract rfl rfl) rfl rfl rfl ?_
          refine WL.nil (WE.then_normal (WC.sub (fr' := [(0, _), (7, _), (8, _), (22, _), (23, _), (24, _), (28, _), (35, _), (36, _)]) ?_ ⟨rfl, rfl, rfl, rfl, rfl, rfl, rfl, rfl, rfl, trivial⟩))
          refine WC.cond rfl (fun q10 => ?_) (fun q10 => ?_)
          ·
            try simp only [Z1, Z2, Z3, Z4, Z5, Z6, Z7, Z8, Z9, Z0] at q10
            refine WC.seq ?_
            rw [if_pos q10]
            obtain ⟨hik, hwd⟩ := Num.of (ik := .u8) (w := 1) hok q10 (by decide)
            rw [hik]
            refine WC.region ?_
            refine WL.q (oq_assign rfl) rfl rfl rfl ?_
            refine WL.nil (WE.then_normal (WC.sub (fr' := [(0, _), (10, _), (22, _), (23, _), (24, _)]) ?_ ⟨rfl, rfl, rfl, rfl, rfl, trivial⟩))
            refine WC.region ?_
            refine WL.q (oq_move rfl) rfl rfl rfl ?_
            refine WL.q (oq_convw Tryd.underlying5 Tryd.underlying53 rfl) rfl rfl rfl ?_
            refine WL.q (oq_assign rfl) rfl rfl rfl ?_
            refine WL.q (oq_assign rfl) rfl rfl rfl ?_
            refine WL.nil (WE.block_normal ?_)
            refine WE.meet () ?_ ⟨rfl, rfl, (gti rfl (by (try dsimp only); omega)), rfl, rfl, rfl, trivial⟩ (List.Perm.refl _)
            try dsimp only
            all_goals trivial   -- meet 1
          ·
            try simp only [Z1, Z2, Z3, Z4, Z5, Z6, Z7, Z8, Z9, Z0] at q10
            refine WC.seq (WC.region ?_)
            refine WL.q (oq_askG conc102 ty102 rfl) rfl rfl rfl ?_
            refine WL.q (oq_extract rfl rfl) rfl rfl rfl ?_
            refine WL.q (oq_extract rfl rfl) rfl rfl rfl ?_
            refine WL.nil (WE.then_normal (WC.sub (fr' := [(0, _), (7, _), (8, _), (22, _), (23, _), (24, _), (28, _), (40, _), (41, _)]) ?_ ⟨rfl, rfl, rfl, rfl, rfl, rfl, rfl, rfl, rfl, trivial⟩))
            refine WC.cond rfl (fun q13 => ?_) (fun q13 => ?_)
            ·
              try simp only [Z1, Z2, Z3, Z4, Z5, Z6, Z7, Z8, Z9, Z0] at q13
              refine WC.seq ?_
              rw [if_pos q13]
              obtain ⟨hik, hwd⟩ := Num.of (ik := .i8) (w := 1) hok q13 (by decide)
              rw [hik]
              refine WC.region ?_
              refine WL.q (oq_assign rfl) rfl rfl rfl ?_
              refine WL.nil (WE.then_normal (WC.sub (fr' := [(0, _), (11, _), (22, _), (23, _), (24, _)]) ?_ ⟨rfl, rfl, rfl, rfl, rfl, trivial⟩))
              refine WC.region ?_
              refine WL.q (oq_move rfl) rfl rfl rfl ?_
              refine WL.q (oq_convw Tryd.underlying102 Tryd.underlying53 rfl) rfl rfl rfl ?_
              refine WL.q (oq_assign rfl) rfl rfl rfl ?_
              refine WL.q (oq_assign rfl) rfl rfl rfl ?_
              refine WL.nil (WE.block_normal ?_)
              refine WE.meet () ?_ ⟨rfl, rfl, (gti rfl (by (try dsimp only); omega)), rfl, rfl, rfl, trivial⟩ (List.Perm.refl _)
              try dsimp only
              all_goals trivial   -- meet 2
            ·
              try simp only [Z1, Z2, Z3, Z4, Z5, Z6, Z7, Z8, Z9, Z0] at q13
              refine WC.seq (WC.region ?_)
              refine WL.q (oq_askG conc103 ty103 rfl) rfl rfl rfl ?_
              refine WL.q (oq_extract rfl rfl) rfl rfl rfl ?_
              refine WL.q (oq_extract rfl rfl) rfl rfl rfl ?_
              refine WL.nil (WE.then_normal (WC.sub (fr' := [(0, _), (7, _), (8, _), (22, _), (23, _), (24, _), (28, _), (45, _), (46, _)]) ?_ ⟨rfl, rfl, rfl, rfl, rfl, rfl, rfl, rfl, rfl, trivial⟩))
              refine WC.cond rfl (fun q16 => ?_) (fun q16 => ?_)
              ·
                try simp only [Z1, Z2, Z3, Z4, Z5, Z6, Z7, Z8, Z9, Z0] at q16
                refine WC.seq ?_
                rw [if_pos q16]
                obtain ⟨hik, hwd⟩ := Num.of (ik := .u16) (w := 2) hok q16 (by decide)
                rw [hik]
                refine WC.region ?_
                refine WL.q (oq_assign rfl) rfl rfl rfl ?_
                refine WL.nil (WE.then_normal (WC.sub (fr' := [(0, _), (12, _), (22, _), (23, _), (24, _)]) ?_ ⟨rfl, rfl, rfl, rfl, rfl, trivial⟩))
                refine WC.region ?_
                refine WL.q (oq_move rfl) rfl rfl rfl ?_
                refine WL.q (oq_convw Tryd.underlying103 Tryd.underlying53 rfl) rfl rfl rfl ?_
                refine WL.q (oq_assign rfl) rfl rfl rfl ?_
                refine WL.q (oq_assign rfl) rfl rfl rfl ?_
                refine WL.nil (WE.block_normal ?_)
                refine WE.meet () ?_ ⟨rfl, rfl, (gti rfl (by (try dsimp only); omega)), rfl, rfl, rfl, trivial⟩ (List.Perm.refl _)
                try dsimp only
                all_goals trivial   -- meet 3
              ·
                try simp only [Z1, Z2, Z3, Z4, Z5, Z6, Z7, Z8, Z9, Z0] at q16
                refine WC.seq (WC.region ?_)
                refine WL.q (oq_askG conc105 ty105 rfl) rfl rfl rfl ?_
                refine WL.q (oq_extract rfl rfl) rfl rfl rfl ?_
                refine WL.q (oq_extract rfl rfl) rfl rfl rfl ?_
                refine WL.nil (WE.then_normal (WC.sub (fr' := [(0, _), (7, _), (8, _), (22, _), (23, _), (24, _), (28, _), (50, _), (51, _)]) ?_ ⟨rfl, rfl, rfl, rfl, rfl, rfl, rfl, rfl, rfl, trivial⟩))
                refine WC.cond rfl (fun q19 => ?_) (fun q19 => ?_)
                ·
                  try simp only [Z1, Z2, Z3, Z4, Z5, Z6, Z7, Z8, Z9, Z0] at q19
                  refine WC.seq ?_
                  rw [if_pos q19]
                  obtain ⟨hik, hwd⟩ := Num.of (ik := .i16) (w := 2) hok q19 (by decide)
                  rw [hik]
                  refine WC.region ?_
                  refine WL.q (oq_assign rfl) rfl rfl rfl ?_
                  refine WL.nil (WE.then_normal (WC.sub (fr' := [(0, _), (13, _), (22, _), (23, _), (24, _)]) ?_ ⟨rfl, rfl, rfl, rfl, rfl, trivial⟩))
                  refine WC.region ?_
                  refine WL.q (oq_move rfl) rfl rfl rfl ?_
                  refine WL.q (oq_convw Tryd.underlying105 Tryd.underlying53 rfl) rfl rfl rfl ?_
                  refine WL.q (oq_assign rfl) rfl rfl rfl ?_
                  refine WL.q (oq_assign rfl) rfl rfl rfl ?_
                  refine WL.nil (WE.block_normal ?_)
                  refine WE.meet () ?_ ⟨rfl, rfl, (gti rfl (by (try dsimp only); omega)), rfl, rfl, rfl, trivial⟩ (List.Perm.refl _)
                  try dsimp only
                  all_goals trivial   -- meet 4
                ·
                  try simp only [Z1, Z2, Z3, Z4, Z5, Z6, Z7, Z8, Z9, Z0] at q19
                  refine WC.seq (WC.region ?_)
                  refine WL.q (oq_askG conc54 ty54 rfl) rfl rfl rfl ?_
                  refine WL.q (oq_extract rfl rfl) rfl rfl rfl ?_
                  refine WL.q (oq_extract rfl rfl) rfl rfl rfl ?_
                  refine WL.nil (WE.then_normal (WC.sub (fr' := [(0, _), (7, _), (8, _), (22, _), (23, _), (24, _), (28, _), (55, _), (56, _)]) ?_ ⟨rfl, rfl, rfl, rfl, rfl, rfl, rfl, rfl, rfl, trivial⟩))
                  refine WC.cond rfl (fun q22 => ?_) (fun q22 => ?_)
                  ·
                    try simp only [Z1, Z2, Z3, Z4, Z5, Z6, Z7, Z8, Z9, Z0] at q22
                    refine WC.seq ?_
                    rw [if_pos q22]
                    obtain ⟨hik, hwd⟩ := Num.of (ik := .u32) (w := 4) hok q22 (by decide)
                    rw [hik]
                    refine WC.region ?_
                    refine WL.q (oq_assign rfl) rfl rfl rfl ?_
                    refine WL.nil (WE.then_normal (WC.sub (fr' := [(0, _), (14, _), (22, _), (23, _), (24, _)]) ?_ ⟨rfl, rfl, rfl, rfl, rfl, trivial⟩))
                    refine WC.region ?_
                    refine WL.q (oq_move rfl) rfl rfl rfl ?_
                    refine WL.q (oq_convw Tryd.underlying54 Tryd.underlying53 rfl) rfl rfl rfl ?_
                    refine WL.q (oq_assign rfl) rfl rfl rfl ?_
                    refine WL.q (oq_assign rfl) rfl rfl rfl ?_
                    refine WL.nil (WE.block_normal ?_)
                    refine WE.meet () ?_ ⟨rfl, rfl, (gti rfl (by (try dsimp only); omega)), rfl, rfl, rfl, trivial⟩ (List.Perm.refl _)
                    try dsimp only
                    all_goals trivial   -- meet 5
                  ·
                    try simp only [Z1, Z2, Z3, Z4, Z5, Z6, Z7, Z8, Z9, Z0] at q22
                    refine WC.seq (WC.region ?_)
                    refine WL.q (oq_askG conc106 ty106 rfl) rfl rfl rfl ?_
                    refine WL.q (oq_extract rfl rfl) rfl rfl rfl ?_
                    refine WL.q (oq_extract rfl rfl) rfl rfl rfl ?_
                    refine WL.nil (WE.then_normal (WC.sub (fr' := [(0, _), (7, _), (8, _), (22, _), (23, _), (24, _), (28, _), (60, _), (61, _)]) ?_ ⟨rfl, rfl, rfl, rfl, rfl, rfl, rfl, rfl, rfl, trivial⟩))
                    refine WC.cond rfl (fun q25 => ?_) (fun q25 => ?_)
                    ·
                      try simp only [Z1, Z2, Z3, Z4, Z5, Z6, Z7, Z8, Z9, Z0] at q25
                      refine WC.seq ?_
                      rw [if_pos q25]
                      obtain ⟨hik, hwd⟩ := Num.of (ik := .i32) (w := 4) hok q25 (by decide)
                      rw [hik]
                      refine WC.region ?_
                      refine WL.q (oq_assign rfl) rfl rfl rfl ?_
                      refine WL.nil (WE.then_normal (WC.sub (fr' := [(0, _), (15, _), (22, _), (23, _), (24, _)]) ?_ ⟨rfl, rfl, rfl, rfl, rfl, trivial⟩))
                      refine WC.region ?_
                      refine WL.q (oq_move rfl) rfl rfl rfl ?_
                      refine WL.q (oq_convw Tryd.underlying106 Tryd.underlying53 rfl) rfl rfl rfl ?_
                      refine WL.q (oq_assign rfl) rfl rfl rfl ?_
                      refine WL.q (oq_assign rfl) rfl rfl rfl ?_
                      refine WL.nil (WE.block_normal ?_)
                      refine WE.meet () ?_ ⟨rfl, rfl, (gti rfl (by (try dsimp only); omega)), rfl, rfl, rfl, trivial⟩ (List.Perm.refl _)
                      try dsimp only
                      all_goals trivial   -- meet 6
                    ·
                      try simp only [Z1, Z2, Z3, Z4, Z5, Z6, Z7, Z8, Z9, Z0] at q25
                      refine WC.seq (WC.region ?_)
                      refine WL.q (oq_askG conc2 ty2 rfl) rfl rfl rfl ?_
                      refine WL.q (oq_extract rfl rfl) rfl rfl rfl ?_
                      refine WL.q (oq_extract rfl rfl) rfl rfl rfl ?_
                      refine WL.nil (WE.then_normal (WC.sub (fr' := [(0, _), (7, _), (8, _), (22, _), (23, _), (24, _), (28, _), (65, _), (66, _)]) ?_ ⟨rfl, rfl, rfl, rfl, rfl, rfl, rfl, rfl, rfl, trivial⟩))
                      refine WC.cond rfl (fun q28 => ?_) (fun q28 => ?_)
                      ·
                        try simp only [Z1, Z2, Z3, Z4, Z5, Z6, Z7, Z8, Z9, Z0] at q28
                        refine WC.seq ?_
                        rw [if_pos q28]
                        obtain ⟨hik, hwd⟩ := Num.of (ik := .i64) (w := 8) hok q28 (by decide)
                        rw [hik]
                        refine WC.region ?_
                        refine WL.q (oq_assign rfl) rfl rfl rfl ?_
                        refine WL.nil (WE.then_normal (WC.sub (fr' := [(0, _), (8, _), (16, _), (22, _), (23, _), (24, _)]) ?_ ⟨rfl, rfl, rfl, rfl, rfl, rfl, trivial⟩))
                        refine WC.region ?_
                        refine WL.q (oq_move rfl) rfl rfl rfl ?_
                        refine WL.q (oq_convw Tryd.underlying2 Tryd.underlying53 rfl) rfl rfl rfl ?_
                        refine WL.q (oq_assign rfl) rfl rfl rfl ?_
                        refine WL.nil (WE.block_normal ?_)
                        refine WE.meet () ?_ ⟨rfl, rfl, (gti rfl (by (try dsimp only); omega)), rfl, rfl, rfl, trivial⟩ (List.Perm.refl _)
                        try dsimp only
                        all_goals trivial   -- meet 7
                      ·
                        try simp only [Z1, Z2, Z3, Z4, Z5, Z6, Z7, Z8, Z9, Z0] at q28
                        refine WC.seq (WC.region ?_)
                        refine WL.q (oq_askG conc107 ty107 rfl) rfl rfl rfl ?_
                        refine WL.q (oq_extract rfl rfl) rfl rfl rfl ?_
                        refine WL.q (oq_extract rfl rfl) rfl rfl rfl ?_
                        refine WL.nil (WE.then_normal (WC.sub (fr' := [(0, _), (7, _), (8, _), (22, _), (23, _), (24, _), (70, _), (71, _)]) ?_ ⟨rfl, rfl, rfl, rfl, rfl, rfl, rfl, rfl, trivial⟩))
                        refine WC.cond rfl (fun q31 => ?_) (fun q31 => ?_)
                        ·
                          try simp only [Z1, Z2, Z3, Z4, Z5, Z6, Z7, Z8, Z9, Z0] at q31
                          refine WC.seq ?_
                          rw [if_pos q31]
                          obtain ⟨hik, hwd⟩ := Num.of (ik := .i64) (w := 8) hok q31 (by decide)
                          rw [hik]
                          refine WC.region ?_
                          refine WL.q (oq_assign rfl) rfl rfl rfl ?_
                          refine WL.nil (WE.then_normal (WC.sub (fr' := [(0, _), (8, _), (17, _), (22, _), (23, _), (24, _)]) ?_ ⟨rfl, rfl, rfl, rfl, rfl, rfl, trivial⟩))
                          refine WC.region ?_
                          refine WL.q (oq_move rfl) rfl rfl rfl ?_
                          refine WL.q (oq_convw Tryd.underlying107 Tryd.underlying53 rfl) rfl rfl rfl ?_
                          refine WL.q (oq_assign rfl) rfl rfl rfl ?_
                          refine WL.nil (WE.block_normal ?_)
                          refine WE.meet () ?_ ⟨rfl, rfl, (gti rfl (by (try dsimp only); omega)), rfl, rfl, rfl, trivial⟩ (List.Perm.refl _)
                          try dsimp only
                          all_goals trivial   -- meet 8
                        ·
                          try simp only [Z1, Z2, Z3, Z4, Z5, Z6, Z7, Z8, Z9, Z0] at q31
                          first | contradiction | (exfalso; omega) | (exfalso; simp_all [Num.ok, Num.kinds]; done) | (exfalso; simp_all [Num.ok, Num.kinds]; omega)
      · rintro _ hp
        try dsimp only at hp
        show WC _ _ _ _ _ _ ([(0, .iface k r), (7, .int .u64 (IntKind.u64.wrap ds[i].x)), (8, I (ds[i].w : Int)), (22, v), (23, I (ds.length : Int)), (24, I (i : Int))]) ([D, X, R0])
        refine WC.seq ?_
        refine WC.add0 ?_
        refine WC.region ?_
        refine WL.q (oq_assign rfl) rfl rfl rfl ?_
        refine WL.nil (WE.then_normal (WC.sub (fr' := [(0, _), (7, _), (8, _), (18, _), (22, _), (23, _), (24, _)]) ?_ ⟨rfl, rfl, rfl, rfl, rfl, rfl, rfl, trivial⟩))
        refine WC.seq (WC.seq (WC.region ?_))
        refine WL.q (oq_move rfl) rfl rfl rfl ?_
        refine WL.q (oq_sub rfl rfl (by rw [i64_lo, i64_hi]; (first | omega | (simp only [List.length_cons, List.length_nil, List.length_append, List.length_drop, List.length_take]; omega)))) rfl rfl rfl ?_
        refine WL.q (oq_assign rfl) rfl rfl rfl ?_
        refine WL.nil (WE.then_normal (WC.sub (fr' := [(0, _), (7, _), (18, _), (19, _), (22, _), (23, _), (24, _)]) ?_ ⟨rfl, rfl, rfl, rfl, rfl, rfl, rfl, trivial⟩))
        refine WC.block ?_
        refine WC.loop (ι := Nat × Value × Hp) (fun i_ => (fun (j : Nat) (u : Value) (B : Hp) => [(0, .iface k r), (7, .int .u64 (IntKind.u64.wrap ds[i].x)), (18, u), (19, I ((j : Int) - 1)), (22, v), (23, I (ds.length : Int)), (24, I (i : Int))]) i_.1 i_.2.1 i_.2.2) (fun i_ => (fun (j : Nat) (u : Value) (B : Hp) => [B, D, X, R0]) i_.1 i_.2.1 i_.2.2) (fun i_ => (fun (j : Nat) (u : Value) (B : Hp) => j ≤ ds[i].w ∧ OwS w0.heap.size 5 1 u B (ds[i].w - j) (bytesV ((be ds[i].w (IntKind.u64.wrap ds[i].x)).take (ds[i].w - j)))) i_.1 i_.2.1 i_.2.2) (fun i_ => (fun (j : Nat) (u : Value) (B : Hp) => j) i_.1 i_.2.1 i_.2.2) ((ds[i].w, _, _)) ?_ ⟨rfl, rfl, rfl, rfl, rfl, rfl, rfl, trivial⟩ (List.Perm.refl _) ?_
        · try dsimp only
          exact ⟨by omega, by rw [Nat.sub_self]; exact OwS.nil _ _ _⟩
        · rintro ⟨j, u, B⟩ hp
          try dsimp only at hp
          obtain ⟨hm, ho⟩ := hp
          show WC _ _ _ _ _ _ ([(0, .iface k r), (7, .int .u64 (IntKind.u64.wrap ds[i].x)), (18, u), (19, I ((j : Int) - 1)), (22, v), (23, I (ds.length : Int)), (24, I (i : Int))]) ([B, D, X, R0])
          refine WC.seq (WC.seq (WC.region ?_))
          refine WL.q (oq_move rfl) rfl rfl rfl ?_
          refine WL.q (oq_geq rfl rfl) rfl rfl rfl ?_
          refine WL.nil (WE.then_normal (WC.sub (fr' := [(0, _), (7, _), (18, _), (19, _), (22, _), (23, _), (24, _), (77, _)]) ?_ ⟨rfl, rfl, rfl, rfl, rfl, rfl, rfl, rfl, trivial⟩))
          refine WC.cond rfl (fun q36 => ?_) (fun q36 => ?_)
          ·
            try simp only [Z1, Z2, Z3, Z4, Z5, Z6, Z7, Z8, Z9, Z0] at q36
            refine WC.skip (WE.then_normal (WC.sub (fr' := [(0, _), (7, _), (18, _), (19, _), (22, _), (23, _), (24, _)]) ?_ ⟨rfl, rfl, rfl, rfl, rfl, rfl, rfl, trivial⟩))
            refine WC.seq (WC.block (WC.region ?_))
            refine WL.q (oq_move rfl) rfl rfl rfl ?_
            refine WL.q (oq_move rfl) rfl rfl rfl ?_
            refine WL.q (oq_move rfl) rfl rfl rfl ?_
            refine WL.q (oq_mul rfl rfl (by rw [i64_lo, i64_hi]; (first | omega | (simp only [List.length_cons, List.length_nil, List.length_append, List.length_drop, List.length_take]; omega)))) rfl rfl rfl ?_
            refine WL.q (oq_shr rfl rfl (by omega)) rfl rfl rfl ?_
            refine WL.q (oq_convw Tryd.underlying53 Tryd.underlying5 rfl) rfl rfl rfl ?_
            refine WL.append1 ho Tryd.underlying23 ty5 rfl (by decide) (fun _ => rfl) rfl rfl (by unfold maxLen; omega) (by omega) rfl rfl (fun _ => rfl) rfl fun v38 A38 u38 ho38 hne38 => ?_
            refine WL.q (oq_assign rfl) rfl rfl rfl ?_
            refine WL.nil (WE.block_normal (WE.then_normal (WC.sub (fr' := [(0, _), (7, _), (18, _), (19, _), (22, _), (23, _), (24, _)]) ?_ ⟨rfl, rfl, rfl, rfl, rfl, rfl, rfl, trivial⟩)))
            refine WC.region ?_
            rw [be_snocj (show 0 < j by omega) hm hw8] at ho38
            refine WL.q (oq_move rfl) rfl rfl rfl ?_
            refine WL.q (oq_sub rfl rfl (by rw [i64_lo, i64_hi]; (first | omega | (simp only [List.length_cons, List.length_nil, List.length_append, List.length_drop, List.length_take]; omega)))) rfl rfl rfl ?_
            refine WL.q (oq_assign rfl) rfl rfl rfl ?_
            refine WL.nil ?_
            refine WE.again (j - 1, _, _) ?_ ?_ ⟨rfl, rfl, rfl, (gti rfl (by (try dsimp only); omega)), rfl, rfl, rfl, trivial⟩ (List.Perm.refl _)
            · try dsimp only   -- again 0
              exact ⟨by omega, by rw [show ds[i].w - (j - 1) = ds[i].w - j + 1 by omega] at ho38 ⊢; exact ho38⟩
            · (try dsimp only); omega
          ·
            try simp only [Z1, Z2, Z3, Z4, Z5, Z6, Z7, Z8, Z9, Z0] at q36
            refine WC.exit (WE.then_exit (WE.then_exit (WE.block_same (WE.then_normal (WC.sub (fr' := [(0, _), (18, _), (22, _), (23, _), (24, _)]) ?_ ⟨rfl, rfl, rfl, rfl, rfl, trivial⟩)))))
            refine WC.seq ?_
            obtain rfl : j = 0 := by omega
            rw [Nat.sub_zero, be_u64 _ _ hw8, List.take_of_length_le (by rw [be_len]; omega)] at ho
            have hbl := be_len ds[i].w ds[i].x
            have hro : RdS 1 u B (be ds[i].w ds[i].x).length (bytesV (be ds[i].w ds[i].x)) := by rw [hbl]; exact ho.rd
            have hbn := bytesN_len (ds.take i) fun d hd => hds d (List.mem_of_mem_take hd)
            rw [List.length_take] at hbn
            refine WC.region ?_
            refine WL.q (oq_move rfl) rfl rfl rfl ?_
            refine WL.q (oq_move rfl) rfl rfl rfl ?_
            refine WL.f2 ?_
            refine WL.callWE (fun a w hf => ent_inv1 hW.inv rfl rfl hf w) (hW.run _ X u B _ hX hro (by rw [List.length_append]; omega) (by omega)) rfl rfl rfl rfl fun v39_2 Hs39_2 hR39_2 => ?_
            obtain ⟨X2, rfl, rfl, hX2⟩ := hR39_2
            refine WL.app2 ?_
            refine WL.q (oq_move rfl) rfl rfl rfl ?_
            refine WL.q (oq_extract rfl rfl) rfl rfl rfl ?_
            refine WL.q (oq_extract rfl rfl) rfl rfl rfl ?_
            refine WL.q (oq_assign rfl) rfl rfl rfl ?_
            refine WL.q (oq_assign rfl) rfl rfl rfl ?_
            refine WL.nil (WE.then_normal (WC.sub (fr' := [(0, _), (21, _), (22, _), (23, _), (24, _)]) ?_ ⟨rfl, rfl, rfl, rfl, rfl, trivial⟩))
            refine WC.seq (WC.region ?_)
            refine WL.q (oq_move rfl) rfl rfl rfl ?_
            refine WL.q (oq_ineq Tryd.underlying41 rfl (.inl rfl)) rfl rfl rfl ?_
            refine WL.nil (WE.then_normal (WC.sub (fr' := [(0, _), (21, _), (22, _), (23, _), (24, _), (95, _)]) ?_ ⟨rfl, rfl, rfl, rfl, rfl, rfl, trivial⟩))
            refine WC.cond rfl (fun q40 => ?_) (fun q40 => ?_)
            ·
              try simp only [Z1, Z2, Z3, Z4, Z5, Z6, Z7, Z8, Z9, Z0] at q40
              first | contradiction | (exfalso; omega) | (exfalso; simp_all [Num.ok, Num.kinds]; done) | (exfalso; simp_all [Num.ok, Num.kinds]; omega)
            ·
              try simp only [Z1, Z2, Z3, Z4, Z5, Z6, Z7, Z8, Z9, Z0] at q40
              refine WC.skip (WE.block_normal (WE.then_normal (WC.sub (fr' := [(0, _), (22, _), (23, _), (24, _)]) ?_ ⟨rfl, rfl, rfl, rfl, trivial⟩)))
              refine WC.region ?_
              refine WL.q (oq_add rfl rfl (by rw [i64_lo, i64_hi]; (first | omega | (simp only [List.length_cons, List.length_nil, List.length_append, List.length_drop, List.length_take]; omega)))) rfl rfl rfl ?_
              refine WL.q (oq_move rfl) rfl rfl rfl ?_
              refine WL.nil ?_
              refine WE.f1 ?_
              refine WE.forget ho.fresh ?_
              refine WE.f2 ?_
              refine WE.f1 ?_
              refine WE.f2 ?_
              refine WE.again (i + 1, X2) ?_ ?_ ⟨rfl, rfl, rfl, rfl, trivial⟩ (List.Perm.refl _)
              · try dsimp only   -- again 0
                exact ⟨by omega, by rw [bytesN_snoc ds i hlt, ← List.append_assoc]; exact hX2⟩
              · (try dsimp only); omega
    ·
      try simp only [Z1, Z2, Z3, Z4, Z5, Z6, Z7, Z8, Z9, Z0] at q2
      refine WC.exit (WE.then_exit (WE.then_exit (WE.block_same (WE.then_normal (WC.sub (fr' := []) ?_ trivial)))))
      refine WC.seq ?_
      obtain rfl : i = ds.length := by omega
      rw [List.take_length] at hX
      refine WC.region ?_
      refine WL.q (oq_assign rfl) rfl rfl rfl ?_
      refine WL.nil (WE.then_normal (WC.sub (fr' := [(4, _)]) ?_ ⟨rfl, trivial⟩))
      refine WC.ret ?_
      refine WE.endW2 (.inl rfl) (res1 Tryd.results28 rfl) ?_
      -- end 0
      exact ⟨_, rfl, rfl, hX⟩

end EE
end Go.Proofs.YtodlhaghdplclaaDoor
