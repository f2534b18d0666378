/- The law: a message comes back. -/
import Derived.Test.YtodlhaghdplclaaGreatDoorQ3
import Derived.Test.YtodlhaghdplclaaGreatDoorQ2
import Derived.Test.YtodlhaghdplclaaGreatDoorQ1
import Derived.Test.YtodlhaghdplclaaGreatDoorRows
import Derived.Test.YtodlhaghdplclaaGreatDoorQ0
import Derived.Lay
import Derived.LaidLaws
import Derived.LaidHandle
import Derived.MakeChecks
namespace Go.Proofs.YtodlhaghdplclaaGreatDoor
open Go Go.RowKit V EA EB EC ED EL DC DD DA DE EE EH EI EJ DF DG DH DI EM DJ DK DL DM DB EF EG EK EN EO ER ES DP DO DQ ET
set_option linter.unusedSimpArgs false
set_option linter.unusedVariables false
set_option maxRecDepth 10000
namespace DR
theorem call11 : Callable Tryz.prog 11 := ⟨_, Tryz.func11, rfl, by kernel_rfl⟩
theorem call12 : Callable Tryz.prog 12 := ⟨_, Tryz.func12, rfl, by kernel_rfl⟩
theorem call13 : Callable Tryz.prog 13 := ⟨_, Tryz.func13, rfl, by kernel_rfl⟩
theorem call14 : Callable Tryz.prog 14 := ⟨_, Tryz.func14, rfl, by kernel_rfl⟩
theorem call17 : Callable Tryz.prog 17 := ⟨_, Tryz.func17, rfl, by kernel_rfl⟩
theorem call26 : Callable Tryz.prog 26 := ⟨_, Tryz.func26, rfl, by kernel_rfl⟩
theorem flat22 : Flat Tryz.prog 22 := ⟨_, Tryz.underlying22, by simp⟩
theorem flat28 : Flat Tryz.prog 28 := ⟨_, Tryz.underlying28, by simp⟩
theorem ty5 : Ty Tryz.prog 5 (.int .u8 0) 1 1 := ty_of (by kernel_rfl)
theorem ty22 : Ty Tryz.prog 22 (.slice none 0 0) 1 24 := ty_of (by kernel_rfl)
theorem ty28 : Ty Tryz.prog 28 (.slice none 0 0) 1 24 := ty_of (by kernel_rfl)
theorem ty30 : Ty Tryz.prog 30 (.agg #[(.slice none 0 0), (.slice none 0 0)]) 2 48 := ty_of (by kernel_rfl)
theorem fld30_0 : Fld Tryz.prog 30 0 0 22 := fld_of Tryz.underlying30 rfl rfl rfl ty22 (by decide)
theorem fld30_1 : Fld Tryz.prog 30 1 1 28 := fld_of Tryz.underlying30 rfl rfl rfl ty28 (by decide)
end DR
end Go.Proofs.YtodlhaghdplclaaGreatDoor
/- What the reference reads. -/
namespace Go.Proofs.YtodlhaghdplclaaGreatDoor
open Go Go.RowKit V EA EB EC ED EL DC DD DA DE EE EH EI EJ DF DG DH DI EM DJ DK DL DM DB EF EG EK EN EO ER ES DP DO DQ ET DR DE
set_option linter.unusedSimpArgs false
set_option linter.unusedVariables false
set_option maxRecDepth 10000
namespace DS
theorem call16 : Callable Tryz.prog 16 := ⟨_, Tryz.func16, rfl, by kernel_rfl⟩
theorem flat5 : Flat Tryz.prog 5 := ⟨_, Tryz.underlying5, by simp⟩
theorem flat9 : Flat Tryz.prog 9 := ⟨_, Tryz.underlying9, by simp⟩
theorem ty5 : Ty Tryz.prog 5 (.int .u8 0) 1 1 := ty_of (by kernel_rfl)
theorem ty9 : Ty Tryz.prog 9 (S []) 1 16 := ty_of (by kernel_rfl)
theorem ty24 : Ty Tryz.prog 24 (.agg #[(.int .i64 0), (.int .i64 0), (.int .i64 0), (S [])]) 4 40 := ty_of (by kernel_rfl)
theorem ty32 : Ty Tryz.prog 32 (.agg #[(S []), (.int .i64 0), (.int .i64 0), (.int .i64 0), (S [])]) 5 56 := ty_of (by kernel_rfl)
theorem agg24 : Agg Tryz.prog 24 := agg_of Tryz.underlying24
theorem str32 : Str Tryz.prog 32 #[(0, 1), (1, 4)] := ⟨_, Tryz.underlying32, fun w => by kernel_rfl⟩
theorem fld32_0 : Fld Tryz.prog 32 0 0 9 := fld_of Tryz.underlying32 rfl rfl rfl ty9 (by decide)
theorem fld32_1 : Fld Tryz.prog 32 1 1 24 := fld_of Tryz.underlying32 rfl rfl rfl ty24 (by decide)
theorem recsHV_one (l : List HV) : ∀ u ∈ recsV HV.row l, u.oneCell' = true := by
 intro u hu
 unfold recsV at hu
 obtain ⟨h, _, hh⟩ := List.mem_flatMap.1 hu
 simp only [HV.row, List.mem_cons, List.not_mem_nil, or_false] at hh
 rcases hh with rfl | rfl | rfl | rfl | rfl <;> rfl
def atN (l : List HV) (nm : List UInt8) : Int := if l.findIdx (fun h => decide (h.name = nm)) < l.length then (l.findIdx fun h => decide (h.name = nm) : Nat) else -1
theorem getD_get {l : List HV} {i : Nat} (h : i < l.length) : l.getD i HV0 = l[i] := by rw [List.getD_eq_getElem?_getD, List.getElem?_eq_getElem h]; rfl
theorem atN_at {l : List HV} {nm : List UInt8} {i : Nat} (hi : i < l.length) (h : ∀ j, j < i → (l.getD j HV0).name ≠ nm) (he : (l.getD i HV0).name = nm) : atN l nm = (i : Int) := by
 have : l.findIdx (fun h => decide (h.name = nm)) = i := (List.findIdx_eq hi).2 ⟨by rw [← getD_get hi]; exact decide_eq_true he, fun j hj => by rw [← getD_get (by omega)]; exact decide_eq_false (h j hj)⟩
 unfold atN; rw [this, if_pos hi]
theorem atN_no {l : List HV} {nm : List UInt8} (h : ∀ j, j < l.length → (l.getD j HV0).name ≠ nm) : atN l nm = -1 := by
 unfold atN
 rw [if_neg]
 intro hlt
 have h1 := List.findIdx_getElem (w := hlt)
 have := h _ hlt
 rw [getD_get hlt] at this
 exact this (of_decide_eq_true h1)
theorem atN_pos {l : List HV} {nm : List UInt8} (h : 0 ≤ atN l nm) : ∃ i, atN l nm = ((i : Nat) : Int) ∧ i < l.length ∧ (∀ j, j < i → (l.getD j HV0).name ≠ nm) ∧ (l.getD i HV0).name = nm := by
 unfold atN at h ⊢
 by_cases hlt : l.findIdx (fun h => decide (h.name = nm)) < l.length
 ·rw [if_pos hlt]
  refine ⟨_, rfl, hlt, fun j hj => ?_, ?_⟩
  ·rw [getD_get (by omega)]
   exact of_decide_eq_false (List.not_of_lt_findIdx hj)
  ·rw [getD_get hlt]; exact of_decide_eq_true (List.findIdx_getElem (w := hlt))
 ·rw [if_neg hlt] at h; omega
theorem atN_neg {l : List HV} {nm : List UInt8} (h : atN l nm < 0) : ∀ x ∈ l, x.name ≠ nm := by
 unfold atN at h
 by_cases hlt : l.findIdx (fun h => decide (h.name = nm)) < l.length
 ·rw [if_pos hlt] at h; omega
 ·intro x hx e
  exact hlt (List.findIdx_lt_length_of_exists ⟨x, hx, decide_eq_true e⟩)
theorem put_set : ∀ {ps : List HV} {p : HV} {i : Nat}, i < ps.length → (∀ j, j < i → (ps.getD j HV0).name ≠ p.name) → (ps.getD i HV0).name = p.name → put ps p = ps.set i p
 | [], _, _, h, _, _ => nomatch h
 | x :: l, p, 0, _, _, h => by
  have h0 : x.name = p.name := by simpa using h
  unfold put; rw [if_pos h0]; rfl
 | x :: l, p, i + 1, hi, hj, h => by
  have h0 : x.name ≠ p.name := by simpa using hj 0 (by omega)
  unfold put
  rw [if_neg h0, put_set (i := i) (by simpa using hi) (fun j h2 => by simpa [List.getD_eq_getElem?_getD] using hj (j + 1) (by omega)) (by simpa [List.getD_eq_getElem?_getD] using h)]; rfl
theorem put_len : ∀ (ps : List HV) (p : HV), (put ps p).length ≤ ps.length + 1
 | [], _ => Nat.le_refl _
 | x :: l, p => by
  have := put_len l p
  unfold put; split
  ·simp
  ·rw [List.length_cons, List.length_cons]; omega
def putL (xs : List Value) (off : Nat) : List Value → List Value
 | [] => xs
 | v :: vs => putL (xs.set off v) (off + 1) vs
theorem putL_take : ∀ (vs xs : List Value) (off n : Nat), (putL xs off vs).take n = putL (xs.take n) off vs
 | [], _, _, _ => rfl
 | v :: vs, xs, off, n => by unfold putL; rw [putL_take vs, List.take_set]
theorem putCells_list : ∀ (vs : List Value) (c : Array Value) (off : Nat), (putCells c off vs).toList = putL c.toList off vs
 | [], _, _ => rfl
 | v :: vs, c, off => by unfold putCells putL; rw [putCells_list vs, Array.toList_setIfInBounds]
theorem putL_len : ∀ (vs xs : List Value) (off : Nat), (putL xs off vs).length = xs.length
 | [], _, _ => rfl
 | v :: vs, xs, off => by unfold putL; rw [putL_len vs, List.length_set]
theorem set_row (x : HV) (R : List Value) (k : Nat) (v : Value) : (HV.row x ++ R).set (5 + k) v = HV.row x ++ R.set k v := by
 rw [List.set_append_right _ _ (by simp [HV.row])]; simp [HV.row]
theorem putL_recs : ∀ {l : List HV} {i : Nat} {k w n : Int} {t : List UInt8}, i < l.length → putL (recsV HV.row l) (i * 5 + 1) [I k, I w, I n, S t] = recsV HV.row (l.set i ⟨(l.getD i HV0).name, k, w, n, t⟩)
 | [], _, _, _, _, _, h => nomatch h
 | x :: l, 0, _, _, _, _, _ => rfl
 | x :: l, i + 1, k, w, n, t, h => by
  have h1 := putL_recs (l := l) (i := i) (k := k) (w := w) (n := n) (t := t) (by simpa using h)
  have h2 : (x :: l).getD (i + 1) HV0 = l.getD i HV0 := by simp [List.getD_eq_getElem?_getD]
  have e : recsV HV.row (x :: l) = HV.row x ++ recsV HV.row l := rfl
  have e3 : recsV HV.row ((x :: l).set (i + 1) ⟨(l.getD i HV0).name, k, w, n, t⟩) = HV.row x ++ recsV HV.row (l.set i ⟨(l.getD i HV0).name, k, w, n, t⟩) := rfl
  rw [h2, e, e3, ← h1]
  simp only [putL]
  rw [show (i + 1) * 5 + 1 = 5 + (i * 5 + 1) by omega, set_row, show 5 + (i * 5 + 1) + 1 = 5 + (i * 5 + 1 + 1) by omega, set_row, show 5 + (i * 5 + 1 + 1) + 1 = 5 + (i * 5 + 1 + 1 + 1) by omega, set_row, show 5 + (i * 5 + 1 + 1 + 1) + 1 = 5 + (i * 5 + 1 + 1 + 1 + 1) by omega, set_row]
section
variable {P : Program} {n : Nat} {w0 : World} {ops : Array Oper} {Q : Post} {rest : List Oper} {ds : List Deferred} {fr : Fr} {H : List Hp} {ty : TypeId} {pos : String} {aft : Array Edge} {g : Option (Nat × Bool)}
theorem storeOwFS {t e : TypeId} {x y : Operand} {m i off sz k : Nat} {v u z : Value} {A : Hp} {xs : List Value} {bytes : Nat} (us : List Value) (ho : OwS w0.heap.size e sz v A m xs) (hty : Ty P t z k bytes) (hx : ev fr x = some (adOff (elAddr sz v (i : Int)) off)) (hy : ev fr y = some u) (hsz : u.cells.size = k) (hus : u.cells.toList = us) (h1 : us.all Value.oneCell' = true) (hi : i < m) (hoff : off + k ≤ sz)
  (hg : gd ops fr ⟨none, .store t x y, ty, pos, aft, g⟩ = some true) (hk : ∀ A', OwS w0.heap.size e sz v A' m (putL xs (i * sz + off) us) → WL P n w0 ops Q rest ds fr (A' :: H)) : WL P n w0 ops Q (⟨none, .store t x y, ty, pos, aft, g⟩ :: rest) ds fr (A :: H) := by
 have hlt : i * sz + off + k ≤ m * sz := by
  have : (i + 1) * sz ≤ m * sz := Nat.mul_le_mul_right _ hi
  rw [Nat.succ_mul] at this; omega
 rcases ho.2 with ⟨_, _, rfl⟩ | ⟨b, cap, cur, rfl, rfl, hb, hmc, hcm, hcs, hct⟩
 ·omega
 ·have hms : m * sz ≤ cap * sz := Nat.mul_le_mul_right _ hmc
  have hxa : ev fr x = some (Pt b (i * sz + off)) := by rw [hx]; simp [elAddr, adOff, Addr.add]
  refine WL.storeS (putCells cur (i * sz + off) us) hty hxa hy hsz (by rw [hus]; exact h1) (by rw [hcs]; omega) (by rw [hus]) hg (hk _ ⟨by rw [putL_len]; exact ho.1, .inr ⟨b, cap, _, rfl, rfl, hb, hmc, hcm, by rw [size_putCells, hcs], ?_⟩⟩)
  rw [putCells_list, putL_take, hct]
end
theorem vHas (v : Value) (A : Hp) (l : List HV) (hr : RdS 5 v A l.length (recsV HV.row l)) (hn : l.length ≤ 1000000) (nm : List UInt8) : FnR Tryz.prog 16 [v, S nm] A (I (atN l nm)) := by
 refine FnR.enter (n := 20) Tryz.func16 rfl rfl fun w0 => ?_
 refine WC.sub (fr' := [(0, _), (1, _)]) ?_ ⟨rfl, rfl, trivial⟩
 refine WC.seq (WC.region ?_)
 refine WL.q (oq_assign rfl) rfl rfl rfl ?_
 refine WL.nil (WE.then_normal (WC.sub (fr' := [(0, _), (1, _)]) ?_ ⟨rfl, rfl, trivial⟩))
 refine WC.seq (WC.seq (WC.region ?_))
 refine WL.q (oq_assign rfl) rfl rfl rfl ?_
 refine WL.nil (WE.then_normal (WC.sub (fr' := [(0, _), (1, _), (5, _)]) ?_ ⟨rfl, rfl, rfl, trivial⟩))
 refine WC.block ?_
 refine WC.loop (ι := Nat) (fun (i : Nat) => [(0, v), (1, S nm), (5, I (i : Int))]) (fun (i : Nat) => [A]) (fun (i : Nat) => i ≤ l.length ∧ ∀ j, j < i → (l.getD j HV0).name ≠ nm) (fun (i : Nat) => l.length - i) (0) ?_ ⟨rfl, rfl, rfl, trivial⟩ (List.Perm.refl _) ?_
 ·try dsimp only
  exact ⟨by omega, fun j h => (by omega)⟩
 ·rintro i hp
  try dsimp only at hp
  obtain ⟨hi, hnm⟩ := hp
  show WC _ _ _ _ _ _ ([(0, v), (1, S nm), (5, I (i : Int))]) ([A])
  refine WC.seq (WC.seq (WC.region ?_))
  refine WL.q (oq_move rfl) rfl rfl rfl ?_
  refine WL.q (oq_move rfl) rfl rfl rfl ?_
  refine WL.q (oq_len_rd hr Tryz.underlying22 rfl) rfl rfl rfl ?_
  refine WL.q (oq_lss rfl rfl) rfl rfl rfl ?_
  refine WL.nil (WE.then_normal (WC.sub (fr' := [(0, _), (1, _), (5, _), (9, _)]) ?_ ⟨rfl, rfl, rfl, rfl, trivial⟩))
  refine WC.cond rfl (fun q2 => ?_) (fun q2 => ?_)
  ·
   try simp only [Z1, Z2, Z3, Z4, Z5, Z6, Z7, Z8, Z9, Z0] at q2
   refine WC.skip (WE.then_normal (WC.sub (fr' := [(0, _), (1, _), (5, _)]) ?_ ⟨rfl, rfl, rfl, trivial⟩))
   refine WC.seq (WC.block (WC.seq (WC.region ?_)))
   refine WL.q (oq_move rfl) rfl rfl rfl ?_
   refine WL.q (oq_move rfl) rfl rfl rfl ?_
   refine WL.q (oq_ixaddr hr Tryz.underlying22 ty32 rfl rfl (by (first | omega | (simp only [List.length_cons, List.length_nil, List.length_append, List.length_drop, List.length_take]; omega)))) rfl rfl rfl ?_
   refine WL.q (oq_fldEl fld32_0 hr rfl (by (first | omega | (simp only [List.length_cons, List.length_nil, List.length_append, List.length_drop, List.length_take]; omega)))) rfl rfl rfl ?_
   refine WL.q (oq_loadF (f := HV.row) HV0 (fun _ => rfl) flat9 hr (.head _) rfl (by (first | omega | (simp only [List.length_cons, List.length_nil, List.length_append, List.length_drop, List.length_take]; omega))) (by first | exact Int.toNat_natCast _ | exact rfl) (by decide) rfl) rfl rfl rfl ?_
   refine WL.q (oq_move rfl) rfl rfl rfl ?_
   refine WL.q (oq_seql rfl rfl) rfl rfl rfl ?_
   refine WL.nil (WE.then_normal (WC.sub (fr' := [(0, _), (1, _), (5, _), (18, _)]) ?_ ⟨rfl, rfl, rfl, rfl, trivial⟩))
   refine WC.cond rfl (fun q4 => ?_) (fun q4 => ?_)
   ·
    try simp only [Z1, Z2, Z3, Z4, Z5, Z6, Z7, Z8, Z9, Z0] at q4
    refine WC.seq (WC.region ?_)
    refine WL.q (oq_move rfl) rfl rfl rfl ?_
    refine WL.q (oq_assign rfl) rfl rfl rfl ?_
    refine WL.nil (WE.then_normal (WC.sub (fr' := [(4, _)]) ?_ ⟨rfl, trivial⟩))
    refine WC.ret (WE.block_ret (WE.then_ret (WE.then_ret (WE.block_ret (WE.then_ret ?_)))))
    refine WE.endR (.inl rfl) (res1 Tryz.results16 rfl) ?_
    rw [atN_at (by omega) hnm (by simpa using q4)]
   ·
    try simp only [Z1, Z2, Z3, Z4, Z5, Z6, Z7, Z8, Z9, Z0] at q4
    refine WC.skip (WE.block_normal (WE.then_normal (WC.sub (fr' := [(0, _), (1, _), (5, _)]) ?_ ⟨rfl, rfl, rfl, trivial⟩)))
    refine WC.region ?_
    refine WL.q (oq_move rfl) rfl rfl rfl ?_
    refine WL.q (oq_add rfl rfl (by rw [i64_lo, i64_hi]; (first | omega | (simp only [List.length_cons, List.length_nil, List.length_append, List.length_drop, List.length_take]; omega)))) rfl rfl rfl ?_
    refine WL.q (oq_assign rfl) rfl rfl rfl ?_
    refine WL.nil ?_
    refine WE.again (i + 1) ?_ ?_ ⟨rfl, rfl, rfl, trivial⟩ (List.Perm.refl _)
    ·try dsimp only
     refine ⟨by omega, fun m hm => ?_⟩
     rcases Nat.lt_or_ge m i with h | h
     ·exact hnm m h
     ·rw [show m = i by omega]; simpa using q4
    ·(try dsimp only); omega
  ·
   try simp only [Z1, Z2, Z3, Z4, Z5, Z6, Z7, Z8, Z9, Z0] at q2
   refine WC.exit (WE.then_exit (WE.then_exit (WE.block_same (WE.then_normal (WC.sub (fr' := []) ?_ trivial)))))
   refine WC.seq (WC.region ?_)
   refine WL.q (oq_assign rfl) rfl rfl rfl ?_
   refine WL.nil (WE.then_normal (WC.sub (fr' := [(4, _)]) ?_ ⟨rfl, trivial⟩))
   refine WC.ret ?_
   refine WE.endR (.inl rfl) (res1 Tryz.results16 rfl) ?_
   rw [atN_no (fun j hj => hnm j (by omega))]
theorem vPut (v : Value) (A : Hp) (l : List HV) (hr : RdS 5 v A l.length (recsV HV.row l)) (hn : l.length ≤ 1000000) (h : HV) : FnA Tryz.prog 19 [v, S h.name, .agg #[I h.kind, I h.width, I h.int, S h.text]] A (fun w N => RdS 5 w N (put l h).length (recsV HV.row (put l h))) := by
 refine FnA.enter (n := 29) Tryz.func19 rfl rfl fun w0 => ?_
 refine WC.sub (fr' := [(0, _), (1, _), (2, _)]) ?_ ⟨rfl, rfl, rfl, trivial⟩
 refine WC.seq (WC.region ?_)
 refine WL.box rfl rfl rfl fun xb hxb => ?_
 refine WL.q (oq_assign rfl) rfl rfl rfl ?_
 refine WL.nil (WE.then_normal (WC.sub (fr' := [(0, _), (1, _), (5, _)]) ?_ ⟨rfl, rfl, rfl, trivial⟩))
 refine WC.seq (WC.region ?_)
 refine WL.build0 Tryz.underlying22 ty32 rfl rfl fun v1_0 A1_0 ho1_0 hne1_0 => ?_
 refine WL.q (oq_move rfl) rfl rfl rfl ?_
 refine WL.appendS ho1_0 Tryz.underlying22 ty32 rfl (by decide) rfl rfl hr (.tail _ (.head _)) (recsHV_one _) (by unfold maxLen; omega) (by omega) rfl rfl fun v1b A1b ho1b hne1b => ?_
 refine WL.q (oq_assign rfl) rfl rfl rfl ?_
 refine WL.nil (WE.then_normal (WC.sub (fr' := [(0, _), (1, _), (5, _), (7, _)]) ?_ ⟨rfl, rfl, rfl, rfl, trivial⟩))
 refine WC.seq (WC.seq (WC.region ?_))
 refine WL.q (oq_move rfl) rfl rfl rfl ?_
 refine WL.q (oq_move rfl) rfl rfl rfl ?_
 refine WL.qc (oq_callRm (vHas v A l hr hn h.name) (.tail _ (.tail _ (.head _))) call16 rfl) rfl rfl rfl ?_
 refine WL.q (oq_assign rfl) rfl rfl rfl ?_
 refine WL.nil (WE.then_normal (WC.sub (fr' := [(1, _), (5, _), (7, _), (8, _)]) ?_ ⟨rfl, rfl, rfl, rfl, trivial⟩))
 refine WC.seq (WC.region ?_)
 refine WL.q (oq_move rfl) rfl rfl rfl ?_
 refine WL.q (oq_geq rfl rfl) rfl rfl rfl ?_
 refine WL.nil (WE.then_normal (WC.sub (fr' := [(1, _), (5, _), (7, _), (8, _), (16, _)]) ?_ ⟨rfl, rfl, rfl, rfl, rfl, trivial⟩))
 refine WC.cond rfl (fun q3 => ?_) (fun q3 => ?_)
 ·
  try simp only [Z1, Z2, Z3, Z4, Z5, Z6, Z7, Z8, Z9, Z0] at q3
  refine WC.seq ?_
  obtain ⟨i, hi, hil, hnm, hat⟩ := atN_pos q3
  rw [hi]
  have ho1c := ho1b
  rw [Nat.zero_add, List.nil_append] at ho1c
  refine WC.region ?_
  refine WL.q (oq_move rfl) rfl rfl rfl ?_
  refine WL.q (oq_move rfl) rfl rfl rfl ?_
  refine WL.q (oq_loadS [_, _, _, _] agg24 ty24 rfl (.tail _ (.head _)) (List.mem_singleton.2 rfl) rfl rfl) rfl rfl rfl ?_
  refine WL.q (oq_ixaddr ho1b.rd Tryz.underlying22 ty32 rfl rfl (by (first | omega | (simp only [List.length_cons, List.length_nil, List.length_append, List.length_drop, List.length_take]; omega)))) rfl rfl rfl ?_
  refine WL.q (oq_fldEl fld32_1 ho1b.rd rfl (by (first | omega | (simp only [List.length_cons, List.length_nil, List.length_append, List.length_drop, List.length_take]; omega)))) rfl rfl rfl ?_
  refine storeOwFS (i := i) [I h.kind, I h.width, I h.int, S h.text] ho1c ty24 rfl rfl rfl rfl rfl hil (by decide) rfl fun A4 ho4 => ?_
  refine WL.nil (WE.then_normal (WC.sub (fr' := [(7, _)]) ?_ ⟨rfl, trivial⟩))
  refine WC.seq (WC.region ?_)
  refine WL.q (oq_move rfl) rfl rfl rfl ?_
  refine WL.q (oq_assign rfl) rfl rfl rfl ?_
  refine WL.nil (WE.then_normal (WC.sub (fr' := [(6, _)]) ?_ ⟨rfl, trivial⟩))
  refine WC.ret (WE.then_ret ?_)
  refine WE.f1 ?_
  refine WE.lose hxb ?_
  refine WE.endA (.inl rfl) (res1 Tryz.results19 rfl) ?_ (ho4.fresh)
  rw [putL_recs hil, hat] at ho4
  have hp : put l h = l.set i h := put_set hil hnm hat
  rw [hp, List.length_set]
  exact ho4.rd
 ·
  try simp only [Z1, Z2, Z3, Z4, Z5, Z6, Z7, Z8, Z9, Z0] at q3
  refine WC.skip (WE.then_normal (WC.sub (fr' := [(1, _), (5, _), (7, _)]) ?_ ⟨rfl, rfl, rfl, trivial⟩))
  refine WC.seq (WC.region ?_)
  refine WL.q (oq_move rfl) rfl rfl rfl ?_
  refine WL.q (oq_move rfl) rfl rfl rfl ?_
  refine WL.q (oq_loadS [_, _, _, _] agg24 ty24 rfl (.tail _ (.head _)) (List.mem_singleton.2 rfl) rfl rfl) rfl rfl rfl ?_
  refine WL.q (oq_build #[_, _, _, _, _] str32 ty32 rfl rfl) rfl rfl rfl ?_
  refine WL.buildSS (#[S h.name, I h.kind, I h.width, I h.int, S h.text]) Tryz.underlying22 ty32 rfl (by decide) (by decide) (by kernel_rfl) (by kernel_rfl) rfl rfl fun v6_4 A6_4 ho6_4 hne6_4 => ?_
  refine WL.f1 ?_
  refine WL.appendS ho1b Tryz.underlying22 ty32 rfl (by decide) rfl rfl ho6_4.rd (.head _) ((recsHV_one [h])) (by unfold maxLen; omega) (by omega) rfl rfl fun v6b A6b ho6b hne6b => ?_
  refine WL.q (oq_assign rfl) rfl rfl rfl ?_
  refine WL.nil (WE.then_normal (WC.sub (fr' := [(6, _)]) ?_ ⟨rfl, trivial⟩))
  refine WC.ret ?_
  refine WE.f1 ?_
  refine WE.forget ho6_4.fresh ?_
  refine WE.f1 ?_
  refine WE.lose hxb ?_
  refine WE.endA (.inl rfl) (res1 Tryz.results19 rfl) ?_ (ho6b.fresh)
  have hp : put l h = l ++ [h] := put_new l h (atN_neg (by simpa using q3))
  have h6 := ho6b.rd
  rw [hp, List.length_append]
  have e : recsV HV.row (l ++ [h]) = [] ++ recsV HV.row l ++ [S h.name, I h.kind, I h.width, I h.int, S h.text] := by simp [recsV, HV.row]
  rw [e]
  simpa using h6
end DS
end Go.Proofs.YtodlhaghdplclaaGreatDoor
/- Headers as the reference reads them. -/
namespace Go.Proofs.YtodlhaghdplclaaGreatDoor
open Go Go.RowKit V EA EB EC ED EL DC DD DA DE EE EH EI EJ DF DG DH DI EM DJ DK DL DM DB EF EG EK EN EO ER ES DP DO DQ ET DR DE DS
set_option linter.unusedSimpArgs false
set_option linter.unusedVariables false
set_option maxRecDepth 10000
namespace DT
theorem call19 : Callable Tryz.prog 19 := ⟨_, Tryz.func19, rfl, by kernel_rfl⟩
theorem flat3 : Flat Tryz.prog 3 := ⟨_, Tryz.underlying3, by simp⟩
theorem flat5 : Flat Tryz.prog 5 := ⟨_, Tryz.underlying5, by simp⟩
theorem ty2 : Ty Tryz.prog 2 (.int .i64 0) 1 8 := ty_of (by kernel_rfl)
theorem ty3 : Ty Tryz.prog 3 (.int .i64 0) 1 8 := ty_of (by kernel_rfl)
theorem ty5 : Ty Tryz.prog 5 (.int .u8 0) 1 1 := ty_of (by kernel_rfl)
theorem ty9 : Ty Tryz.prog 9 (S []) 1 16 := ty_of (by kernel_rfl)
theorem ty24 : Ty Tryz.prog 24 (.agg #[(.int .i64 0), (.int .i64 0), (.int .i64 0), (S [])]) 4 40 := ty_of (by kernel_rfl)
theorem agg24 : Agg Tryz.prog 24 := agg_of Tryz.underlying24
theorem str24 : Str Tryz.prog 24 #[(0, 1), (1, 1), (2, 1), (3, 1)] := ⟨_, Tryz.underlying24, fun w => by kernel_rfl⟩
theorem fld24_0 : Fld Tryz.prog 24 0 0 3 := fld_of Tryz.underlying24 rfl rfl rfl ty3 (by decide)
theorem fld24_1 : Fld Tryz.prog 24 1 1 3 := fld_of Tryz.underlying24 rfl rfl rfl ty3 (by decide)
theorem fld24_2 : Fld Tryz.prog 24 2 2 2 := fld_of Tryz.underlying24 rfl rfl rfl ty2 (by decide)
theorem fld24_3 : Fld Tryz.prog 24 3 3 9 := fld_of Tryz.underlying24 rfl rfl rfl ty9 (by decide)
end DT
end Go.Proofs.YtodlhaghdplclaaGreatDoor
/- What the reference says of bytes. -/
namespace Go.Proofs.YtodlhaghdplclaaGreatDoor
open Go Go.RowKit V EA EB EC ED EL DC DD DA DE EE EH EI EJ DF DG DH DI EM DJ DK DL DM DB EF EG EK EN EO ER ES DP DO DQ ET DR DE DS DT EC
set_option linter.unusedSimpArgs false
set_option linter.unusedVariables false
set_option maxRecDepth 10000
namespace DU
theorem ty30 : Ty Tryz.prog 30 (.agg #[(.slice none 0 0), (.slice none 0 0)]) 2 48 := ty_of (by kernel_rfl)
theorem str30 : Str Tryz.prog 30 #[(0, 1), (1, 1)] := ⟨_, Tryz.underlying30, fun w => by kernel_rfl⟩
section
variable {P : Program} {n : Nat} {w0 : World} {ds : List Deferred} {fr : Fr} {H : List Hp}
end
end DU
end Go.Proofs.YtodlhaghdplclaaGreatDoor
/- The law: bytes are read as the reference says. -/
namespace Go.Proofs.YtodlhaghdplclaaGreatDoor
open Go Go.RowKit V EA EB EC ED EL DC DD DA DE EE EH EI EJ DF DG DH DI EM DJ DK DL DM DB EF EG EK EN EO ER ES DP DO DQ ET DR DE DS DT EC DU
set_option linter.unusedSimpArgs false
set_option linter.unusedVariables false
set_option maxRecDepth 10000
namespace DV
theorem call14 : Callable Tryz.prog 14 := ⟨_, Tryz.func14, rfl, by kernel_rfl⟩
theorem call17 : Callable Tryz.prog 17 := ⟨_, Tryz.func17, rfl, by kernel_rfl⟩
theorem flat22 : Flat Tryz.prog 22 := ⟨_, Tryz.underlying22, by simp⟩
theorem flat28 : Flat Tryz.prog 28 := ⟨_, Tryz.underlying28, by simp⟩
theorem ty22 : Ty Tryz.prog 22 (.slice none 0 0) 1 24 := ty_of (by kernel_rfl)
theorem ty28 : Ty Tryz.prog 28 (.slice none 0 0) 1 24 := ty_of (by kernel_rfl)
theorem ty30 : Ty Tryz.prog 30 (.agg #[(.slice none 0 0), (.slice none 0 0)]) 2 48 := ty_of (by kernel_rfl)
theorem fld30_0 : Fld Tryz.prog 30 0 0 22 := fld_of Tryz.underlying30 rfl rfl rfl ty22 (by decide)
theorem fld30_1 : Fld Tryz.prog 30 1 1 28 := fld_of Tryz.underlying30 rfl rfl rfl ty28 (by decide)
end DV
end Go.Proofs.YtodlhaghdplclaaGreatDoor
/- Headers given to the program. -/
namespace Go.Proofs.YtodlhaghdplclaaGreatDoor
open Go Go.RowKit V EA EB EC ED EL DC DD DA DE EE EH EI EJ DF DG DH DI EM DJ DK DL DM DB EF EG EK EN EO ER ES DP DO DQ ET DR DE DS DT EC DU DV
set_option linter.unusedSimpArgs false
set_option linter.unusedVariables false
set_option maxRecDepth 10000
namespace DW
theorem call31 : Callable Tryz.prog 31 := ⟨_, Tryz.func31, rfl, by kernel_rfl⟩
theorem call32 : Callable Tryz.prog 32 := ⟨_, Tryz.func32, rfl, by kernel_rfl⟩
theorem call33 : Callable Tryz.prog 33 := ⟨_, Tryz.func33, rfl, by kernel_rfl⟩
theorem call35 : Callable Tryz.prog 35 := ⟨_, Tryz.func35, rfl, by kernel_rfl⟩
theorem call43 : Callable Tryz.prog 43 := ⟨_, Tryz.func43, rfl, by kernel_rfl⟩
theorem flat2 : Flat Tryz.prog 2 := ⟨_, Tryz.underlying2, by simp⟩
theorem flat3 : Flat Tryz.prog 3 := ⟨_, Tryz.underlying3, by simp⟩
theorem flat9 : Flat Tryz.prog 9 := ⟨_, Tryz.underlying9, by simp⟩
theorem flat60 : Flat Tryz.prog 60 := ⟨_, Tryz.underlying60, by simp⟩
theorem ty2 : Ty Tryz.prog 2 (.int .i64 0) 1 8 := ty_of (by kernel_rfl)
theorem ty3 : Ty Tryz.prog 3 (.int .i64 0) 1 8 := ty_of (by kernel_rfl)
theorem ty5 : Ty Tryz.prog 5 (.int .u8 0) 1 1 := ty_of (by kernel_rfl)
theorem ty9 : Ty Tryz.prog 9 (S []) 1 16 := ty_of (by kernel_rfl)
theorem ty24 : Ty Tryz.prog 24 (.agg #[(.int .i64 0), (.int .i64 0), (.int .i64 0), (S [])]) 4 40 := ty_of (by kernel_rfl)
theorem ty32 : Ty Tryz.prog 32 (.agg #[(S []), (.int .i64 0), (.int .i64 0), (.int .i64 0), (S [])]) 5 56 := ty_of (by kernel_rfl)
theorem ty60 : Ty Tryz.prog 60 .nilIface 1 16 := ty_of (by kernel_rfl)
theorem ty125 : Ty Tryz.prog 125 (.agg #[(S []), .nilIface]) 2 32 := ty_of (by kernel_rfl)
theorem ty137 : Ty Tryz.prog 137 (.agg #[(.int .u8 0), (.int .u8 0), (.int .u8 0), (.int .u8 0), (.int .u8 0), (.int .u8 0), (.int .u8 0), (.int .u8 0), (.int .u8 0), (.int .u8 0), (.int .u8 0), (.int .u8 0), (.int .u8 0), (.int .u8 0), (.int .u8 0), (.int .u8 0)]) 16 16 := ty_of (by kernel_rfl)
theorem conc126 : Conc Tryz.prog 126 := ⟨_, Tryz.underlying126, by simp⟩
theorem conc127 : Conc Tryz.prog 127 := ⟨_, Tryz.underlying127, by simp⟩
theorem conc129 : Conc Tryz.prog 129 := ⟨_, Tryz.underlying129, by simp⟩
theorem conc130 : Conc Tryz.prog 130 := ⟨_, Tryz.underlying130, by simp⟩
theorem conc131 : Conc Tryz.prog 131 := ⟨_, Tryz.underlying131, by simp⟩
theorem conc132 : Conc Tryz.prog 132 := ⟨_, Tryz.underlying132, by simp⟩
theorem conc133 : Conc Tryz.prog 133 := ⟨_, Tryz.underlying133, by simp⟩
theorem conc134 : Conc Tryz.prog 134 := ⟨_, Tryz.underlying134, by simp⟩
theorem conc137 : Conc Tryz.prog 137 := ⟨_, Tryz.underlying137, by simp⟩
theorem agg24 : Agg Tryz.prog 24 := agg_of Tryz.underlying24
theorem agg32 : Agg Tryz.prog 32 := agg_of Tryz.underlying32
theorem agg125 : Agg Tryz.prog 125 := agg_of Tryz.underlying125
theorem agg137 : Agg Tryz.prog 137 := agg_arr Tryz.underlying137
theorem str24 : Str Tryz.prog 24 #[(0, 1), (1, 1), (2, 1), (3, 1)] := ⟨_, Tryz.underlying24, fun w => by kernel_rfl⟩
theorem str125 : Str Tryz.prog 125 #[(0, 1), (1, 1)] := ⟨_, Tryz.underlying125, fun w => by kernel_rfl⟩
theorem fld24_0 : Fld Tryz.prog 24 0 0 3 := fld_of Tryz.underlying24 rfl rfl rfl ty3 (by decide)
theorem fld24_1 : Fld Tryz.prog 24 1 1 3 := fld_of Tryz.underlying24 rfl rfl rfl ty3 (by decide)
theorem fld24_2 : Fld Tryz.prog 24 2 2 2 := fld_of Tryz.underlying24 rfl rfl rfl ty2 (by decide)
theorem fld24_3 : Fld Tryz.prog 24 3 3 9 := fld_of Tryz.underlying24 rfl rfl rfl ty9 (by decide)
theorem fld32_0 : Fld Tryz.prog 32 0 0 9 := fld_of Tryz.underlying32 rfl rfl rfl ty9 (by decide)
theorem fld32_1 : Fld Tryz.prog 32 1 1 24 := fld_of Tryz.underlying32 rfl rfl rfl ty24 (by decide)
theorem fld125_0 : Fld Tryz.prog 125 0 0 9 := fld_of Tryz.underlying125 rfl rfl rfl ty9 (by decide)
theorem fld125_1 : Fld Tryz.prog 125 1 1 60 := fld_of Tryz.underlying125 rfl rfl rfl ty60 (by decide)
theorem own0 {base : Nat} {e : TypeId} {size n : Nat} {v : Value} {A : Hp} {xs : List Value} (h : OwS base e size v A n xs) : OwS 0 e size v A n xs := by
 refine ⟨h.1, ?_⟩
 rcases h.2 with h2 | ⟨b, cap, cur, h1, h2, h3, h4, h5, h6, h7⟩
 ·exact .inl h2
 ·exact .inr ⟨b, cap, cur, h1, h2, Nat.zero_le _, h4, h5, h6, h7⟩
theorem own_up {base : Nat} {e : TypeId} {size n : Nat} {v : Value} {A : Hp} {xs : List Value} (h : OwS 0 e size v A n xs) (hf : ∀ b o, (b, o) ∈ A → base ≤ b) : OwS base e size v A n xs := by
 refine ⟨h.1, ?_⟩
 rcases h.2 with h2 | ⟨b, cap, cur, h1, h2, h3, h4, h5, h6, h7⟩
 ·exact .inl h2
 ·exact .inr ⟨b, cap, cur, h1, h2, hf b _ (by rw [h2]; exact List.mem_singleton.2 rfl), h4, h5, h6, h7⟩
theorem pb_snoc : ∀ {l : List HV} {ps : List PV} {Z N : Hp} {h : HV} {k : TypeId} {r : Value}, PB l ps Z → VBk h (.iface k r) N → PB (l ++ [h]) (ps ++ [⟨h.name, k, r⟩]) (N ++ Z)
 | [], [], Z, N, h, k, r, _, hv => ⟨rfl, hv.weaken fun x hx => List.mem_append_left _ hx, trivial⟩
 | [], _ :: _, _, _, _, _, _, hp, _ => hp.elim
 | _ :: _, [], _, _, _, _, _, hp, _ => hp.elim
 | x :: l, p :: ps, Z, N, h, k, r, hp, hv => ⟨hp.1, hp.2.1.weaken fun x hx => List.mem_append_right _ hx, pb_snoc hp.2.2 hv⟩
def canL (l : List HV) : Prop := ∀ i, i < l.length → canV (l.getD i HV0)
def getP : List PV → List UInt8 → Value
 | [], _ => .nilIface
 | p :: ps, nm => if p.name = nm then .iface p.k p.r else getP ps nm
theorem getP_at : ∀ {ps : List PV} {nm : List UInt8} {i : Nat}, i < ps.length → (∀ j, j < i → (ps.getD j PV0).name ≠ nm) → (ps.getD i PV0).name = nm → getP ps nm = .iface (ps.getD i PV0).k (ps.getD i PV0).r
 | [], _, _, h, _, _ => nomatch h
 | x :: l, nm, 0, _, _, h => by
  have h0 : x.name = nm := by simpa using h
  unfold getP; rw [if_pos h0]; rfl
 | x :: l, nm, i + 1, hi, hj, h => by
  have h0 : x.name ≠ nm := by simpa using hj 0 (by omega)
  unfold getP
  rw [if_neg h0, getP_at (i := i) (by simpa using hi) (fun j h2 => by simpa [List.getD_eq_getElem?_getD] using hj (j + 1) (by omega)) (by simpa [List.getD_eq_getElem?_getD] using h)]
  simp [List.getD_eq_getElem?_getD]
theorem getP_no : ∀ {ps : List PV} {nm : List UInt8}, (∀ j, j < ps.length → (ps.getD j PV0).name ≠ nm) → getP ps nm = .nilIface
 | [], _, _ => rfl
 | x :: l, nm, hj => by
  have h0 : x.name ≠ nm := by simpa using hj 0 (by simp)
  unfold getP
  rw [if_neg h0]
  exact getP_no fun j h2 => by simpa [List.getD_eq_getElem?_getD] using hj (j + 1) (by simpa using h2)
theorem getP_or (ps : List PV) (nm : List UInt8) : getP ps nm = .nilIface ∨ ∃ k u, getP ps nm = .iface k u := by
 induction ps with
 | nil => exact .inl rfl
 | cons p ps ih =>
  unfold getP
  split
  ·exact .inr ⟨_, _, rfl⟩
  ·exact ih
theorem getP_l {l : List HV} {ps : List PV} {Z : Hp} {nm : List UInt8} (h : PB l ps Z) : (atN l nm < 0 ∧ getP ps nm = .nilIface) ∨ ∃ i : Nat, atN l nm = (i : Int) ∧ i < l.length ∧ VBk (l.getD i HV0) (getP ps nm) Z ∧ nilI (getP ps nm) = false := by
 have hl := h.len
 by_cases h0 : 0 ≤ atN l nm
 ·obtain ⟨i, hi, hil, hj, he⟩ := atN_pos h0
  obtain ⟨hn, hv⟩ := h.get i hil
  have e : getP ps nm = .iface (ps.getD i PV0).k (ps.getD i PV0).r := getP_at (by omega) (fun j h2 => by rw [(h.get j (by omega)).1]; exact hj j h2) (by rw [hn]; exact he)
  exact .inr ⟨i, hi, hil, by rw [e]; exact hv, by rw [e]; rfl⟩
 ·refine .inl ⟨by omega, getP_no fun j hj => ?_⟩
  rw [(h.get j (by omega)).1]
  have := atN_neg (l := l) (nm := nm) (by omega)
  exact this _ (by rw [getD_get (by omega)]; exact List.getElem_mem _)
def getC (l : List HV) (nm : List UInt8) : Array Value := if 0 ≤ atN l nm then #[I (l.getD (atN l nm).toNat HV0).kind, I (l.getD (atN l nm).toNat HV0).width, I (l.getD (atN l nm).toNat HV0).int, S (l.getD (atN l nm).toNat HV0).text] else #[I 0, I 0, I 0, S []]
theorem getC_no {l : List HV} {nm : List UInt8} (h : atN l nm < 0) : getC l nm = #[I 0, I 0, I 0, S []] := if_neg (by omega)
theorem getC_at {l : List HV} {nm : List UInt8} {i : Nat} (h : atN l nm = (i : Int)) : getC l nm = #[I (l.getD i HV0).kind, I (l.getD i HV0).width, I (l.getD i HV0).int, S (l.getD i HV0).text] := by
 unfold getC
 rw [if_pos (by omega), h, Int.toNat_natCast]
theorem valueForB (h : HV) (hf : fineV h) (hcv : canV h) (hi : -9223372036854775808 ≤ h.int ∧ h.int ≤ 9223372036854775807) (hl : h.text.length ≤ 400000) : FnA Tryz.prog 35 [.agg #[I h.kind, I h.width, I h.int, S h.text]] [] (fun v N => ∃ k r, v = .iface k r ∧ VBk h v N) := by
 obtain ⟨hk0, hk5, hwd, hun, htm⟩ := hf
 obtain ⟨c0, c1, c2, c4⟩ := can_of hcv
 refine FnA.enter0 (n := 60) Tryz.func35 rfl rfl fun w0 => ?_
 refine WC.sub (fr' := [(0, _)]) ?_ ⟨rfl, trivial⟩
 refine WC.seq (WC.region ?_)
 refine WL.box rfl rfl rfl fun b0_0 hb0_0 => ?_
 refine WL.q (oq_assign rfl) rfl rfl rfl ?_
 refine WL.nil (WE.then_normal (WC.sub (fr' := [(1, _)]) ?_ ⟨rfl, trivial⟩))
 refine WC.seq (WC.seq (WC.region ?_))
 refine WL.q (oq_fieldAddr fld24_0 rfl) rfl rfl rfl ?_
 refine WL.q (oq_load flat3 rfl (.head _) (List.mem_singleton.2 rfl) rfl) rfl rfl rfl ?_
 refine WL.nil (WE.then_normal (WC.sub (fr' := [(1, _), (5, _)]) ?_ ⟨rfl, rfl, trivial⟩))
 refine WC.block (WC.seq (WC.region ?_))
 refine WL.q (oq_eql rfl rfl) rfl rfl rfl ?_
 refine WL.q (oq_assign rfl) rfl rfl rfl ?_
 refine WL.nil (WE.then_normal (WC.sub (fr' := [(1, _), (5, _), (6, _)]) ?_ ⟨rfl, rfl, rfl, trivial⟩))
 refine WC.cond rfl (fun q2 => ?_) (fun q2 => ?_)
 ·
  try simp only [Z1, Z2, Z3, Z4, Z5, Z6, Z7, Z8, Z9, Z0] at q2
  refine WC.seq (WC.seq (WC.region ?_))
  refine WL.q (oq_fieldAddr fld24_1 rfl) rfl rfl rfl ?_
  refine WL.q (oq_load flat3 rfl (.head _) (List.mem_singleton.2 rfl) rfl) rfl rfl rfl ?_
  refine WL.nil (WE.then_normal (WC.sub (fr' := [(1, _), (9, _)]) ?_ ⟨rfl, rfl, trivial⟩))
  refine WC.block (WC.seq (WC.region ?_))
  refine WL.q (oq_eql rfl rfl) rfl rfl rfl ?_
  refine WL.q (oq_assign rfl) rfl rfl rfl ?_
  refine WL.nil (WE.then_normal (WC.sub (fr' := [(1, _), (9, _), (10, _)]) ?_ ⟨rfl, rfl, rfl, trivial⟩))
  refine WC.cond rfl (fun q4 => ?_) (fun q4 => ?_)
  ·
   try simp only [Z1, Z2, Z3, Z4, Z5, Z6, Z7, Z8, Z9, Z0] at q4
   refine WC.seq ?_
   have hw8 := hwd q2
   refine WC.region ?_
   refine WL.q (oq_fieldAddr fld24_2 rfl) rfl rfl rfl ?_
   refine WL.q (oq_load flat2 rfl (.head _) (List.mem_singleton.2 rfl) rfl) rfl rfl rfl ?_
   refine WL.q (oq_conv Tryz.underlying2 Tryz.underlying127 rfl (by rw [i8_lo, i8_hi]; (first | omega | (simp only [List.length_cons, List.length_nil, List.length_append, List.length_drop, List.length_take]; omega)))) rfl rfl rfl ?_
   refine WL.q (oq_makeI conc127 rfl) rfl rfl rfl ?_
   refine WL.q (oq_assign rfl) rfl rfl rfl ?_
   refine WL.nil (WE.then_normal (WC.sub (fr' := [(2, _)]) ?_ ⟨rfl, trivial⟩))
   refine WC.ret (WE.block_ret (WE.then_ret (WE.block_ret (WE.then_ret ?_))))
   refine WE.lose hb0_0 ?_
   refine WE.add0 ?_
   refine WE.endA0 (.inl rfl) (res1 Tryz.results35 rfl) ?_ fresh0
   exact ⟨_, _, rfl, .inr (.inl ⟨q2, c1 q2, q4, by omega, rfl⟩)⟩
  ·
   try simp only [Z1, Z2, Z3, Z4, Z5, Z6, Z7, Z8, Z9, Z0] at q4
   refine WC.seq (WC.region ?_)
   refine WL.q (oq_eql rfl rfl) rfl rfl rfl ?_
   refine WL.q (oq_assign rfl) rfl rfl rfl ?_
   refine WL.nil (WE.then_normal (WC.sub (fr' := [(1, _), (9, _), (16, _)]) ?_ ⟨rfl, rfl, rfl, trivial⟩))
   refine WC.cond rfl (fun q6 => ?_) (fun q6 => ?_)
   ·
    try simp only [Z1, Z2, Z3, Z4, Z5, Z6, Z7, Z8, Z9, Z0] at q6
    refine WC.seq ?_
    have hw8 := hwd q2
    refine WC.region ?_
    refine WL.q (oq_fieldAddr fld24_2 rfl) rfl rfl rfl ?_
    refine WL.q (oq_load flat2 rfl (.head _) (List.mem_singleton.2 rfl) rfl) rfl rfl rfl ?_
    refine WL.q (oq_conv Tryz.underlying2 Tryz.underlying129 rfl (by rw [i16_lo, i16_hi]; (first | omega | (simp only [List.length_cons, List.length_nil, List.length_append, List.length_drop, List.length_take]; omega)))) rfl rfl rfl ?_
    refine WL.q (oq_makeI conc129 rfl) rfl rfl rfl ?_
    refine WL.q (oq_assign rfl) rfl rfl rfl ?_
    refine WL.nil (WE.then_normal (WC.sub (fr' := [(2, _)]) ?_ ⟨rfl, trivial⟩))
    refine WC.ret (WE.block_ret (WE.then_ret (WE.block_ret (WE.then_ret ?_))))
    refine WE.lose hb0_0 ?_
    refine WE.add0 ?_
    refine WE.endA0 (.inl rfl) (res1 Tryz.results35 rfl) ?_ fresh0
    exact ⟨_, _, rfl, .inr (.inr (.inl ⟨q2, c1 q2, q6, by omega, rfl⟩))⟩
   ·
    try simp only [Z1, Z2, Z3, Z4, Z5, Z6, Z7, Z8, Z9, Z0] at q6
    refine WC.seq (WC.region ?_)
    refine WL.q (oq_eql rfl rfl) rfl rfl rfl ?_
    refine WL.q (oq_assign rfl) rfl rfl rfl ?_
    refine WL.nil (WE.then_normal (WC.sub (fr' := [(1, _), (22, _)]) ?_ ⟨rfl, rfl, trivial⟩))
    refine WC.cond rfl (fun q8 => ?_) (fun q8 => ?_)
    ·
     try simp only [Z1, Z2, Z3, Z4, Z5, Z6, Z7, Z8, Z9, Z0] at q8
     refine WC.seq ?_
     have hw8 := hwd q2
     refine WC.region ?_
     refine WL.q (oq_fieldAddr fld24_2 rfl) rfl rfl rfl ?_
     refine WL.q (oq_load flat2 rfl (.head _) (List.mem_singleton.2 rfl) rfl) rfl rfl rfl ?_
     refine WL.q (oq_conv Tryz.underlying2 Tryz.underlying130 rfl (by rw [i32_lo, i32_hi]; (first | omega | (simp only [List.length_cons, List.length_nil, List.length_append, List.length_drop, List.length_take]; omega)))) rfl rfl rfl ?_
     refine WL.q (oq_makeI conc130 rfl) rfl rfl rfl ?_
     refine WL.q (oq_assign rfl) rfl rfl rfl ?_
     refine WL.nil (WE.then_normal (WC.sub (fr' := [(2, _)]) ?_ ⟨rfl, trivial⟩))
     refine WC.ret (WE.block_ret (WE.then_ret (WE.block_ret (WE.then_ret ?_))))
     refine WE.lose hb0_0 ?_
     refine WE.add0 ?_
     refine WE.endA0 (.inl rfl) (res1 Tryz.results35 rfl) ?_ fresh0
     exact ⟨_, _, rfl, .inr (.inr (.inr (.inl ⟨q2, c1 q2, q8, by omega, rfl⟩)))⟩
    ·
     try simp only [Z1, Z2, Z3, Z4, Z5, Z6, Z7, Z8, Z9, Z0] at q8
     refine WC.skip (WE.block_normal (WE.then_normal (WC.sub (fr' := [(1, _)]) ?_ ⟨rfl, trivial⟩)))
     refine WC.seq ?_
     have hw8 := hwd q2
     refine WC.region ?_
     refine WL.q (oq_fieldAddr fld24_2 rfl) rfl rfl rfl ?_
     refine WL.q (oq_load flat2 rfl (.head _) (List.mem_singleton.2 rfl) rfl) rfl rfl rfl ?_
     refine WL.q (oq_makeI conc131 rfl) rfl rfl rfl ?_
     refine WL.q (oq_assign rfl) rfl rfl rfl ?_
     refine WL.nil (WE.then_normal (WC.sub (fr' := [(2, _)]) ?_ ⟨rfl, trivial⟩))
     refine WC.ret (WE.block_ret (WE.then_ret ?_))
     refine WE.lose hb0_0 ?_
     refine WE.add0 ?_
     refine WE.endA0 (.inl rfl) (res1 Tryz.results35 rfl) ?_ fresh0
     exact ⟨_, _, rfl, .inr (.inr (.inr (.inr (.inl ⟨q2, c1 q2, by omega, hi, rfl⟩))))⟩
 ·
  try simp only [Z1, Z2, Z3, Z4, Z5, Z6, Z7, Z8, Z9, Z0] at q2
  refine WC.seq (WC.region ?_)
  refine WL.q (oq_eql rfl rfl) rfl rfl rfl ?_
  refine WL.q (oq_assign rfl) rfl rfl rfl ?_
  refine WL.nil (WE.then_normal (WC.sub (fr' := [(1, _), (5, _), (31, _)]) ?_ ⟨rfl, rfl, rfl, trivial⟩))
  refine WC.cond rfl (fun q11 => ?_) (fun q11 => ?_)
  ·
   try simp only [Z1, Z2, Z3, Z4, Z5, Z6, Z7, Z8, Z9, Z0] at q11
   refine WC.seq (WC.region ?_)
   refine WL.q (oq_fieldAddr fld24_3 rfl) rfl rfl rfl ?_
   refine WL.q (oq_load flat9 rfl (.head _) (List.mem_singleton.2 rfl) rfl) rfl rfl rfl ?_
   refine WL.toBytes Tryz.underlying9 Tryz.underlying132 Tryz.underlying5 rfl (by unfold maxLen; (first | omega | (simp only [List.length_cons, List.length_nil, List.length_append, List.length_drop, List.length_take]; omega))) rfl rfl fun v12_2 A12_2 hr12_2 hA12_2 => ?_
   refine WL.q (oq_makeI conc132 rfl) rfl rfl rfl ?_
   refine WL.q (oq_assign rfl) rfl rfl rfl ?_
   refine WL.nil (WE.then_normal (WC.sub (fr' := [(2, _)]) ?_ ⟨rfl, trivial⟩))
   refine WC.ret (WE.block_ret (WE.then_ret ?_))
   refine WE.f1 ?_
   refine WE.lose hb0_0 ?_
   refine WE.endA0 (.inl rfl) (res1 Tryz.results35 rfl) ?_ (hA12_2)
   exact ⟨_, _, rfl, .inr (.inr (.inr (.inr (.inr (.inl ⟨q11, (c2 (.inl q11)).1, (c2 (.inl q11)).2, _, rfl, hr12_2⟩)))))⟩
  ·
   try simp only [Z1, Z2, Z3, Z4, Z5, Z6, Z7, Z8, Z9, Z0] at q11
   refine WC.seq (WC.region ?_)
   refine WL.q (oq_eql rfl rfl) rfl rfl rfl ?_
   refine WL.q (oq_assign rfl) rfl rfl rfl ?_
   refine WL.nil (WE.then_normal (WC.sub (fr' := [(1, _), (5, _), (37, _)]) ?_ ⟨rfl, rfl, rfl, trivial⟩))
   refine WC.cond rfl (fun q13 => ?_) (fun q13 => ?_)
   ·
    try simp only [Z1, Z2, Z3, Z4, Z5, Z6, Z7, Z8, Z9, Z0] at q13
    refine WC.seq (WC.region ?_)
    refine WL.q (oq_fieldAddr fld24_3 rfl) rfl rfl rfl ?_
    refine WL.q (oq_load flat9 rfl (.head _) (List.mem_singleton.2 rfl) rfl) rfl rfl rfl ?_
    refine WL.q (oq_makeI conc133 rfl) rfl rfl rfl ?_
    refine WL.q (oq_assign rfl) rfl rfl rfl ?_
    refine WL.nil (WE.then_normal (WC.sub (fr' := [(2, _)]) ?_ ⟨rfl, trivial⟩))
    refine WC.ret (WE.block_ret (WE.then_ret ?_))
    refine WE.lose hb0_0 ?_
    refine WE.add0 ?_
    refine WE.endA0 (.inl rfl) (res1 Tryz.results35 rfl) ?_ fresh0
    exact ⟨_, _, rfl, .inr (.inr (.inr (.inr (.inr (.inr (.inl ⟨q13, (c2 (.inr (.inl q13))).1, (c2 (.inr (.inl q13))).2, rfl⟩))))))⟩
   ·
    try simp only [Z1, Z2, Z3, Z4, Z5, Z6, Z7, Z8, Z9, Z0] at q13
    refine WC.seq (WC.region ?_)
    refine WL.q (oq_eql rfl rfl) rfl rfl rfl ?_
    refine WL.q (oq_assign rfl) rfl rfl rfl ?_
    refine WL.nil (WE.then_normal (WC.sub (fr' := [(1, _), (5, _), (42, _)]) ?_ ⟨rfl, rfl, rfl, trivial⟩))
    refine WC.cond rfl (fun q15 => ?_) (fun q15 => ?_)
    ·
     try simp only [Z1, Z2, Z3, Z4, Z5, Z6, Z7, Z8, Z9, Z0] at q15
     refine WC.seq ?_
     have htm2 := htm q15
     refine WC.region ?_
     refine WL.q (oq_fieldAddr fld24_2 rfl) rfl rfl rfl ?_
     refine WL.q (oq_load flat2 rfl (.head _) (List.mem_singleton.2 rfl) rfl) rfl rfl rfl ?_
     refine WL.qc (oq_call (unixMilli h.int htm2.1 htm2.2) call43 rfl) rfl rfl rfl ?_
     refine WL.q (oq_makeI conc134 rfl) rfl rfl rfl ?_
     refine WL.q (oq_assign rfl) rfl rfl rfl ?_
     refine WL.nil (WE.then_normal (WC.sub (fr' := [(2, _)]) ?_ ⟨rfl, trivial⟩))
     refine WC.ret (WE.block_ret (WE.then_ret ?_))
     refine WE.lose hb0_0 ?_
     refine WE.add0 ?_
     refine WE.endA0 (.inl rfl) (res1 Tryz.results35 rfl) ?_ fresh0
     exact ⟨_, _, rfl, .inr (.inr (.inr (.inr (.inr (.inr (.inr (.inl ⟨q15, (c4 q15).1, (c4 q15).2, hi, rfl⟩)))))))⟩
    ·
     try simp only [Z1, Z2, Z3, Z4, Z5, Z6, Z7, Z8, Z9, Z0] at q15
     refine WC.seq (WC.region ?_)
     refine WL.q (oq_eql rfl rfl) rfl rfl rfl ?_
     refine WL.q (oq_assign rfl) rfl rfl rfl ?_
     refine WL.nil (WE.then_normal (WC.sub (fr' := [(1, _), (48, _)]) ?_ ⟨rfl, rfl, trivial⟩))
     refine WC.cond rfl (fun q17 => ?_) (fun q17 => ?_)
     ·
      try simp only [Z1, Z2, Z3, Z4, Z5, Z6, Z7, Z8, Z9, Z0] at q17
      refine WC.seq ?_
      have hul := hun q17
      refine WC.region ?_
      refine WL.alloc ty137 rfl rfl fun ub hub => ?_
      refine WL.asB (List.replicate 16 0) rfl ?_
      refine WL.nil (WE.then_normal (WC.sub (fr' := [(1, _), (3, _)]) ?_ ⟨rfl, rfl, trivial⟩))
      refine WC.seq ?_
      refine WC.tailM (pl := []) (ql := [_, _, _]) (tl := [_]) [] [0, 1, 2] 3 [] (by kernel_rfl) (by kernel_rfl) (by kernel_rfl) (by kernel_rfl) (by kernel_rfl) (by kernel_rfl) (by decide) rfl rfl rfl (by decide) (by repeat (first | with_reducible exact QOk.body | with_reducible apply QOk.then | with_reducible apply QOk.block | exact QOk.body | apply QOk.then | apply QOk.block)) ?_
      refine WM.nil ?_
      refine WY.q (oq_sliceArr Tryz.underlying137 ty5 rfl rfl rfl (by (first | (simp only [List.length_replicate]; omega) | omega)) (by (first | (simp only [List.length_replicate]; omega) | omega))) rfl rfl rfl ?_
      refine WY.q (oq_fieldAddr fld24_3 rfl) rfl rfl rfl ?_
      refine WY.q (oq_load flat9 rfl (.tail _ (.head _)) (List.mem_singleton.2 rfl) rfl) rfl rfl rfl ?_
      refine WY.nil ?_
      refine WL.copyBS Tryz.underlying28 ty5 rfl rfl (by (first | (simp only [List.length_replicate]; omega) | omega)) rfl rfl ?_
      refine WL.nil (WE.then_normal (WC.sub (fr' := [(3, _)]) ?_ ⟨rfl, trivial⟩))
      refine WC.seq ?_
      have hcp : List.take (0 + 0) (List.replicate 16 0) ++ List.take (min h.text.length (16 - 0)) h.text ++ List.drop (0 + 0 + min h.text.length (16 - 0)) (List.replicate 16 0) = h.text := by
       rw [hul, List.take_of_length_le (l := h.text) (by omega)]; simp
      rw [hcp]
      refine WC.region ?_
      refine WL.q (oq_loadArr agg137 ty137 (hul) rfl (.head _)) rfl rfl rfl ?_
      refine WL.q (oq_makeI conc137 rfl) rfl rfl rfl ?_
      refine WL.q (oq_assign rfl) rfl rfl rfl ?_
      refine WL.nil (WE.then_normal (WC.sub (fr' := [(2, _)]) ?_ ⟨rfl, trivial⟩))
      refine WC.ret (WE.block_ret (WE.then_ret ?_))
      refine WE.lose hub ?_
      refine WE.lose hb0_0 ?_
      refine WE.add0 ?_
      refine WE.endA0 (.inl rfl) (res1 Tryz.results35 rfl) ?_ fresh0
      exact ⟨_, _, rfl, .inr (.inr (.inr (.inr (.inr (.inr (.inr (.inr ⟨q17, (c2 (.inr (.inr q17))).1, (c2 (.inr (.inr q17))).2, hul, rfl⟩)))))))⟩
     ·
      try simp only [Z1, Z2, Z3, Z4, Z5, Z6, Z7, Z8, Z9, Z0] at q17
      refine WC.skip (WE.block_normal (WE.then_normal (WC.sub (fr' := [(1, _)]) ?_ ⟨rfl, trivial⟩)))
      refine WC.seq (WC.region ?_)
      refine WL.q (oq_fieldAddr fld24_2 rfl) rfl rfl rfl ?_
      refine WL.q (oq_load flat2 rfl (.head _) (List.mem_singleton.2 rfl) rfl) rfl rfl rfl ?_
      refine WL.q (oq_neq rfl rfl) rfl rfl rfl ?_
      refine WL.q (oq_makeI conc126 rfl) rfl rfl rfl ?_
      refine WL.q (oq_assign rfl) rfl rfl rfl ?_
      refine WL.nil (WE.then_normal (WC.sub (fr' := [(2, _)]) ?_ ⟨rfl, trivial⟩))
      refine WC.ret ?_
      refine WE.lose hb0_0 ?_
      refine WE.add0 ?_
      refine WE.endA0 (.inl rfl) (res1 Tryz.results35 rfl) ?_ fresh0
      have hk : h.kind = 0 := by omega
      obtain ⟨w0_, t0_, i0_⟩ := c0 hk
      have e : decide (¬ h.int = 0) = decide (h.int = 1) := by
       rcases i0_ with e | e <;> rw [e] <;> rfl
      rw [e]
      exact ⟨_, _, rfl, .inl ⟨hk, w0_, t0_, i0_, rfl⟩⟩
theorem headersForB (v : Value) (L : Hp) (l : List HV) (hr : RdS 5 v L l.length (recsV HV.row l)) (hok : okH l) (hcan : canL l) (hint : intOk l) (hn : l.length ≤ 1000) : FnA Tryz.prog 31 [v] L (fun w N => ∃ ps B Z, N = B ++ Z ∧ OwS 0 125 2 w B ps.length (recsV PV.row ps) ∧ PB l ps Z) := by
 refine FnA.enter (n := 23) Tryz.func31 rfl rfl fun w0 => ?_
 refine WC.sub (fr' := [(0, _)]) ?_ ⟨rfl, trivial⟩
 refine WC.seq (WC.region ?_)
 refine WL.q (oq_assign rfl) rfl rfl rfl ?_
 refine WL.nil (WE.then_normal (WC.sub (fr' := [(0, _)]) ?_ ⟨rfl, trivial⟩))
 refine WC.seq ?_
 refine WC.add0 ?_
 refine WC.add0 ?_
 refine WC.region ?_
 refine WL.q (oq_assign rfl) rfl rfl rfl ?_
 refine WL.nil (WE.then_normal (WC.sub (fr' := [(0, _), (3, _)]) ?_ ⟨rfl, rfl, trivial⟩))
 refine WC.seq (WC.seq (WC.region ?_))
 refine WL.q (oq_move rfl) rfl rfl rfl ?_
 refine WL.q (oq_len_rd hr Tryz.underlying22 rfl) rfl rfl rfl ?_
 refine WL.q (oq_move rfl) rfl rfl rfl ?_
 refine WL.nil (WE.then_normal (WC.sub (fr' := [(3, _), (6, _), (7, _), (8, _)]) ?_ ⟨rfl, rfl, rfl, rfl, trivial⟩))
 refine WC.block ?_
 refine WC.f2 ?_
 refine WC.f1 ?_
 refine WC.f2 ?_
 refine WC.loop (ι := Nat × Value × Hp × Hp × (List PV)) (fun i_ => (fun (i : Nat) (u : Value) (B : Hp) (Z : Hp) (ps : List PV) => [(3, u), (6, v), (7, I (l.length : Int)), (8, I (i : Int))]) i_.1 i_.2.1 i_.2.2.1 i_.2.2.2.1 i_.2.2.2.2) (fun i_ => (fun (i : Nat) (u : Value) (B : Hp) (Z : Hp) (ps : List PV) => [B, Z, L]) i_.1 i_.2.1 i_.2.2.1 i_.2.2.2.1 i_.2.2.2.2) (fun i_ => (fun (i : Nat) (u : Value) (B : Hp) (Z : Hp) (ps : List PV) => i ≤ l.length ∧ (∀ b o, (b, o) ∈ Z → w0.heap.size ≤ b) ∧ OwS w0.heap.size 125 2 u B ps.length (recsV PV.row ps) ∧ PB (l.take i) ps Z) i_.1 i_.2.1 i_.2.2.1 i_.2.2.2.1 i_.2.2.2.2) (fun i_ => (fun (i : Nat) (u : Value) (B : Hp) (Z : Hp) (ps : List PV) => l.length - i) i_.1 i_.2.1 i_.2.2.1 i_.2.2.2.1 i_.2.2.2.2) ((0, _, _, [], [])) ?_ ⟨rfl, rfl, rfl, rfl, trivial⟩ (List.Perm.refl _) ?_
 ·try dsimp only
  exact ⟨by omega, (fun _ _ h => nomatch h), OwS.nil _ _ _, trivial⟩
 ·rintro ⟨i, u, B, Z, ps⟩ hp
  try dsimp only at hp
  obtain ⟨hi, hZ, ho, hp⟩ := hp
  show WC _ _ _ _ _ _ ([(3, u), (6, v), (7, I (l.length : Int)), (8, I (i : Int))]) ([B, Z, L])
  refine WC.seq (WC.region ?_)
  refine WL.q (oq_lss rfl rfl) rfl rfl rfl ?_
  refine WL.nil (WE.then_normal (WC.sub (fr' := [(3, _), (6, _), (7, _), (8, _), (9, _)]) ?_ ⟨rfl, rfl, rfl, rfl, rfl, trivial⟩))
  refine WC.seq ?_
  refine WC.cond rfl (fun q3 => ?_) (fun q3 => ?_)
  ·
   try simp only [Z1, Z2, Z3, Z4, Z5, Z6, Z7, Z8, Z9, Z0] at q3
   refine WC.skip (WE.then_normal (WC.sub (fr' := [(3, _), (6, _), (7, _), (8, _)]) ?_ ⟨rfl, rfl, rfl, rfl, trivial⟩))
   refine WC.seq (WC.block (WC.seq ?_))
   have hlt : i < l.length := by omega
   have hpl : ps.length = i := by rw [hp.len, List.length_take]; omega
   refine WC.region ?_
   refine WL.q (oq_ixaddr hr Tryz.underlying22 ty32 rfl rfl (by (first | omega | (simp only [List.length_cons, List.length_nil, List.length_append, List.length_drop, List.length_take]; omega)))) rfl rfl rfl ?_
   refine WL.q (oq_loadEl (f := HV.row) HV0 [_, _, _, _, _] (fun _ => rfl) agg32 ty32 hr (.tail _ (.tail _ (.head _))) rfl (by (first | omega | (simp only [List.length_cons, List.length_nil, List.length_append, List.length_drop, List.length_take]; omega))) (by first | exact Int.toNat_natCast _ | exact rfl) rfl) rfl rfl rfl ?_
   refine WL.alloc ty32 rfl rfl fun o5 ho5 => ?_
   refine WL.storeS #[_, _, _, _, _] ty32 rfl rfl rfl rfl (Nat.le_of_ble_eq_true rfl) rfl rfl ?_
   refine WL.nil (WE.then_normal (WC.sub (fr' := [(3, _), (5, _), (6, _), (7, _), (8, _)]) ?_ ⟨rfl, rfl, rfl, rfl, rfl, trivial⟩))
   refine WC.gate 7 ([(o5, .cells #[S (l.getD i HV0).name, I (l.getD i HV0).kind, I (l.getD i HV0).width, I (l.getD i HV0).int, S (l.getD i HV0).text] 32 (0, 0))]) (by kernel_rfl) ?_
   refine WG.p 0 rfl (.inr (.head _)) (fun w0 => oq_move rfl) rfl rfl rfl ?_
   refine WG.q 1 [6, 2] rfl (.head _) (fun w0 => oq_fieldAddr fld32_0 rfl) rfl rfl rfl ?_
   refine WG.q 2 [6] rfl (.head _) (fun w0 => oq_load flat9 rfl (.head _) (List.mem_singleton.2 rfl) rfl) rfl rfl rfl ?_
   refine WG.q 3 [6, 5, 4] rfl (.head _) (fun w0 => oq_fieldAddr fld32_1 rfl) rfl rfl rfl ?_
   refine WG.q 4 [6, 5] rfl (.head _) (fun w0 => oq_loadS [_, _, _, _] agg24 ty24 rfl (.head _) (List.mem_singleton.2 rfl) rfl rfl) rfl rfl rfl ?_
   refine WG.step (i := 5) (by kernel_rfl) rfl ?_
   refine WL.callA0 (valueForB (l.getD i HV0) (hok i hlt).1 (hcan i hlt) ⟨(hint i hlt).1, (hint i hlt).2.1⟩ (hok i hlt).2) call35 rfl rfl rfl fun v5_5 N5_5 hR5_5 hN5_5 => ?_
   obtain ⟨k5, r5, rfl, hvb⟩ := hR5_5
   refine WL.nil ?_
   refine WE.toG (.tail _ (.head _)) ?_
   refine WG.q 6 [] rfl (.tail _ (.head _)) (fun w0 => oq_build #[_, _] str125 ty125 rfl rfl) rfl rfl rfl ?_
   refine WG.step (i := 7) (by kernel_rfl) rfl ?_
   refine WL.buildSS (#[S (l.getD i HV0).name, .iface k5 r5]) Tryz.underlying62 ty125 rfl (by decide) (by decide) (by kernel_rfl) (by kernel_rfl) rfl rfl fun v5_7 A5_7 ho5_7 hne5_7 => ?_
   refine WL.nil ?_
   refine WE.toG0 (by kernel_rfl) ?_
   refine WG.step (i := 8) (by kernel_rfl) rfl ?_
   refine WL.f3 ?_
   refine WL.appendS ho Tryz.underlying62 ty125 rfl (by decide) rfl rfl ho5_7.rd (.head _) (onePV _ _ _) (by unfold maxLen; omega) (by omega) rfl rfl fun v5b A5b ho5b hne5b => ?_
   refine WL.nil ?_
   refine WE.toG0 (by kernel_rfl) ?_
   refine WG.p 9 rfl (.inl (by kernel_rfl)) (fun w0 => oq_assign rfl) rfl rfl rfl ?_
   refine WG.done (by kernel_rfl) ?_
   refine WE.block_normal (WE.then_normal (WC.sub (fr' := [(3, _), (6, _), (7, _), (8, _)]) ?_ ⟨rfl, rfl, rfl, rfl, trivial⟩))
   refine WC.f4 ?_
   refine WC.f3 ?_
   refine WC.cat ?_
   refine WC.region ?_
   refine WL.q (oq_add rfl rfl (by rw [i64_lo, i64_hi]; (first | omega | (simp only [List.length_cons, List.length_nil, List.length_append, List.length_drop, List.length_take]; omega)))) rfl rfl rfl ?_
   refine WL.q (oq_move rfl) rfl rfl rfl ?_
   refine WL.nil ?_
   refine WE.f2 ?_
   refine WE.forget ho5_7.fresh ?_
   refine WE.f2 ?_
   refine WE.lose ho5 ?_
   refine WE.f2 ?_
   refine WE.f1 ?_
   refine WE.f2 ?_
   refine WE.again (i + 1, _, _, _, ps ++ [⟨(l.getD i HV0).name, k5, r5⟩]) ?_ ?_ ⟨rfl, rfl, rfl, rfl, trivial⟩ (List.Perm.refl _)
   ·try dsimp only
    exact ⟨by omega, fresh_cat hN5_5 hZ, by have h2 := ho5b; rw [recsPV_snoc ps ⟨_, _, _⟩] at h2; simpa using h2, by rw [take_snoc hlt]; exact pb_snoc hp hvb⟩
   ·(try dsimp only); omega
  ·
   try simp only [Z1, Z2, Z3, Z4, Z5, Z6, Z7, Z8, Z9, Z0] at q3
   refine WC.exit (WE.then_exit (WE.then_exit (WE.block_same (WE.then_normal (WC.sub (fr' := [(3, _)]) ?_ ⟨rfl, trivial⟩)))))
   refine WC.seq ?_
   obtain rfl : i = l.length := by omega
   rw [List.take_length] at hp
   refine WC.region ?_
   refine WL.q (oq_move rfl) rfl rfl rfl ?_
   refine WL.q (oq_assign rfl) rfl rfl rfl ?_
   refine WL.nil (WE.then_normal (WC.sub (fr' := [(2, _)]) ?_ ⟨rfl, trivial⟩))
   refine WC.ret ?_
   refine WE.cat ?_
   refine WE.endA (.inl rfl) (res1 Tryz.results31 rfl) ?_ (fresh_cat (ho.fresh) (hZ))
   exact ⟨ps, _, _, rfl, own0 ho, hp⟩
theorem getH (u : Value) (Z : Hp) (ps : List PV) (hr : RdS 2 u Z ps.length (recsV PV.row ps)) (hn : ps.length ≤ 1000000) (nm : List UInt8) : FnR Tryz.prog 32 [u, S nm] Z (getP ps nm) := by
 refine FnR.enter (n := 23) Tryz.func32 rfl rfl fun w0 => ?_
 refine WC.sub (fr' := [(0, _), (1, _)]) ?_ ⟨rfl, rfl, trivial⟩
 refine WC.seq (WC.region ?_)
 refine WL.q (oq_assign rfl) rfl rfl rfl ?_
 refine WL.nil (WE.then_normal (WC.sub (fr' := [(0, _), (1, _)]) ?_ ⟨rfl, rfl, trivial⟩))
 refine WC.seq (WC.seq (WC.region ?_))
 refine WL.q (oq_move rfl) rfl rfl rfl ?_
 refine WL.q (oq_len_rd hr Tryz.underlying62 rfl) rfl rfl rfl ?_
 refine WL.q (oq_move rfl) rfl rfl rfl ?_
 refine WL.nil (WE.then_normal (WC.sub (fr' := [(0, _), (1, _), (8, _), (9, _)]) ?_ ⟨rfl, rfl, rfl, rfl, trivial⟩))
 refine WC.block ?_
 refine WC.loop (ι := Nat) (fun (i : Nat) => [(0, u), (1, S nm), (8, I (ps.length : Int)), (9, I (i : Int))]) (fun (i : Nat) => [Z]) (fun (i : Nat) => i ≤ ps.length ∧ ∀ j, j < i → (ps.getD j PV0).name ≠ nm) (fun (i : Nat) => ps.length - i) (0) ?_ ⟨rfl, rfl, rfl, rfl, trivial⟩ (List.Perm.refl _) ?_
 ·try dsimp only
  exact ⟨by omega, fun j h => (by omega)⟩
 ·rintro i hp
  try dsimp only at hp
  obtain ⟨hi, hnm⟩ := hp
  show WC _ _ _ _ _ _ ([(0, u), (1, S nm), (8, I (ps.length : Int)), (9, I (i : Int))]) ([Z])
  refine WC.seq (WC.region ?_)
  refine WL.q (oq_lss rfl rfl) rfl rfl rfl ?_
  refine WL.nil (WE.then_normal (WC.sub (fr' := [(0, _), (1, _), (8, _), (9, _), (10, _)]) ?_ ⟨rfl, rfl, rfl, rfl, rfl, trivial⟩))
  refine WC.seq ?_
  refine WC.cond rfl (fun q2 => ?_) (fun q2 => ?_)
  ·
   try simp only [Z1, Z2, Z3, Z4, Z5, Z6, Z7, Z8, Z9, Z0] at q2
   refine WC.skip (WE.then_normal (WC.sub (fr' := [(0, _), (1, _), (8, _), (9, _)]) ?_ ⟨rfl, rfl, rfl, rfl, trivial⟩))
   refine WC.seq (WC.block (WC.seq (WC.region ?_)))
   refine WL.q (oq_move rfl) rfl rfl rfl ?_
   refine WL.q (oq_assign rfl) rfl rfl rfl ?_
   refine WL.nil (WE.then_normal (WC.sub (fr' := [(0, _), (1, _), (5, _), (8, _), (9, _)]) ?_ ⟨rfl, rfl, rfl, rfl, rfl, trivial⟩))
   refine WC.seq (WC.region ?_)
   refine WL.q (oq_move rfl) rfl rfl rfl ?_
   refine WL.q (oq_move rfl) rfl rfl rfl ?_
   refine WL.q (oq_ixaddr hr Tryz.underlying62 ty125 rfl rfl (by (first | omega | (simp only [List.length_cons, List.length_nil, List.length_append, List.length_drop, List.length_take]; omega)))) rfl rfl rfl ?_
   refine WL.q (oq_loadEl (f := PV.row) PV0 [_, _] (fun _ => rfl) agg125 ty125 hr (.head _) rfl (by (first | omega | (simp only [List.length_cons, List.length_nil, List.length_append, List.length_drop, List.length_take]; omega))) (by first | exact Int.toNat_natCast _ | exact rfl) rfl) rfl rfl rfl ?_
   refine WL.alloc ty125 rfl rfl fun gb hgb => ?_
   refine WL.storeS #[_, _] ty125 rfl rfl rfl rfl (Nat.le_of_ble_eq_true rfl) rfl rfl ?_
   refine WL.nil (WE.then_normal (WC.sub (fr' := [(0, _), (1, _), (6, _), (8, _), (9, _)]) ?_ ⟨rfl, rfl, rfl, rfl, rfl, trivial⟩))
   refine WC.seq (WC.region ?_)
   refine WL.q (oq_fieldAddr fld125_0 rfl) rfl rfl rfl ?_
   refine WL.q (oq_load flat9 rfl (.head _) (List.mem_singleton.2 rfl) rfl) rfl rfl rfl ?_
   refine WL.q (oq_move rfl) rfl rfl rfl ?_
   refine WL.q (oq_seql rfl rfl) rfl rfl rfl ?_
   refine WL.nil (WE.then_normal (WC.sub (fr' := [(0, _), (1, _), (6, _), (8, _), (9, _), (19, _)]) ?_ ⟨rfl, rfl, rfl, rfl, rfl, rfl, trivial⟩))
   refine WC.cond rfl (fun q5 => ?_) (fun q5 => ?_)
   ·
    try simp only [Z1, Z2, Z3, Z4, Z5, Z6, Z7, Z8, Z9, Z0] at q5
    refine WC.seq (WC.region ?_)
    refine WL.q (oq_fieldAddr fld125_1 rfl) rfl rfl rfl ?_
    refine WL.q (oq_load flat60 rfl (.head _) (List.mem_singleton.2 rfl) rfl) rfl rfl rfl ?_
    refine WL.q (oq_assign rfl) rfl rfl rfl ?_
    refine WL.nil (WE.then_normal (WC.sub (fr' := [(4, _)]) ?_ ⟨rfl, trivial⟩))
    refine WC.ret (WE.block_ret (WE.then_ret (WE.then_ret (WE.block_ret (WE.then_ret ?_)))))
    refine WE.lose hgb ?_
    refine WE.endR (.inl rfl) (res1 Tryz.results32 rfl) ?_
    exact (getP_at (by omega) hnm (by simpa using q5)).symm
   ·
    try simp only [Z1, Z2, Z3, Z4, Z5, Z6, Z7, Z8, Z9, Z0] at q5
    refine WC.skip (WE.block_normal (WE.then_normal (WC.sub (fr' := [(0, _), (1, _), (8, _), (9, _)]) ?_ ⟨rfl, rfl, rfl, rfl, trivial⟩)))
    refine WC.region ?_
    refine WL.q (oq_add rfl rfl (by rw [i64_lo, i64_hi]; (first | omega | (simp only [List.length_cons, List.length_nil, List.length_append, List.length_drop, List.length_take]; omega)))) rfl rfl rfl ?_
    refine WL.q (oq_move rfl) rfl rfl rfl ?_
    refine WL.nil ?_
    refine WE.lose hgb ?_
    refine WE.again (i + 1) ?_ ?_ ⟨rfl, rfl, rfl, rfl, trivial⟩ (List.Perm.refl _)
    ·try dsimp only
     exact ⟨by omega, names_step hnm (by simpa using q5)⟩
    ·(try dsimp only); omega
  ·
   try simp only [Z1, Z2, Z3, Z4, Z5, Z6, Z7, Z8, Z9, Z0] at q2
   refine WC.exit (WE.then_exit (WE.then_exit (WE.block_same (WE.then_normal (WC.sub (fr' := []) ?_ trivial)))))
   refine WC.seq (WC.region ?_)
   refine WL.q (oq_assign rfl) rfl rfl rfl ?_
   refine WL.nil (WE.then_normal (WC.sub (fr' := [(4, _)]) ?_ ⟨rfl, trivial⟩))
   refine WC.ret ?_
   refine WE.endR (.inl rfl) (res1 Tryz.results32 rfl) ?_
   rw [getP_no (fun j hj => hnm j (by omega))]
theorem vGet (v : Value) (L : Hp) (l : List HV) (hr : RdS 5 v L l.length (recsV HV.row l)) (hok : okH l) (hcan : canL l) (hint : intOk l) (hn : l.length ≤ 1000) (nm : List UInt8) : FnR Tryz.prog 15 [v, S nm] L (.tuple #[.agg (getC l nm), .bool (decide (0 ≤ atN l nm))]) := by
 refine FnR.enter (n := 16) Tryz.func15 rfl rfl fun w0 => ?_
 refine WC.sub (fr' := [(0, _), (1, _)]) ?_ ⟨rfl, rfl, trivial⟩
 refine WC.seq (WC.region ?_)
 refine WL.alloc ty24 rfl rfl fun res hres => ?_
 refine WL.q (oq_assign rfl) rfl rfl rfl ?_
 refine WL.nil (WE.then_normal (WC.sub (fr' := [(0, _), (1, _), (4, _)]) ?_ ⟨rfl, rfl, rfl, trivial⟩))
 refine WC.seq (WC.region ?_)
 refine WL.q (oq_move rfl) rfl rfl rfl ?_
 refine WL.f1 ?_
 refine WL.callA (headersForB v L l hr hok hcan hint hn) call31 rfl rfl rfl fun v1_1 N1_1 hR1_1 hN1_1 => ?_
 obtain ⟨ps, B, Z, rfl, ho0, hpb⟩ := hR1_1
 have hpl := hpb.len
 have hr2 := ho0.rd.weaken (C := B ++ Z) (fun x hx => List.mem_append_left _ hx)
 refine WL.q (oq_move rfl) rfl rfl rfl ?_
 refine WL.qc (oq_callRm (getH _ (B ++ Z) ps hr2 (by omega) nm) (.head _) call32 rfl) rfl rfl rfl ?_
 refine WL.q (oq_assign rfl) rfl rfl rfl ?_
 refine WL.nil (WE.then_normal (WC.sub (fr' := [(4, _), (6, _)]) ?_ ⟨rfl, rfl, trivial⟩))
 refine WC.seq (WC.seq (WC.region ?_))
 refine WL.q (oq_move rfl) rfl rfl rfl ?_
 refine WL.q (oq_ieql Tryz.underlying60 rfl (getP_or _ _)) rfl rfl rfl ?_
 refine WL.nil (WE.then_normal (WC.sub (fr' := [(4, _), (6, _), (12, _)]) ?_ ⟨rfl, rfl, rfl, trivial⟩))
 refine WC.cond rfl (fun q2 => ?_) (fun q2 => ?_)
 ·
  try simp only [Z1, Z2, Z3, Z4, Z5, Z6, Z7, Z8, Z9, Z0] at q2
  refine WC.seq (WC.region ?_)
  refine WL.q (oq_build #[_, _, _, _] str24 ty24 rfl rfl) rfl rfl rfl ?_
  refine WL.f2 ?_
  refine WL.storeS #[_, _, _, _] ty24 rfl rfl rfl rfl (Nat.le_of_ble_eq_true rfl) rfl rfl ?_
  refine WL.q (oq_assign rfl) rfl rfl rfl ?_
  refine WL.nil (WE.then_normal (WC.sub (fr' := [(4, _), (5, _)]) ?_ ⟨rfl, rfl, trivial⟩))
  refine WC.ret (WE.then_ret ?_)
  refine WE.endDR (.inl rfl) (rs2 Tryz.results15 (rv_cellS [_, _, _, _] agg24 ty24 rfl (.head _) (List.mem_singleton.2 rfl) rfl rfl) (rv_tmp rfl)) (dr_lose hres (dr_forget hN1_1 dr_refl)) ?_
  rcases getP_l (nm := nm) hpb with ⟨h, _⟩ | ⟨i, _, _, _, h⟩
  ·rw [getC_no h, decide_eq_false (by omega)]
  ·rw [h] at q2; cases q2
 ·
  try simp only [Z1, Z2, Z3, Z4, Z5, Z6, Z7, Z8, Z9, Z0] at q2
  refine WC.skip (WE.then_normal (WC.sub (fr' := [(4, _), (6, _)]) ?_ ⟨rfl, rfl, trivial⟩))
  refine WC.seq ?_
  obtain ⟨i, hi, hil, hvb0, _⟩ := (getP_l (nm := nm) hpb).resolve_left (fun h => by rw [h.2] at q2; cases q2)
  have hvb := hvb0.weaken (C := B ++ Z) (fun x hx => List.mem_append_right _ hx)
  refine WC.region ?_
  refine WL.q (oq_move rfl) rfl rfl rfl ?_
  refine WL.qc (oq_callRm (valueBack hvb) (.head _) call33 rfl) rfl rfl rfl ?_
  refine WL.f2 ?_
  refine WL.storeS #[_, _, _, _] ty24 rfl rfl rfl rfl (Nat.le_of_ble_eq_true rfl) rfl rfl ?_
  refine WL.q (oq_assign rfl) rfl rfl rfl ?_
  refine WL.nil (WE.then_normal (WC.sub (fr' := [(4, _), (5, _)]) ?_ ⟨rfl, rfl, trivial⟩))
  refine WC.ret ?_
  refine WE.endDR (.inl rfl) (rs2 Tryz.results15 (rv_cellS [_, _, _, _] agg24 ty24 rfl (.head _) (List.mem_singleton.2 rfl) rfl rfl) (rv_tmp rfl)) (dr_lose hres (dr_forget hN1_1 dr_refl)) ?_
  rw [getC_at hi, decide_eq_true (by omega)]
end DW
end Go.Proofs.YtodlhaghdplclaaGreatDoor
/- Set and delete. -/
namespace Go.Proofs.YtodlhaghdplclaaGreatDoor
open Go Go.RowKit V EA EB EC ED EL DC DD DA DE EE EH EI EJ DF DG DH DI EM DJ DK DL DM DB EF EG EK EN EO ER ES DP DO DQ ET DR DE DS DT EC DU DV DW
set_option linter.unusedSimpArgs false
set_option linter.unusedVariables false
set_option maxRecDepth 10000
namespace DX
theorem call31 : Callable Tryz.prog 31 := ⟨_, Tryz.func31, rfl, by kernel_rfl⟩
theorem call34 : Callable Tryz.prog 34 := ⟨_, Tryz.func34, rfl, by kernel_rfl⟩
theorem call35 : Callable Tryz.prog 35 := ⟨_, Tryz.func35, rfl, by kernel_rfl⟩
theorem call36 : Callable Tryz.prog 36 := ⟨_, Tryz.func36, rfl, by kernel_rfl⟩
theorem call37 : Callable Tryz.prog 37 := ⟨_, Tryz.func37, rfl, by kernel_rfl⟩
theorem flat9 : Flat Tryz.prog 9 := ⟨_, Tryz.underlying9, by simp⟩
theorem flat62 : Flat Tryz.prog 62 := ⟨_, Tryz.underlying62, by simp⟩
theorem ty9 : Ty Tryz.prog 9 (S []) 1 16 := ty_of (by kernel_rfl)
theorem ty24 : Ty Tryz.prog 24 (.agg #[(.int .i64 0), (.int .i64 0), (.int .i64 0), (S [])]) 4 40 := ty_of (by kernel_rfl)
theorem ty62 : Ty Tryz.prog 62 (.slice none 0 0) 1 24 := ty_of (by kernel_rfl)
theorem ty125 : Ty Tryz.prog 125 (.agg #[(S []), .nilIface]) 2 32 := ty_of (by kernel_rfl)
theorem agg24 : Agg Tryz.prog 24 := agg_of Tryz.underlying24
theorem fld125_0 : Fld Tryz.prog 125 0 0 9 := fld_of Tryz.underlying125 rfl rfl rfl ty9 (by decide)
theorem own_some {base : Nat} {e : TypeId} {size n : Nat} {v : Value} {A : Hp} {xs : List Value} (h : OwS base e size v A n xs) (h0 : 0 < n) : ∃ b cap cur, v = .slice (some ⟨b, 0, none⟩) n cap ∧ A = [(b, .cells cur e (0, 0))] ∧ base ≤ b ∧ n ≤ cap ∧ cap ≤ maxLen ∧ cur.size = cap * size ∧ cur.toList.take (n * size) = xs := by
 rcases h.2 with ⟨_, _, h2⟩ | h2
 ·omega
 ·exact h2
section
variable {P : Program} {n : Nat} {w0 : World} {ops : Array Oper} {Q : Post} {rest : List Oper} {ds : List Deferred} {fr : Fr} {H : List Hp} {dst : Option Tmp} {d : Nat} {ty : TypeId} {pos : String} {aft : Array Edge} {g : Option (Nat × Bool)}
theorem oq_sliceFrom {t e : TypeId} {z : Value} {size bytes b m c i : Nat} {x y : Operand} {k : IntKind} (ht : P.underlying t = some (.slice e)) (hty : Ty P e z size bytes) (hx : ev fr x = some (.slice (some ⟨b, 0, none⟩) m c)) (hy : ev fr y = some (.int k (i : Int))) (hi : i < m) (hmc : m ≤ c) : OV P n w0 ⟨dst, .slice t x (some y) none none, ty, pos, aft, g⟩ (.slice (some ⟨b, i * size, none⟩) (m - i) (c - i)) ds fr H :=
 oq_of_run fun a w hf _ => by
  have hna : ∀ w, (underlying t).run P w = .ok (.slice e) w := run_underlying ht
  have hi3 : 0 ≤ (i : Int) ∧ (i : Int) ≤ (m : Int) := by omega
  have hne : ¬ c = i := by omega
  simp [execOp, hf.eval hx, hf.eval hy, Instr.sliceAt, Instr.slice, Instr.sliceBounds, hna, run_size hty, V.run_sliceBound hi3, hne, add_none]
theorem oq_sliceTo {t e : TypeId} {z : Value} {size bytes b m c : Nat} {j : Int} {x y : Operand} {k : IntKind} (ht : P.underlying t = some (.slice e)) (hty : Ty P e z size bytes) (hx : ev fr x = some (.slice (some ⟨b, 0, none⟩) m c)) (hy : ev fr y = some (.int k j)) (hj : 0 ≤ j ∧ j ≤ (m : Int)) (hmc : m ≤ c) : OV P n w0 ⟨dst, .slice t x none (some y) none, ty, pos, aft, g⟩ (.slice (some ⟨b, 0, none⟩) j.toNat c) ds fr H :=
 oq_of_run fun a w hf _ => by
  have hna : ∀ w, (underlying t).run P w = .ok (.slice e) w := run_underlying ht
  have hj3 : 0 ≤ j ∧ j ≤ (c : Int) := by omega
  simp [execOp, hf.eval hx, hf.eval hy, Instr.sliceAt, Instr.slice, Instr.sliceBounds, hna, run_size hty, V.run_sliceBound hj3, add_none]
theorem copyR {t t' e' : TypeId} {x y : Operand} {b off m c k size : Nat} {e : TypeId} {cur : Array Value} {xs : List Value} {v : Value} {z : Value} {bytes : Nat} (ht : P.underlying t = some (.slice e')) (hty : Ty P e' z size bytes) (hx : ev fr x = some (.slice (some ⟨b, off, none⟩) m c)) (hy : ev fr y = some v) (hr : RdS size v [(b, .cells cur e (0, 0))] k xs) (h1 : ∀ u ∈ xs, u.oneCell' = true) (hkm : k ≤ m) (hm : off + k * size ≤ cur.size)
  (hg : gd ops fr ⟨some d, .call ⟨.builtin .copy, #[x, y], #[t, t']⟩, ty, pos, aft, g⟩ = some true) (hn : Nat.blt d n = true)
  (hk : WL P n w0 ops Q rest ds ((d, I (k : Int)) :: fr) ([(b, .cells (putCells cur off xs) e (0, 0))] :: H)) : WL P n w0 ops Q (⟨some d, .call ⟨.builtin .copy, #[x, y], #[t, t']⟩, ty, pos, aft, g⟩ :: rest) ds fr ([(b, .cells cur e (0, 0))] :: H) := by
 intro a w hf hw
 have hw' : St w0 ((b, .cells cur e (0, 0)) :: H.flatten) w := by simpa using hw
 unfold wpList
 rw [gd_wanted hf hg, if_pos rfl]
 left
 unfold Oper.wp
 have hmin : min m k = k := by omega
 have hmin' : min k m = k := by omega
 have hlen : (Builtin.lenOf v).run P w = .ok k w := by obtain ⟨p, c, rfl⟩ := hr.shape; simp [Builtin.lenOf]
 have hcells : (Builtin.firstCells size k v).run P w = .ok xs.toArray w := by
  rcases hr.2 with ⟨h0, p, c', rfl⟩ | ⟨b', off', c', cells, e'', fz, rfl, _, hb, hc⟩
  ·subst h0
   have e0 : xs = [] := List.eq_nil_of_length_eq_zero (by rw [hr.1]; omega)
   subst e0
   cases p with
   | none => simp [Builtin.firstCells]
   | some p => simp [Builtin.firstCells, loadCells, loadCellsFrom]
  ·have hnow := hw'.now b' _ (List.mem_cons.2 (.inl (List.mem_singleton.1 hb)))
   refine run_firstCells_some w size k _ k c' xs hr.1 fun j u hu => ?_
   rw [add_none, cell_at hnow]
   have hj : j < k * size := by
    have := (List.getElem?_eq_some_iff.1 hu).1
    rw [hr.1] at this; omega
   rw [hc j hj, ← hu]
 obtain ⟨w', hs, hst⟩ := run_storeCells_st (P := P) xs 0 off _ w hw' (by rw [hr.1]; omega) h1 (fun j _ _ => by simp)
 have hn' : ∀ w, (underlying t).run P w = .ok (.slice e') w := run_underlying ht
 have hrun : (execOp a.eval ⟨some d, .call ⟨.builtin .copy, #[x, y], #[t, t']⟩, ty, pos, aft, g⟩).run P w = .ok (.value (I (k : Int))) w' := by
  simp [execOp, resolve, invoke, builtin, Builtin.copy_, hf.eval hx, hf.eval hy, hn', run_size hty, hlen, hcells, hs, goInt, hmin, hmin']
 rw [hrun, Oper.upon_value]
 refine hk _ _ (hf.put _ hn) ?_
 rw [Nat.add_zero] at hst
 simpa using hst
end
theorem recsPV_len (l : List PV) : (recsV PV.row l).length = l.length * 2 := recs_len (f := PV.row) (sz := 2) (fun _ => rfl) l
theorem recsPV_app (l k : List PV) : recsV PV.row (l ++ k) = recsV PV.row l ++ recsV PV.row k := by unfold recsV; rw [List.flatMap_append]
theorem recsPV_one (l : List PV) : ∀ u ∈ recsV PV.row l, u.oneCell' = true := by
 intro u hu
 unfold recsV at hu
 obtain ⟨h, _, hh⟩ := List.mem_flatMap.1 hu
 simp only [PV.row, List.mem_cons, List.not_mem_nil, or_false] at hh
 rcases hh with rfl | rfl <;> rfl
theorem recsPV_drop (l : List PV) (i : Nat) : (recsV PV.row l).drop (i * 2) = recsV PV.row (l.drop i) := by
 rcases Nat.lt_or_ge l.length i with h | h
 ·rw [List.drop_eq_nil_of_le (by rw [recsPV_len]; omega), List.drop_eq_nil_of_le (by omega)]; rfl
 ·have e : recsV PV.row l = recsV PV.row (l.take i) ++ recsV PV.row (l.drop i) := by rw [← recsPV_app, List.take_append_drop]
  rw [e, List.drop_left' (by rw [recsPV_len, List.length_take]; omega)]
def del : List PV → List UInt8 → List PV
 | [], _ => []
 | p :: l, nm => if p.name = nm then (match l with | [] => [] | q :: l' => q :: del l' nm) else p :: del l nm
theorem del_at {p : PV} {l : List PV} {nm : List UInt8} (h : p.name = nm) : del (p :: l) nm = match l with | [] => [] | q :: l' => q :: del l' nm := by cases l <;> simp [del, h]
theorem del_no {p : PV} {l : List PV} {nm : List UInt8} (h : p.name ≠ nm) : del (p :: l) nm = p :: del l nm := by cases l <;> simp [del, h]
def DelAt (ps : List PV) (nm : List UInt8) (qs : List PV) (i : Nat) : Prop := ∃ pre rest, qs = pre ++ rest ∧ ((i = pre.length ∧ del ps nm = pre ++ del rest nm) ∨ (rest = [] ∧ i = pre.length + 1 ∧ del ps nm = pre))
theorem DelAt.start (ps : List PV) (nm : List UInt8) : DelAt ps nm ps 0 := ⟨[], ps, rfl, .inl ⟨rfl, rfl⟩⟩
theorem DelAt.done {ps qs : List PV} {nm : List UInt8} {i : Nat} (h : DelAt ps nm qs i) (hi : ¬ i < qs.length) : qs = del ps nm := by
 obtain ⟨pre, rest, rfl, ⟨e, h2⟩ | ⟨e, e2, h2⟩⟩ := h
 ·have : rest = [] := List.eq_nil_of_length_eq_zero (by rw [List.length_append] at hi; omega)
  subst this; rw [h2]; rfl
 ·subst e; rw [h2, List.append_nil]
theorem DelAt.here {ps qs : List PV} {nm : List UInt8} {i : Nat} (h : DelAt ps nm qs i) (hi : i < qs.length) : ∃ pre p l, qs = pre ++ p :: l ∧ i = pre.length ∧ del ps nm = pre ++ del (p :: l) nm ∧ qs.getD i PV0 = p := by
 obtain ⟨pre, rest, rfl, ⟨e, h2⟩ | ⟨e, e2, h2⟩⟩ := h
 ·cases rest with
  | nil => rw [List.append_nil] at hi; omega
  | cons p l => exact ⟨pre, p, l, rfl, e, h2, by rw [e]; simp [List.getD_eq_getElem?_getD]⟩
 ·subst e; rw [List.append_nil] at hi; omega
theorem DelAt.go {ps qs : List PV} {nm : List UInt8} {i : Nat} (h : DelAt ps nm qs i) (hi : i < qs.length) (hn : (qs.getD i PV0).name ≠ nm) : DelAt ps nm qs (i + 1) := by
 obtain ⟨pre, p, l, rfl, e, h2, h3⟩ := h.here hi
 rw [h3] at hn
 rw [del_no hn] at h2
 exact ⟨pre ++ [p], l, by simp, .inl ⟨by simp [e], by rw [h2]; simp⟩⟩
theorem DelAt.cut {ps qs : List PV} {nm : List UInt8} {i : Nat} (h : DelAt ps nm qs i) (hi : i < qs.length) (hn : (qs.getD i PV0).name = nm) : DelAt ps nm (qs.take i ++ qs.drop (i + 1)) (i + 1) := by
 obtain ⟨pre, p, l, rfl, e, h2, h3⟩ := h.here hi
 rw [h3] at hn
 rw [del_at hn] at h2
 subst e
 have e1 : (pre ++ p :: l).take pre.length = pre := List.take_left' rfl
 have e2 : (pre ++ p :: l).drop (pre.length + 1) = l := by
  rw [← List.drop_drop, List.drop_left' rfl]; rfl
 rw [e1, e2]
 cases l with
 | nil => exact ⟨pre, [], rfl, .inr ⟨rfl, rfl, by rw [h2]; exact List.append_nil _⟩⟩
 | cons q l' => exact ⟨pre ++ [q], l', by simp, .inl ⟨by simp, by rw [h2]; simp⟩⟩
theorem own_del {base b cap i n : Nat} {e : TypeId} {cur : Array Value} {qs : List PV} (hb : base ≤ b) (hmc : n ≤ cap) (hcm : cap ≤ maxLen) (hcs : cur.size = cap * 2) (hct : cur.toList.take (n * 2) = recsV PV.row qs) (hn : qs.length = n) (hi : i < n) :
  OwS base e 2 (.slice (some ⟨b, 0, none⟩) (qs.take i ++ qs.drop (i + 1)).length cap) [(b, .cells (putCells cur (i * 2) (recsV PV.row (qs.drop (i + 1)))) e (0, 0))] (qs.take i ++ qs.drop (i + 1)).length (recsV PV.row (qs.take i ++ qs.drop (i + 1))) := by
 have hl : (qs.take i ++ qs.drop (i + 1)).length = n - 1 := by rw [List.length_append, List.length_take, List.length_drop]; omega
 refine ⟨recsPV_len _, .inr ⟨b, cap, _, rfl, rfl, hb, by omega, hcm, by rw [size_putCells, hcs], ?_⟩⟩
 rw [hl, recsPV_app]
 have hvl : (recsV PV.row (qs.drop (i + 1))).length = (n - i - 1) * 2 := by rw [recsPV_len, List.length_drop, hn]; omega
 have htl : (recsV PV.row (qs.take i)).length = i * 2 := by rw [recsPV_len, List.length_take]; omega
 have hti : recsV PV.row qs = recsV PV.row (qs.take i) ++ recsV PV.row (qs.drop i) := by rw [← recsPV_app, List.take_append_drop]
 apply List.ext_getElem?
 intro j
 rw [List.getElem?_take]
 by_cases hj : j < (n - 1) * 2
 ·rw [if_pos hj, Array.getElem?_toList, putCells_get _ _ _ _ (by rw [hvl, hcs]; omega), hvl]
  by_cases h2 : j < i * 2
  ·rw [if_neg (by omega), List.getElem?_append_left (by omega)]
   have h3 : (cur.toList.take (n * 2))[j]? = (recsV PV.row (qs.take i) ++ recsV PV.row (qs.drop i))[j]? := by rw [hct, hti]
   rw [List.getElem?_take, if_pos (by omega), List.getElem?_append_left (by omega), Array.getElem?_toList] at h3
   exact h3
  ·rw [if_pos (by omega), List.getElem?_append_right (by omega), htl]
 ·rw [if_neg hj]
  symm
  apply List.getElem?_eq_none
  rw [List.length_append, htl, hvl]; omega
theorem delH (base hb : Nat) (u : Value) (B : Hp) (ps : List PV) (ho : OwS base 125 2 u B ps.length (recsV PV.row ps)) (hn : ps.length ≤ 1000000) (nm : List UInt8) : FnW Tryz.prog 37 [Pt hb 0, S nm] base [[(hb, .cells #[u] 62 (0, 0))], B] (fun w Hs => ∃ u2 B2, w = .tuple #[] ∧ Hs = [[(hb, .cells #[u2] 62 (0, 0))], B2] ∧ OwS base 125 2 u2 B2 (del ps nm).length (recsV PV.row (del ps nm))) := by
 refine FnW.enter (n := 45) Tryz.func37 rfl rfl fun w0 R0 hbase => ?_
 subst hbase
 show WC _ _ _ _ _ _ _ ([[(hb, .cells #[u] 62 (0, 0))], B, R0])
 refine WC.sub (fr' := [(0, _), (1, _)]) ?_ ⟨rfl, rfl, trivial⟩
 refine WC.seq (WC.region ?_)
 refine WL.q (oq_assign rfl) rfl rfl rfl ?_
 refine WL.nil (WE.then_normal (WC.sub (fr' := [(0, _), (1, _), (4, _)]) ?_ ⟨rfl, rfl, rfl, trivial⟩))
 refine WC.block ?_
 refine WC.loop (ι := Nat × Value × Hp × (List PV)) (fun i_ => (fun (i : Nat) (u1 : Value) (B1 : Hp) (qs : List PV) => [(0, Pt hb 0), (1, S nm), (4, I (i : Int))]) i_.1 i_.2.1 i_.2.2.1 i_.2.2.2) (fun i_ => (fun (i : Nat) (u1 : Value) (B1 : Hp) (qs : List PV) => [[(hb, .cells #[u1] 62 (0, 0))], B1, R0]) i_.1 i_.2.1 i_.2.2.1 i_.2.2.2) (fun i_ => (fun (i : Nat) (u1 : Value) (B1 : Hp) (qs : List PV) => DelAt ps nm qs i ∧ qs.length ≤ 1000000 ∧ OwS w0.heap.size 125 2 u1 B1 qs.length (recsV PV.row qs)) i_.1 i_.2.1 i_.2.2.1 i_.2.2.2) (fun i_ => (fun (i : Nat) (u1 : Value) (B1 : Hp) (qs : List PV) => qs.length + 1 - i) i_.1 i_.2.1 i_.2.2.1 i_.2.2.2) ((0, _, _, ps)) ?_ ⟨rfl, rfl, rfl, trivial⟩ (List.Perm.refl _) ?_
 ·try dsimp only
  exact ⟨DelAt.start ps nm, hn, ho⟩
 ·rintro ⟨i, u1, B1, qs⟩ hp
  try dsimp only at hp
  obtain ⟨hd, hql, ho⟩ := hp
  show WC _ _ _ _ _ _ ([(0, Pt hb 0), (1, S nm), (4, I (i : Int))]) ([[(hb, .cells #[u1] 62 (0, 0))], B1, R0])
  refine WC.seq (WC.seq (WC.region ?_))
  refine WL.q (oq_move rfl) rfl rfl rfl ?_
  refine WL.q (oq_move rfl) rfl rfl rfl ?_
  refine WL.q (oq_nilCheck rfl) rfl rfl rfl ?_
  refine WL.q (oq_load flat62 rfl (.head _) (List.mem_singleton.2 rfl) rfl) rfl rfl rfl ?_
  refine WL.q (oq_len_rd ho.rd Tryz.underlying62 rfl) rfl rfl rfl ?_
  refine WL.q (oq_lss rfl rfl) rfl rfl rfl ?_
  refine WL.nil (WE.then_normal (WC.sub (fr' := [(0, _), (1, _), (4, _), (10, _)]) ?_ ⟨rfl, rfl, rfl, rfl, trivial⟩))
  refine WC.cond rfl (fun q1 => ?_) (fun q1 => ?_)
  ·
   try simp only [Z1, Z2, Z3, Z4, Z5, Z6, Z7, Z8, Z9, Z0] at q1
   refine WC.skip (WE.then_normal (WC.sub (fr' := [(0, _), (1, _), (4, _)]) ?_ ⟨rfl, rfl, rfl, trivial⟩))
   refine WC.seq (WC.block (WC.seq ?_))
   have hlt : i < qs.length := by omega
   refine WC.region ?_
   refine WL.q (oq_move rfl) rfl rfl rfl ?_
   refine WL.q (oq_nilCheck rfl) rfl rfl rfl ?_
   refine WL.q (oq_load flat62 rfl (.head _) (List.mem_singleton.2 rfl) rfl) rfl rfl rfl ?_
   refine WL.q (oq_move rfl) rfl rfl rfl ?_
   refine WL.q (oq_ixaddr ho.rd Tryz.underlying62 ty125 rfl rfl (by (first | omega | (simp only [List.length_cons, List.length_nil, List.length_append, List.length_drop, List.length_take]; omega)))) rfl rfl rfl ?_
   refine WL.q (oq_fldEl fld125_0 ho.rd rfl (by (first | omega | (simp only [List.length_cons, List.length_nil, List.length_append, List.length_drop, List.length_take]; omega)))) rfl rfl rfl ?_
   refine WL.q (oq_loadF (f := PV.row) PV0 (fun _ => rfl) flat9 ho.rd (.tail _ (.head _)) rfl (by (first | omega | (simp only [List.length_cons, List.length_nil, List.length_append, List.length_drop, List.length_take]; omega))) (by first | exact Int.toNat_natCast _ | exact rfl) (by decide) rfl) rfl rfl rfl ?_
   refine WL.q (oq_move rfl) rfl rfl rfl ?_
   refine WL.q (oq_seql rfl rfl) rfl rfl rfl ?_
   refine WL.nil (WE.then_normal (WC.sub (fr' := [(0, _), (1, _), (4, _), (21, _)]) ?_ ⟨rfl, rfl, rfl, rfl, trivial⟩))
   refine WC.cond rfl (fun q3 => ?_) (fun q3 => ?_)
   ·
    try simp only [Z1, Z2, Z3, Z4, Z5, Z6, Z7, Z8, Z9, Z0] at q3
    refine WC.seq ?_
    obtain ⟨b, cap, cur, rfl, rfl, hbb, hmc, hcm, hcs, hct⟩ := own_some ho (by omega)
    have hlq : (qs.take i ++ qs.drop (i + 1)).length = qs.length - 1 := by rw [List.length_append, List.length_take, List.length_drop]; omega
    obtain ⟨v4, hr4, o4⟩ := slice_val (i := (i : Int) + 1) (j := (qs.length : Int)) ho.rd ty125 (by omega)
    have hk4 : ((qs.length : Int) - ((i : Int) + 1)).toNat = qs.length - i - 1 := by omega
    have hc4 : cut (recsV PV.row qs) (((i : Int) + 1) * ((2 : Nat) : Int)) ((qs.length : Int) * ((2 : Nat) : Int)) = recsV PV.row (qs.drop (i + 1)) := by
     unfold cut
     rw [show ((qs.length : Int) * ((2 : Nat) : Int)).toNat = qs.length * 2 by omega, show (((i : Int) + 1) * ((2 : Nat) : Int)).toNat = (i + 1) * 2 by omega, List.take_of_length_le (by rw [recsPV_len]; omega), recsPV_drop]
    rw [hk4, hc4] at hr4
    have ho5 := own_del (e := 125) hbb hmc hcm hcs hct rfl hlt
    refine WC.held ([(hb, .cells #[(.slice (some ⟨b, 0, none⟩) qs.length cap)] 62 (0, 0))]) (by kernel_rfl) ?_
    refine WH.q 0 rfl (.head _) (fun w0 => oq_move rfl) rfl rfl rfl ?_
    refine WH.q 1 rfl (.head _) (fun w0 => oq_nilCheck rfl) rfl rfl rfl ?_
    refine WH.q 2 rfl (.head _) (fun w0 => oq_load flat62 rfl (.head _) (List.mem_singleton.2 rfl) rfl) rfl rfl rfl ?_
    refine WH.q 3 rfl (.head _) (fun w0 => oq_move rfl) rfl rfl rfl ?_
    refine WH.q 4 rfl (.head _) (fun w0 => oq_sliceFrom Tryz.underlying62 ty125 rfl rfl hlt hmc) rfl rfl rfl ?_
    refine WH.q 5 rfl (.head _) (fun w0 => oq_move rfl) rfl rfl rfl ?_
    refine WH.q 6 rfl (.head _) (fun w0 => oq_nilCheck rfl) rfl rfl rfl ?_
    refine WH.q 7 rfl (.head _) (fun w0 => oq_load flat62 rfl (.head _) (List.mem_singleton.2 rfl) rfl) rfl rfl rfl ?_
    refine WH.q 8 rfl (.head _) (fun w0 => oq_move rfl) rfl rfl rfl ?_
    refine WH.q 9 rfl (.head _) (fun w0 => oq_add rfl rfl (by rw [i64_lo, i64_hi]; (first | omega | (simp only [List.length_cons, List.length_nil, List.length_append, List.length_drop, List.length_take]; omega)))) rfl rfl rfl ?_
    refine WH.q 10 rfl (.head _) (fun w0 => o4 Tryz.underlying62 rfl ⟨_, rfl⟩ rfl) rfl rfl rfl ?_
    refine WH.step (i := 11) (by kernel_rfl) rfl ?_
    refine WL.f1 ?_
    refine copyR Tryz.underlying62 ty125 rfl rfl hr4 (recsPV_one _) (by omega) (by rw [hcs]; omega) rfl rfl ?_
    refine WL.f1 ?_
    refine WL.nil ?_
    refine WE.toH (.head _) ?_
    refine WH.done (by kernel_rfl) ?_
    refine WE.then_normal (WC.sub (fr' := [(0, _), (1, _), (4, _)]) ?_ ⟨rfl, rfl, rfl, trivial⟩)
    refine WC.gate 11 ([(hb, .cells #[(.slice (some ⟨b, 0, none⟩) qs.length cap)] 62 (0, 0))]) (by kernel_rfl) ?_
    refine WG.q 0 [] rfl (.head _) (fun w0 => oq_move rfl) rfl rfl rfl ?_
    refine WG.q 1 [] rfl (.head _) (fun w0 => oq_move rfl) rfl rfl rfl ?_
    refine WG.q 2 [] rfl (.head _) (fun w0 => oq_nilCheck rfl) rfl rfl rfl ?_
    refine WG.q 3 [] rfl (.head _) (fun w0 => oq_load flat62 rfl (.head _) (List.mem_singleton.2 rfl) rfl) rfl rfl rfl ?_
    refine WG.q 4 [] rfl (.head _) (fun w0 => oq_move rfl) rfl rfl rfl ?_
    refine WG.q 5 [] rfl (.head _) (fun w0 => oq_nilCheck rfl) rfl rfl rfl ?_
    refine WG.q 6 [] rfl (.head _) (fun w0 => oq_load flat62 rfl (.head _) (List.mem_singleton.2 rfl) rfl) rfl rfl rfl ?_
    refine WG.q 7 [] rfl (.head _) (fun w0 => oq_len_rd ho.rd Tryz.underlying62 rfl) rfl rfl rfl ?_
    refine WG.q 8 [] rfl (.head _) (fun w0 => oq_sub rfl rfl (by rw [i64_lo, i64_hi]; (first | omega | (simp only [List.length_cons, List.length_nil, List.length_append, List.length_drop, List.length_take]; omega)))) rfl rfl rfl ?_
    refine WG.q 9 [] rfl (.head _) (fun w0 => oq_sliceTo (m := qs.length) Tryz.underlying62 ty125 rfl rfl (by omega) hmc) rfl rfl rfl ?_
    refine WG.q 10 [] rfl (.head _) (fun w0 => oq_nilCheck rfl) rfl rfl rfl ?_
    refine WG.step (i := 11) (by kernel_rfl) rfl ?_
    refine WL.store ty62 rfl rfl (by rfl) (by exact Nat.zero_lt_one) (by simp) rfl ?_
    refine WL.nil ?_
    refine WE.toG0 (by kernel_rfl) ?_
    refine WG.done (by kernel_rfl) ?_
    refine WE.block_normal (WE.then_normal (WC.sub (fr' := [(0, _), (1, _), (4, _)]) ?_ ⟨rfl, rfl, rfl, trivial⟩))
    refine WC.region ?_
    refine WL.q (oq_move rfl) rfl rfl rfl ?_
    refine WL.q (oq_add rfl rfl (by rw [i64_lo, i64_hi]; (first | omega | (simp only [List.length_cons, List.length_nil, List.length_append, List.length_drop, List.length_take]; omega)))) rfl rfl rfl ?_
    refine WL.q (oq_assign rfl) rfl rfl rfl ?_
    refine WL.nil ?_
    refine WE.again (i + 1, _, _, qs.take i ++ qs.drop (i + 1)) ?_ ?_ ⟨rfl, rfl, rfl, trivial⟩ (List.Perm.refl _)
    ·try dsimp only
     exact ⟨hd.cut hlt (by simpa using q3), by omega, by rw [show ((qs.length : Int) - 1).toNat = (qs.take i ++ qs.drop (i + 1)).length by omega]; exact ho5⟩
    ·(try dsimp only); omega
   ·
    try simp only [Z1, Z2, Z3, Z4, Z5, Z6, Z7, Z8, Z9, Z0] at q3
    refine WC.skip (WE.block_normal (WE.then_normal (WC.sub (fr' := [(0, _), (1, _), (4, _)]) ?_ ⟨rfl, rfl, rfl, trivial⟩)))
    refine WC.region ?_
    refine WL.q (oq_move rfl) rfl rfl rfl ?_
    refine WL.q (oq_add rfl rfl (by rw [i64_lo, i64_hi]; (first | omega | (simp only [List.length_cons, List.length_nil, List.length_append, List.length_drop, List.length_take]; omega)))) rfl rfl rfl ?_
    refine WL.q (oq_assign rfl) rfl rfl rfl ?_
    refine WL.nil ?_
    refine WE.again (i + 1, _, _, qs) ?_ ?_ ⟨rfl, rfl, rfl, trivial⟩ (List.Perm.refl _)
    ·try dsimp only
     exact ⟨hd.go hlt (by simpa using q3), hql, ho⟩
    ·(try dsimp only); omega
  ·
   try simp only [Z1, Z2, Z3, Z4, Z5, Z6, Z7, Z8, Z9, Z0] at q1
   refine WC.exit (WE.then_exit (WE.then_exit (WE.block_same ?_)))
   refine WE.endW2 (.inr rfl) (res0 Tryz.results37) ?_
   rw [← hd.done (by omega)]; exact ⟨_, _, rfl, rfl, ho⟩
theorem vSet (v : Value) (L : Hp) (l : List HV) (hr : RdS 5 v L l.length (recsV HV.row l)) (hok : okH l) (hcan : canL l) (hint : intOk l) (hn : l.length ≤ 1000) (h : HV) (hfh : fineV h) (hch : canV h) (hih : -9223372036854775808 ≤ h.int ∧ h.int ≤ 9223372036854775807) (hlh : h.text.length ≤ 400000) : FnA Tryz.prog 18 [v, S h.name, .agg #[I h.kind, I h.width, I h.int, S h.text]] L (fun w N => RdS 5 w N (put l h).length (recsV HV.row (put l h))) := by
 refine FnA.enter (n := 16) Tryz.func18 rfl rfl fun w0 => ?_
 refine WC.sub (fr' := [(0, _), (1, _), (2, _)]) ?_ ⟨rfl, rfl, rfl, trivial⟩
 refine WC.seq (WC.region ?_)
 refine WL.box rfl rfl rfl fun xb hxb => ?_
 refine WL.q (oq_assign rfl) rfl rfl rfl ?_
 refine WL.nil (WE.then_normal (WC.sub (fr' := [(0, _), (1, _), (5, _)]) ?_ ⟨rfl, rfl, rfl, trivial⟩))
 refine WC.seq (WC.region ?_)
 refine WL.q (oq_move rfl) rfl rfl rfl ?_
 refine WL.f1 ?_
 refine WL.callA (headersForB v L l hr hok hcan hint hn) call31 rfl rfl rfl fun v1_1 N1_1 hR1_1 hN1_1 => ?_
 obtain ⟨ps, B, Z, rfl, ho0, hpb⟩ := hR1_1
 have hpl := hpb.len
 have ho := own_up ho0 (fun b o hb => hN1_1 b o (List.mem_append_left _ hb))
 have hZ : ∀ b o, (b, o) ∈ Z → w0.heap.size ≤ b := fun b o hb => hN1_1 b o (List.mem_append_right _ hb)
 refine WL.uncat ?_
 refine WL.alloc ty62 rfl rfl fun hb hhb => ?_
 refine WL.store ty62 rfl rfl (by exact OwS.one ho) (by exact Nat.zero_lt_one) (by simp) rfl ?_
 refine WL.nil (WE.then_normal (WC.sub (fr' := [(1, _), (5, _), (7, _)]) ?_ ⟨rfl, rfl, rfl, trivial⟩))
 refine WC.seq (WC.region ?_)
 refine WL.q (oq_move rfl) rfl rfl rfl ?_
 refine WL.q (oq_loadS [_, _, _, _] agg24 ty24 rfl (.tail _ (.tail _ (.tail _ (.tail _ (.head _))))) (List.mem_singleton.2 rfl) rfl rfl) rfl rfl rfl ?_
 refine WL.callA0 (valueForB h hfh hch hih hlh) call35 rfl rfl rfl fun v2_2 N2_2 hR2_2 hN2_2 => ?_
 obtain ⟨kv, rv, rfl, hvb⟩ := hR2_2
 refine WL.f2 ?_
 refine WL.f2 ?_
 refine WL.callW2 (setH _ hb _ B ps ho (by omega) h.name kv rv) call34 rfl rfl rfl fun v2_3 Hs2_3 hR2_3 => ?_
 obtain ⟨u3, B3, rfl, rfl, ho3⟩ := hR2_3
 refine WL.to2 ?_
 refine WL.nil (WE.then_normal (WC.sub (fr' := [(7, _)]) ?_ ⟨rfl, trivial⟩))
 refine WC.seq (WC.region ?_)
 refine WL.q (oq_load flat62 rfl (.head _) (List.mem_singleton.2 rfl) rfl) rfl rfl rfl ?_
 have hr3 := ho3.rd.weaken (C := B3 ++ Z ++ N2_2) (fun x hx => List.mem_append_left _ (List.mem_append_left _ hx))
 have hpb3 : PB (put l h) (putP ps ⟨h.name, kv, rv⟩) (B3 ++ Z ++ N2_2) := PB.put (hpb.weaken fun x hx => List.mem_append_left _ (List.mem_append_right _ hx)) rfl (hvb.weaken fun x hx => List.mem_append_right _ hx)
 refine WL.f2 ?_
 refine WL.f3 ?_
 refine WL.f3 ?_
 refine WL.cat ?_
 refine WL.cat ?_
 refine WL.callA (headersBack _ (B3 ++ Z ++ N2_2) (putP ps ⟨h.name, kv, rv⟩) (put l h) hr3 hpb3 (by have := putP_len ps ⟨h.name, kv, rv⟩; omega)) call36 rfl rfl rfl fun v3_1 N3_1 hR3_1 hN3_1 => ?_
 refine WL.q (oq_assign rfl) rfl rfl rfl ?_
 refine WL.nil (WE.then_normal (WC.sub (fr' := [(6, _)]) ?_ ⟨rfl, trivial⟩))
 refine WC.ret ?_
 refine WE.f1 ?_
 refine WE.forget (fresh_cat (fresh_cat ho3.fresh hZ) hN2_2) ?_
 refine WE.f1 ?_
 refine WE.lose hhb ?_
 refine WE.f2 ?_
 refine WE.lose hxb ?_
 refine WE.endA (.inl rfl) (res1 Tryz.results18 rfl) ?_ (hN3_1)
 exact hR3_1
def delL : List HV → List UInt8 → List HV
 | [], _ => []
 | p :: l, nm => if p.name = nm then (match l with | [] => [] | q :: l' => q :: delL l' nm) else p :: delL l nm
theorem pb_del : ∀ {l : List HV} {ps : List PV} {Z : Hp} (nm : List UInt8), PB l ps Z → PB (delL l nm) (del ps nm) Z
 | [], [], _, _, _ => trivial
 | [], _ :: _, _, _, h => h.elim
 | _ :: _, [], _, _, h => h.elim
 | [x], [p], _, nm, h => by
  unfold delL del
  by_cases hx : x.name = nm
  ·rw [if_pos hx, if_pos (by rw [h.1]; exact hx)]; exact trivial
  ·rw [if_neg hx, if_neg (by rw [h.1]; exact hx)]; exact ⟨h.1, h.2.1, trivial⟩
 | [_], _ :: _ :: _, _, _, h => h.2.2.elim
 | _ :: _ :: _, [_], _, _, h => h.2.2.elim
 | x :: y :: l, p :: q :: ps, Z, nm, h => by
  rw [delL, del]
  by_cases hx : x.name = nm
  ·rw [if_pos hx, if_pos (by rw [h.1]; exact hx)]; exact ⟨h.2.2.1, h.2.2.2.1, pb_del nm h.2.2.2.2⟩
  ·rw [if_neg hx, if_neg (by rw [h.1]; exact hx)]; exact ⟨h.1, h.2.1, pb_del nm h.2.2⟩
theorem delL_len : ∀ (l : List HV) (nm : List UInt8), (delL l nm).length ≤ l.length
 | [], _ => Nat.le_refl _
 | [x], nm => by unfold delL; split <;> simp [delL]
 | x :: y :: l, nm => by
  have h1 := delL_len l nm
  have h2 := delL_len (y :: l) nm
  rw [delL]; split
  ·show (delL l nm).length + 1 ≤ l.length + 1 + 1; omega
  ·show (delL (y :: l) nm).length + 1 ≤ (y :: l).length + 1; omega
def Apart (l : List HV) (nm : List UInt8) : Prop := ∀ i, 0 < i → i < l.length → ¬ ((l.getD i HV0).name = nm ∧ (l.getD (i - 1) HV0).name = nm)
theorem apart_tail {x : HV} {l : List HV} {nm : List UInt8} (h : Apart (x :: l) nm) : Apart l nm := fun i h0 hi => by
 have := h (i + 1) (by omega) (by simpa using hi)
 have e : i + 1 - 1 = i - 1 + 1 := by omega
 rw [e] at this
 simpa [List.getD_eq_getElem?_getD] using this
theorem del_apart : ∀ {l : List HV} {nm : List UInt8}, Apart l nm → delL l nm = l.filter fun h => decide (h.name ≠ nm)
 | [], _, _ => rfl
 | [x], nm, _ => by
  rw [delL]
  by_cases hx : x.name = nm
  ·simp [hx]
  ·simp [hx, delL]
 | x :: y :: l, nm, h => by
  rw [delL]
  by_cases hx : x.name = nm
  ·have hy : y.name ≠ nm := fun e => h 1 (by omega) (by simp) ⟨by simpa using e, by simpa using hx⟩
   rw [if_pos hx]
   show y :: delL l nm = _
   rw [del_apart (apart_tail (apart_tail h))]
   simp [hx, hy]
  ·rw [if_neg hx, del_apart (apart_tail h)]; exact (List.filter_cons_of_pos (by simpa using hx)).symm
theorem vDelete (v : Value) (L : Hp) (l : List HV) (hr : RdS 5 v L l.length (recsV HV.row l)) (hok : okH l) (hcan : canL l) (hint : intOk l) (hn : l.length ≤ 1000) (nm : List UInt8) : FnA Tryz.prog 20 [v, S nm] L (fun w N => RdS 5 w N (delL l nm).length (recsV HV.row (delL l nm))) := by
 refine FnA.enter (n := 12) Tryz.func20 rfl rfl fun w0 => ?_
 refine WC.sub (fr' := [(0, _), (1, _)]) ?_ ⟨rfl, rfl, trivial⟩
 refine WC.seq (WC.region ?_)
 refine WL.q (oq_assign rfl) rfl rfl rfl ?_
 refine WL.nil (WE.then_normal (WC.sub (fr' := [(0, _), (1, _)]) ?_ ⟨rfl, rfl, trivial⟩))
 refine WC.seq (WC.region ?_)
 refine WL.q (oq_move rfl) rfl rfl rfl ?_
 refine WL.callA (headersForB v L l hr hok hcan hint hn) call31 rfl rfl rfl fun v1_1 N1_1 hR1_1 hN1_1 => ?_
 obtain ⟨ps, B, Z, rfl, ho0, hpb⟩ := hR1_1
 have hpl := hpb.len
 have ho := own_up ho0 (fun b o hb => hN1_1 b o (List.mem_append_left _ hb))
 have hZ : ∀ b o, (b, o) ∈ Z → w0.heap.size ≤ b := fun b o hb => hN1_1 b o (List.mem_append_right _ hb)
 refine WL.uncat ?_
 refine WL.alloc ty62 rfl rfl fun hb hhb => ?_
 refine WL.store ty62 rfl rfl (by exact OwS.one ho) (by exact Nat.zero_lt_one) (by simp) rfl ?_
 refine WL.nil (WE.then_normal (WC.sub (fr' := [(1, _), (5, _)]) ?_ ⟨rfl, rfl, trivial⟩))
 refine WC.seq (WC.region ?_)
 refine WL.q (oq_move rfl) rfl rfl rfl ?_
 refine WL.f1 ?_
 refine WL.f1 ?_
 refine WL.callW2 (delH _ hb _ B ps ho (by omega) nm) call37 rfl rfl rfl fun v2_1 Hs2_1 hR2_1 => ?_
 obtain ⟨u3, B3, rfl, rfl, ho3⟩ := hR2_1
 refine WL.to2 ?_
 refine WL.nil (WE.then_normal (WC.sub (fr' := [(5, _)]) ?_ ⟨rfl, trivial⟩))
 refine WC.seq (WC.region ?_)
 refine WL.q (oq_load flat62 rfl (.head _) (List.mem_singleton.2 rfl) rfl) rfl rfl rfl ?_
 have hr3 := ho3.rd.weaken (C := B3 ++ Z) (fun x hx => List.mem_append_left _ hx)
 have hpb3 : PB (delL l nm) (del ps nm) (B3 ++ Z) := pb_del nm (hpb.weaken fun x hx => List.mem_append_right _ hx)
 refine WL.f2 ?_
 refine WL.f2 ?_
 refine WL.cat ?_
 refine WL.callA (headersBack _ (B3 ++ Z) (del ps nm) (delL l nm) hr3 hpb3 (by have := hpb3.len; have := delL_len l nm; omega)) call36 rfl rfl rfl fun v3_1 N3_1 hR3_1 hN3_1 => ?_
 refine WL.q (oq_assign rfl) rfl rfl rfl ?_
 refine WL.nil (WE.then_normal (WC.sub (fr' := [(4, _)]) ?_ ⟨rfl, trivial⟩))
 refine WC.ret ?_
 refine WE.f1 ?_
 refine WE.forget (fresh_cat ho3.fresh hZ) ?_
 refine WE.f1 ?_
 refine WE.lose hhb ?_
 refine WE.endA (.inl rfl) (res1 Tryz.results20 rfl) ?_ (hN3_1)
 exact hR3_1
end DX
end Go.Proofs.YtodlhaghdplclaaGreatDoor
/- The law: set and delete. -/
namespace Go.Proofs.YtodlhaghdplclaaGreatDoor
open Go Go.RowKit V EA EB EC ED EL DC DD DA DE EE EH EI EJ DF DG DH DI EM DJ DK DL DM DB EF EG EK EN EO ER ES DP DO DQ ET DR DE DS DT EC DU DV DW DX
set_option linter.unusedSimpArgs false
set_option linter.unusedVariables false
set_option maxRecDepth 10000
namespace DY
theorem call9 : Callable Tryz.prog 9 := ⟨_, Tryz.func9, rfl, by kernel_rfl⟩
theorem call10 : Callable Tryz.prog 10 := ⟨_, Tryz.func10, rfl, by kernel_rfl⟩
theorem call11 : Callable Tryz.prog 11 := ⟨_, Tryz.func11, rfl, by kernel_rfl⟩
theorem call12 : Callable Tryz.prog 12 := ⟨_, Tryz.func12, rfl, by kernel_rfl⟩
theorem call13 : Callable Tryz.prog 13 := ⟨_, Tryz.func13, rfl, by kernel_rfl⟩
theorem call14 : Callable Tryz.prog 14 := ⟨_, Tryz.func14, rfl, by kernel_rfl⟩
theorem call15 : Callable Tryz.prog 15 := ⟨_, Tryz.func15, rfl, by kernel_rfl⟩
theorem call16 : Callable Tryz.prog 16 := ⟨_, Tryz.func16, rfl, by kernel_rfl⟩
theorem call17 : Callable Tryz.prog 17 := ⟨_, Tryz.func17, rfl, by kernel_rfl⟩
theorem call18 : Callable Tryz.prog 18 := ⟨_, Tryz.func18, rfl, by kernel_rfl⟩
theorem call19 : Callable Tryz.prog 19 := ⟨_, Tryz.func19, rfl, by kernel_rfl⟩
theorem call20 : Callable Tryz.prog 20 := ⟨_, Tryz.func20, rfl, by kernel_rfl⟩
theorem flat9 : Flat Tryz.prog 9 := ⟨_, Tryz.underlying9, by simp⟩
theorem ty9 : Ty Tryz.prog 9 (S []) 1 16 := ty_of (by kernel_rfl)
theorem ty24 : Ty Tryz.prog 24 (.agg #[(.int .i64 0), (.int .i64 0), (.int .i64 0), (S [])]) 4 40 := ty_of (by kernel_rfl)
theorem ty30 : Ty Tryz.prog 30 (.agg #[(.slice none 0 0), (.slice none 0 0)]) 2 48 := ty_of (by kernel_rfl)
theorem ty32 : Ty Tryz.prog 32 (.agg #[(S []), (.int .i64 0), (.int .i64 0), (.int .i64 0), (S [])]) 5 56 := ty_of (by kernel_rfl)
theorem agg24 : Agg Tryz.prog 24 := agg_of Tryz.underlying24
theorem agg32 : Agg Tryz.prog 32 := agg_of Tryz.underlying32
theorem str30 : Str Tryz.prog 30 #[(0, 1), (1, 1)] := ⟨_, Tryz.underlying30, fun w => by kernel_rfl⟩
theorem str32 : Str Tryz.prog 32 #[(0, 1), (1, 4)] := ⟨_, Tryz.underlying32, fun w => by kernel_rfl⟩
theorem fld24_3 : Fld Tryz.prog 24 3 3 9 := fld_of Tryz.underlying24 rfl rfl rfl ty9 (by decide)
theorem fld32_0 : Fld Tryz.prog 32 0 0 9 := fld_of Tryz.underlying32 rfl rfl rfl ty9 (by decide)
theorem fld32_1 : Fld Tryz.prog 32 1 1 24 := fld_of Tryz.underlying32 rfl rfl rfl ty24 (by decide)
section
variable {P : Program} {n : Nat} {w0 : World} {ops : Array Oper} {Q : Post} {A : Hp} {fuel : Nat} {l : Array Bool} {ds : List Deferred} {fr : Fr} {H : List Hp}
theorem _root_.Go.Proofs.YtodlhaghdplclaaGreatDoor.V.WH.skip (i : Nat) {o : Oper} {d : Nat} (ho : ops[i]? = some o) (hg : gd ops fr o = some false) (hd : o.dst = some d) (hn : Nat.blt d n = true) (hk : WH P n w0 ops Q A fuel (l.setIfInBounds i true) ds ((d, undef) :: fr) H) (hA : A ∈ H := by repeat (first | exact .head _ | apply List.Mem.tail))
  (hsel : Region.noSelect ops = true := by kernel_rfl) (hf : Region.free .any ops l i = true := by kernel_rfl) (hr : (Region.ready .any ops l).contains i = true := by kernel_rfl) (hQ : QOk Q := by repeat (first | with_reducible exact QOk.body | with_reducible apply QOk.then | with_reducible apply QOk.block | exact QOk.body | apply QOk.then | apply QOk.block)) : WH P n w0 ops Q A (fuel + 1) l ds fr H := by
 intro a w hfit hw
 exact wpAnyH_take ho hsel hf hr (fun c a w => hQ c a _ undef w) (.inr ⟨gd_wanted hfit hg, rfl⟩) (Has.of_st hw hA) (hk _ _ (by rw [hd]; exact hfit.put undef hn) hw)
theorem _root_.Go.Proofs.YtodlhaghdplclaaGreatDoor.V.WH.split (d : Nat) {b : Bool} (hv : gt fr d = some (.bool b)) (ht : b = true → WH P n w0 ops Q A fuel l ds ((d, .bool true) :: fr) H) (hf : b = false → WH P n w0 ops Q A fuel l ds ((d, .bool false) :: fr) H) : WH P n w0 ops Q A fuel l ds fr H := by
 intro a w hfit hw
 have key : ∀ c, b = c → Fits n ds ((d, .bool c) :: fr) a := fun c hc => ⟨hfit.size, hfit.defers, fun k v hk => by
  rw [gt_cons] at hk
  by_cases e : d = k
  ·rw [if_pos e] at hk; rw [← Option.some.inj hk, ← hc, ← e]; exact hfit.get d _ hv
  ·rw [if_neg e] at hk; exact hfit.get k v hk⟩
 cases hb : b with
 | true =>
  exact ht hb a w (key true hb) hw
 | false =>
  exact hf hb a w (key false hb) hw
end
def gotH (l : List HV) (nm : List UInt8) : HV := if 0 ≤ atN l nm then l.getD (atN l nm).toNat HV0 else HV0
theorem getC_got (l : List HV) (nm : List UInt8) : getC l nm = #[I (gotH l nm).kind, I (gotH l nm).width, I (gotH l nm).int, S (gotH l nm).text] := by
 unfold getC gotH
 by_cases h : 0 ≤ atN l nm
 ·rw [if_pos h, if_pos h]
 ·rw [if_neg h, if_neg h]
theorem vGot (v : Value) (L : Hp) (l : List HV) (hr : RdS 5 v L l.length (recsV HV.row l)) (hok : okH l) (hcan : canL l) (hint : intOk l) (hn : l.length ≤ 1000) (nm : List UInt8) : FnR Tryz.prog 15 [v, S nm] L (.tuple #[.agg #[I (gotH l nm).kind, I (gotH l nm).width, I (gotH l nm).int, S (gotH l nm).text], .bool (decide (0 ≤ atN l nm))]) := by
 rw [← getC_got]; exact vGet v L l hr hok hcan hint hn nm
theorem gotH_at {l : List HV} {nm : List UInt8} (h : 0 ≤ atN l nm) : gotH l nm = l.getD (atN l nm).toNat HV0 ∧ (atN l nm).toNat < l.length := by
 obtain ⟨i, hi, hil, _⟩ := atN_pos h
 unfold gotH
 rw [if_pos h]
 exact ⟨rfl, by omega⟩
theorem unl_one {h : HV} (hu : UnL [h]) : canV h := (hu 0 (by simp)).2
theorem int_one {h : HV} (hih : -9223372036854775808 ≤ h.int ∧ h.int ≤ 9223372036854775807 ∧ -9223372036854775808 ≤ h.width ∧ h.width ≤ 9223372036854775807) : intOk [h] := fun i hi => by
 obtain rfl : i = 0 := by simp at hi; omega
 exact hih
theorem fine_one {h : HV} (hf : [h].all fineB = true) : fineV h := by
 simp only [List.all_cons, List.all_nil, Bool.and_true] at hf
 exact of_decide_eq_true hf
theorem rd_one5 {v : Value} {A : Hp} {l : List HV} {i : Nat} (hi : i < l.length) (hr : RdS 5 v A (((i : Int) + 1) - (i : Int)).toNat (cut (recsV HV.row l) ((i : Int) * ((5 : Nat) : Int)) (((i : Int) + 1) * ((5 : Nat) : Int)))) : RdS 5 v A [l.getD i HV0].length (recsV HV.row [l.getD i HV0]) := by
 have e : cut (recsV HV.row l) ((i : Int) * ((5 : Nat) : Int)) (((i : Int) + 1) * ((5 : Nat) : Int)) = recsV HV.row [l.getD i HV0] := by
  unfold cut
  rw [show (((i : Int) + 1) * ((5 : Nat) : Int)).toNat = (i + 1) * 5 by omega, show ((i : Int) * ((5 : Nat) : Int)).toNat = i * 5 by omega]
  have h1 : recsV HV.row l = recsV HV.row (l.take (i + 1)) ++ recsV HV.row (l.drop (i + 1)) := by
   unfold recsV; rw [← List.flatMap_append, List.take_append_drop]
  have hl : ∀ k : List HV, (recsV HV.row k).length = k.length * 5 := fun k => recs_len (f := HV.row) (sz := 5) (fun _ => rfl) k
  have h2 : recsV HV.row (l.take (i + 1)) = recsV HV.row (l.take i) ++ recsV HV.row [l.getD i HV0] := by
   rw [take_snoc hi]; unfold recsV; rw [List.flatMap_append]
  rw [h1, List.take_left' (by rw [hl, List.length_take]; omega), h2, List.drop_left' (by rw [hl, List.length_take]; omega)]
 rw [e, show (((i : Int) + 1) - (i : Int)).toNat = 1 by omega] at hr
 exact hr
def others (l : List HV) (nm : List UInt8) : List HV := l.filter fun h => decide (h.name ≠ nm)
theorem others_eq {l : List HV} {i : Nat} {nm : List UInt8} (hi : i < l.length) (h : (l.getD i HV0).name = nm) : others (l.take (i + 1)) nm = others (l.take i) nm := by
 unfold others; rw [take_snoc hi, List.filter_append, List.filter_cons_of_neg (by simpa using h)]; simp
theorem others_ne {l : List HV} {i : Nat} {nm : List UInt8} (hi : i < l.length) (h : ¬ (l.getD i HV0).name = nm) : others (l.take (i + 1)) nm = others (l.take i) nm ++ [l.getD i HV0] := by
 unfold others
 rw [take_snoc hi, List.filter_append, List.filter_cons_of_pos (by simpa using h)]; rfl
theorem own_more {base : Nat} {e : TypeId} {u : Value} {B : Hp} {l : List HV} {h : HV} {m : Nat} (ho : OwS base e 5 u B m (recsV HV.row l ++ [S h.name, I h.kind, I h.width, I h.int, S h.text])) (hm : m = l.length + 1) : OwS base e 5 u B (l ++ [h]).length (recsV HV.row (l ++ [h])) := by
 subst hm
 have e : recsV HV.row (l ++ [h]) = recsV HV.row l ++ [S h.name, I h.kind, I h.width, I h.int, S h.text] := by simp [recsV, HV.row]
 rw [e, List.length_append]; exact ho
theorem ap_step {l : List HV} {nm : List UInt8} {i : Nat} (h : ∀ j, 0 < j → j < i → ¬ ((l.getD j HV0).name = nm ∧ (l.getD (j - 1) HV0).name = nm)) (h2 : 0 < i → ¬ ((l.getD i HV0).name = nm ∧ (l.getD (i - 1) HV0).name = nm)) : ∀ j, 0 < j → j < i + 1 → ¬ ((l.getD j HV0).name = nm ∧ (l.getD (j - 1) HV0).name = nm) := fun j h0 hj => by
 rcases Nat.lt_or_ge j i with h3 | h3
 ·exact h j h0 h3
 ·obtain rfl : j = i := by omega
  exact h2 h0
theorem apart_all {l : List HV} {nm : List UInt8} (h : ∀ j, 0 < j → j < l.length → ¬ ((l.getD j HV0).name = nm ∧ (l.getD (j - 1) HV0).name = nm)) : delL l nm = others l nm := del_apart h
set_option maxHeartbeats 1000000 in
theorem lawSets (A : Hp) (vp : Option Addr) (vc : Nat) (l : List HV) (hr : RdS 5 (.slice vp l.length vc) A l.length (recsV HV.row l)) (hint : intOk l) (h : HV) (hih : -9223372036854775808 ≤ h.int ∧ h.int ≤ 9223372036854775807 ∧ -9223372036854775808 ≤ h.width ∧ h.width ≤ 9223372036854775807) : FnR Tryz.prog 3 [(.slice vp l.length vc), S h.name, .agg #[I h.kind, I h.width, I h.int, S h.text]] A (.bool true) := by
 refine FnR.enter (n := 162) Tryz.func3 rfl rfl fun w0 => ?_
 refine WC.sub (fr' := [(0, _), (1, _), (2, _)]) ?_ ⟨rfl, rfl, rfl, trivial⟩
 refine WC.seq (WC.region ?_)
 refine WL.box rfl rfl rfl fun xb hxb => ?_
 refine WL.q (oq_assign rfl) rfl rfl rfl ?_
 refine WL.nil (WE.then_normal (WC.sub (fr' := [(0, _), (1, _), (5, _)]) ?_ ⟨rfl, rfl, rfl, trivial⟩))
 refine WC.seq (WC.seq (WC.region ?_))
 refine WL.q (oq_move rfl) rfl rfl rfl ?_
 refine WL.qc (oq_callRm (fits4 (.slice vp l.length vc) A l hr) (.tail _ (.head _)) call9 rfl) rfl rfl rfl ?_
 refine WL.q (oq_not rfl) rfl rfl rfl ?_
 refine WL.q (oq_move rfl) rfl rfl rfl ?_
 refine WL.split 16 rfl (fun s1_3 => ?_) (fun s1_3 => ?_)
 ·
  try simp only [Z1, Z2, Z3, Z4, Z5, Z6, Z7, Z8, Z9, Z0] at s1_3
  refine WL.skip rfl rfl rfl ?_
  refine WL.skip rfl rfl rfl ?_
  refine WL.skip rfl rfl rfl ?_
  refine WL.q (oq_pick_t rfl rfl) rfl rfl rfl ?_
  refine WL.q (oq_move rfl) rfl rfl rfl ?_
  refine WL.skip rfl rfl rfl ?_
  refine WL.skip rfl rfl rfl ?_
  refine WL.skip rfl rfl rfl ?_
  refine WL.q (oq_pick_t rfl rfl) rfl rfl rfl ?_
  refine WL.nil (WE.then_normal (WC.sub (fr' := [(0, _), (1, _), (5, _), (25, _)]) ?_ ⟨rfl, rfl, rfl, rfl, trivial⟩))
  refine WC.cond_t rfl ?_
  refine WC.seq (WC.region ?_)
  refine WL.q (oq_assign rfl) rfl rfl rfl ?_
  refine WL.nil (WE.then_normal (WC.sub (fr' := [(6, _)]) ?_ ⟨rfl, trivial⟩))
  refine WC.ret (WE.then_ret ?_)
  refine WE.lose hxb ?_
  refine WE.endR (.inl rfl) (res1 Tryz.results3 rfl) ?_
  first | rfl | exact congrArg Value.bool (decide_eq_true rfl) | (exfalso; omega) | (exfalso; simp_all; done) | skip
 ·
  try simp only [Z1, Z2, Z3, Z4, Z5, Z6, Z7, Z8, Z9, Z0] at s1_3
  refine WL.q (oq_move rfl) rfl rfl rfl ?_
  refine WL.q (oq_len_s Tryz.underlying9 rfl) rfl rfl rfl ?_
  refine WL.q (oq_gtr rfl rfl) rfl rfl rfl ?_
  refine WL.q (oq_pick_f rfl rfl) rfl rfl rfl ?_
  refine WL.q (oq_move rfl) rfl rfl rfl ?_
  refine WL.split 21 rfl (fun s1_8 => ?_) (fun s1_8 => ?_)
  ·
   try simp only [Z1, Z2, Z3, Z4, Z5, Z6, Z7, Z8, Z9, Z0] at s1_8
   refine WL.skip rfl rfl rfl ?_
   refine WL.skip rfl rfl rfl ?_
   refine WL.skip rfl rfl rfl ?_
   refine WL.q (oq_pick_t rfl rfl) rfl rfl rfl ?_
   refine WL.nil (WE.then_normal (WC.sub (fr' := [(0, _), (1, _), (5, _), (25, _)]) ?_ ⟨rfl, rfl, rfl, rfl, trivial⟩))
   refine WC.cond_t rfl ?_
   refine WC.seq (WC.region ?_)
   refine WL.q (oq_assign rfl) rfl rfl rfl ?_
   refine WL.nil (WE.then_normal (WC.sub (fr' := [(6, _)]) ?_ ⟨rfl, trivial⟩))
   refine WC.ret (WE.then_ret ?_)
   refine WE.lose hxb ?_
   refine WE.endR (.inl rfl) (res1 Tryz.results3 rfl) ?_
   first | rfl | exact congrArg Value.bool (decide_eq_true rfl) | (exfalso; omega) | (exfalso; simp_all; done) | skip
  ·
   try simp only [Z1, Z2, Z3, Z4, Z5, Z6, Z7, Z8, Z9, Z0] at s1_8
   refine WL.q (oq_loadS [_, _, _, _] agg24 ty24 rfl (.head _) (List.mem_singleton.2 rfl) rfl rfl) rfl rfl rfl ?_
   refine WL.qc (oq_call (fits6 h) call10 rfl) rfl rfl rfl ?_
   refine WL.q (oq_not rfl) rfl rfl rfl ?_
   refine WL.q (oq_pick_f rfl rfl) rfl rfl rfl ?_
   refine WL.nil (WE.then_normal (WC.sub (fr' := [(0, _), (1, _), (5, _), (25, _)]) ?_ ⟨rfl, rfl, rfl, rfl, trivial⟩))
   refine WC.cond rfl (fun q1 => ?_) (fun q1 => ?_)
   ·
    try simp only [Z1, Z2, Z3, Z4, Z5, Z6, Z7, Z8, Z9, Z0] at q1
    refine WC.seq (WC.region ?_)
    refine WL.q (oq_assign rfl) rfl rfl rfl ?_
    refine WL.nil (WE.then_normal (WC.sub (fr' := [(6, _)]) ?_ ⟨rfl, trivial⟩))
    refine WC.ret (WE.then_ret ?_)
    refine WE.lose hxb ?_
    refine WE.endR (.inl rfl) (res1 Tryz.results3 rfl) ?_
    first | rfl | exact congrArg Value.bool (decide_eq_true rfl) | (exfalso; omega) | (exfalso; simp_all; done) | skip
   ·
    try simp only [Z1, Z2, Z3, Z4, Z5, Z6, Z7, Z8, Z9, Z0] at q1
    refine WC.skip (WE.then_normal (WC.sub (fr' := [(0, _), (1, _), (5, _)]) ?_ ⟨rfl, rfl, rfl, trivial⟩))
    refine WC.seq (WC.seq ?_)
    have hf : fitL l = true := by simpa using s1_3
    refine WC.region ?_
    refine WL.q (oq_move rfl) rfl rfl rfl ?_
    refine WL.q (oq_build #[_, _] str30 ty30 rfl rfl) rfl rfl rfl ?_
    refine WL.qc (oq_callRm (sized (.slice vp l.length vc) A l hr none 0 0 hf) (.tail _ (.head _)) call11 rfl) rfl rfl rfl ?_
    refine WL.q (oq_not rfl) rfl rfl rfl ?_
    refine WL.q (oq_move rfl) rfl rfl rfl ?_
    refine WL.split 30 rfl (fun s3_4 => ?_) (fun s3_4 => ?_)
    ·
     try simp only [Z1, Z2, Z3, Z4, Z5, Z6, Z7, Z8, Z9, Z0] at s3_4
     refine WL.skip rfl rfl rfl ?_
     refine WL.skip rfl rfl rfl ?_
     refine WL.skip rfl rfl rfl ?_
     refine WL.q (oq_pick_t rfl rfl) rfl rfl rfl ?_
     refine WL.q (oq_move rfl) rfl rfl rfl ?_
     refine WL.skip rfl rfl rfl ?_
     refine WL.skip rfl rfl rfl ?_
     refine WL.skip rfl rfl rfl ?_
     refine WL.skip rfl rfl rfl ?_
     refine WL.skip rfl rfl rfl ?_
     refine WL.skip rfl rfl rfl ?_
     refine WL.q (oq_pick_t rfl rfl) rfl rfl rfl ?_
     refine WL.q (oq_move rfl) rfl rfl rfl ?_
     refine WL.skip rfl rfl rfl ?_
     refine WL.skip rfl rfl rfl ?_
     refine WL.skip rfl rfl rfl ?_
     refine WL.skip rfl rfl rfl ?_
     refine WL.skip rfl rfl rfl ?_
     refine WL.skip rfl rfl rfl ?_
     refine WL.skip rfl rfl rfl ?_
     refine WL.q (oq_pick_t rfl rfl) rfl rfl rfl ?_
     refine WL.q (oq_move rfl) rfl rfl rfl ?_
     refine WL.skip rfl rfl rfl ?_
     refine WL.skip rfl rfl rfl ?_
     refine WL.skip rfl rfl rfl ?_
     refine WL.skip rfl rfl rfl ?_
     refine WL.skip rfl rfl rfl ?_
     refine WL.skip rfl rfl rfl ?_
     refine WL.q (oq_pick_t rfl rfl) rfl rfl rfl ?_
     refine WL.nil (WE.then_normal (WC.sub (fr' := [(0, _), (1, _), (5, _), (59, _)]) ?_ ⟨rfl, rfl, rfl, rfl, trivial⟩))
     refine WC.cond_t rfl ?_
     refine WC.seq (WC.region ?_)
     refine WL.qc (oq_call (vAwake) call14 rfl) rfl rfl rfl ?_
     refine WL.q (oq_assign rfl) rfl rfl rfl ?_
     refine WL.nil (WE.then_normal (WC.sub (fr' := [(6, _)]) ?_ ⟨rfl, trivial⟩))
     refine WC.ret (WE.then_ret ?_)
     refine WE.lose hxb ?_
     refine WE.endR (.inl rfl) (res1 Tryz.results3 rfl) ?_
     first | rfl | exact congrArg Value.bool (decide_eq_true rfl) | (exfalso; omega) | (exfalso; simp_all; done) | skip
    ·
     try simp only [Z1, Z2, Z3, Z4, Z5, Z6, Z7, Z8, Z9, Z0] at s3_4
     obtain ⟨hl1, hsu, _⟩ := sized_of s3_4
     have hln : l.length ≤ 1000 := by omega
     refine WL.q (oq_move rfl) rfl rfl rfl ?_
     refine WL.qc (oq_callRm (vFine (.slice vp l.length vc) A l hr hint hln) (by repeat (first | exact .head _ | apply List.Mem.tail)) call12 rfl) rfl rfl rfl ?_
     refine WL.q (oq_not rfl) rfl rfl rfl ?_
     refine WL.q (oq_pick_f rfl rfl) rfl rfl rfl ?_
     refine WL.q (oq_move rfl) rfl rfl rfl ?_
     refine WL.split 35 rfl (fun s3_9 => ?_) (fun s3_9 => ?_)
     ·
      try simp only [Z1, Z2, Z3, Z4, Z5, Z6, Z7, Z8, Z9, Z0] at s3_9
      refine WL.skip rfl rfl rfl ?_
      refine WL.skip rfl rfl rfl ?_
      refine WL.skip rfl rfl rfl ?_
      refine WL.skip rfl rfl rfl ?_
      refine WL.skip rfl rfl rfl ?_
      refine WL.skip rfl rfl rfl ?_
      refine WL.q (oq_pick_t rfl rfl) rfl rfl rfl ?_
      refine WL.q (oq_move rfl) rfl rfl rfl ?_
      refine WL.skip rfl rfl rfl ?_
      refine WL.skip rfl rfl rfl ?_
      refine WL.skip rfl rfl rfl ?_
      refine WL.skip rfl rfl rfl ?_
      refine WL.skip rfl rfl rfl ?_
      refine WL.skip rfl rfl rfl ?_
      refine WL.skip rfl rfl rfl ?_
      refine WL.q (oq_pick_t rfl rfl) rfl rfl rfl ?_
      refine WL.q (oq_move rfl) rfl rfl rfl ?_
      refine WL.skip rfl rfl rfl ?_
      refine WL.skip rfl rfl rfl ?_
      refine WL.skip rfl rfl rfl ?_
      refine WL.skip rfl rfl rfl ?_
      refine WL.skip rfl rfl rfl ?_
      refine WL.skip rfl rfl rfl ?_
      refine WL.q (oq_pick_t rfl rfl) rfl rfl rfl ?_
      refine WL.nil (WE.then_normal (WC.sub (fr' := [(0, _), (1, _), (5, _), (59, _)]) ?_ ⟨rfl, rfl, rfl, rfl, trivial⟩))
      refine WC.cond_t rfl ?_
      refine WC.seq (WC.region ?_)
      refine WL.qc (oq_call (vAwake) call14 rfl) rfl rfl rfl ?_
      refine WL.q (oq_assign rfl) rfl rfl rfl ?_
      refine WL.nil (WE.then_normal (WC.sub (fr' := [(6, _)]) ?_ ⟨rfl, trivial⟩))
      refine WC.ret (WE.then_ret ?_)
      refine WE.lose hxb ?_
      refine WE.endR (.inl rfl) (res1 Tryz.results3 rfl) ?_
      first | rfl | exact congrArg Value.bool (decide_eq_true rfl) | (exfalso; omega) | (exfalso; simp_all; done) | skip
     ·
      try simp only [Z1, Z2, Z3, Z4, Z5, Z6, Z7, Z8, Z9, Z0] at s3_9
      refine WL.q (oq_move rfl) rfl rfl rfl ?_
      refine WL.q (oq_loadS [_, _, _, _] agg24 ty24 rfl (.head _) (List.mem_singleton.2 rfl) rfl rfl) rfl rfl rfl ?_
      refine WL.q (oq_build #[_, _, _, _, _] str32 ty32 rfl rfl) rfl rfl rfl ?_
      refine WL.buildSS (#[S h.name, I h.kind, I h.width, I h.int, S h.text]) Tryz.underlying22 ty32 rfl (by decide) (by decide) (by kernel_rfl) (by kernel_rfl) rfl rfl fun v3_13 A3_13 ho3_13 hne3_13 => ?_
      refine WL.qc (oq_callRm (vFine _ _ [h] (show RdS 5 v3_13 A3_13 [h].length (recsV HV.row [h]) from ho3_13.rd) (int_one hih) (by simp)) (by repeat (first | exact .head _ | apply List.Mem.tail)) call12 rfl) rfl rfl rfl ?_
      refine WL.q (oq_not rfl) rfl rfl rfl ?_
      refine WL.q (oq_pick_f rfl rfl) rfl rfl rfl ?_
      refine WL.q (oq_move rfl) rfl rfl rfl ?_
      refine WL.split 43 rfl (fun s3_17 => ?_) (fun s3_17 => ?_)
      ·
       try simp only [Z1, Z2, Z3, Z4, Z5, Z6, Z7, Z8, Z9, Z0] at s3_17
       refine WL.skip rfl rfl rfl ?_
       refine WL.skip rfl rfl rfl ?_
       refine WL.skip rfl rfl rfl ?_
       refine WL.skip rfl rfl rfl ?_
       refine WL.skip rfl rfl rfl ?_
       refine WL.skip rfl rfl rfl ?_
       refine WL.skip rfl rfl rfl ?_
       refine WL.q (oq_pick_t rfl rfl) rfl rfl rfl ?_
       refine WL.q (oq_move rfl) rfl rfl rfl ?_
       refine WL.skip rfl rfl rfl ?_
       refine WL.skip rfl rfl rfl ?_
       refine WL.skip rfl rfl rfl ?_
       refine WL.skip rfl rfl rfl ?_
       refine WL.skip rfl rfl rfl ?_
       refine WL.skip rfl rfl rfl ?_
       refine WL.q (oq_pick_t rfl rfl) rfl rfl rfl ?_
       refine WL.nil (WE.then_normal (WC.sub (fr' := [(0, _), (1, _), (5, _), (59, _)]) ?_ ⟨rfl, rfl, rfl, rfl, trivial⟩))
       refine WC.cond_t rfl ?_
       refine WC.seq (WC.region ?_)
       refine WL.qc (oq_call (vAwake) call14 rfl) rfl rfl rfl ?_
       refine WL.q (oq_assign rfl) rfl rfl rfl ?_
       refine WL.nil (WE.then_normal (WC.sub (fr' := [(6, _)]) ?_ ⟨rfl, trivial⟩))
       refine WC.ret (WE.then_ret ?_)
       refine WE.forget ho3_13.fresh ?_
       refine WE.lose hxb ?_
       refine WE.endR (.inl rfl) (res1 Tryz.results3 rfl) ?_
       first | rfl | exact congrArg Value.bool (decide_eq_true rfl) | (exfalso; omega) | (exfalso; simp_all; done) | skip
      ·
       try simp only [Z1, Z2, Z3, Z4, Z5, Z6, Z7, Z8, Z9, Z0] at s3_17
       refine WL.q (oq_move rfl) rfl rfl rfl ?_
       refine WL.q (oq_len_s Tryz.underlying9 rfl) rfl rfl rfl ?_
       refine WL.q (oq_fieldAddr fld24_3 rfl) rfl rfl rfl ?_
       refine WL.q (oq_load flat9 rfl (.tail _ (.head _)) (List.mem_singleton.2 rfl) rfl) rfl rfl rfl ?_
       refine WL.q (oq_len_s Tryz.underlying9 rfl) rfl rfl rfl ?_
       refine WL.q (oq_add rfl rfl (by rw [i64_lo, i64_hi]; (first | omega | (simp only [List.length_cons, List.length_nil, List.length_append, List.length_drop, List.length_take]; omega)))) rfl rfl rfl ?_
       refine WL.q (oq_gtr rfl rfl) rfl rfl rfl ?_
       refine WL.q (oq_pick_f rfl rfl) rfl rfl rfl ?_
       refine WL.q (oq_move rfl) rfl rfl rfl ?_
       refine WL.split 52 rfl (fun s3_26 => ?_) (fun s3_26 => ?_)
       ·
        try simp only [Z1, Z2, Z3, Z4, Z5, Z6, Z7, Z8, Z9, Z0] at s3_26
        refine WL.skip rfl rfl rfl ?_
        refine WL.skip rfl rfl rfl ?_
        refine WL.skip rfl rfl rfl ?_
        refine WL.skip rfl rfl rfl ?_
        refine WL.skip rfl rfl rfl ?_
        refine WL.skip rfl rfl rfl ?_
        refine WL.q (oq_pick_t rfl rfl) rfl rfl rfl ?_
        refine WL.nil (WE.then_normal (WC.sub (fr' := [(0, _), (1, _), (5, _), (59, _)]) ?_ ⟨rfl, rfl, rfl, rfl, trivial⟩))
        refine WC.cond_t rfl ?_
        refine WC.seq (WC.region ?_)
        refine WL.qc (oq_call (vAwake) call14 rfl) rfl rfl rfl ?_
        refine WL.q (oq_assign rfl) rfl rfl rfl ?_
        refine WL.nil (WE.then_normal (WC.sub (fr' := [(6, _)]) ?_ ⟨rfl, trivial⟩))
        refine WC.ret (WE.then_ret ?_)
        refine WE.forget ho3_13.fresh ?_
        refine WE.lose hxb ?_
        refine WE.endR (.inl rfl) (res1 Tryz.results3 rfl) ?_
        first | rfl | exact congrArg Value.bool (decide_eq_true rfl) | (exfalso; omega) | (exfalso; simp_all; done) | skip
       ·
        try simp only [Z1, Z2, Z3, Z4, Z5, Z6, Z7, Z8, Z9, Z0] at s3_26
        refine WL.q (oq_move rfl) rfl rfl rfl ?_
        refine WL.q (oq_loadS [_, _, _, _] agg24 ty24 rfl (.tail _ (.head _)) (List.mem_singleton.2 rfl) rfl rfl) rfl rfl rfl ?_
        refine WL.q (oq_build #[_, _, _, _, _] str32 ty32 rfl rfl) rfl rfl rfl ?_
        refine WL.buildSS (#[S h.name, I h.kind, I h.width, I h.int, S h.text]) Tryz.underlying22 ty32 rfl (by decide) (by decide) (by kernel_rfl) (by kernel_rfl) rfl rfl fun v3_30 A3_30 ho3_30 hne3_30 => ?_
        refine WL.qc (oq_callRm (vUnlike _ _ [h] (show RdS 5 v3_30 A3_30 [h].length (recsV HV.row [h]) from ho3_30.rd) (int_one hih) (by simp)) (by repeat (first | exact .head _ | apply List.Mem.tail)) call13 rfl) rfl rfl rfl ?_
        refine WL.q (oq_not rfl) rfl rfl rfl ?_
        refine WL.q (oq_pick_f rfl rfl) rfl rfl rfl ?_
        refine WL.nil (WE.then_normal (WC.sub (fr' := [(0, _), (1, _), (5, _), (59, _)]) ?_ ⟨rfl, rfl, rfl, rfl, trivial⟩))
        refine WC.cond rfl (fun q3 => ?_) (fun q3 => ?_)
        ·
         try simp only [Z1, Z2, Z3, Z4, Z5, Z6, Z7, Z8, Z9, Z0] at q3
         refine WC.seq (WC.region ?_)
         refine WL.qc (oq_call (vAwake) call14 rfl) rfl rfl rfl ?_
         refine WL.q (oq_assign rfl) rfl rfl rfl ?_
         refine WL.nil (WE.then_normal (WC.sub (fr' := [(6, _)]) ?_ ⟨rfl, trivial⟩))
         refine WC.ret (WE.then_ret ?_)
         refine WE.forget ho3_30.fresh ?_
         refine WE.forget ho3_13.fresh ?_
         refine WE.lose hxb ?_
         refine WE.endR (.inl rfl) (res1 Tryz.results3 rfl) ?_
         first | rfl | exact congrArg Value.bool (decide_eq_true rfl) | (exfalso; omega) | (exfalso; simp_all; done) | skip
        ·
         try simp only [Z1, Z2, Z3, Z4, Z5, Z6, Z7, Z8, Z9, Z0] at q3
         refine WC.skip (WE.then_normal (WC.sub (fr' := [(0, _), (1, _), (5, _)]) ?_ ⟨rfl, rfl, rfl, trivial⟩))
         refine WC.seq (WC.seq ?_)
         have hcn : canV h := unl_one (by simpa using q3)
         have hfh : fineV h := fine_one (by simpa using s3_17)
         have hfin : l.all fineB = true := by simpa using s3_9
         have hok := fine_ok hfin hsu
         refine WC.region ?_
         refine WL.q (oq_assign rfl) rfl rfl rfl ?_
         refine WL.nil (WE.then_normal (WC.sub (fr' := [(0, _), (1, _), (5, _), (7, _)]) ?_ ⟨rfl, rfl, rfl, rfl, trivial⟩))
         refine WC.block ?_
         refine WC.forget ho3_30.fresh ?_
         refine WC.forget ho3_13.fresh ?_
         refine WC.loop (ι := Nat) (fun (i : Nat) => [(0, (.slice vp l.length vc)), (1, S h.name), (5, Pt xb 0), (7, I (i : Int))]) (fun (i : Nat) => [[(xb, .cells #[I h.kind, I h.width, I h.int, S h.text] 24 (0, 0))], A]) (fun (i : Nat) => i ≤ l.length ∧ ∀ j, j < i → canV (l.getD j HV0)) (fun (i : Nat) => l.length - i) (0) ?_ ⟨rfl, rfl, rfl, rfl, trivial⟩ (List.Perm.refl _) ?_
         ·try dsimp only
          exact ⟨by omega, fun j h => (by omega)⟩
         ·rintro i hp
          try dsimp only at hp
          obtain ⟨hi, hcs⟩ := hp
          show WC _ _ _ _ _ _ ([(0, (.slice vp l.length vc)), (1, S h.name), (5, Pt xb 0), (7, I (i : Int))]) ([[(xb, .cells #[I h.kind, I h.width, I h.int, S h.text] 24 (0, 0))], A])
          refine WC.seq (WC.seq (WC.region ?_))
          refine WL.q (oq_move rfl) rfl rfl rfl ?_
          refine WL.q (oq_move rfl) rfl rfl rfl ?_
          refine WL.q (oq_len_rd hr Tryz.underlying22 rfl) rfl rfl rfl ?_
          refine WL.q (oq_lss rfl rfl) rfl rfl rfl ?_
          refine WL.nil (WE.then_normal (WC.sub (fr' := [(0, _), (1, _), (5, _), (7, _), (64, _)]) ?_ ⟨rfl, rfl, rfl, rfl, rfl, trivial⟩))
          refine WC.cond rfl (fun q6 => ?_) (fun q6 => ?_)
          ·
           try simp only [Z1, Z2, Z3, Z4, Z5, Z6, Z7, Z8, Z9, Z0] at q6
           refine WC.skip (WE.then_normal (WC.sub (fr' := [(0, _), (1, _), (5, _), (7, _)]) ?_ ⟨rfl, rfl, rfl, rfl, trivial⟩))
           refine WC.seq (WC.block (WC.seq ?_))
           have hlt : i < l.length := by omega
           obtain ⟨v8, hr8, o8⟩ := slice_val (i := (i : Int)) (j := (i : Int) + 1) hr ty32 (by omega)
           have hr8b := rd_one5 hlt hr8
           refine WC.region ?_
           refine WL.q (oq_move rfl) rfl rfl rfl ?_
           refine WL.q (oq_move rfl) rfl rfl rfl ?_
           refine WL.q (oq_move rfl) rfl rfl rfl ?_
           refine WL.q (oq_add rfl rfl (by rw [i64_lo, i64_hi]; (first | omega | (simp only [List.length_cons, List.length_nil, List.length_append, List.length_drop, List.length_take]; omega)))) rfl rfl rfl ?_
           refine WL.q (o8 Tryz.underlying22 rfl ⟨_, rfl⟩ ⟨_, rfl⟩) rfl rfl rfl ?_
           refine WL.qc (oq_callRm (vUnlike _ A [l.getD i HV0] hr8b (int_one (hint i hlt)) (by simp)) (by repeat (first | exact .head _ | apply List.Mem.tail)) call13 rfl) rfl rfl rfl ?_
           refine WL.q (oq_not rfl) rfl rfl rfl ?_
           refine WL.nil (WE.then_normal (WC.sub (fr' := [(0, _), (1, _), (5, _), (7, _), (73, _)]) ?_ ⟨rfl, rfl, rfl, rfl, rfl, trivial⟩))
           refine WC.cond rfl (fun q8 => ?_) (fun q8 => ?_)
           ·
            try simp only [Z1, Z2, Z3, Z4, Z5, Z6, Z7, Z8, Z9, Z0] at q8
            refine WC.seq (WC.region ?_)
            refine WL.qc (oq_call (vAwake) call14 rfl) rfl rfl rfl ?_
            refine WL.q (oq_assign rfl) rfl rfl rfl ?_
            refine WL.nil (WE.then_normal (WC.sub (fr' := [(6, _)]) ?_ ⟨rfl, trivial⟩))
            refine WC.ret (WE.block_ret (WE.then_ret (WE.then_ret (WE.block_ret (WE.then_ret ?_)))))
            refine WE.lose hxb ?_
            refine WE.endR (.inl rfl) (res1 Tryz.results3 rfl) ?_
            first | rfl | exact congrArg Value.bool (decide_eq_true rfl) | (exfalso; omega) | (exfalso; simp_all; done) | skip
           ·
            try simp only [Z1, Z2, Z3, Z4, Z5, Z6, Z7, Z8, Z9, Z0] at q8
            refine WC.skip (WE.block_normal (WE.then_normal (WC.sub (fr' := [(0, _), (1, _), (5, _), (7, _)]) ?_ ⟨rfl, rfl, rfl, rfl, trivial⟩)))
            refine WC.region ?_
            refine WL.q (oq_move rfl) rfl rfl rfl ?_
            refine WL.q (oq_add rfl rfl (by rw [i64_lo, i64_hi]; (first | omega | (simp only [List.length_cons, List.length_nil, List.length_append, List.length_drop, List.length_take]; omega)))) rfl rfl rfl ?_
            refine WL.q (oq_assign rfl) rfl rfl rfl ?_
            refine WL.nil ?_
            refine WE.again (i + 1) ?_ ?_ ⟨rfl, rfl, rfl, rfl, trivial⟩ (List.Perm.refl _)
            ·try dsimp only
             refine ⟨by omega, fun m hm => ?_⟩
             rcases Nat.lt_or_ge m i with h2 | h2
             ·exact hcs m h2
             ·rw [show m = i by omega]; exact unl_one (by simpa using q8)
            ·(try dsimp only); omega
          ·
           try simp only [Z1, Z2, Z3, Z4, Z5, Z6, Z7, Z8, Z9, Z0] at q6
           refine WC.exit (WE.then_exit (WE.then_exit (WE.block_same (WE.then_normal (WC.sub (fr' := [(0, _), (1, _), (5, _)]) ?_ ⟨rfl, rfl, rfl, trivial⟩)))))
           refine WC.seq ?_
           have hcan : canL l := fun j hj => hcs j (by omega)
           refine WC.region ?_
           refine WL.q (oq_move rfl) rfl rfl rfl ?_
           refine WL.q (oq_move rfl) rfl rfl rfl ?_
           refine WL.qc (oq_callRm (vGot (.slice vp l.length vc) A l hr hok hcan hint hln h.name) (.tail _ (.head _)) call15 rfl) rfl rfl rfl ?_
           refine WL.q (oq_move rfl) rfl rfl rfl ?_
           refine WL.q (oq_extract rfl rfl) rfl rfl rfl ?_
           refine WL.q (oq_extract rfl rfl) rfl rfl rfl ?_
           refine WL.alloc ty24 rfl rfl fun m10 hm10 => ?_
           refine WL.storeS #[_, _, _, _] ty24 rfl rfl rfl rfl (Nat.le_of_ble_eq_true rfl) rfl rfl ?_
           refine WL.q (oq_assign rfl) rfl rfl rfl ?_
           refine WL.nil (WE.then_normal (WC.sub (fr' := [(0, _), (1, _), (5, _), (8, _), (9, _)]) ?_ ⟨rfl, rfl, rfl, rfl, rfl, trivial⟩))
           refine WC.seq (WC.region ?_)
           refine WL.q (oq_move rfl) rfl rfl rfl ?_
           refine WL.q (oq_move rfl) rfl rfl rfl ?_
           refine WL.qc (oq_callRm (vHas (.slice vp l.length vc) A l hr (by omega) h.name) (.tail _ (.tail _ (.head _))) call16 rfl) rfl rfl rfl ?_
           refine WL.q (oq_assign rfl) rfl rfl rfl ?_
           refine WL.nil (WE.then_normal (WC.sub (fr' := [(0, _), (1, _), (5, _), (8, _), (9, _), (10, _)]) ?_ ⟨rfl, rfl, rfl, rfl, rfl, rfl, trivial⟩))
           refine WC.cut (ι := Unit) (fun _ => [(0, (.slice vp l.length vc)), (1, S h.name)]) (fun _ => [A]) (fun _ => True ∧ True) ?_ ?_
           ·
            refine WC.seq ?_
            have hrC := hr.weaken (C := [(xb, .cells #[I h.kind, I h.width, I h.int, S h.text] 24 (0, 0))] ++ [(m10, .cells #[I (gotH l h.name).kind, I (gotH l h.name).width, I (gotH l h.name).int, S (gotH l h.name).text] 24 (0, 0))] ++ A) (fun x hx => List.mem_append_right _ hx)
            refine WC.f2 ?_
            refine WC.f1 ?_
            refine WC.f2 ?_
            refine WC.cat ?_
            refine WC.cat ?_
            refine WC.held ([(xb, .cells #[I h.kind, I h.width, I h.int, S h.text] 24 (0, 0))] ++ [(m10, .cells #[I (gotH l h.name).kind, I (gotH l h.name).width, I (gotH l h.name).int, S (gotH l h.name).text] 24 (0, 0))] ++ A) (by kernel_rfl) ?_
            refine WH.q 0 rfl (.head _) (fun w0 => oq_move rfl) rfl rfl rfl ?_
            refine WH.q 1 rfl (.head _) (fun w0 => oq_move rfl) rfl rfl rfl ?_
            refine WH.q 2 rfl (.head _) (fun w0 => oq_geq rfl rfl) rfl rfl rfl ?_
            refine WH.q 3 rfl (.head _) (fun w0 => oq_bneq Tryz.underlying4 rfl rfl) rfl rfl rfl ?_
            refine WH.q 4 rfl (.head _) (fun w0 => oq_move rfl) rfl rfl rfl ?_
            refine WH.split 88 rfl (fun s12_4 => ?_) (fun s12_4 => ?_)
            ·
             try simp only [Z1, Z2, Z3, Z4, Z5, Z6, Z7, Z8, Z9, Z0] at s12_4
             refine WH.skip 5 rfl rfl rfl rfl ?_
             refine WH.skip 6 rfl rfl rfl rfl ?_
             refine WH.skip 7 rfl rfl rfl rfl ?_
             refine WH.skip 8 rfl rfl rfl rfl ?_
             refine WH.skip 9 rfl rfl rfl rfl ?_
             refine WH.skip 10 rfl rfl rfl rfl ?_
             refine WH.skip 11 rfl rfl rfl rfl ?_
             refine WH.skip 12 rfl rfl rfl rfl ?_
             refine WH.skip 13 rfl rfl rfl rfl ?_
             refine WH.skip 14 rfl rfl rfl rfl ?_
             refine WH.q 15 rfl (.head _) (fun w0 => oq_pick_t rfl rfl) rfl rfl rfl ?_
             refine WH.q 16 rfl (.head _) (fun w0 => oq_move rfl) rfl rfl rfl ?_
             refine WH.skip 17 rfl rfl rfl rfl ?_
             refine WH.skip 18 rfl rfl rfl rfl ?_
             refine WH.skip 19 rfl rfl rfl rfl ?_
             refine WH.skip 21 rfl rfl rfl rfl ?_
             refine WH.skip 22 rfl rfl rfl rfl ?_
             refine WH.skip 23 rfl rfl rfl rfl ?_
             refine WH.skip 20 rfl rfl rfl rfl ?_
             refine WH.skip 24 rfl rfl rfl rfl ?_
             refine WH.skip 25 rfl rfl rfl rfl ?_
             refine WH.skip 26 rfl rfl rfl rfl ?_
             refine WH.q 27 rfl (.head _) (fun w0 => oq_pick_t rfl rfl) rfl rfl rfl ?_
             refine WH.done (by kernel_rfl) ?_
             refine WE.reg (reg_out (List.Perm.refl _)) ?_
             refine WE.then_normal (WC.sub (fr' := [(0, _), (1, _), (111, _)]) ?_ ⟨rfl, rfl, rfl, trivial⟩)
             refine WC.cond_t rfl ?_
             refine WC.seq (WC.region ?_)
             refine WL.q (oq_assign rfl) rfl rfl rfl ?_
             refine WL.nil (WE.then_normal (WC.sub (fr' := [(6, _)]) ?_ ⟨rfl, trivial⟩))
             refine WC.ret (WE.then_ret ?_)
             refine WE.forget (fresh_cat (fresh1 hxb) (fresh1 hm10)) ?_
             refine WE.endR (.inl rfl) (res1 Tryz.results3 rfl) ?_
             first | rfl | exact congrArg Value.bool (decide_eq_true rfl) | (exfalso; omega) | (exfalso; simp_all; done) | skip
            ·
             try simp only [Z1, Z2, Z3, Z4, Z5, Z6, Z7, Z8, Z9, Z0] at s12_4
             refine WH.q 5 rfl (.head _) (fun w0 => oq_move rfl) rfl rfl rfl ?_
             refine WH.q 6 rfl (.head _) (fun w0 => oq_move rfl) rfl rfl rfl ?_
             refine WH.split 90 rfl (fun s12_6 => ?_) (fun s12_6 => ?_)
             ·
              try simp only [Z1, Z2, Z3, Z4, Z5, Z6, Z7, Z8, Z9, Z0] at s12_6
              refine WH.q 7 rfl (.head _) (fun w0 => oq_loadS [_, _, _, _] agg24 ty24 rfl (.head _) (List.mem_append_left _ (List.mem_append_right _ (List.mem_singleton.2 rfl))) rfl rfl) rfl rfl rfl ?_
              obtain ⟨hgt, hgl⟩ := gotH_at (l := l) (nm := h.name) (by simpa using s12_6)
              refine WH.q 8 rfl (.head _) (fun w0 => oq_move rfl) rfl rfl rfl ?_
              refine WH.q 9 rfl (.head _) (fun w0 => oq_move rfl) rfl rfl rfl ?_
              refine WH.q 10 rfl (.head _) (fun w0 => oq_ixaddr hrC Tryz.underlying22 ty32 rfl rfl (by (first | omega | (simp only [List.length_cons, List.length_nil, List.length_append, List.length_drop, List.length_take]; omega)))) rfl rfl rfl ?_
              refine WH.q 11 rfl (.head _) (fun w0 => oq_fldEl fld32_1 hrC rfl (by (first | omega | (simp only [List.length_cons, List.length_nil, List.length_append, List.length_drop, List.length_take]; omega)))) rfl rfl rfl ?_
              refine WH.q 12 rfl (.head _) (fun w0 => oq_loadFS (f := HV.row) HV0 [_, _, _, _] (fun _ => rfl) agg24 ty24 hrC (.head _) rfl (by (first | omega | (simp only [List.length_cons, List.length_nil, List.length_append, List.length_drop, List.length_take]; omega))) (by first | exact Int.toNat_natCast _ | exact rfl) (by decide) rfl rfl) rfl rfl rfl ?_
              refine WH.q 13 rfl (.head _) (fun w0 => oq_neVV (a := gotH l h.name) (b := l.getD (atN l h.name).toNat HV0) rfl rfl) rfl rfl rfl ?_
              refine WH.q 14 rfl (.head _) (fun w0 => oq_pick_t rfl rfl) rfl rfl rfl ?_
              refine WH.q 15 rfl (.head _) (fun w0 => oq_pick_f rfl rfl) rfl rfl rfl ?_
              refine WH.q 16 rfl (.head _) (fun w0 => oq_move rfl) rfl rfl rfl ?_
              refine WH.split 100 rfl (fun s12_16 => ?_) (fun s12_16 => ?_)
              ·
               try simp only [Z1, Z2, Z3, Z4, Z5, Z6, Z7, Z8, Z9, Z0] at s12_16
               refine WH.skip 17 rfl rfl rfl rfl ?_
               refine WH.skip 18 rfl rfl rfl rfl ?_
               refine WH.skip 19 rfl rfl rfl rfl ?_
               refine WH.skip 21 rfl rfl rfl rfl ?_
               refine WH.skip 22 rfl rfl rfl rfl ?_
               refine WH.skip 23 rfl rfl rfl rfl ?_
               refine WH.skip 20 rfl rfl rfl rfl ?_
               refine WH.skip 24 rfl rfl rfl rfl ?_
               refine WH.skip 25 rfl rfl rfl rfl ?_
               refine WH.skip 26 rfl rfl rfl rfl ?_
               refine WH.q 27 rfl (.head _) (fun w0 => oq_pick_t rfl rfl) rfl rfl rfl ?_
               refine WH.done (by kernel_rfl) ?_
               refine WE.reg (reg_out (List.Perm.refl _)) ?_
               refine WE.then_normal (WC.sub (fr' := [(0, _), (1, _), (111, _)]) ?_ ⟨rfl, rfl, rfl, trivial⟩)
               refine WC.cond_t rfl ?_
               refine WC.seq (WC.region ?_)
               refine WL.q (oq_assign rfl) rfl rfl rfl ?_
               refine WL.nil (WE.then_normal (WC.sub (fr' := [(6, _)]) ?_ ⟨rfl, trivial⟩))
               refine WC.ret (WE.then_ret ?_)
               refine WE.forget (fresh_cat (fresh1 hxb) (fresh1 hm10)) ?_
               refine WE.endR (.inl rfl) (res1 Tryz.results3 rfl) ?_
               first | rfl | exact congrArg Value.bool (decide_eq_true rfl) | (exfalso; omega) | (exfalso; simp_all; done) | skip
              ·
               try simp only [Z1, Z2, Z3, Z4, Z5, Z6, Z7, Z8, Z9, Z0] at s12_16
               refine WH.q 17 rfl (.head _) (fun w0 => oq_move rfl) rfl rfl rfl ?_
               refine WH.q 18 rfl (.head _) (fun w0 => oq_move rfl) rfl rfl rfl ?_
               refine WH.q 19 rfl (.head _) (fun w0 => oq_loadS [_, _, _, _] agg24 ty24 rfl (.head _) (List.mem_append_left _ (List.mem_append_left _ (List.mem_singleton.2 rfl))) rfl rfl) rfl rfl rfl ?_
               refine WH.q 21 rfl (.head _) (fun w0 => oq_move rfl) rfl rfl rfl ?_
               refine WH.q 22 rfl (.head _) (fun w0 => oq_move rfl) rfl rfl rfl ?_
               refine WH.q 23 rfl (.head _) (fun w0 => oq_loadS [_, _, _, _] agg24 ty24 rfl (.head _) (List.mem_append_left _ (List.mem_append_left _ (List.mem_singleton.2 rfl))) rfl rfl) rfl rfl rfl ?_
               refine WH.step (i := 20) (by kernel_rfl) rfl ?_
               refine WL.callA (vSet (.slice vp l.length vc) _ l hrC hok hcan hint hln h hfh hcn ⟨hih.1, hih.2.1⟩ (by omega)) call18 rfl rfl rfl fun v12_20 N12_20 hR12_20 hN12_20 => ?_
               refine WL.nil ?_
               refine WE.toH (.tail _ (.head _)) ?_
               refine WH.step (i := 24) (by kernel_rfl) rfl ?_
               refine WL.f1 ?_
               refine WL.callA (vPut (.slice vp l.length vc) _ l hrC (by omega) h) call19 rfl rfl rfl fun v12_24 N12_24 hR12_24 hN12_24 => ?_
               refine WL.nil ?_
               refine WE.toH (.tail _ (.head _)) ?_
               refine WH.step (i := 25) (by kernel_rfl) rfl ?_
               refine WL.qc (oq_callRall (vSame _ _ _ (put l h) (put l h) (rd_flat hR12_20 (by repeat (first | exact .head _ | apply List.Mem.tail))) (rd_flat hR12_24 (by repeat (first | exact .head _ | apply List.Mem.tail))) (by have := DS.put_len l h; omega)) call17 rfl) rfl rfl rfl ?_
               refine WL.nil ?_
               refine WE.toH (.tail _ (.head _)) ?_
               refine WH.q 26 rfl (.tail _ (.head _)) (fun w0 => oq_not rfl) rfl rfl rfl ?_
               refine WH.q 27 rfl (.tail _ (.head _)) (fun w0 => oq_pick_f rfl rfl) rfl rfl rfl ?_
               refine WH.done (by kernel_rfl) ?_
               refine WE.f1 ?_
               refine WE.reg (reg_out (List.Perm.refl _)) ?_
               refine WE.then_normal (WC.sub (fr' := [(0, _), (1, _), (111, _)]) ?_ ⟨rfl, rfl, rfl, trivial⟩)
               refine WC.cond rfl (fun q12 => ?_) (fun q12 => ?_)
               ·
                try simp only [Z1, Z2, Z3, Z4, Z5, Z6, Z7, Z8, Z9, Z0] at q12
                refine WC.seq (WC.region ?_)
                refine WL.q (oq_assign rfl) rfl rfl rfl ?_
                refine WL.nil (WE.then_normal (WC.sub (fr' := [(6, _)]) ?_ ⟨rfl, trivial⟩))
                refine WC.ret (WE.then_ret ?_)
                refine WE.forget (fresh_cat (fresh1 hxb) (fresh1 hm10)) ?_
                refine WE.f1 ?_
                refine WE.forget hN12_24 ?_
                refine WE.f1 ?_
                refine WE.forget hN12_20 ?_
                refine WE.endR (.inl rfl) (res1 Tryz.results3 rfl) ?_
                first | rfl | exact congrArg Value.bool (decide_eq_true rfl) | (exfalso; omega) | (exfalso; simp_all; done) | skip
               ·
                try simp only [Z1, Z2, Z3, Z4, Z5, Z6, Z7, Z8, Z9, Z0] at q12
                refine WC.skip ?_
                refine WE.forget (fresh_cat (fresh1 hxb) (fresh1 hm10)) ?_
                refine WE.f1 ?_
                refine WE.forget hN12_24 ?_
                refine WE.f1 ?_
                refine WE.forget hN12_20 ?_
                refine WE.meet () ?_ ⟨rfl, rfl, trivial⟩ (List.Perm.refl _)
                try dsimp only
                exact ⟨trivial, trivial⟩
             ·
              try simp only [Z1, Z2, Z3, Z4, Z5, Z6, Z7, Z8, Z9, Z0] at s12_6
              refine WH.skip 7 rfl rfl rfl rfl ?_
              refine WH.skip 8 rfl rfl rfl rfl ?_
              refine WH.skip 9 rfl rfl rfl rfl ?_
              refine WH.skip 10 rfl rfl rfl rfl ?_
              refine WH.skip 11 rfl rfl rfl rfl ?_
              refine WH.skip 12 rfl rfl rfl rfl ?_
              refine WH.skip 13 rfl rfl rfl rfl ?_
              refine WH.q 14 rfl (.head _) (fun w0 => oq_pick_f rfl rfl) rfl rfl rfl ?_
              refine WH.q 15 rfl (.head _) (fun w0 => oq_pick_f rfl rfl) rfl rfl rfl ?_
              refine WH.q 16 rfl (.head _) (fun w0 => oq_move rfl) rfl rfl rfl ?_
              refine WH.q 17 rfl (.head _) (fun w0 => oq_move rfl) rfl rfl rfl ?_
              refine WH.q 18 rfl (.head _) (fun w0 => oq_move rfl) rfl rfl rfl ?_
              refine WH.q 19 rfl (.head _) (fun w0 => oq_loadS [_, _, _, _] agg24 ty24 rfl (.head _) (List.mem_append_left _ (List.mem_append_left _ (List.mem_singleton.2 rfl))) rfl rfl) rfl rfl rfl ?_
              refine WH.q 21 rfl (.head _) (fun w0 => oq_move rfl) rfl rfl rfl ?_
              refine WH.q 22 rfl (.head _) (fun w0 => oq_move rfl) rfl rfl rfl ?_
              refine WH.q 23 rfl (.head _) (fun w0 => oq_loadS [_, _, _, _] agg24 ty24 rfl (.head _) (List.mem_append_left _ (List.mem_append_left _ (List.mem_singleton.2 rfl))) rfl rfl) rfl rfl rfl ?_
              refine WH.step (i := 20) (by kernel_rfl) rfl ?_
              refine WL.callA (vSet (.slice vp l.length vc) _ l hrC hok hcan hint hln h hfh hcn ⟨hih.1, hih.2.1⟩ (by omega)) call18 rfl rfl rfl fun v12_20 N12_20 hR12_20 hN12_20 => ?_
              refine WL.nil ?_
              refine WE.toH (.tail _ (.head _)) ?_
              refine WH.step (i := 24) (by kernel_rfl) rfl ?_
              refine WL.f1 ?_
              refine WL.callA (vPut (.slice vp l.length vc) _ l hrC (by omega) h) call19 rfl rfl rfl fun v12_24 N12_24 hR12_24 hN12_24 => ?_
              refine WL.nil ?_
              refine WE.toH (.tail _ (.head _)) ?_
              refine WH.step (i := 25) (by kernel_rfl) rfl ?_
              refine WL.qc (oq_callRall (vSame _ _ _ (put l h) (put l h) (rd_flat hR12_20 (by repeat (first | exact .head _ | apply List.Mem.tail))) (rd_flat hR12_24 (by repeat (first | exact .head _ | apply List.Mem.tail))) (by have := DS.put_len l h; omega)) call17 rfl) rfl rfl rfl ?_
              refine WL.nil ?_
              refine WE.toH (.tail _ (.head _)) ?_
              refine WH.q 26 rfl (.tail _ (.head _)) (fun w0 => oq_not rfl) rfl rfl rfl ?_
              refine WH.q 27 rfl (.tail _ (.head _)) (fun w0 => oq_pick_f rfl rfl) rfl rfl rfl ?_
              refine WH.done (by kernel_rfl) ?_
              refine WE.f1 ?_
              refine WE.reg (reg_out (List.Perm.refl _)) ?_
              refine WE.then_normal (WC.sub (fr' := [(0, _), (1, _), (111, _)]) ?_ ⟨rfl, rfl, rfl, trivial⟩)
              refine WC.cond rfl (fun q12 => ?_) (fun q12 => ?_)
              ·
               try simp only [Z1, Z2, Z3, Z4, Z5, Z6, Z7, Z8, Z9, Z0] at q12
               refine WC.seq (WC.region ?_)
               refine WL.q (oq_assign rfl) rfl rfl rfl ?_
               refine WL.nil (WE.then_normal (WC.sub (fr' := [(6, _)]) ?_ ⟨rfl, trivial⟩))
               refine WC.ret (WE.then_ret ?_)
               refine WE.forget (fresh_cat (fresh1 hxb) (fresh1 hm10)) ?_
               refine WE.f1 ?_
               refine WE.forget hN12_24 ?_
               refine WE.f1 ?_
               refine WE.forget hN12_20 ?_
               refine WE.endR (.inl rfl) (res1 Tryz.results3 rfl) ?_
               first | rfl | exact congrArg Value.bool (decide_eq_true rfl) | (exfalso; omega) | (exfalso; simp_all; done) | skip
              ·
               try simp only [Z1, Z2, Z3, Z4, Z5, Z6, Z7, Z8, Z9, Z0] at q12
               refine WC.skip ?_
               refine WE.forget (fresh_cat (fresh1 hxb) (fresh1 hm10)) ?_
               refine WE.f1 ?_
               refine WE.forget hN12_24 ?_
               refine WE.f1 ?_
               refine WE.forget hN12_20 ?_
               refine WE.meet () ?_ ⟨rfl, rfl, trivial⟩ (List.Perm.refl _)
               try dsimp only
               exact ⟨trivial, trivial⟩
           ·rintro _ hp
            try dsimp only at hp
            obtain ⟨_, _⟩ := hp
            show WC _ _ _ _ _ _ ([(0, (.slice vp l.length vc)), (1, S h.name)]) ([A])
            refine WC.seq ?_
            refine WC.add0 ?_
            refine WC.region ?_
            refine WL.q (oq_assign rfl) rfl rfl rfl ?_
            refine WL.nil (WE.then_normal (WC.sub (fr' := [(0, _), (1, _), (11, _)]) ?_ ⟨rfl, rfl, rfl, trivial⟩))
            refine WC.seq (WC.seq (WC.region ?_))
            refine WL.q (oq_assign rfl) rfl rfl rfl ?_
            refine WL.nil (WE.then_normal (WC.sub (fr' := [(0, _), (1, _), (11, _), (12, _)]) ?_ ⟨rfl, rfl, rfl, rfl, trivial⟩))
            refine WC.block ?_
            refine WC.loop (ι := Nat × Value × Hp) (fun i_ => (fun (i : Nat) (u : Value) (B : Hp) => [(0, (.slice vp l.length vc)), (1, S h.name), (11, u), (12, I (i : Int))]) i_.1 i_.2.1 i_.2.2) (fun i_ => (fun (i : Nat) (u : Value) (B : Hp) => [B, A]) i_.1 i_.2.1 i_.2.2) (fun i_ => (fun (i : Nat) (u : Value) (B : Hp) => i ≤ l.length ∧ (∀ j, 0 < j → j < i → ¬ ((l.getD j HV0).name = h.name ∧ (l.getD (j - 1) HV0).name = h.name)) ∧ OwS w0.heap.size 32 5 u B (others (l.take i) h.name).length (recsV HV.row (others (l.take i) h.name))) i_.1 i_.2.1 i_.2.2) (fun i_ => (fun (i : Nat) (u : Value) (B : Hp) => l.length - i) i_.1 i_.2.1 i_.2.2) ((0, _, _)) ?_ ⟨rfl, rfl, rfl, rfl, trivial⟩ (List.Perm.refl _) ?_
            ·try dsimp only
             exact ⟨by omega, fun j h1 h2 => (by omega), OwS.nil _ _ _⟩
            ·rintro ⟨i, u, B⟩ hp
             try dsimp only at hp
             obtain ⟨hi, hap, ho⟩ := hp
             show WC _ _ _ _ _ _ ([(0, (.slice vp l.length vc)), (1, S h.name), (11, u), (12, I (i : Int))]) ([B, A])
             refine WC.seq (WC.seq (WC.region ?_))
             refine WL.q (oq_move rfl) rfl rfl rfl ?_
             refine WL.q (oq_move rfl) rfl rfl rfl ?_
             refine WL.q (oq_len_rd hr Tryz.underlying22 rfl) rfl rfl rfl ?_
             refine WL.q (oq_lss rfl rfl) rfl rfl rfl ?_
             refine WL.nil (WE.then_normal (WC.sub (fr' := [(0, _), (1, _), (11, _), (12, _), (115, _)]) ?_ ⟨rfl, rfl, rfl, rfl, rfl, trivial⟩))
             refine WC.cond rfl (fun q16 => ?_) (fun q16 => ?_)
             ·
              try simp only [Z1, Z2, Z3, Z4, Z5, Z6, Z7, Z8, Z9, Z0] at q16
              refine WC.skip (WE.then_normal (WC.sub (fr' := [(0, _), (1, _), (11, _), (12, _)]) ?_ ⟨rfl, rfl, rfl, rfl, trivial⟩))
              refine WC.seq (WC.block ?_)
              refine WC.cut (ι := Unit) (fun _ => [(0, (.slice vp l.length vc)), (1, S h.name), (11, u), (12, I (i : Int))]) (fun _ => [B, A]) (fun _ => (0 < i → ¬ ((l.getD i HV0).name = h.name ∧ (l.getD (i - 1) HV0).name = h.name)) ∧ True) ?_ ?_
              ·
               refine WC.seq ?_
               have hlt : i < l.length := by omega
               have hol : (others (l.take i) h.name).length ≤ i := by
                unfold others
                refine Nat.le_trans (List.length_filter_le _ _) ?_
                rw [List.length_take]; omega
               refine WC.region ?_
               refine WL.q (oq_move rfl) rfl rfl rfl ?_
               refine WL.q (oq_gtr rfl rfl) rfl rfl rfl ?_
               refine WL.q (oq_move rfl) rfl rfl rfl ?_
               refine WL.split 120 rfl (fun s18_2 => ?_) (fun s18_2 => ?_)
               ·
                try simp only [Z1, Z2, Z3, Z4, Z5, Z6, Z7, Z8, Z9, Z0] at s18_2
                refine WL.q (oq_move rfl) rfl rfl rfl ?_
                refine WL.q (oq_move rfl) rfl rfl rfl ?_
                refine WL.q (oq_ixaddr hr Tryz.underlying22 ty32 rfl rfl (by (first | omega | (simp only [List.length_cons, List.length_nil, List.length_append, List.length_drop, List.length_take]; omega)))) rfl rfl rfl ?_
                refine WL.q (oq_fldEl fld32_0 hr rfl (by (first | omega | (simp only [List.length_cons, List.length_nil, List.length_append, List.length_drop, List.length_take]; omega)))) rfl rfl rfl ?_
                refine WL.q (oq_loadF (f := HV.row) HV0 (fun _ => rfl) flat9 hr (.tail _ (.head _)) rfl (by (first | omega | (simp only [List.length_cons, List.length_nil, List.length_append, List.length_drop, List.length_take]; omega))) (by first | exact Int.toNat_natCast _ | exact rfl) (by decide) rfl) rfl rfl rfl ?_
                refine WL.q (oq_move rfl) rfl rfl rfl ?_
                refine WL.q (oq_seql rfl rfl) rfl rfl rfl ?_
                refine WL.q (oq_pick_t rfl rfl) rfl rfl rfl ?_
                refine WL.q (oq_move rfl) rfl rfl rfl ?_
                refine WL.split 129 rfl (fun s18_11 => ?_) (fun s18_11 => ?_)
                ·
                 try simp only [Z1, Z2, Z3, Z4, Z5, Z6, Z7, Z8, Z9, Z0] at s18_11
                 refine WL.q (oq_move rfl) rfl rfl rfl ?_
                 refine WL.q (oq_move rfl) rfl rfl rfl ?_
                 refine WL.q (oq_sub rfl rfl (by rw [i64_lo, i64_hi]; (first | omega | (simp only [List.length_cons, List.length_nil, List.length_append, List.length_drop, List.length_take]; omega)))) rfl rfl rfl ?_
                 refine WL.q (oq_ixaddr hr Tryz.underlying22 ty32 rfl rfl (by (first | omega | (simp only [List.length_cons, List.length_nil, List.length_append, List.length_drop, List.length_take]; omega)))) rfl rfl rfl ?_
                 refine WL.q (oq_fldEl fld32_0 hr rfl (by (first | omega | (simp only [List.length_cons, List.length_nil, List.length_append, List.length_drop, List.length_take]; omega)))) rfl rfl rfl ?_
                 refine WL.q (oq_loadF (f := HV.row) HV0 (fun _ => rfl) flat9 hr (.tail _ (.head _)) rfl (by (first | omega | (simp only [List.length_cons, List.length_nil, List.length_append, List.length_drop, List.length_take]; omega))) (by first | exact Int.toNat_natCast _ | exact rfl) (by decide) rfl) rfl rfl rfl ?_
                 refine WL.q (oq_move rfl) rfl rfl rfl ?_
                 refine WL.q (oq_seql rfl rfl) rfl rfl rfl ?_
                 refine WL.q (oq_pick_t rfl rfl) rfl rfl rfl ?_
                 refine WL.nil (WE.then_normal (WC.sub (fr' := [(0, _), (1, _), (11, _), (12, _), (138, _)]) ?_ ⟨rfl, rfl, rfl, rfl, rfl, trivial⟩))
                 refine WC.cond rfl (fun q18 => ?_) (fun q18 => ?_)
                 ·
                  try simp only [Z1, Z2, Z3, Z4, Z5, Z6, Z7, Z8, Z9, Z0] at q18
                  refine WC.seq (WC.region ?_)
                  refine WL.qc (oq_call (vAwake) call14 rfl) rfl rfl rfl ?_
                  refine WL.q (oq_assign rfl) rfl rfl rfl ?_
                  refine WL.nil (WE.then_normal (WC.sub (fr' := [(6, _)]) ?_ ⟨rfl, trivial⟩))
                  refine WC.ret (WE.then_ret (WE.block_ret (WE.then_ret (WE.then_ret (WE.block_ret (WE.then_ret ?_))))))
                  refine WE.forget ho.fresh ?_
                  refine WE.endR (.inl rfl) (res1 Tryz.results3 rfl) ?_
                  first | rfl | exact congrArg Value.bool (decide_eq_true rfl) | (exfalso; omega) | (exfalso; simp_all; done) | skip
                 ·
                  try simp only [Z1, Z2, Z3, Z4, Z5, Z6, Z7, Z8, Z9, Z0] at q18
                  refine WC.skip ?_
                  refine WE.meet () ?_ ⟨rfl, rfl, rfl, rfl, trivial⟩ (List.Perm.refl _)
                  try dsimp only
                  exact ⟨fun h0 he => by first | omega | exact absurd he.1 (by simpa using s18_11) | (exact q18 (by show (l.getD ((i : Int) - 1).toNat HV0).name = _; rw [show ((i : Int) - 1).toNat = i - 1 by omega]; exact he.2)), trivial⟩
                ·
                 try simp only [Z1, Z2, Z3, Z4, Z5, Z6, Z7, Z8, Z9, Z0] at s18_11
                 refine WL.skip rfl rfl rfl ?_
                 refine WL.skip rfl rfl rfl ?_
                 refine WL.skip rfl rfl rfl ?_
                 refine WL.skip rfl rfl rfl ?_
                 refine WL.skip rfl rfl rfl ?_
                 refine WL.skip rfl rfl rfl ?_
                 refine WL.skip rfl rfl rfl ?_
                 refine WL.skip rfl rfl rfl ?_
                 refine WL.q (oq_pick_f rfl rfl) rfl rfl rfl ?_
                 refine WL.nil (WE.then_normal (WC.sub (fr' := [(0, _), (1, _), (11, _), (12, _), (138, _)]) ?_ ⟨rfl, rfl, rfl, rfl, rfl, trivial⟩))
                 refine WC.cond_f rfl ?_
                 refine WC.skip ?_
                 refine WE.meet () ?_ ⟨rfl, rfl, rfl, rfl, trivial⟩ (List.Perm.refl _)
                 try dsimp only
                 exact ⟨fun h0 he => by first | omega | exact absurd he.1 (by simpa using s18_11) | (exact q18 (by show (l.getD ((i : Int) - 1).toNat HV0).name = _; rw [show ((i : Int) - 1).toNat = i - 1 by omega]; exact he.2)), trivial⟩
               ·
                try simp only [Z1, Z2, Z3, Z4, Z5, Z6, Z7, Z8, Z9, Z0] at s18_2
                refine WL.skip rfl rfl rfl ?_
                refine WL.skip rfl rfl rfl ?_
                refine WL.skip rfl rfl rfl ?_
                refine WL.skip rfl rfl rfl ?_
                refine WL.skip rfl rfl rfl ?_
                refine WL.skip rfl rfl rfl ?_
                refine WL.skip rfl rfl rfl ?_
                refine WL.q (oq_pick_f rfl rfl) rfl rfl rfl ?_
                refine WL.q (oq_move rfl) rfl rfl rfl ?_
                refine WL.skip rfl rfl rfl ?_
                refine WL.skip rfl rfl rfl ?_
                refine WL.skip rfl rfl rfl ?_
                refine WL.skip rfl rfl rfl ?_
                refine WL.skip rfl rfl rfl ?_
                refine WL.skip rfl rfl rfl ?_
                refine WL.skip rfl rfl rfl ?_
                refine WL.skip rfl rfl rfl ?_
                refine WL.q (oq_pick_f rfl rfl) rfl rfl rfl ?_
                refine WL.nil (WE.then_normal (WC.sub (fr' := [(0, _), (1, _), (11, _), (12, _), (138, _)]) ?_ ⟨rfl, rfl, rfl, rfl, rfl, trivial⟩))
                refine WC.cond_f rfl ?_
                refine WC.skip ?_
                refine WE.meet () ?_ ⟨rfl, rfl, rfl, rfl, trivial⟩ (List.Perm.refl _)
                try dsimp only
                exact ⟨fun h0 he => by first | omega | exact absurd he.1 (by simpa using s18_11) | (exact q18 (by show (l.getD ((i : Int) - 1).toNat HV0).name = _; rw [show ((i : Int) - 1).toNat = i - 1 by omega]; exact he.2)), trivial⟩
              ·rintro _ hp
               try dsimp only at hp
               obtain ⟨hno, _⟩ := hp
               show WC _ _ _ _ _ _ ([(0, (.slice vp l.length vc)), (1, S h.name), (11, u), (12, I (i : Int))]) ([B, A])
               refine WC.seq ?_
               have hlt : i < l.length := by omega
               have hol : (others (l.take i) h.name).length ≤ i := by
                unfold others
                refine Nat.le_trans (List.length_filter_le _ _) ?_
                rw [List.length_take]; omega
               refine WC.region ?_
               refine WL.q (oq_move rfl) rfl rfl rfl ?_
               refine WL.q (oq_move rfl) rfl rfl rfl ?_
               refine WL.q (oq_ixaddr hr Tryz.underlying22 ty32 rfl rfl (by (first | omega | (simp only [List.length_cons, List.length_nil, List.length_append, List.length_drop, List.length_take]; omega)))) rfl rfl rfl ?_
               refine WL.q (oq_fldEl fld32_0 hr rfl (by (first | omega | (simp only [List.length_cons, List.length_nil, List.length_append, List.length_drop, List.length_take]; omega)))) rfl rfl rfl ?_
               refine WL.q (oq_loadF (f := HV.row) HV0 (fun _ => rfl) flat9 hr (.tail _ (.head _)) rfl (by (first | omega | (simp only [List.length_cons, List.length_nil, List.length_append, List.length_drop, List.length_take]; omega))) (by first | exact Int.toNat_natCast _ | exact rfl) (by decide) rfl) rfl rfl rfl ?_
               refine WL.q (oq_move rfl) rfl rfl rfl ?_
               refine WL.q (oq_sneq rfl rfl) rfl rfl rfl ?_
               refine WL.nil (WE.then_normal (WC.sub (fr' := [(0, _), (1, _), (11, _), (12, _), (146, _)]) ?_ ⟨rfl, rfl, rfl, rfl, rfl, trivial⟩))
               refine WC.cond rfl (fun q20 => ?_) (fun q20 => ?_)
               ·
                try simp only [Z1, Z2, Z3, Z4, Z5, Z6, Z7, Z8, Z9, Z0] at q20
                refine WC.region ?_
                refine WL.q (oq_move rfl) rfl rfl rfl ?_
                refine WL.q (oq_move rfl) rfl rfl rfl ?_
                refine WL.q (oq_move rfl) rfl rfl rfl ?_
                refine WL.q (oq_ixaddr hr Tryz.underlying22 ty32 rfl rfl (by (first | omega | (simp only [List.length_cons, List.length_nil, List.length_append, List.length_drop, List.length_take]; omega)))) rfl rfl rfl ?_
                refine WL.q (oq_loadEl (f := HV.row) HV0 [_, _, _, _, _] (fun _ => rfl) agg32 ty32 hr (.tail _ (.head _)) rfl (by (first | omega | (simp only [List.length_cons, List.length_nil, List.length_append, List.length_drop, List.length_take]; omega))) (by first | exact Int.toNat_natCast _ | exact rfl) rfl) rfl rfl rfl ?_
                refine WL.buildSS (#[S (l.getD i HV0).name, I (l.getD i HV0).kind, I (l.getD i HV0).width, I (l.getD i HV0).int, S (l.getD i HV0).text]) Tryz.underlying22 ty32 rfl (by decide) (by decide) (by kernel_rfl) (by kernel_rfl) rfl rfl fun v21_5 A21_5 ho21_5 hne21_5 => ?_
                refine WL.f1 ?_
                refine WL.appendS ho Tryz.underlying22 ty32 rfl (by decide) rfl rfl ho21_5.rd (.head _) (oneHV _) (by unfold maxLen; omega) (by omega) rfl rfl fun v21b A21b ho21b hne21b => ?_
                refine WL.q (oq_assign rfl) rfl rfl rfl ?_
                refine WL.nil (WE.block_normal (WE.then_normal (WC.sub (fr' := [(0, _), (1, _), (11, _), (12, _)]) ?_ ⟨rfl, rfl, rfl, rfl, trivial⟩)))
                refine WC.region ?_
                refine WL.q (oq_move rfl) rfl rfl rfl ?_
                refine WL.q (oq_add rfl rfl (by rw [i64_lo, i64_hi]; (first | omega | (simp only [List.length_cons, List.length_nil, List.length_append, List.length_drop, List.length_take]; omega)))) rfl rfl rfl ?_
                refine WL.q (oq_assign rfl) rfl rfl rfl ?_
                refine WL.nil ?_
                refine WE.f1 ?_
                refine WE.forget ho21_5.fresh ?_
                refine WE.again (i + 1, _, _) ?_ ?_ ⟨rfl, rfl, rfl, rfl, trivial⟩ (List.Perm.refl _)
                ·try dsimp only
                 first | exact ⟨by omega, ap_step hap hno, by rw [others_eq hlt (by simpa using q20)]; exact ho⟩ | exact ⟨by omega, ap_step hap hno, by rw [others_ne hlt (by simpa using q20)]; exact own_more ho21b rfl⟩
                ·(try dsimp only); omega
               ·
                try simp only [Z1, Z2, Z3, Z4, Z5, Z6, Z7, Z8, Z9, Z0] at q20
                refine WC.skip (WE.block_normal (WE.then_normal (WC.sub (fr' := [(0, _), (1, _), (11, _), (12, _)]) ?_ ⟨rfl, rfl, rfl, rfl, trivial⟩)))
                refine WC.region ?_
                refine WL.q (oq_move rfl) rfl rfl rfl ?_
                refine WL.q (oq_add rfl rfl (by rw [i64_lo, i64_hi]; (first | omega | (simp only [List.length_cons, List.length_nil, List.length_append, List.length_drop, List.length_take]; omega)))) rfl rfl rfl ?_
                refine WL.q (oq_assign rfl) rfl rfl rfl ?_
                refine WL.nil ?_
                refine WE.again (i + 1, _, _) ?_ ?_ ⟨rfl, rfl, rfl, rfl, trivial⟩ (List.Perm.refl _)
                ·try dsimp only
                 first | exact ⟨by omega, ap_step hap hno, by rw [others_eq hlt (by simpa using q20)]; exact ho⟩ | exact ⟨by omega, ap_step hap hno, by rw [others_ne hlt (by simpa using q20)]; exact own_more ho21b rfl⟩
                ·(try dsimp only); omega
             ·
              try simp only [Z1, Z2, Z3, Z4, Z5, Z6, Z7, Z8, Z9, Z0] at q16
              refine WC.exit (WE.then_exit (WE.then_exit (WE.block_same (WE.then_normal (WC.sub (fr' := [(0, _), (1, _), (11, _)]) ?_ ⟨rfl, rfl, rfl, trivial⟩)))))
              refine WC.seq ?_
              obtain rfl : i = l.length := by omega
              rw [List.take_length] at ho
              have hdel := apart_all hap
              refine WC.region ?_
              refine WL.q (oq_move rfl) rfl rfl rfl ?_
              refine WL.q (oq_move rfl) rfl rfl rfl ?_
              refine WL.f1 ?_
              refine WL.callA (vDelete (.slice vp l.length vc) A l hr hok hcan hint hln h.name) call20 rfl rfl rfl fun v22_2 N22_2 hR22_2 hN22_2 => ?_
              refine WL.q (oq_move rfl) rfl rfl rfl ?_
              refine WL.qc (oq_callRall (vSame _ _ _ (delL l h.name) (others l h.name) (rd_flat hR22_2 (by repeat (first | exact .head _ | apply List.Mem.tail))) (rd_flat ho.rd (by repeat (first | exact .head _ | apply List.Mem.tail))) (by have := delL_len l h.name; omega)) call17 rfl) rfl rfl rfl ?_
              refine WL.q (oq_move rfl) rfl rfl rfl ?_
              refine WL.split 159 rfl (fun s22_5 => ?_) (fun s22_5 => ?_)
              ·
               try simp only [Z1, Z2, Z3, Z4, Z5, Z6, Z7, Z8, Z9, Z0] at s22_5
               refine WL.qc (oq_call (vAwake) call14 rfl) rfl rfl rfl ?_
               refine WL.q (oq_pick_t rfl rfl) rfl rfl rfl ?_
               refine WL.q (oq_assign rfl) rfl rfl rfl ?_
               refine WL.nil (WE.then_normal (WC.sub (fr' := [(6, _)]) ?_ ⟨rfl, trivial⟩))
               refine WC.ret ?_
               refine WE.forget hN22_2 ?_
               refine WE.f1 ?_
               refine WE.forget ho.fresh ?_
               refine WE.endR (.inl rfl) (res1 Tryz.results3 rfl) ?_
               first | rfl | exact congrArg Value.bool (decide_eq_true rfl) | (exfalso; omega) | (exfalso; simp_all; done) | skip
              ·
               try simp only [Z1, Z2, Z3, Z4, Z5, Z6, Z7, Z8, Z9, Z0] at s22_5
               refine WL.skip rfl rfl rfl ?_
               refine WL.q (oq_pick_f rfl rfl) rfl rfl rfl ?_
               refine WL.q (oq_assign rfl) rfl rfl rfl ?_
               refine WL.nil (WE.then_normal (WC.sub (fr' := [(6, _)]) ?_ ⟨rfl, trivial⟩))
               refine WC.ret ?_
               refine WE.forget hN22_2 ?_
               refine WE.f1 ?_
               refine WE.forget ho.fresh ?_
               refine WE.endR (.inl rfl) (res1 Tryz.results3 rfl) ?_
               first | rfl | exact congrArg Value.bool (decide_eq_true rfl) | (exfalso; omega) | (exfalso; simp_all; done) | skip
structure HsIn (v : Value) (l : List HV) (A : Hp) : Prop where
 rd : RdS 5 v A l.length (recsV HV.row l)
 int : intOk l
theorem HsIn.weaken {v : Value} {l : List HV} {A C : Hp} (h : HsIn v l A) (hs : ∀ x ∈ A, x ∈ C) : HsIn v l C := ⟨h.rd.weaken hs, h.int⟩
set_option maxRecDepth 100000 in
theorem open_hs {K : Type} {enc : TypeId × Value → K} {W : World} {base : Nat} {r : Reach} {v : Value} {d : DataW K} {ps : List MemPlace} (hval : Value.okWide Tryz.prog W r base 22 v) (h : DataW.Trod enc Tryz.prog W 0 (fun _ => true) true 22 v d ps) :
  ∃ (l : List HV) (A : Hp), Has A W ∧ HsIn v l A := by
 obtain ⟨l, A, h1, h2, _, h4⟩ := ET.arg_hs hval h
 exact ⟨l, A, h1, h2, ET.int_of h4⟩
theorem lawSetsV (A : Hp) (v : Value) (l : List HV) (hr : RdS 5 v A l.length (recsV HV.row l)) (hint : intOk l) (h : HV) (hih : -9223372036854775808 ≤ h.int ∧ h.int ≤ 9223372036854775807 ∧ -9223372036854775808 ≤ h.width ∧ h.width ≤ 9223372036854775807) : FnR Tryz.prog 3 [v, S h.name, .agg #[I h.kind, I h.width, I h.int, S h.text]] A (.bool true) := by
 obtain ⟨vp, vc, rfl⟩ := hr.shape
 exact lawSets A vp vc l hr hint h hih
end DY
end Go.Proofs.YtodlhaghdplclaaGreatDoor
/- What the listed variables hold. -/
namespace Go.Proofs.YtodlhaghdplclaaGreatDoor
open Go Go.RowKit V DC
set_option linter.unusedVariables false
namespace DN
theorem g1 : Tryz.prog.globalNamed "io.ErrUnexpectedEOF" = some 1 := by kernel_rfl
theorem g2 : Tryz.prog.globalNamed "io.errInvalidWrite" = some 2 := by kernel_rfl
theorem g3 : Tryz.prog.globalNamed "io.ErrShortWrite" = some 3 := by kernel_rfl
theorem g4 : Tryz.prog.globalNamed "io.ErrShortBuffer" = some 4 := by kernel_rfl
theorem t0 : (Tryz.prog.globals[0]?).map (·.type) = some 99 := by kernel_rfl
theorem t1 : (Tryz.prog.globals[1]?).map (·.type) = some 99 := by kernel_rfl
theorem t2 : (Tryz.prog.globals[2]?).map (·.type) = some 99 := by kernel_rfl
theorem cS : Tryz.prog.cellsOf 9 = 1 := by kernel_rfl
end DN
end Go.Proofs.YtodlhaghdplclaaGreatDoor
