/- What the reference reads. -/
import Derived.Test.YtodlhaghdplclaaGreatDoorQ4
import Derived.Test.YtodlhaghdplclaaGreatDoorQ3
import Derived.Test.YtodlhaghdplclaaGreatDoorQ1
import Derived.Test.YtodlhaghdplclaaGreatDoorQ2
import Derived.LaidLaws
import Derived.LaidHandle
import Derived.MakeChecks
import Derived.Test.YtodlhaghdplclaaGreatDoorRows
namespace Go.Proofs.YtodlhaghdplclaaGreatDoor
open Go Go.RowKit V EA EB EC ED EL DC DD DA DE EE EH EI EJ DF DG DH DI EM DJ DK DL DM DB EF EG EK EN EO ER ES DP DO DQ ET DR DE
set_option linter.unusedSimpArgs false
set_option linter.unusedVariables false
set_option maxRecDepth 10000
namespace DS
theorem call16 : Callable Tryz.prog 16 := ⟨_, Tryz.func16, rfl, by kernel_rfl⟩
theorem flat5 : Flat Tryz.prog 5 := ⟨_, Tryz.underlying5, by simp⟩
theorem flat9 : Flat Tryz.prog 9 := ⟨_, Tryz.underlying9, by simp⟩
theorem ty5 : Ty Tryz.prog 5 (.int .u8 0) 1 1 := ty_of (by kernel_rfl)
theorem ty9 : Ty Tryz.prog 9 (S []) 1 16 := ty_of (by kernel_rfl)
theorem ty24 : Ty Tryz.prog 24 (.agg #[(.int .i64 0), (.int .i64 0), (.int .i64 0), (S [])]) 4 40 := ty_of (by kernel_rfl)
theorem ty32 : Ty Tryz.prog 32 (.agg #[(S []), (.int .i64 0), (.int .i64 0), (.int .i64 0), (S [])]) 5 56 := ty_of (by kernel_rfl)
theorem agg24 : Agg Tryz.prog 24 := agg_of Tryz.underlying24
theorem str32 : Str Tryz.prog 32 #[(0, 1), (1, 4)] := ⟨_, Tryz.underlying32, fun w => by kernel_rfl⟩
theorem fld32_0 : Fld Tryz.prog 32 0 0 9 := fld_of Tryz.underlying32 rfl rfl rfl ty9 (by decide)
theorem fld32_1 : Fld Tryz.prog 32 1 1 24 := fld_of Tryz.underlying32 rfl rfl rfl ty24 (by decide)
theorem recsHV_one (l : List HV) : ∀ u ∈ recsV HV.row l, u.oneCell' = true := by
 intro u hu
 unfold recsV at hu
 obtain ⟨h, _, hh⟩ := List.mem_flatMap.1 hu
 simp only [HV.row, List.mem_cons, List.not_mem_nil, or_false] at hh
 rcases hh with rfl | rfl | rfl | rfl | rfl <;> rfl
theorem nm_snoc' {l : List UInt8} {i : Nat} (hi : i < l.length) : nm (l.take (i + 1)) = nm (l.take i) * 256 + (l.getD i 0).toNat := by
 rw [List.take_add_one, List.getElem?_eq_getElem hi]
 show nm (l.take i ++ [l[i]]) = _
 rw [nm_snoc, List.getD_eq_getElem?_getD, List.getElem?_eq_getElem hi]; rfl
theorem nm_small {l : List UInt8} {i : Nat} (h : i ≤ 7) : nm (l.take i) < 72057594037927936 := nm_lt' (n := 7) (by rw [List.length_take]; omega)
def atN (l : List HV) (nm : List UInt8) : Int := if l.findIdx (fun h => decide (h.name = nm)) < l.length then (l.findIdx fun h => decide (h.name = nm) : Nat) else -1
theorem getD_get {l : List HV} {i : Nat} (h : i < l.length) : l.getD i HV0 = l[i] := by rw [List.getD_eq_getElem?_getD, List.getElem?_eq_getElem h]; rfl
theorem atN_at {l : List HV} {nm : List UInt8} {i : Nat} (hi : i < l.length) (h : ∀ j, j < i → (l.getD j HV0).name ≠ nm) (he : (l.getD i HV0).name = nm) : atN l nm = (i : Int) := by
 have : l.findIdx (fun h => decide (h.name = nm)) = i := (List.findIdx_eq hi).2 ⟨by rw [← getD_get hi]; exact decide_eq_true he, fun j hj => by rw [← getD_get (by omega)]; exact decide_eq_false (h j hj)⟩
 unfold atN; rw [this, if_pos hi]
theorem atN_no {l : List HV} {nm : List UInt8} (h : ∀ j, j < l.length → (l.getD j HV0).name ≠ nm) : atN l nm = -1 := by
 unfold atN
 rw [if_neg]
 intro hlt
 have h1 := List.findIdx_getElem (w := hlt)
 have := h _ hlt
 rw [getD_get hlt] at this
 exact this (of_decide_eq_true h1)
theorem atN_pos {l : List HV} {nm : List UInt8} (h : 0 ≤ atN l nm) : ∃ i, atN l nm = ((i : Nat) : Int) ∧ i < l.length ∧ (∀ j, j < i → (l.getD j HV0).name ≠ nm) ∧ (l.getD i HV0).name = nm := by
 unfold atN at h ⊢
 by_cases hlt : l.findIdx (fun h => decide (h.name = nm)) < l.length
 ·rw [if_pos hlt]
  refine ⟨_, rfl, hlt, fun j hj => ?_, ?_⟩
  ·rw [getD_get (by omega)]
   exact of_decide_eq_false (List.not_of_lt_findIdx hj)
  ·rw [getD_get hlt]; exact of_decide_eq_true (List.findIdx_getElem (w := hlt))
 ·rw [if_neg hlt] at h; omega
theorem atN_neg {l : List HV} {nm : List UInt8} (h : atN l nm < 0) : ∀ x ∈ l, x.name ≠ nm := by
 unfold atN at h
 by_cases hlt : l.findIdx (fun h => decide (h.name = nm)) < l.length
 ·rw [if_pos hlt] at h; omega
 ·intro x hx e
  exact hlt (List.findIdx_lt_length_of_exists ⟨x, hx, decide_eq_true e⟩)
theorem put_set : ∀ {ps : List HV} {p : HV} {i : Nat}, i < ps.length → (∀ j, j < i → (ps.getD j HV0).name ≠ p.name) → (ps.getD i HV0).name = p.name → put ps p = ps.set i p
 | [], _, _, h, _, _ => nomatch h
 | x :: l, p, 0, _, _, h => by
  have h0 : x.name = p.name := by simpa using h
  unfold put; rw [if_pos h0]; rfl
 | x :: l, p, i + 1, hi, hj, h => by
  have h0 : x.name ≠ p.name := by simpa using hj 0 (by omega)
  unfold put
  rw [if_neg h0, put_set (i := i) (by simpa using hi) (fun j h2 => by simpa [List.getD_eq_getElem?_getD] using hj (j + 1) (by omega)) (by simpa [List.getD_eq_getElem?_getD] using h)]; rfl
theorem put_len : ∀ (ps : List HV) (p : HV), (put ps p).length ≤ ps.length + 1
 | [], _ => Nat.le_refl _
 | x :: l, p => by
  have := put_len l p
  unfold put; split
  ·simp
  ·rw [List.length_cons, List.length_cons]; omega
def putL (xs : List Value) (off : Nat) : List Value → List Value
 | [] => xs
 | v :: vs => putL (xs.set off v) (off + 1) vs
theorem putL_take : ∀ (vs xs : List Value) (off n : Nat), (putL xs off vs).take n = putL (xs.take n) off vs
 | [], _, _, _ => rfl
 | v :: vs, xs, off, n => by unfold putL; rw [putL_take vs, List.take_set]
theorem putCells_list : ∀ (vs : List Value) (c : Array Value) (off : Nat), (putCells c off vs).toList = putL c.toList off vs
 | [], _, _ => rfl
 | v :: vs, c, off => by unfold putCells putL; rw [putCells_list vs, Array.toList_setIfInBounds]
theorem putL_len : ∀ (vs xs : List Value) (off : Nat), (putL xs off vs).length = xs.length
 | [], _, _ => rfl
 | v :: vs, xs, off => by unfold putL; rw [putL_len vs, List.length_set]
theorem set_row (x : HV) (R : List Value) (k : Nat) (v : Value) : (HV.row x ++ R).set (5 + k) v = HV.row x ++ R.set k v := by
 rw [List.set_append_right _ _ (by simp [HV.row])]; simp [HV.row]
theorem putL_recs : ∀ {l : List HV} {i : Nat} {k w n : Int} {t : List UInt8}, i < l.length → putL (recsV HV.row l) (i * 5 + 1) [I k, I w, I n, S t] = recsV HV.row (l.set i ⟨(l.getD i HV0).name, k, w, n, t⟩)
 | [], _, _, _, _, _, h => nomatch h
 | x :: l, 0, _, _, _, _, _ => rfl
 | x :: l, i + 1, k, w, n, t, h => by
  have h1 := putL_recs (l := l) (i := i) (k := k) (w := w) (n := n) (t := t) (by simpa using h)
  have h2 : (x :: l).getD (i + 1) HV0 = l.getD i HV0 := by simp [List.getD_eq_getElem?_getD]
  have e : recsV HV.row (x :: l) = HV.row x ++ recsV HV.row l := rfl
  have e3 : recsV HV.row ((x :: l).set (i + 1) ⟨(l.getD i HV0).name, k, w, n, t⟩) = HV.row x ++ recsV HV.row (l.set i ⟨(l.getD i HV0).name, k, w, n, t⟩) := rfl
  rw [h2, e, e3, ← h1]
  simp only [putL]
  rw [show (i + 1) * 5 + 1 = 5 + (i * 5 + 1) by omega, set_row, show 5 + (i * 5 + 1) + 1 = 5 + (i * 5 + 1 + 1) by omega, set_row, show 5 + (i * 5 + 1 + 1) + 1 = 5 + (i * 5 + 1 + 1 + 1) by omega, set_row, show 5 + (i * 5 + 1 + 1 + 1) + 1 = 5 + (i * 5 + 1 + 1 + 1 + 1) by omega, set_row]
section
variable {P : Program} {n : Nat} {w0 : World} {ops : Array Oper} {Q : Post} {rest : List Oper} {ds : List Deferred} {fr : Fr} {H : List Hp} {ty : TypeId} {pos : String} {aft : Array Edge} {g : Option (Nat × Bool)}
theorem storeOwFS {t e : TypeId} {x y : Operand} {m i off sz k : Nat} {v u z : Value} {A : Hp} {xs : List Value} {bytes : Nat} (us : List Value) (ho : OwS w0.heap.size e sz v A m xs) (hty : Ty P t z k bytes) (hx : ev fr x = some (adOff (elAddr sz v (i : Int)) off)) (hy : ev fr y = some u) (hsz : u.cells.size = k) (hus : u.cells.toList = us) (h1 : us.all Value.oneCell' = true) (hi : i < m) (hoff : off + k ≤ sz)
  (hg : gd ops fr ⟨none, .store t x y, ty, pos, aft, g⟩ = some true) (hk : ∀ A', OwS w0.heap.size e sz v A' m (putL xs (i * sz + off) us) → WL P n w0 ops Q rest ds fr (A' :: H)) : WL P n w0 ops Q (⟨none, .store t x y, ty, pos, aft, g⟩ :: rest) ds fr (A :: H) := by
 have hlt : i * sz + off + k ≤ m * sz := by
  have : (i + 1) * sz ≤ m * sz := Nat.mul_le_mul_right _ hi
  rw [Nat.succ_mul] at this; omega
 rcases ho.2 with ⟨_, _, rfl⟩ | ⟨b, cap, cur, rfl, rfl, hb, hmc, hcm, hcs, hct⟩
 ·omega
 ·have hms : m * sz ≤ cap * sz := Nat.mul_le_mul_right _ hmc
  have hxa : ev fr x = some (Pt b (i * sz + off)) := by rw [hx]; simp [elAddr, adOff, Addr.add]
  refine WL.storeS (putCells cur (i * sz + off) us) hty hxa hy hsz (by rw [hus]; exact h1) (by rw [hcs]; omega) (by rw [hus]) hg (hk _ ⟨by rw [putL_len]; exact ho.1, .inr ⟨b, cap, _, rfl, rfl, hb, hmc, hcm, by rw [size_putCells, hcs], ?_⟩⟩)
  rw [putCells_list, putL_take, hct]
end
theorem vTaken (v : Value) (A : Hp) (l : List UInt8) (hr : RdS 1 v A l.length (bytesV l)) (hl : l.length ≤ 8) : FnR Tryz.prog 54 [v] A (.int .u64 (nm l : Nat)) := by
 refine FnR.enter (n := 20) Tryz.func54 rfl rfl fun w0 => ?_
 refine WC.sub (fr' := [(0, _)]) ?_ ⟨rfl, trivial⟩
 refine WC.seq (WC.region ?_)
 refine WL.q (oq_assign rfl) rfl rfl rfl ?_
 refine WL.nil (WE.then_normal (WC.sub (fr' := [(0, _)]) ?_ ⟨rfl, trivial⟩))
 refine WC.seq (WC.region ?_)
 refine WL.q (oq_assign rfl) rfl rfl rfl ?_
 refine WL.nil (WE.then_normal (WC.sub (fr' := [(0, _), (3, _)]) ?_ ⟨rfl, rfl, trivial⟩))
 refine WC.seq (WC.seq (WC.region ?_))
 refine WL.q (oq_assign rfl) rfl rfl rfl ?_
 refine WL.nil (WE.then_normal (WC.sub (fr' := [(0, _), (3, _), (4, _)]) ?_ ⟨rfl, rfl, rfl, trivial⟩))
 refine WC.block ?_
 refine WC.loop (ι := Nat × Int) (fun i_ => (fun (i : Nat) (x : Int) => [(0, v), (3, .int .u64 x), (4, I (i : Int))]) i_.1 i_.2) (fun i_ => (fun (i : Nat) (x : Int) => [A]) i_.1 i_.2) (fun i_ => (fun (i : Nat) (x : Int) => i ≤ l.length ∧ x = (nm (l.take i) : Nat)) i_.1 i_.2) (fun i_ => (fun (i : Nat) (x : Int) => l.length - i) i_.1 i_.2) ((0, 0)) ?_ ⟨rfl, rfl, rfl, trivial⟩ (List.Perm.refl _) ?_
 ·try dsimp only
  exact ⟨by omega, rfl⟩
 ·rintro ⟨i, x⟩ hp
  try dsimp only at hp
  obtain ⟨hi, hx⟩ := hp
  show WC _ _ _ _ _ _ ([(0, v), (3, .int .u64 x), (4, I (i : Int))]) ([A])
  refine WC.seq (WC.seq (WC.region ?_))
  refine WL.q (oq_move rfl) rfl rfl rfl ?_
  refine WL.q (oq_move rfl) rfl rfl rfl ?_
  refine WL.q (oq_len_rd hr Tryz.underlying28 rfl) rfl rfl rfl ?_
  refine WL.q (oq_lss rfl rfl) rfl rfl rfl ?_
  refine WL.nil (WE.then_normal (WC.sub (fr' := [(0, _), (3, _), (4, _), (8, _)]) ?_ ⟨rfl, rfl, rfl, rfl, trivial⟩))
  refine WC.cond rfl (fun q3 => ?_) (fun q3 => ?_)
  ·
   try simp only [Z1, Z2, Z3, Z4, Z5, Z6, Z7, Z8, Z9, Z0] at q3
   refine WC.skip (WE.then_normal (WC.sub (fr' := [(0, _), (3, _), (4, _)]) ?_ ⟨rfl, rfl, rfl, trivial⟩))
   refine WC.seq (WC.block ?_)
   have hlt : i < l.length := by omega
   have hns := nm_snoc' hlt
   have hsm := nm_small (l := l) (i := i) (by omega)
   refine WC.region ?_
   refine WL.q (oq_move rfl) rfl rfl rfl ?_
   refine WL.q (oq_shll 256 rfl rfl (by decide) (by decide) (by rw [u64_lo, u64_hi]; (first | omega | (simp only [List.length_cons, List.length_nil, List.length_append, List.length_drop, List.length_take]; omega)))) rfl rfl rfl ?_
   refine WL.q (oq_move rfl) rfl rfl rfl ?_
   refine WL.q (oq_move rfl) rfl rfl rfl ?_
   refine WL.q (oq_ixaddr hr Tryz.underlying28 ty5 rfl rfl (by omega)) rfl rfl rfl ?_
   refine WL.load_byte hr (.head _) flat5 rfl (by omega) rfl rfl fun c5_5 hc5_5 hc5_5l hc5_5u => ?_
   refine WL.q (oq_conv Tryz.underlying5 Tryz.underlying73 rfl (by rw [u64_lo, u64_hi]; (first | omega | (simp only [List.length_cons, List.length_nil, List.length_append, List.length_drop, List.length_take]; omega)))) rfl rfl rfl ?_
   refine WL.q (oq_orl 8 rfl rfl (by omega) (by omega) (by omega) (by rw [u64_hi]; omega)) rfl rfl rfl ?_
   refine WL.q (oq_assign rfl) rfl rfl rfl ?_
   refine WL.nil (WE.block_normal (WE.then_normal (WC.sub (fr' := [(0, _), (3, _), (4, _)]) ?_ ⟨rfl, rfl, rfl, trivial⟩)))
   refine WC.region ?_
   refine WL.q (oq_move rfl) rfl rfl rfl ?_
   refine WL.q (oq_add rfl rfl (by rw [i64_lo, i64_hi]; (first | omega | (simp only [List.length_cons, List.length_nil, List.length_append, List.length_drop, List.length_take]; omega)))) rfl rfl rfl ?_
   refine WL.q (oq_assign rfl) rfl rfl rfl ?_
   refine WL.nil ?_
   refine WE.again (i + 1, _) ?_ ?_ ⟨rfl, rfl, rfl, trivial⟩ (List.Perm.refl _)
   ·try dsimp only
    exact ⟨by omega, by rw [hns, hc5_5, hx]; rfl⟩
   ·(try dsimp only); omega
  ·
   try simp only [Z1, Z2, Z3, Z4, Z5, Z6, Z7, Z8, Z9, Z0] at q3
   refine WC.exit (WE.then_exit (WE.then_exit (WE.block_same (WE.then_normal (WC.sub (fr' := [(3, _)]) ?_ ⟨rfl, trivial⟩)))))
   refine WC.seq (WC.region ?_)
   refine WL.q (oq_move rfl) rfl rfl rfl ?_
   refine WL.q (oq_assign rfl) rfl rfl rfl ?_
   refine WL.nil (WE.then_normal (WC.sub (fr' := [(2, _)]) ?_ ⟨rfl, trivial⟩))
   refine WC.ret ?_
   refine WE.endR (.inl rfl) (res1 Tryz.results54 rfl) ?_
   obtain rfl : i = l.length := by omega
   rw [List.take_length] at hx
   rw [hx]
theorem vHas (v : Value) (A : Hp) (l : List HV) (hr : RdS 5 v A l.length (recsV HV.row l)) (hn : l.length ≤ 1000000) (nm : List UInt8) : FnR Tryz.prog 16 [v, S nm] A (I (atN l nm)) := by
 refine FnR.enter (n := 20) Tryz.func16 rfl rfl fun w0 => ?_
 refine WC.sub (fr' := [(0, _), (1, _)]) ?_ ⟨rfl, rfl, trivial⟩
 refine WC.seq (WC.region ?_)
 refine WL.q (oq_assign rfl) rfl rfl rfl ?_
 refine WL.nil (WE.then_normal (WC.sub (fr' := [(0, _), (1, _)]) ?_ ⟨rfl, rfl, trivial⟩))
 refine WC.seq (WC.seq (WC.region ?_))
 refine WL.q (oq_assign rfl) rfl rfl rfl ?_
 refine WL.nil (WE.then_normal (WC.sub (fr' := [(0, _), (1, _), (5, _)]) ?_ ⟨rfl, rfl, rfl, trivial⟩))
 refine WC.block ?_
 refine WC.loop (ι := Nat) (fun (i : Nat) => [(0, v), (1, S nm), (5, I (i : Int))]) (fun (i : Nat) => [A]) (fun (i : Nat) => i ≤ l.length ∧ ∀ j, j < i → (l.getD j HV0).name ≠ nm) (fun (i : Nat) => l.length - i) (0) ?_ ⟨rfl, rfl, rfl, trivial⟩ (List.Perm.refl _) ?_
 ·try dsimp only
  exact ⟨by omega, fun j h => (by omega)⟩
 ·rintro i hp
  try dsimp only at hp
  obtain ⟨hi, hnm⟩ := hp
  show WC _ _ _ _ _ _ ([(0, v), (1, S nm), (5, I (i : Int))]) ([A])
  refine WC.seq (WC.seq (WC.region ?_))
  refine WL.q (oq_move rfl) rfl rfl rfl ?_
  refine WL.q (oq_move rfl) rfl rfl rfl ?_
  refine WL.q (oq_len_rd hr Tryz.underlying22 rfl) rfl rfl rfl ?_
  refine WL.q (oq_lss rfl rfl) rfl rfl rfl ?_
  refine WL.nil (WE.then_normal (WC.sub (fr' := [(0, _), (1, _), (5, _), (9, _)]) ?_ ⟨rfl, rfl, rfl, rfl, trivial⟩))
  refine WC.cond rfl (fun q2 => ?_) (fun q2 => ?_)
  ·
   try simp only [Z1, Z2, Z3, Z4, Z5, Z6, Z7, Z8, Z9, Z0] at q2
   refine WC.skip (WE.then_normal (WC.sub (fr' := [(0, _), (1, _), (5, _)]) ?_ ⟨rfl, rfl, rfl, trivial⟩))
   refine WC.seq (WC.block (WC.seq (WC.region ?_)))
   refine WL.q (oq_move rfl) rfl rfl rfl ?_
   refine WL.q (oq_move rfl) rfl rfl rfl ?_
   refine WL.q (oq_ixaddr hr Tryz.underlying22 ty32 rfl rfl (by (first | omega | (simp only [List.length_cons, List.length_nil, List.length_append, List.length_drop, List.length_take]; omega)))) rfl rfl rfl ?_
   refine WL.q (oq_fldEl fld32_0 hr rfl (by (first | omega | (simp only [List.length_cons, List.length_nil, List.length_append, List.length_drop, List.length_take]; omega)))) rfl rfl rfl ?_
   refine WL.q (oq_loadF (f := HV.row) HV0 (fun _ => rfl) flat9 hr (.head _) rfl (by (first | omega | (simp only [List.length_cons, List.length_nil, List.length_append, List.length_drop, List.length_take]; omega))) (by first | exact Int.toNat_natCast _ | exact rfl) (by decide) rfl) rfl rfl rfl ?_
   refine WL.q (oq_move rfl) rfl rfl rfl ?_
   refine WL.q (oq_seql rfl rfl) rfl rfl rfl ?_
   refine WL.nil (WE.then_normal (WC.sub (fr' := [(0, _), (1, _), (5, _), (18, _)]) ?_ ⟨rfl, rfl, rfl, rfl, trivial⟩))
   refine WC.cond rfl (fun q4 => ?_) (fun q4 => ?_)
   ·
    try simp only [Z1, Z2, Z3, Z4, Z5, Z6, Z7, Z8, Z9, Z0] at q4
    refine WC.seq (WC.region ?_)
    refine WL.q (oq_move rfl) rfl rfl rfl ?_
    refine WL.q (oq_assign rfl) rfl rfl rfl ?_
    refine WL.nil (WE.then_normal (WC.sub (fr' := [(4, _)]) ?_ ⟨rfl, trivial⟩))
    refine WC.ret (WE.block_ret (WE.then_ret (WE.then_ret (WE.block_ret (WE.then_ret ?_)))))
    refine WE.endR (.inl rfl) (res1 Tryz.results16 rfl) ?_
    rw [atN_at (by omega) hnm (by simpa using q4)]
   ·
    try simp only [Z1, Z2, Z3, Z4, Z5, Z6, Z7, Z8, Z9, Z0] at q4
    refine WC.skip (WE.block_normal (WE.then_normal (WC.sub (fr' := [(0, _), (1, _), (5, _)]) ?_ ⟨rfl, rfl, rfl, trivial⟩)))
    refine WC.region ?_
    refine WL.q (oq_move rfl) rfl rfl rfl ?_
    refine WL.q (oq_add rfl rfl (by rw [i64_lo, i64_hi]; (first | omega | (simp only [List.length_cons, List.length_nil, List.length_append, List.length_drop, List.length_take]; omega)))) rfl rfl rfl ?_
    refine WL.q (oq_assign rfl) rfl rfl rfl ?_
    refine WL.nil ?_
    refine WE.again (i + 1) ?_ ?_ ⟨rfl, rfl, rfl, trivial⟩ (List.Perm.refl _)
    ·try dsimp only
     refine ⟨by omega, fun m hm => ?_⟩
     rcases Nat.lt_or_ge m i with h | h
     ·exact hnm m h
     ·rw [show m = i by omega]; simpa using q4
    ·(try dsimp only); omega
  ·
   try simp only [Z1, Z2, Z3, Z4, Z5, Z6, Z7, Z8, Z9, Z0] at q2
   refine WC.exit (WE.then_exit (WE.then_exit (WE.block_same (WE.then_normal (WC.sub (fr' := []) ?_ trivial)))))
   refine WC.seq (WC.region ?_)
   refine WL.q (oq_assign rfl) rfl rfl rfl ?_
   refine WL.nil (WE.then_normal (WC.sub (fr' := [(4, _)]) ?_ ⟨rfl, trivial⟩))
   refine WC.ret ?_
   refine WE.endR (.inl rfl) (res1 Tryz.results16 rfl) ?_
   rw [atN_no (fun j hj => hnm j (by omega))]
theorem vPut (v : Value) (A : Hp) (l : List HV) (hr : RdS 5 v A l.length (recsV HV.row l)) (hn : l.length ≤ 1000000) (h : HV) : FnA Tryz.prog 19 [v, S h.name, .agg #[I h.kind, I h.width, I h.int, S h.text]] A (fun w N => RdS 5 w N (put l h).length (recsV HV.row (put l h))) := by
 refine FnA.enter (n := 29) Tryz.func19 rfl rfl fun w0 => ?_
 refine WC.sub (fr' := [(0, _), (1, _), (2, _)]) ?_ ⟨rfl, rfl, rfl, trivial⟩
 refine WC.seq (WC.region ?_)
 refine WL.box rfl rfl rfl fun xb hxb => ?_
 refine WL.q (oq_assign rfl) rfl rfl rfl ?_
 refine WL.nil (WE.then_normal (WC.sub (fr' := [(0, _), (1, _), (5, _)]) ?_ ⟨rfl, rfl, rfl, trivial⟩))
 refine WC.seq (WC.region ?_)
 refine WL.build0 Tryz.underlying22 ty32 rfl rfl fun v1_0 A1_0 ho1_0 hne1_0 => ?_
 refine WL.q (oq_move rfl) rfl rfl rfl ?_
 refine WL.appendS ho1_0 Tryz.underlying22 ty32 rfl (by decide) rfl rfl hr (.tail _ (.head _)) (recsHV_one _) (by unfold maxLen; omega) (by omega) rfl rfl fun v1b A1b ho1b hne1b => ?_
 refine WL.q (oq_assign rfl) rfl rfl rfl ?_
 refine WL.nil (WE.then_normal (WC.sub (fr' := [(0, _), (1, _), (5, _), (7, _)]) ?_ ⟨rfl, rfl, rfl, rfl, trivial⟩))
 refine WC.seq (WC.seq (WC.region ?_))
 refine WL.q (oq_move rfl) rfl rfl rfl ?_
 refine WL.q (oq_move rfl) rfl rfl rfl ?_
 refine WL.qc (oq_callRm (vHas v A l hr hn h.name) (.tail _ (.tail _ (.head _))) call16 rfl) rfl rfl rfl ?_
 refine WL.q (oq_assign rfl) rfl rfl rfl ?_
 refine WL.nil (WE.then_normal (WC.sub (fr' := [(1, _), (5, _), (7, _), (8, _)]) ?_ ⟨rfl, rfl, rfl, rfl, trivial⟩))
 refine WC.seq (WC.region ?_)
 refine WL.q (oq_move rfl) rfl rfl rfl ?_
 refine WL.q (oq_geq rfl rfl) rfl rfl rfl ?_
 refine WL.nil (WE.then_normal (WC.sub (fr' := [(1, _), (5, _), (7, _), (8, _), (16, _)]) ?_ ⟨rfl, rfl, rfl, rfl, rfl, trivial⟩))
 refine WC.cond rfl (fun q3 => ?_) (fun q3 => ?_)
 ·
  try simp only [Z1, Z2, Z3, Z4, Z5, Z6, Z7, Z8, Z9, Z0] at q3
  refine WC.seq ?_
  obtain ⟨i, hi, hil, hnm, hat⟩ := atN_pos q3
  rw [hi]
  have ho1c := ho1b
  rw [Nat.zero_add, List.nil_append] at ho1c
  refine WC.region ?_
  refine WL.q (oq_move rfl) rfl rfl rfl ?_
  refine WL.q (oq_move rfl) rfl rfl rfl ?_
  refine WL.q (oq_loadS [_, _, _, _] agg24 ty24 rfl (.tail _ (.head _)) (List.mem_singleton.2 rfl) rfl rfl) rfl rfl rfl ?_
  refine WL.q (oq_ixaddr ho1b.rd Tryz.underlying22 ty32 rfl rfl (by (first | omega | (simp only [List.length_cons, List.length_nil, List.length_append, List.length_drop, List.length_take]; omega)))) rfl rfl rfl ?_
  refine WL.q (oq_fldEl fld32_1 ho1b.rd rfl (by (first | omega | (simp only [List.length_cons, List.length_nil, List.length_append, List.length_drop, List.length_take]; omega)))) rfl rfl rfl ?_
  refine storeOwFS (i := i) [I h.kind, I h.width, I h.int, S h.text] ho1c ty24 rfl rfl rfl rfl rfl hil (by decide) rfl fun A4 ho4 => ?_
  refine WL.nil (WE.then_normal (WC.sub (fr' := [(7, _)]) ?_ ⟨rfl, trivial⟩))
  refine WC.seq (WC.region ?_)
  refine WL.q (oq_move rfl) rfl rfl rfl ?_
  refine WL.q (oq_assign rfl) rfl rfl rfl ?_
  refine WL.nil (WE.then_normal (WC.sub (fr' := [(6, _)]) ?_ ⟨rfl, trivial⟩))
  refine WC.ret (WE.then_ret ?_)
  refine WE.f1 ?_
  refine WE.lose hxb ?_
  refine WE.endA (.inl rfl) (res1 Tryz.results19 rfl) ?_ (ho4.fresh)
  rw [putL_recs hil, hat] at ho4
  have hp : put l h = l.set i h := put_set hil hnm hat
  rw [hp, List.length_set]
  exact ho4.rd
 ·
  try simp only [Z1, Z2, Z3, Z4, Z5, Z6, Z7, Z8, Z9, Z0] at q3
  refine WC.skip (WE.then_normal (WC.sub (fr' := [(1, _), (5, _), (7, _)]) ?_ ⟨rfl, rfl, rfl, trivial⟩))
  refine WC.seq (WC.region ?_)
  refine WL.q (oq_move rfl) rfl rfl rfl ?_
  refine WL.q (oq_move rfl) rfl rfl rfl ?_
  refine WL.q (oq_loadS [_, _, _, _] agg24 ty24 rfl (.tail _ (.head _)) (List.mem_singleton.2 rfl) rfl rfl) rfl rfl rfl ?_
  refine WL.q (oq_build #[_, _, _, _, _] str32 ty32 rfl rfl) rfl rfl rfl ?_
  refine WL.buildSS (#[S h.name, I h.kind, I h.width, I h.int, S h.text]) Tryz.underlying22 ty32 rfl (by decide) (by decide) (by kernel_rfl) (by kernel_rfl) rfl rfl fun v6_4 A6_4 ho6_4 hne6_4 => ?_
  refine WL.f1 ?_
  refine WL.appendS ho1b Tryz.underlying22 ty32 rfl (by decide) rfl rfl ho6_4.rd (.head _) ((recsHV_one [h])) (by unfold maxLen; omega) (by omega) rfl rfl fun v6b A6b ho6b hne6b => ?_
  refine WL.q (oq_assign rfl) rfl rfl rfl ?_
  refine WL.nil (WE.then_normal (WC.sub (fr' := [(6, _)]) ?_ ⟨rfl, trivial⟩))
  refine WC.ret ?_
  refine WE.f1 ?_
  refine WE.forget ho6_4.fresh ?_
  refine WE.f1 ?_
  refine WE.lose hxb ?_
  refine WE.endA (.inl rfl) (res1 Tryz.results19 rfl) ?_ (ho6b.fresh)
  have hp : put l h = l ++ [h] := put_new l h (atN_neg (by simpa using q3))
  have h6 := ho6b.rd
  rw [hp, List.length_append]
  have e : recsV HV.row (l ++ [h]) = [] ++ recsV HV.row l ++ [S h.name, I h.kind, I h.width, I h.int, S h.text] := by simp [recsV, HV.row]
  rw [e]
  simpa using h6
end DS
end Go.Proofs.YtodlhaghdplclaaGreatDoor
/- Headers as the reference reads them. -/
namespace Go.Proofs.YtodlhaghdplclaaGreatDoor
open Go Go.RowKit V EA EB EC ED EL DC DD DA DE EE EH EI EJ DF DG DH DI EM DJ DK DL DM DB EF EG EK EN EO ER ES DP DO DQ ET DR DE DS
set_option linter.unusedSimpArgs false
set_option linter.unusedVariables false
set_option maxRecDepth 10000
namespace DT
theorem call19 : Callable Tryz.prog 19 := ⟨_, Tryz.func19, rfl, by kernel_rfl⟩
theorem call54 : Callable Tryz.prog 54 := ⟨_, Tryz.func54, rfl, by kernel_rfl⟩
theorem flat3 : Flat Tryz.prog 3 := ⟨_, Tryz.underlying3, by simp⟩
theorem flat5 : Flat Tryz.prog 5 := ⟨_, Tryz.underlying5, by simp⟩
theorem ty2 : Ty Tryz.prog 2 (.int .i64 0) 1 8 := ty_of (by kernel_rfl)
theorem ty3 : Ty Tryz.prog 3 (.int .i64 0) 1 8 := ty_of (by kernel_rfl)
theorem ty5 : Ty Tryz.prog 5 (.int .u8 0) 1 1 := ty_of (by kernel_rfl)
theorem ty9 : Ty Tryz.prog 9 (S []) 1 16 := ty_of (by kernel_rfl)
theorem ty24 : Ty Tryz.prog 24 (.agg #[(.int .i64 0), (.int .i64 0), (.int .i64 0), (S [])]) 4 40 := ty_of (by kernel_rfl)
theorem agg24 : Agg Tryz.prog 24 := agg_of Tryz.underlying24
theorem str24 : Str Tryz.prog 24 #[(0, 1), (1, 1), (2, 1), (3, 1)] := ⟨_, Tryz.underlying24, fun w => by kernel_rfl⟩
theorem fld24_0 : Fld Tryz.prog 24 0 0 3 := fld_of Tryz.underlying24 rfl rfl rfl ty3 (by decide)
theorem fld24_1 : Fld Tryz.prog 24 1 1 3 := fld_of Tryz.underlying24 rfl rfl rfl ty3 (by decide)
theorem fld24_2 : Fld Tryz.prog 24 2 2 2 := fld_of Tryz.underlying24 rfl rfl rfl ty2 (by decide)
theorem fld24_3 : Fld Tryz.prog 24 3 3 9 := fld_of Tryz.underlying24 rfl rfl rfl ty9 (by decide)
theorem sl_b {v : Value} {A : Hp} {l : List UInt8} {i j : Int} (x : List UInt8) (hr : RdS 1 v A l.length (bytesV l)) (h : 0 ≤ i ∧ i ≤ j ∧ j ≤ l.length) (hx : (l.take j.toNat).drop i.toNat = x) : ∃ v', RdS 1 v' A x.length (bytesV x) ∧
  ∀ {n : Nat} {w0 : World} {ds : List Deferred} {fr : Fr} {H : List Hp} {dst : Option Tmp} {ty : TypeId} {pos : String} {aft : Array Edge} {g : Option (Nat × Bool)} {t : TypeId} {x : Operand} {lo hi : Option Operand}, Tryz.prog.underlying t = some (.slice 5) → ev fr x = some v →
   (match lo with | none => i = 0 | some y => ∃ k, ev fr y = some (.int k i)) → (match hi with | none => j = l.length | some y => ∃ k, ev fr y = some (.int k j)) → OV Tryz.prog n w0 ⟨dst, .slice t x lo hi none, ty, pos, aft, g⟩ v' ds fr H := by
 obtain ⟨v', h1, h2⟩ := slice_val (i := i) (j := j) hr ty5 h
 refine ⟨v', ?_, h2⟩
 rw [cut_bytes] at h1
 have e : cut l (i * ((1 : Nat) : Int)) (j * ((1 : Nat) : Int)) = x := by
  unfold cut
  rw [show (j * ((1 : Nat) : Int)).toNat = j.toNat by omega, show (i * ((1 : Nat) : Int)).toNat = i.toNat by omega]
  exact hx
 rw [e] at h1
 have hl : x.length = (j - i).toNat := by rw [← hx, List.length_drop, List.length_take]; omega
 rw [hl]; exact h1
def szI (c : Int) : Int := if c = 2 then 1 else if c = 3 then 2 else if c = 4 then 4 else 8
theorem szI_b (c : Int) : 1 ≤ szI c ∧ szI c ≤ 8 := by unfold szI; split <;> (try split) <;> (try split) <;> omega
theorem szI_w {c : Int} (h : 2 ≤ c ∧ c ≤ 5) : IntKind.i64.wrap (1 * 2 ^ (min (c - 2).toNat IntKind.i64.bits)) = szI c := by
 rcases (show c = 2 ∨ c = 3 ∨ c = 4 ∨ c = 5 by omega) with rfl | rfl | rfl | rfl <;> decide
theorem oq_szI {n : Nat} {w0 : World} {ds : List Deferred} {fr : Fr} {H : List Hp} {dst : Option Tmp} {ty : TypeId} {pos : String} {aft : Array Edge} {g : Option (Nat × Bool)} {t t' : TypeId} {x y : Operand} {k' : IntKind} {c : Int} (h : 2 ≤ c ∧ c ≤ 5) (hx : ev fr x = some (I 1)) (hy : ev fr y = some (.int k' (c - 2))) : OV Tryz.prog n w0 ⟨dst, .binOp .shl t x y t', ty, pos, aft, g⟩ (I (szI c)) ds fr H := by
 have := oq_shl (P := Tryz.prog) (n := n) (w0 := w0) (ds := ds) (H := H) (dst := dst) (ty := ty) (pos := pos) (aft := aft) (g := g) (t := t) (t' := t') hx hy (by omega)
 rwa [szI_w h] at this
def PreV (kn : Nat) (r : List UInt8) (kd w i0 sz : Int) (r2 : List UInt8) : Prop :=
 (2 ≤ kn ∧ kn ≤ 5 ∧ kd = 1 ∧ sz = szI kn ∧ w = 8 * sz ∧ i0 = 0 ∧ r2 = r) ∨ (kn = 8 ∧ kd = 4 ∧ w = 0 ∧ i0 = 0 ∧ sz = 8 ∧ r2 = r) ∨ (kn = 9 ∧ kd = 5 ∧ w = 0 ∧ i0 = 0 ∧ sz = 16 ∧ r2 = r) ∨
 ((kn = 6 ∧ kd = 2 ∨ kn = 7 ∧ kd = 3) ∧ w = 0 ∧ i0 = 0 ∧ 2 ≤ r.length ∧ sz = (nm (r.take 2) : Nat) ∧ r2 = r.drop 2) ∨ ((kn = 0 ∧ i0 = 1 ∨ kn = 1 ∧ i0 = 0) ∧ kd = 0 ∧ w = 0 ∧ sz = 0 ∧ r2 = r)
theorem u8_lit (k : UInt8) (m : Nat) (h : m < 256) : k = UInt8.ofNat m ↔ k.toNat = m := by
 constructor
 ·rintro rfl; rw [UInt8.toNat_ofNat']; omega
 ·intro e; apply UInt8.toNat_inj.1; rw [UInt8.toNat_ofNat', e]; omega
theorem val_cases (k : UInt8) (r : List UInt8) : val k r = (if k.toNat = 0 then .ok 0 0 1 [] r else if k.toNat = 1 then .ok 0 0 0 [] r else if k.toNat = 2 then vInt 1 .i8 r else if k.toNat = 3 then vInt 2 .i16 r else if k.toNat = 4 then vInt 4 .i32 r else if k.toNat = 5 then vInt 8 .i64 r
 else if k.toNat = 6 then vTxt 2 r else if k.toNat = 7 then vTxt 3 r else if k.toNat = 8 then (if r.length < 8 then .short else .ok 4 0 (IntKind.i64.wrap (nm (r.take 8))) [] (r.drop 8)) else if k.toNat = 9 then (if r.length < 16 then .short else .ok 5 0 0 (r.take 16) (r.drop 16)) else .other) := by
 unfold val
 have e : ∀ m : Nat, m < 256 → ((k = UInt8.ofNat m) ↔ k.toNat = m) := fun m h => u8_lit k m h
 have e0 : (k = 0) = (k.toNat = 0) := propext (e 0 (by decide))
 have e1 : (k = 1) = (k.toNat = 1) := propext (e 1 (by decide))
 have e2 : (k = 2) = (k.toNat = 2) := propext (e 2 (by decide))
 have e3 : (k = 3) = (k.toNat = 3) := propext (e 3 (by decide))
 have e4 : (k = 4) = (k.toNat = 4) := propext (e 4 (by decide))
 have e5 : (k = 5) = (k.toNat = 5) := propext (e 5 (by decide))
 have e6 : (k = 6) = (k.toNat = 6) := propext (e 6 (by decide))
 have e7 : (k = 7) = (k.toNat = 7) := propext (e 7 (by decide))
 have e8 : (k = 8) = (k.toNat = 8) := propext (e 8 (by decide))
 have e9 : (k = 9) = (k.toNat = 9) := propext (e 9 (by decide))
 simp only [e0, e1, e2, e3, e4, e5, e6, e7, e8, e9]
theorem val0 {k : UInt8} (r : List UInt8) (e : k.toNat = 0) : val k r = .ok 0 0 1 [] r := by rw [val_cases, e]; rfl
theorem val1 {k : UInt8} (r : List UInt8) (e : k.toNat = 1) : val k r = .ok 0 0 0 [] r := by rw [val_cases, e]; rfl
theorem val2 {k : UInt8} (r : List UInt8) (e : k.toNat = 2) : val k r = vInt 1 .i8 r := by rw [val_cases, e]; rfl
theorem val3 {k : UInt8} (r : List UInt8) (e : k.toNat = 3) : val k r = vInt 2 .i16 r := by rw [val_cases, e]; rfl
theorem val4 {k : UInt8} (r : List UInt8) (e : k.toNat = 4) : val k r = vInt 4 .i32 r := by rw [val_cases, e]; rfl
theorem val5 {k : UInt8} (r : List UInt8) (e : k.toNat = 5) : val k r = vInt 8 .i64 r := by rw [val_cases, e]; rfl
theorem val6 {k : UInt8} (r : List UInt8) (e : k.toNat = 6) : val k r = vTxt 2 r := by rw [val_cases, e]; rfl
theorem val7 {k : UInt8} (r : List UInt8) (e : k.toNat = 7) : val k r = vTxt 3 r := by rw [val_cases, e]; rfl
theorem val8 {k : UInt8} (r : List UInt8) (e : k.toNat = 8) : val k r = (if r.length < 8 then .short else .ok 4 0 (IntKind.i64.wrap (nm (r.take 8))) [] (r.drop 8)) := by rw [val_cases, e]; rfl
theorem val9 {k : UInt8} (r : List UInt8) (e : k.toNat = 9) : val k r = (if r.length < 16 then .short else .ok 5 0 0 (r.take 16) (r.drop 16)) := by rw [val_cases, e]; rfl
theorem val_other {k : UInt8} {r : List UInt8} (h : 10 ≤ k.toNat) : val k r = .other := by
 rw [val_cases]
 repeat rw [if_neg (by omega)]
theorem val_67s {k : UInt8} {r : List UInt8} (h : k.toNat = 6 ∨ k.toNat = 7) (hs : r.length < 2) : val k r = .short := by
 rcases h with h | h
 ·rw [val6 r h]; exact if_pos hs
 ·rw [val7 r h]; exact if_pos hs
theorem szI_at (n : Nat) (h : 2 ≤ n ∧ n ≤ 5) : (n = 2 ∧ szI n = 1) ∨ (n = 3 ∧ szI n = 2) ∨ (n = 4 ∧ szI n = 4) ∨ (n = 5 ∧ szI n = 8) := by
 rcases (show n = 2 ∨ n = 3 ∨ n = 4 ∨ n = 5 by omega) with rfl | rfl | rfl | rfl
 ·exact .inl ⟨rfl, by decide⟩
 ·exact .inr (.inl ⟨rfl, by decide⟩)
 ·exact .inr (.inr (.inl ⟨rfl, by decide⟩))
 ·exact .inr (.inr (.inr ⟨rfl, by decide⟩))
theorem prev_sz {kn : Nat} {r r2 : List UInt8} {kd w i0 sz : Int} (h : PreV kn r kd w i0 sz r2) : 0 ≤ sz ∧ kn ≤ 9 ∧ r2.length ≤ r.length := by
 rcases h with ⟨_, _, _, rfl, _, _, rfl⟩ | ⟨_, _, _, _, rfl, rfl⟩ | ⟨_, _, _, _, rfl, rfl⟩ | ⟨_, _, _, _, rfl, rfl⟩ | ⟨_, _, _, rfl, rfl⟩
 ·have := szI_b kn; exact ⟨by omega, by omega, Nat.le_refl _⟩
 ·exact ⟨by omega, by omega, Nat.le_refl _⟩
 ·exact ⟨by omega, by omega, Nat.le_refl _⟩
 ·exact ⟨by omega, by omega, by rw [List.length_drop]; omega⟩
 ·exact ⟨by omega, by omega, Nat.le_refl _⟩
theorem prev_short {k : UInt8} {r r2 : List UInt8} {kd w i0 sz : Int} (h : PreV k.toNat r kd w i0 sz r2) (hs : (r2.length : Int) < sz) : val k r = .short := by
 rcases h with ⟨h1, h2, _, rfl, _, _, rfl⟩ | ⟨h1, _, _, _, rfl, rfl⟩ | ⟨h1, _, _, _, rfl, rfl⟩ | ⟨h1, _, _, hl, rfl, rfl⟩ | ⟨_, _, _, rfl, rfl⟩
 ·rcases szI_at k.toNat ⟨h1, h2⟩ with ⟨e, e2⟩ | ⟨e, e2⟩ | ⟨e, e2⟩ | ⟨e, e2⟩ <;> rw [e2] at hs
  ·rw [val2 _ e]; exact if_pos (by omega)
  ·rw [val3 _ e]; exact if_pos (by omega)
  ·rw [val4 _ e]; exact if_pos (by omega)
  ·rw [val5 _ e]; exact if_pos (by omega)
 ·rw [val8 _ h1]; exact if_pos (by omega)
 ·rw [val9 _ h1]; exact if_pos (by omega)
 ·rw [List.length_drop] at hs
  have ha : ¬ r.length < 2 := by omega
  have hb : (r.drop 2).length < nm (r.take 2) := by rw [List.length_drop]; omega
  rcases h1 with ⟨e, _⟩ | ⟨e, _⟩
  ·rw [val6 _ e]; exact (if_neg ha).trans (if_pos hb)
  ·rw [val7 _ e]; exact (if_neg ha).trans (if_pos hb)
 ·omega
theorem wrap_up8 {x : Int} (h : -128 ≤ x ∧ x < 0) : IntKind.i8.wrap (x + 256) = x := by
 simp only [IntKind.wrap, IntKind.signed, IntKind.bits, Bool.true_and, decide_eq_true_eq]
 by_cases hc : (x + 256) % 2 ^ 8 ≥ 2 ^ (8 - 1)
 ·simp only [hc, decide_true, decide_false, Bool.false_eq_true, if_true, if_false]; omega
 ·simp only [hc, decide_true, decide_false, Bool.false_eq_true, if_true, if_false]; omega
theorem wrap_up16 {x : Int} (h : -32768 ≤ x ∧ x < 0) : IntKind.i16.wrap (x + 65536) = x := by
 simp only [IntKind.wrap, IntKind.signed, IntKind.bits, Bool.true_and, decide_eq_true_eq]
 by_cases hc : (x + 65536) % 2 ^ 16 ≥ 2 ^ (16 - 1)
 ·simp only [hc, decide_true, decide_false, Bool.false_eq_true, if_true, if_false]; omega
 ·simp only [hc, decide_true, decide_false, Bool.false_eq_true, if_true, if_false]; omega
theorem wrap_up32 {x : Int} (h : -2147483648 ≤ x ∧ x < 0) : IntKind.i32.wrap (x + 4294967296) = x := by
 simp only [IntKind.wrap, IntKind.signed, IntKind.bits, Bool.true_and, decide_eq_true_eq]
 by_cases hc : (x + 4294967296) % 2 ^ 32 ≥ 2 ^ (32 - 1)
 ·simp only [hc, decide_true, decide_false, Bool.false_eq_true, if_true, if_false]; omega
 ·simp only [hc, decide_true, decide_false, Bool.false_eq_true, if_true, if_false]; omega
theorem wrap_up64 {x : Int} (h : -9223372036854775808 ≤ x ∧ x < 0) : IntKind.i64.wrap (x + 2 ^ 64) = x := by
 simp only [IntKind.wrap, IntKind.signed, IntKind.bits, Bool.true_and, decide_eq_true_eq]
 by_cases hc : (x + 2 ^ 64) % 2 ^ 64 ≥ 2 ^ (64 - 1)
 ·simp only [hc, decide_true, decide_false, Bool.false_eq_true, if_true, if_false]; omega
 ·simp only [hc, decide_true, decide_false, Bool.false_eq_true, if_true, if_false]; omega
theorem wrap_sh (x : Nat) : (x < 256 → shT 8 (IntKind.i64.wrap x) = IntKind.i8.wrap x) ∧ (x < 65536 → shT 16 (IntKind.i64.wrap x) = IntKind.i16.wrap x) ∧ (x < 4294967296 → shT 32 (IntKind.i64.wrap x) = IntKind.i32.wrap x) ∧ (x < 18446744073709551616 → shT 64 (IntKind.i64.wrap x) = IntKind.i64.wrap x) := by
 refine ⟨?_, ?_, ?_, ?_⟩ <;> intro hx <;> unfold shT <;> rw [Int.fdiv_eq_ediv_of_nonneg _ (Int.le_of_lt (Int.pow_pos (by decide)))]
 ·rw [show min (64 - (8 : Int)).toNat IntKind.i64.bits = 56 by decide, show IntKind.i64.wrap (x : Int) = x from wrap_in (by rw [i64_lo, i64_hi]; omega)]
  rcases Nat.lt_or_ge x 128 with h | h
  ·rw [show IntKind.i8.wrap (x : Int) = x from wrap_in (by show (-128 : Int) ≤ x ∧ (x : Int) ≤ 127; omega), show IntKind.i64.wrap ((x : Int) * 2 ^ 56) = (x : Int) * 2 ^ 56 from wrap_in (by rw [i64_lo, i64_hi]; omega)]; omega
  ·rw [show IntKind.i8.wrap (x : Int) = x - 256 from (congrArg _ (show (x : Int) = ((x : Int) - 256) + 256 by omega)).trans (wrap_up8 (x := (x : Int) - 256) (by omega)), show (x : Int) * 2 ^ 56 = ((x : Int) - 256) * 2 ^ 56 + 2 ^ 64 by omega, wrap_up64 (x := ((x : Int) - 256) * 2 ^ 56) (by omega)]; omega
 ·rw [show min (64 - (16 : Int)).toNat IntKind.i64.bits = 48 by decide, show IntKind.i64.wrap (x : Int) = x from wrap_in (by rw [i64_lo, i64_hi]; omega)]
  rcases Nat.lt_or_ge x 32768 with h | h
  ·rw [show IntKind.i16.wrap (x : Int) = x from wrap_in (by show (-32768 : Int) ≤ x ∧ (x : Int) ≤ 32767; omega), show IntKind.i64.wrap ((x : Int) * 2 ^ 48) = (x : Int) * 2 ^ 48 from wrap_in (by rw [i64_lo, i64_hi]; omega)]; omega
  ·rw [show IntKind.i16.wrap (x : Int) = x - 65536 from (congrArg _ (show (x : Int) = ((x : Int) - 65536) + 65536 by omega)).trans (wrap_up16 (x := (x : Int) - 65536) (by omega)), show (x : Int) * 2 ^ 48 = ((x : Int) - 65536) * 2 ^ 48 + 2 ^ 64 by omega, wrap_up64 (x := ((x : Int) - 65536) * 2 ^ 48) (by omega)]; omega
 ·rw [show min (64 - (32 : Int)).toNat IntKind.i64.bits = 32 by decide, show IntKind.i64.wrap (x : Int) = x from wrap_in (by rw [i64_lo, i64_hi]; omega)]
  rcases Nat.lt_or_ge x 2147483648 with h | h
  ·rw [show IntKind.i32.wrap (x : Int) = x from wrap_in (by show (-2147483648 : Int) ≤ x ∧ (x : Int) ≤ 2147483647; omega), show IntKind.i64.wrap ((x : Int) * 2 ^ 32) = (x : Int) * 2 ^ 32 from wrap_in (by rw [i64_lo, i64_hi]; omega)]; omega
  ·rw [show IntKind.i32.wrap (x : Int) = x - 4294967296 from (congrArg _ (show (x : Int) = ((x : Int) - 4294967296) + 4294967296 by omega)).trans (wrap_up32 (x := (x : Int) - 4294967296) (by omega)), show (x : Int) * 2 ^ 32 = ((x : Int) - 4294967296) * 2 ^ 32 + 2 ^ 64 by omega, wrap_up64 (x := ((x : Int) - 4294967296) * 2 ^ 32) (by omega)]; omega
 ·rw [show min (64 - (64 : Int)).toNat IntKind.i64.bits = 0 by decide]
  have hw := wrap_bnd .i64 (x : Int)
  rw [Int.pow_zero, Int.mul_one, Int.ediv_one, wrap_in hw]
theorem prev_int {k : UInt8} {r r2 : List UInt8} {kd w i0 sz : Int} (h : PreV k.toNat r kd w i0 sz r2) (hk : 2 ≤ k.toNat ∧ k.toNat ≤ 5) (hs : sz ≤ (r2.length : Int)) : val k r = .ok kd w (shT w (IntKind.i64.wrap (nm (r2.take sz.toNat)))) [] (r2.drop sz.toNat) := by
 rcases h with ⟨h1, h2, rfl, rfl, rfl, _, rfl⟩ | ⟨h1, _⟩ | ⟨h1, _⟩ | ⟨h1, _⟩ | ⟨h1, _⟩
 ·have hn := wrap_sh (nm (r2.take (szI k.toNat).toNat))
  have hb := nm_lt (r2.take (szI k.toNat).toNat)
  rcases szI_at k.toNat ⟨h1, h2⟩ with ⟨e, e2⟩ | ⟨e, e2⟩ | ⟨e, e2⟩ | ⟨e, e2⟩ <;> rw [e2] at hs hn hb ⊢ <;> rw [List.length_take, Nat.min_eq_left (by omega)] at hb
  ·rw [val2 _ e]; exact (if_neg (by omega)).trans (congrArg (fun x => VR.ok 1 8 x [] (r2.drop 1)) (hn.1 hb).symm)
  ·rw [val3 _ e]; exact (if_neg (by omega)).trans (congrArg (fun x => VR.ok 1 16 x [] (r2.drop 2)) (hn.2.1 hb).symm)
  ·rw [val4 _ e]; exact (if_neg (by omega)).trans (congrArg (fun x => VR.ok 1 32 x [] (r2.drop 4)) (hn.2.2.1 hb).symm)
  ·rw [val5 _ e]; exact (if_neg (by omega)).trans (congrArg (fun x => VR.ok 1 64 x [] (r2.drop 8)) (hn.2.2.2 hb).symm)
 ·omega
 ·omega
 ·omega
 ·omega
theorem prev_ts {k : UInt8} {r r2 : List UInt8} {kd w i0 sz : Int} (h : PreV k.toNat r kd w i0 sz r2) (hk : k.toNat = 8) (hs : sz ≤ (r2.length : Int)) : sz = 8 ∧ val k r = .ok kd w (IntKind.i64.wrap (nm (r2.take 8))) [] (r2.drop sz.toNat) := by
 rcases h with ⟨h1, _⟩ | ⟨h1, rfl, rfl, _, rfl, rfl⟩ | ⟨h1, _⟩ | ⟨h1, _⟩ | ⟨h1, _⟩
 ·omega
 ·exact ⟨rfl, (val8 _ h1).trans (if_neg (by omega))⟩
 ·omega
 ·omega
 ·omega
theorem prev_txt {k : UInt8} {r r2 : List UInt8} {kd w i0 sz : Int} (h : PreV k.toNat r kd w i0 sz r2) (hk : k.toNat = 6 ∨ k.toNat = 7 ∨ k.toNat = 9) (hs : sz ≤ (r2.length : Int)) : val k r = .ok kd w i0 (r2.take sz.toNat) (r2.drop sz.toNat) := by
 rcases h with ⟨h1, _⟩ | ⟨h1, _⟩ | ⟨h1, rfl, rfl, rfl, rfl, rfl⟩ | ⟨h1, rfl, rfl, hl, rfl, rfl⟩ | ⟨h1, _⟩
 ·omega
 ·omega
 ·exact (val9 _ h1).trans (if_neg (by omega))
 ·rw [List.length_drop] at hs
  have ha : ¬ r.length < 2 := by omega
  have hb : ¬ (r.drop 2).length < nm (r.take 2) := by rw [List.length_drop]; omega
  rcases h1 with ⟨e, rfl⟩ | ⟨e, rfl⟩
  ·exact (val6 _ e).trans ((if_neg ha).trans (if_neg hb))
  ·exact (val7 _ e).trans ((if_neg ha).trans (if_neg hb))
 ·omega
theorem prev_bool {k : UInt8} {r r2 : List UInt8} {kd w i0 sz : Int} (h : PreV k.toNat r kd w i0 sz r2) (hk : k.toNat = 0 ∨ k.toNat = 1) : val k r = .ok kd w i0 [] (r2.drop sz.toNat) := by
 rcases h with ⟨h1, _⟩ | ⟨h1, _⟩ | ⟨h1, _⟩ | ⟨h1, _⟩ | ⟨h1, rfl, rfl, rfl, rfl⟩
 ·omega
 ·omega
 ·omega
 ·omega
 ·rcases h1 with ⟨e, rfl⟩ | ⟨e, rfl⟩
  ·exact val0 _ e
  ·exact val1 _ e
def TkR (t : TR) (w : Value) (N : Hp) : Prop := match t with
 | .ok l => ∃ u, w = .tuple #[u, I 0] ∧ RdS 5 u N l.length (recsV HV.row l)
 | .opn _ => w = .tuple #[.slice none 0 0, I (-1)]
 | .short => w = .tuple #[.slice none 0 0, I 2]
 | .other => w = .tuple #[.slice none 0 0, I 5]
theorem tkr_ok {t : TR} {l : List HV} {u : Value} {N : Hp} (h : t = .ok l) (hr : RdS 5 u N l.length (recsV HV.row l)) : TkR t (.tuple #[u, I 0]) N := by subst h; exact ⟨_, rfl, hr⟩
theorem tkr_end {t : TR} {rs : List UInt8} {l : List HV} {u : Value} {N : Hp} (h : t = tk rs l) (h0 : rs.length = 0) (hr : RdS 5 u N l.length (recsV HV.row l)) : TkR t (.tuple #[u, I 0]) N := by
 have e : rs = [] := List.eq_nil_of_length_eq_zero h0
 subst e; rw [tk_nil] at h; exact tkr_ok h hr
theorem tkr_opn {t : TR} {rs : List UInt8} {l : List HV} (h : t = tk rs l) {b0 : UInt8} {rt : List UInt8} (e : rs = b0 :: rt) (h1 : rt.length = 0) (h2 : 0 < b0.toNat) : TkR t (.tuple #[.slice none 0 0, I (-1)]) [] := by
 have e2 : rt = [] := List.eq_nil_of_length_eq_zero h1
 subst h e e2; rw [tk_opn h2]; exact rfl
theorem tkr_short {t : TR} {rs : List UInt8} {l : List HV} (h : t = tk rs l) {b0 : UInt8} {rt : List UInt8} (e : rs = b0 :: rt) (h1 : ¬ (rt.length = 0 ∧ 0 < b0.toNat)) (h2 : rt.length < b0.toNat + 1) : TkR t (.tuple #[.slice none 0 0, I 2]) [] := by
 subst h e; rw [tk_short (fun hh => h1 ⟨by rw [hh.1]; rfl, hh.2⟩) h2]; exact rfl
theorem tkr_vs {t : TR} {rs : List UInt8} {l : List HV} (h : t = tk rs l) {b0 : UInt8} {rt : List UInt8} (e : rs = b0 :: rt) (h2 : ¬ rt.length < b0.toNat + 1) (hv : val (rt.getD b0.toNat 0) (rt.drop (b0.toNat + 1)) = .short) : TkR t (.tuple #[.slice none 0 0, I 2]) [] := by
 subst h e; rw [tk_val h2, hv]; exact rfl
theorem tkr_vo {t : TR} {rs : List UInt8} {l : List HV} (h : t = tk rs l) {b0 : UInt8} {rt : List UInt8} (e : rs = b0 :: rt) (h2 : ¬ rt.length < b0.toNat + 1) (hv : val (rt.getD b0.toNat 0) (rt.drop (b0.toNat + 1)) = .other) : TkR t (.tuple #[.slice none 0 0, I 5]) [] := by
 subst h e; rw [tk_val h2, hv]; exact rfl
theorem tk_go {t : TR} {rs : List UInt8} {l : List HV} (h : t = tk rs l) {b0 : UInt8} {rt : List UInt8} (e : rs = b0 :: rt) (h2 : ¬ rt.length < b0.toNat + 1) {kd w i : Int} {tx r3 : List UInt8} (hv : val (rt.getD b0.toNat 0) (rt.drop (b0.toNat + 1)) = .ok kd w i tx r3) : t = tk r3 (put l ⟨rt.take b0.toNat, kd, w, i, tx⟩) := by
 subst h e; rw [tk_val h2, hv]
theorem vTaking (v0 : Value) (A : Hp) (all : List UInt8) (hr0 : RdS 1 v0 A all.length (bytesV all)) (hn : all.length ≤ 20000) : FnA Tryz.prog 55 [v0] A (TkR (tk all [])) := by
 refine FnA.enter (n := 142) Tryz.func55 rfl rfl fun w0 => ?_
 refine WC.sub (fr' := [(0, _)]) ?_ ⟨rfl, trivial⟩
 refine WC.seq (WC.region ?_)
 refine WL.q (oq_assign rfl) rfl rfl rfl ?_
 refine WL.q (oq_assign rfl) rfl rfl rfl ?_
 refine WL.nil (WE.then_normal (WC.sub (fr' := [(0, _)]) ?_ ⟨rfl, trivial⟩))
 refine WC.seq ?_
 refine WC.add0 ?_
 refine WC.region ?_
 refine WL.q (oq_assign rfl) rfl rfl rfl ?_
 refine WL.nil (WE.then_normal (WC.sub (fr' := [(0, _), (4, _)]) ?_ ⟨rfl, rfl, trivial⟩))
 refine WC.seq (WC.block ?_)
 refine WC.loop (ι := Value × Value × Hp × (List HV) × (List UInt8)) (fun i_ => (fun (v : Value) (u : Value) (Z : Hp) (l : List HV) (rs : List UInt8) => [(0, v), (4, u)]) i_.1 i_.2.1 i_.2.2.1 i_.2.2.2.1 i_.2.2.2.2) (fun i_ => (fun (v : Value) (u : Value) (Z : Hp) (l : List HV) (rs : List UInt8) => [Z, A]) i_.1 i_.2.1 i_.2.2.1 i_.2.2.2.1 i_.2.2.2.2) (fun i_ => (fun (v : Value) (u : Value) (Z : Hp) (l : List HV) (rs : List UInt8) => tk all [] = tk rs l ∧ RdS 1 v A rs.length (bytesV rs) ∧ RdS 5 u Z l.length (recsV HV.row l) ∧ (∀ b o, (b, o) ∈ Z → w0.heap.size ≤ b) ∧ l.length + rs.length ≤ all.length) i_.1 i_.2.1 i_.2.2.1 i_.2.2.2.1 i_.2.2.2.2) (fun i_ => (fun (v : Value) (u : Value) (Z : Hp) (l : List HV) (rs : List UInt8) => rs.length) i_.1 i_.2.1 i_.2.2.1 i_.2.2.2.1 i_.2.2.2.2) ((_, _, _, [], all)) ?_ ⟨rfl, rfl, trivial⟩ (List.Perm.refl _) ?_
 ·try dsimp only
  exact ⟨rfl, hr0, ⟨rfl, .inl ⟨rfl, _, _, rfl⟩⟩, (fun _ _ h => nomatch h), by simp⟩
 ·rintro ⟨v, u, Z, l, rs⟩ hp
  try dsimp only at hp
  obtain ⟨htk, hv, hu, hZ, hlr⟩ := hp
  show WC _ _ _ _ _ _ ([(0, v), (4, u)]) ([Z, A])
  refine WC.seq (WC.seq (WC.region ?_))
  refine WL.q (oq_move rfl) rfl rfl rfl ?_
  refine WL.q (oq_len_rd hv Tryz.underlying28 rfl) rfl rfl rfl ?_
  refine WL.q (oq_gtr rfl rfl) rfl rfl rfl ?_
  refine WL.nil (WE.then_normal (WC.sub (fr' := [(0, _), (4, _), (13, _)]) ?_ ⟨rfl, rfl, rfl, trivial⟩))
  refine WC.cond rfl (fun q2 => ?_) (fun q2 => ?_)
  ·
   try simp only [Z1, Z2, Z3, Z4, Z5, Z6, Z7, Z8, Z9, Z0] at q2
   refine WC.skip (WE.then_normal (WC.sub (fr' := [(0, _), (4, _)]) ?_ ⟨rfl, rfl, trivial⟩))
   refine WC.block (WC.seq ?_)
   obtain ⟨b0, rt, rfl⟩ : ∃ b0 rt, rs = b0 :: rt := by
    cases rs with
    | nil =>
     exfalso; simp at q2
    | cons b0 rt =>
     exact ⟨b0, rt, rfl⟩
   have hbl := b0.toNat_lt
   have hlc : (b0 :: rt).length = rt.length + 1 := rfl
   refine WC.region ?_
   refine WL.q (oq_move rfl) rfl rfl rfl ?_
   refine WL.q (oq_ixaddr hv Tryz.underlying28 ty5 rfl rfl (by omega)) rfl rfl rfl ?_
   refine WL.load_byte hv (.tail _ (.head _)) flat5 rfl (by omega) rfl rfl fun c3_2 hc3_2 hc3_2l hc3_2u => ?_
   refine WL.q (oq_conv Tryz.underlying5 Tryz.underlying3 rfl (by rw [i64_lo, i64_hi]; (first | omega | (simp only [List.length_cons, List.length_nil, List.length_append, List.length_drop, List.length_take]; omega)))) rfl rfl rfl ?_
   obtain rfl : c3_2 = (b0.toNat : Int) := hc3_2
   refine WL.q (oq_assign rfl) rfl rfl rfl ?_
   refine WL.nil (WE.then_normal (WC.sub (fr' := [(0, _), (4, _), (5, _)]) ?_ ⟨rfl, rfl, rfl, trivial⟩))
   refine WC.cut (ι := Unit) (fun _ => [(0, v), (4, u), (5, I (b0.toNat : Int))]) (fun _ => [Z, A]) (fun _ => ¬ (rt.length = 0 ∧ 0 < b0.toNat) ∧ True) ?_ ?_
   ·
    refine WC.seq (WC.region ?_)
    refine WL.q (oq_move rfl) rfl rfl rfl ?_
    refine WL.q (oq_len_rd hv Tryz.underlying28 rfl) rfl rfl rfl ?_
    refine WL.q (oq_eql rfl rfl) rfl rfl rfl ?_
    refine WL.q (oq_move rfl) rfl rfl rfl ?_
    refine WL.split 21 rfl (fun s4_3 => ?_) (fun s4_3 => ?_)
    ·
     try simp only [Z1, Z2, Z3, Z4, Z5, Z6, Z7, Z8, Z9, Z0] at s4_3
     refine WL.q (oq_move rfl) rfl rfl rfl ?_
     refine WL.q (oq_gtr rfl rfl) rfl rfl rfl ?_
     refine WL.q (oq_pick_t rfl rfl) rfl rfl rfl ?_
     refine WL.nil (WE.then_normal (WC.sub (fr' := [(0, _), (4, _), (5, _), (24, _)]) ?_ ⟨rfl, rfl, rfl, rfl, trivial⟩))
     refine WC.cond rfl (fun q4 => ?_) (fun q4 => ?_)
     ·
      try simp only [Z1, Z2, Z3, Z4, Z5, Z6, Z7, Z8, Z9, Z0] at q4
      refine WC.seq (WC.region ?_)
      refine WL.q (oq_assign rfl) rfl rfl rfl ?_
      refine WL.q (oq_assign rfl) rfl rfl rfl ?_
      refine WL.nil (WE.then_normal (WC.sub (fr' := [(2, _), (3, _)]) ?_ ⟨rfl, rfl, trivial⟩))
      refine WC.ret (WE.then_ret (WE.block_ret (WE.then_ret (WE.block_ret (WE.then_ret ?_)))))
      refine WE.forget hZ ?_
      refine WE.add0 ?_
      refine WE.endA (.inl rfl) (res2 Tryz.results55 rfl rfl) ?_ fresh0
      first | (exfalso; omega) | (exact tkr_opn htk rfl (by omega) (by omega)) | (exact tkr_short htk rfl (by omega) (by omega)) | (exact tkr_vo htk rfl hnl (val_other (by omega))) | (exact tkr_vs htk rfl hnl (val_67s (by omega) (by omega))) | (exact tkr_vs htk rfl hnl (prev_short hpv (by omega)))
     ·
      try simp only [Z1, Z2, Z3, Z4, Z5, Z6, Z7, Z8, Z9, Z0] at q4
      refine WC.skip ?_
      refine WE.meet () ?_ ⟨rfl, rfl, rfl, trivial⟩ (List.Perm.refl _)
      try dsimp only
      exact ⟨by omega, trivial⟩
    ·
     try simp only [Z1, Z2, Z3, Z4, Z5, Z6, Z7, Z8, Z9, Z0] at s4_3
     refine WL.skip rfl rfl rfl ?_
     refine WL.skip rfl rfl rfl ?_
     refine WL.q (oq_pick_f rfl rfl) rfl rfl rfl ?_
     refine WL.nil (WE.then_normal (WC.sub (fr' := [(0, _), (4, _), (5, _), (24, _)]) ?_ ⟨rfl, rfl, rfl, rfl, trivial⟩))
     refine WC.cond_f rfl ?_
     refine WC.skip ?_
     refine WE.meet () ?_ ⟨rfl, rfl, rfl, trivial⟩ (List.Perm.refl _)
     try dsimp only
     exact ⟨by omega, trivial⟩
   ·rintro _ hp
    try dsimp only at hp
    obtain ⟨hno, _⟩ := hp
    show WC _ _ _ _ _ _ ([(0, v), (4, u), (5, I (b0.toNat : Int))]) ([Z, A])
    refine WC.seq (WC.seq (WC.region ?_))
    refine WL.q (oq_move rfl) rfl rfl rfl ?_
    refine WL.q (oq_len_rd hv Tryz.underlying28 rfl) rfl rfl rfl ?_
    refine WL.q (oq_move rfl) rfl rfl rfl ?_
    refine WL.q (oq_add rfl rfl (by rw [i64_lo, i64_hi]; (first | omega | (simp only [List.length_cons, List.length_nil, List.length_append, List.length_drop, List.length_take]; omega)))) rfl rfl rfl ?_
    refine WL.q (oq_lss rfl rfl) rfl rfl rfl ?_
    refine WL.nil (WE.then_normal (WC.sub (fr' := [(0, _), (4, _), (5, _), (29, _)]) ?_ ⟨rfl, rfl, rfl, rfl, trivial⟩))
    refine WC.cond rfl (fun q6 => ?_) (fun q6 => ?_)
    ·
     try simp only [Z1, Z2, Z3, Z4, Z5, Z6, Z7, Z8, Z9, Z0] at q6
     refine WC.seq (WC.region ?_)
     refine WL.q (oq_assign rfl) rfl rfl rfl ?_
     refine WL.q (oq_assign rfl) rfl rfl rfl ?_
     refine WL.nil (WE.then_normal (WC.sub (fr' := [(2, _), (3, _)]) ?_ ⟨rfl, rfl, trivial⟩))
     refine WC.ret (WE.then_ret (WE.block_ret (WE.then_ret (WE.block_ret (WE.then_ret ?_)))))
     refine WE.forget hZ ?_
     refine WE.add0 ?_
     refine WE.endA (.inl rfl) (res2 Tryz.results55 rfl rfl) ?_ fresh0
     first | (exfalso; omega) | (exact tkr_opn htk rfl (by omega) (by omega)) | (exact tkr_short htk rfl (by omega) (by omega)) | (exact tkr_vo htk rfl hnl (val_other (by omega))) | (exact tkr_vs htk rfl hnl (val_67s (by omega) (by omega))) | (exact tkr_vs htk rfl hnl (prev_short hpv (by omega)))
    ·
     try simp only [Z1, Z2, Z3, Z4, Z5, Z6, Z7, Z8, Z9, Z0] at q6
     refine WC.skip (WE.then_normal (WC.sub (fr' := [(0, _), (4, _), (5, _)]) ?_ ⟨rfl, rfl, rfl, trivial⟩))
     refine WC.seq ?_
     have hnl : ¬ rt.length < b0.toNat + 1 := by omega
     obtain ⟨v8, h8, o8⟩ := sl_b (i := 1) (j := 1 + (b0.toNat : Int)) (rt.take b0.toNat) hv (by omega) (by rw [show (1 + (b0.toNat : Int)).toNat = b0.toNat + 1 by omega]; rfl)
     refine WC.quiet (by kernel_rfl) (by kernel_rfl) ?_
     refine WQ.q (oq_move rfl) rfl rfl rfl ?_
     refine WQ.q (oq_move rfl) rfl rfl rfl ?_
     refine WQ.q (oq_add rfl rfl (by rw [i64_lo, i64_hi]; (first | omega | (simp only [List.length_cons, List.length_nil, List.length_append, List.length_drop, List.length_take]; omega)))) rfl rfl rfl ?_
     refine WQ.q (o8 Tryz.underlying28 rfl ⟨_, rfl⟩ ⟨_, rfl⟩) rfl rfl rfl ?_
     refine WQ.q (oq_bytesStr h8 (.tail _ (.head _)) Tryz.underlying9 Tryz.underlying28 Tryz.underlying5 rfl) rfl rfl rfl ?_
     refine WQ.q (oq_move rfl) rfl rfl rfl ?_
     refine WQ.q (oq_move rfl) rfl rfl rfl ?_
     refine WQ.q (oq_add rfl rfl (by rw [i64_lo, i64_hi]; (first | omega | (simp only [List.length_cons, List.length_nil, List.length_append, List.length_drop, List.length_take]; omega)))) rfl rfl rfl ?_
     refine WQ.q (oq_ixaddr hv Tryz.underlying28 ty5 rfl rfl (by omega)) rfl rfl rfl ?_
     refine WQ.load_byte hv (.tail _ (.head _)) flat5 rfl (by omega) rfl rfl fun c8_9 hc8_9 hc8_9l hc8_9u => ?_
     refine WQ.q (oq_assign rfl) rfl rfl rfl ?_
     refine WQ.q (oq_assign rfl) rfl rfl rfl ?_
     refine WQ.nil (WE.then_normal (WC.sub (fr' := [(0, _), (4, _), (5, _), (6, _), (7, _)]) ?_ ⟨rfl, rfl, rfl, rfl, rfl, trivial⟩))
     refine WC.seq ?_
     obtain rfl : c8_9 = ((rt.getD b0.toNat 0).toNat : Int) := by
      rw [hc8_9]; unfold byteAt; rw [show (1 + (b0.toNat : Int)).toNat = b0.toNat + 1 by omega]; rfl
     have hkl := (rt.getD b0.toNat 0).toNat_lt
     obtain ⟨v9, h9, o9⟩ := sl_b (i := 2 + (b0.toNat : Int)) (j := ((b0 :: rt).length : Int)) ((rt.drop (b0.toNat + 1))) hv (by omega) (by rw [Int.toNat_natCast, List.take_length, show (2 + (b0.toNat : Int)).toNat = b0.toNat + 1 + 1 by omega]; rfl)
     have hrl : (rt.drop (b0.toNat + 1)).length = rt.length - (b0.toNat + 1) := List.length_drop
     refine WC.region ?_
     refine WL.q (oq_move rfl) rfl rfl rfl ?_
     refine WL.q (oq_move rfl) rfl rfl rfl ?_
     refine WL.q (oq_add rfl rfl (by rw [i64_lo, i64_hi]; (first | omega | (simp only [List.length_cons, List.length_nil, List.length_append, List.length_drop, List.length_take]; omega)))) rfl rfl rfl ?_
     refine WL.q (o9 Tryz.underlying28 rfl ⟨_, rfl⟩ rfl) rfl rfl rfl ?_
     refine WL.q (oq_assign rfl) rfl rfl rfl ?_
     refine WL.nil (WE.then_normal (WC.sub (fr' := [(0, _), (4, _), (6, _), (7, _)]) ?_ ⟨rfl, rfl, rfl, rfl, trivial⟩))
     refine WC.seq (WC.region ?_)
     refine WL.q (oq_build #[_, _, _, _] str24 ty24 rfl rfl) rfl rfl rfl ?_
     refine WL.alloc ty24 rfl rfl fun hb hhb => ?_
     refine WL.storeS #[_, _, _, _] ty24 rfl rfl rfl rfl (Nat.le_of_ble_eq_true rfl) rfl rfl ?_
     refine WL.nil (WE.then_normal (WC.sub (fr' := [(0, _), (4, _), (6, _), (7, _), (8, _)]) ?_ ⟨rfl, rfl, rfl, rfl, rfl, trivial⟩))
     refine WC.seq (WC.region ?_)
     refine WL.q (oq_assign rfl) rfl rfl rfl ?_
     refine WL.nil (WE.then_normal (WC.sub (fr' := [(0, _), (4, _), (6, _), (7, _), (8, _), (9, _)]) ?_ ⟨rfl, rfl, rfl, rfl, rfl, rfl, trivial⟩))
     refine WC.cut (ι := Value × Int × Int × Int × Int) (fun i_ => (fun (v2 : Value) (kd : Int) (w : Int) (i0 : Int) (sz : Int) => [(0, v2), (4, u), (6, S (rt.take b0.toNat)), (7, .int .u8 ((rt.getD b0.toNat 0).toNat : Int)), (8, Pt hb 0), (9, I sz)]) i_.1 i_.2.1 i_.2.2.1 i_.2.2.2.1 i_.2.2.2.2) (fun i_ => (fun (v2 : Value) (kd : Int) (w : Int) (i0 : Int) (sz : Int) => [[(hb, .cells #[I kd, I w, I i0, S []] 24 (0, 0))], Z, A]) i_.1 i_.2.1 i_.2.2.1 i_.2.2.2.1 i_.2.2.2.2) (fun i_ => (fun (v2 : Value) (kd : Int) (w : Int) (i0 : Int) (sz : Int) => ∃ r2, PreV (rt.getD b0.toNat 0).toNat (rt.drop (b0.toNat + 1)) kd w i0 sz r2 ∧ RdS 1 v2 A r2.length (bytesV r2)) i_.1 i_.2.1 i_.2.2.1 i_.2.2.2.1 i_.2.2.2.2) ?_ ?_
     ·
      refine WC.seq (WC.region ?_)
      refine WL.q (oq_move rfl) rfl rfl rfl ?_
      refine WL.nil (WE.then_normal (WC.sub (fr' := [(0, _), (4, _), (6, _), (7, _), (8, _), (9, _), (45, _)]) ?_ ⟨rfl, rfl, rfl, rfl, rfl, rfl, rfl, trivial⟩))
      refine WC.block (WC.seq (WC.region ?_))
      refine WL.q (oq_eql rfl rfl) rfl rfl rfl ?_
      refine WL.q (oq_assign rfl) rfl rfl rfl ?_
      refine WL.nil (WE.then_normal (WC.sub (fr' := [(0, _), (4, _), (6, _), (7, _), (8, _), (9, _), (45, _), (46, _)]) ?_ ⟨rfl, rfl, rfl, rfl, rfl, rfl, rfl, rfl, trivial⟩))
      refine WC.cond rfl (fun q14 => ?_) (fun q14 => ?_)
      ·
       try simp only [Z1, Z2, Z3, Z4, Z5, Z6, Z7, Z8, Z9, Z0] at q14
       refine WC.region ?_
       refine WL.q (oq_fieldAddr fld24_2 rfl) rfl rfl rfl ?_
       refine WL.store1 #[_, _, _, _] ty2 rfl rfl (by first | rfl | exact OwS.one one_) (Nat.lt_of_lt_of_le (Nat.lt_succ_self _) (Nat.le_of_ble_eq_true rfl)) rfl rfl ?_
       refine WL.nil (WE.block_normal ?_)
       refine WE.meet (_, _, _, _, _) ?_ ⟨rfl, rfl, rfl, rfl, rfl, rfl, trivial⟩ (List.Perm.refl _)
       try dsimp only
       first | (exfalso; omega) | (exact ⟨_, .inl ⟨by omega, by omega, rfl, rfl, rfl, rfl, rfl⟩, h9⟩) | (exact ⟨_, .inr (.inl ⟨by omega, rfl, rfl, rfl, rfl, rfl⟩), h9⟩) | (exact ⟨_, .inr (.inr (.inl ⟨by omega, rfl, rfl, rfl, rfl, rfl⟩)), h9⟩) | (exact ⟨_, .inr (.inr (.inr (.inl ⟨.inl ⟨by omega, rfl⟩, rfl, rfl, by omega, rfl, rfl⟩))), h28⟩) | (exact ⟨_, .inr (.inr (.inr (.inl ⟨.inr ⟨by omega, rfl⟩, rfl, rfl, by omega, rfl, rfl⟩))), h28⟩) | (exact ⟨_, .inr (.inr (.inr (.inr ⟨.inl ⟨by omega, rfl⟩, rfl, rfl, rfl, rfl⟩))), h9⟩) | (exact ⟨_, .inr (.inr (.inr (.inr ⟨.inr ⟨by omega, rfl⟩, rfl, rfl, rfl, rfl⟩))), h9⟩)
      ·
       try simp only [Z1, Z2, Z3, Z4, Z5, Z6, Z7, Z8, Z9, Z0] at q14
       refine WC.seq (WC.region ?_)
       refine WL.q (oq_eql rfl rfl) rfl rfl rfl ?_
       refine WL.q (oq_assign rfl) rfl rfl rfl ?_
       refine WL.nil (WE.then_normal (WC.sub (fr' := [(0, _), (4, _), (6, _), (7, _), (8, _), (9, _), (45, _), (49, _)]) ?_ ⟨rfl, rfl, rfl, rfl, rfl, rfl, rfl, rfl, trivial⟩))
       refine WC.cond rfl (fun q16 => ?_) (fun q16 => ?_)
       ·
        try simp only [Z1, Z2, Z3, Z4, Z5, Z6, Z7, Z8, Z9, Z0] at q16
        refine WC.skip (WE.block_normal ?_)
        refine WE.meet (_, _, _, _, _) ?_ ⟨rfl, rfl, rfl, rfl, rfl, rfl, trivial⟩ (List.Perm.refl _)
        try dsimp only
        first | (exfalso; omega) | (exact ⟨_, .inl ⟨by omega, by omega, rfl, rfl, rfl, rfl, rfl⟩, h9⟩) | (exact ⟨_, .inr (.inl ⟨by omega, rfl, rfl, rfl, rfl, rfl⟩), h9⟩) | (exact ⟨_, .inr (.inr (.inl ⟨by omega, rfl, rfl, rfl, rfl, rfl⟩)), h9⟩) | (exact ⟨_, .inr (.inr (.inr (.inl ⟨.inl ⟨by omega, rfl⟩, rfl, rfl, by omega, rfl, rfl⟩))), h28⟩) | (exact ⟨_, .inr (.inr (.inr (.inl ⟨.inr ⟨by omega, rfl⟩, rfl, rfl, by omega, rfl, rfl⟩))), h28⟩) | (exact ⟨_, .inr (.inr (.inr (.inr ⟨.inl ⟨by omega, rfl⟩, rfl, rfl, rfl, rfl⟩))), h9⟩) | (exact ⟨_, .inr (.inr (.inr (.inr ⟨.inr ⟨by omega, rfl⟩, rfl, rfl, rfl, rfl⟩))), h9⟩)
       ·
        try simp only [Z1, Z2, Z3, Z4, Z5, Z6, Z7, Z8, Z9, Z0] at q16
        refine WC.cut (ι := Bool) (fun (bb : Bool) => [(0, v9), (4, u), (6, S (rt.take b0.toNat)), (7, .int .u8 ((rt.getD b0.toNat 0).toNat : Int)), (8, Pt hb 0), (45, .int .u8 ((rt.getD b0.toNat 0).toNat : Int)), (51, .bool bb)]) (fun (bb : Bool) => [[(hb, .cells #[I 0, I 0, I 0, S []] 24 (0, 0))], Z, A]) (fun (bb : Bool) => (bb = true → 2 ≤ (rt.getD b0.toNat 0).toNat ∧ (rt.getD b0.toNat 0).toNat ≤ 5) ∧ (bb = false → ¬ (2 ≤ (rt.getD b0.toNat 0).toNat ∧ (rt.getD b0.toNat 0).toNat ≤ 5))) ?_ ?_
        ·
         refine WC.seq (WC.region ?_)
         refine WL.q (oq_eql rfl rfl) rfl rfl rfl ?_
         refine WL.q (oq_assign rfl) rfl rfl rfl ?_
         refine WL.nil (WE.then_normal (WC.sub (fr' := [(0, _), (4, _), (6, _), (7, _), (8, _), (45, _), (51, _)]) ?_ ⟨rfl, rfl, rfl, rfl, rfl, rfl, rfl, trivial⟩))
         refine WC.cond rfl (fun q17 => ?_) (fun q17 => ?_)
         ·
          try simp only [Z1, Z2, Z3, Z4, Z5, Z6, Z7, Z8, Z9, Z0] at q17
          refine WC.skip ?_
          refine WE.meet _ ?_ ⟨rfl, rfl, rfl, rfl, rfl, rfl, rfl, trivial⟩ (List.Perm.refl _)
          try dsimp only
          exact ⟨fun h => by simp only [decide_eq_true_eq, reduceCtorEq] at h <;> omega, fun h => by simp only [decide_eq_false_iff_not, reduceCtorEq] at h <;> omega⟩
         ·
          try simp only [Z1, Z2, Z3, Z4, Z5, Z6, Z7, Z8, Z9, Z0] at q17
          refine WC.seq (WC.region ?_)
          refine WL.q (oq_eql rfl rfl) rfl rfl rfl ?_
          refine WL.q (oq_assign rfl) rfl rfl rfl ?_
          refine WL.nil (WE.then_normal (WC.sub (fr' := [(0, _), (4, _), (6, _), (7, _), (8, _), (45, _), (51, _)]) ?_ ⟨rfl, rfl, rfl, rfl, rfl, rfl, rfl, trivial⟩))
          refine WC.cond rfl (fun q18 => ?_) (fun q18 => ?_)
          ·
           try simp only [Z1, Z2, Z3, Z4, Z5, Z6, Z7, Z8, Z9, Z0] at q18
           refine WC.skip ?_
           refine WE.meet _ ?_ ⟨rfl, rfl, rfl, rfl, rfl, rfl, rfl, trivial⟩ (List.Perm.refl _)
           try dsimp only
           exact ⟨fun h => by simp only [decide_eq_true_eq, reduceCtorEq] at h <;> omega, fun h => by simp only [decide_eq_false_iff_not, reduceCtorEq] at h <;> omega⟩
          ·
           try simp only [Z1, Z2, Z3, Z4, Z5, Z6, Z7, Z8, Z9, Z0] at q18
           refine WC.seq (WC.region ?_)
           refine WL.q (oq_eql rfl rfl) rfl rfl rfl ?_
           refine WL.q (oq_assign rfl) rfl rfl rfl ?_
           refine WL.nil (WE.then_normal (WC.sub (fr' := [(0, _), (4, _), (6, _), (7, _), (8, _), (45, _), (51, _)]) ?_ ⟨rfl, rfl, rfl, rfl, rfl, rfl, rfl, trivial⟩))
           refine WC.cond rfl (fun q19 => ?_) (fun q19 => ?_)
           ·
            try simp only [Z1, Z2, Z3, Z4, Z5, Z6, Z7, Z8, Z9, Z0] at q19
            refine WC.skip ?_
            refine WE.meet _ ?_ ⟨rfl, rfl, rfl, rfl, rfl, rfl, rfl, trivial⟩ (List.Perm.refl _)
            try dsimp only
            exact ⟨fun h => by simp only [decide_eq_true_eq, reduceCtorEq] at h <;> omega, fun h => by simp only [decide_eq_false_iff_not, reduceCtorEq] at h <;> omega⟩
           ·
            try simp only [Z1, Z2, Z3, Z4, Z5, Z6, Z7, Z8, Z9, Z0] at q19
            refine WC.region ?_
            refine WL.q (oq_eql rfl rfl) rfl rfl rfl ?_
            refine WL.q (oq_assign rfl) rfl rfl rfl ?_
            refine WL.nil ?_
            refine WE.meet _ ?_ ⟨rfl, rfl, rfl, rfl, rfl, rfl, rfl, trivial⟩ (List.Perm.refl _)
            try dsimp only
            exact ⟨fun h => by simp only [decide_eq_true_eq, reduceCtorEq] at h <;> omega, fun h => by simp only [decide_eq_false_iff_not, reduceCtorEq] at h <;> omega⟩
        ·rintro bb hp
         try dsimp only at hp
         obtain ⟨hb1, hb2⟩ := hp
         show WC _ _ _ _ _ _ ([(0, v9), (4, u), (6, S (rt.take b0.toNat)), (7, .int .u8 ((rt.getD b0.toNat 0).toNat : Int)), (8, Pt hb 0), (45, .int .u8 ((rt.getD b0.toNat 0).toNat : Int)), (51, .bool bb)]) ([[(hb, .cells #[I 0, I 0, I 0, S []] 24 (0, 0))], Z, A])
         refine WC.cond rfl (fun qNone => ?_) (fun qNone => ?_)
         ·
          try simp only [Z1, Z2, Z3, Z4, Z5, Z6, Z7, Z8, Z9, Z0] at qNone
          refine WC.seq ?_
          have hk21 := hb1 (by assumption)
          have hk25 : 2 ≤ ((rt.getD b0.toNat 0).toNat : Int) ∧ ((rt.getD b0.toNat 0).toNat : Int) ≤ 5 := by omega
          have hsb := szI_b ((rt.getD b0.toNat 0).toNat : Int)
          refine WC.region ?_
          refine WL.q (oq_move rfl) rfl rfl rfl ?_
          refine WL.q (oq_sub rfl rfl (by rw [u8_lo, u8_hi]; (first | omega | (simp only [List.length_cons, List.length_nil, List.length_append, List.length_drop, List.length_take]; omega)))) rfl rfl rfl ?_
          refine WL.q (oq_szI hk25 rfl rfl) rfl rfl rfl ?_
          refine WL.q (oq_assign rfl) rfl rfl rfl ?_
          refine WL.nil (WE.then_normal (WC.sub (fr' := [(0, _), (4, _), (6, _), (7, _), (8, _), (9, _)]) ?_ ⟨rfl, rfl, rfl, rfl, rfl, rfl, trivial⟩))
          refine WC.region ?_
          refine WL.q (oq_move rfl) rfl rfl rfl ?_
          refine WL.q (oq_mul rfl rfl (by rw [i64_lo, i64_hi]; (first | omega | (simp only [List.length_cons, List.length_nil, List.length_append, List.length_drop, List.length_take]; omega)))) rfl rfl rfl ?_
          refine WL.q (oq_fieldAddr fld24_0 rfl) rfl rfl rfl ?_
          refine WL.store1 #[_, _, _, _] ty3 rfl rfl (by first | rfl | exact OwS.one one_) (Nat.lt_of_lt_of_le (Nat.lt_succ_self _) (Nat.le_of_ble_eq_true rfl)) rfl rfl ?_
          refine WL.q (oq_fieldAddr fld24_1 rfl) rfl rfl rfl ?_
          refine WL.store1 #[_, _, _, _] ty3 rfl rfl (by first | rfl | exact OwS.one one_) (Nat.lt_of_lt_of_le (Nat.lt_succ_self _) (Nat.le_of_ble_eq_true rfl)) rfl rfl ?_
          refine WL.nil (WE.block_normal ?_)
          refine WE.meet (_, _, _, _, _) ?_ ⟨rfl, rfl, rfl, rfl, rfl, rfl, trivial⟩ (List.Perm.refl _)
          try dsimp only
          first | (exfalso; omega) | (exact ⟨_, .inl ⟨by omega, by omega, rfl, rfl, rfl, rfl, rfl⟩, h9⟩) | (exact ⟨_, .inr (.inl ⟨by omega, rfl, rfl, rfl, rfl, rfl⟩), h9⟩) | (exact ⟨_, .inr (.inr (.inl ⟨by omega, rfl, rfl, rfl, rfl, rfl⟩)), h9⟩) | (exact ⟨_, .inr (.inr (.inr (.inl ⟨.inl ⟨by omega, rfl⟩, rfl, rfl, by omega, rfl, rfl⟩))), h28⟩) | (exact ⟨_, .inr (.inr (.inr (.inl ⟨.inr ⟨by omega, rfl⟩, rfl, rfl, by omega, rfl, rfl⟩))), h28⟩) | (exact ⟨_, .inr (.inr (.inr (.inr ⟨.inl ⟨by omega, rfl⟩, rfl, rfl, rfl, rfl⟩))), h9⟩) | (exact ⟨_, .inr (.inr (.inr (.inr ⟨.inr ⟨by omega, rfl⟩, rfl, rfl, rfl, rfl⟩))), h9⟩)
         ·
          try simp only [Z1, Z2, Z3, Z4, Z5, Z6, Z7, Z8, Z9, Z0] at qNone
          refine WC.cut (ι := Bool) (fun (bc : Bool) => [(0, v9), (4, u), (6, S (rt.take b0.toNat)), (7, .int .u8 ((rt.getD b0.toNat 0).toNat : Int)), (8, Pt hb 0), (45, .int .u8 ((rt.getD b0.toNat 0).toNat : Int)), (63, .bool bc)]) (fun (bc : Bool) => [[(hb, .cells #[I 0, I 0, I 0, S []] 24 (0, 0))], Z, A]) (fun (bc : Bool) => (bc = true → (rt.getD b0.toNat 0).toNat = 6 ∨ (rt.getD b0.toNat 0).toNat = 7) ∧ (bc = false → (rt.getD b0.toNat 0).toNat ≠ 6 ∧ (rt.getD b0.toNat 0).toNat ≠ 7) ∧ ¬ (2 ≤ (rt.getD b0.toNat 0).toNat ∧ (rt.getD b0.toNat 0).toNat ≤ 5)) ?_ ?_
          ·
           refine WC.seq ?_
           have hk23 := hb2 (by assumption)
           refine WC.region ?_
           refine WL.q (oq_eql rfl rfl) rfl rfl rfl ?_
           refine WL.q (oq_assign rfl) rfl rfl rfl ?_
           refine WL.nil (WE.then_normal (WC.sub (fr' := [(0, _), (4, _), (6, _), (7, _), (8, _), (45, _), (63, _)]) ?_ ⟨rfl, rfl, rfl, rfl, rfl, rfl, rfl, trivial⟩))
           refine WC.cond rfl (fun q23 => ?_) (fun q23 => ?_)
           ·
            try simp only [Z1, Z2, Z3, Z4, Z5, Z6, Z7, Z8, Z9, Z0] at q23
            refine WC.skip ?_
            refine WE.meet _ ?_ ⟨rfl, rfl, rfl, rfl, rfl, rfl, rfl, trivial⟩ (List.Perm.refl _)
            try dsimp only
            exact ⟨fun h => by simp only [decide_eq_true_eq, reduceCtorEq] at h <;> omega, fun h => by simp only [decide_eq_false_iff_not, reduceCtorEq] at h <;> omega, hk23⟩
           ·
            try simp only [Z1, Z2, Z3, Z4, Z5, Z6, Z7, Z8, Z9, Z0] at q23
            refine WC.region ?_
            refine WL.q (oq_eql rfl rfl) rfl rfl rfl ?_
            refine WL.q (oq_assign rfl) rfl rfl rfl ?_
            refine WL.nil ?_
            refine WE.meet _ ?_ ⟨rfl, rfl, rfl, rfl, rfl, rfl, rfl, trivial⟩ (List.Perm.refl _)
            try dsimp only
            exact ⟨fun h => by simp only [decide_eq_true_eq, reduceCtorEq] at h <;> omega, fun h => by simp only [decide_eq_false_iff_not, reduceCtorEq] at h <;> omega, hk23⟩
          ·rintro bc hp
           try dsimp only at hp
           obtain ⟨hc1, hc2, hc3⟩ := hp
           show WC _ _ _ _ _ _ ([(0, v9), (4, u), (6, S (rt.take b0.toNat)), (7, .int .u8 ((rt.getD b0.toNat 0).toNat : Int)), (8, Pt hb 0), (45, .int .u8 ((rt.getD b0.toNat 0).toNat : Int)), (63, .bool bc)]) ([[(hb, .cells #[I 0, I 0, I 0, S []] 24 (0, 0))], Z, A])
           refine WC.cond rfl (fun qNone => ?_) (fun qNone => ?_)
           ·
            try simp only [Z1, Z2, Z3, Z4, Z5, Z6, Z7, Z8, Z9, Z0] at qNone
            refine WC.seq (WC.seq ?_)
            have hk67 := hc1 (by assumption)
            refine WC.region ?_
            refine WL.q (oq_move rfl) rfl rfl rfl ?_
            refine WL.q (oq_len_rd h9 Tryz.underlying28 rfl) rfl rfl rfl ?_
            refine WL.q (oq_lss rfl rfl) rfl rfl rfl ?_
            refine WL.nil (WE.then_normal (WC.sub (fr' := [(0, _), (4, _), (6, _), (7, _), (8, _), (68, _)]) ?_ ⟨rfl, rfl, rfl, rfl, rfl, rfl, trivial⟩))
            refine WC.cond rfl (fun q25 => ?_) (fun q25 => ?_)
            ·
             try simp only [Z1, Z2, Z3, Z4, Z5, Z6, Z7, Z8, Z9, Z0] at q25
             refine WC.seq (WC.region ?_)
             refine WL.q (oq_assign rfl) rfl rfl rfl ?_
             refine WL.q (oq_assign rfl) rfl rfl rfl ?_
             refine WL.nil (WE.then_normal (WC.sub (fr' := [(2, _), (3, _)]) ?_ ⟨rfl, rfl, trivial⟩))
             refine WC.ret (WE.then_ret (WE.block_ret (WE.then_ret (WE.block_ret (WE.then_ret (WE.block_ret (WE.then_ret ?_)))))))
             refine WE.lose hhb ?_
             refine WE.forget hZ ?_
             refine WE.add0 ?_
             refine WE.endA (.inl rfl) (res2 Tryz.results55 rfl rfl) ?_ fresh0
             first | (exfalso; omega) | (exact tkr_opn htk rfl (by omega) (by omega)) | (exact tkr_short htk rfl (by omega) (by omega)) | (exact tkr_vo htk rfl hnl (val_other (by omega))) | (exact tkr_vs htk rfl hnl (val_67s (by omega) (by omega))) | (exact tkr_vs htk rfl hnl (prev_short hpv (by omega)))
            ·
             try simp only [Z1, Z2, Z3, Z4, Z5, Z6, Z7, Z8, Z9, Z0] at q25
             refine WC.skip (WE.then_normal (WC.sub (fr' := [(0, _), (4, _), (6, _), (7, _), (8, _)]) ?_ ⟨rfl, rfl, rfl, rfl, rfl, trivial⟩))
             refine WC.seq ?_
             obtain ⟨v27, h27, o27⟩ := sl_b (i := 0) (j := 2) ((rt.drop (b0.toNat + 1)).take 2) h9 (by omega) (by rfl)
             have h27l : ((rt.drop (b0.toNat + 1)).take 2).length ≤ 8 := by rw [List.length_take]; omega
             have h27n := nm_lt' (l := (rt.drop (b0.toNat + 1)).take 2) (n := 2) (by rw [List.length_take]; omega)
             refine WC.region ?_
             refine WL.q (oq_move rfl) rfl rfl rfl ?_
             refine WL.q (o27 Tryz.underlying28 rfl rfl ⟨_, rfl⟩) rfl rfl rfl ?_
             refine WL.qc (oq_callRm (vTaken _ A _ h27 h27l) (.tail _ (.tail _ (.head _))) call54 rfl) rfl rfl rfl ?_
             refine WL.q (oq_conv Tryz.underlying73 Tryz.underlying3 rfl (by rw [i64_lo, i64_hi]; (first | omega | (simp only [List.length_cons, List.length_nil, List.length_append, List.length_drop, List.length_take]; omega)))) rfl rfl rfl ?_
             refine WL.q (oq_assign rfl) rfl rfl rfl ?_
             refine WL.nil (WE.then_normal (WC.sub (fr' := [(0, _), (4, _), (6, _), (7, _), (8, _), (9, _)]) ?_ ⟨rfl, rfl, rfl, rfl, rfl, rfl, trivial⟩))
             refine WC.seq ?_
             obtain ⟨v28, h28, o28⟩ := sl_b (i := 2) (j := ((rt.drop (b0.toNat + 1)).length : Int)) ((rt.drop (b0.toNat + 1)).drop 2) h9 (by omega) (by rw [Int.toNat_natCast, List.take_length]; rfl)
             refine WC.region ?_
             refine WL.q (oq_move rfl) rfl rfl rfl ?_
             refine WL.q (o28 Tryz.underlying28 rfl ⟨_, rfl⟩ rfl) rfl rfl rfl ?_
             refine WL.q (oq_assign rfl) rfl rfl rfl ?_
             refine WL.nil (WE.then_normal (WC.sub (fr' := [(0, _), (4, _), (6, _), (7, _), (8, _), (9, _)]) ?_ ⟨rfl, rfl, rfl, rfl, rfl, rfl, trivial⟩))
             refine WC.seq (WC.region ?_)
             refine WL.q (oq_fieldAddr fld24_0 rfl) rfl rfl rfl ?_
             refine WL.store1 #[_, _, _, _] ty3 rfl rfl (by first | rfl | exact OwS.one one_) (Nat.lt_of_lt_of_le (Nat.lt_succ_self _) (Nat.le_of_ble_eq_true rfl)) rfl rfl ?_
             refine WL.nil (WE.then_normal (WC.sub (fr' := [(0, _), (4, _), (6, _), (7, _), (8, _), (9, _)]) ?_ ⟨rfl, rfl, rfl, rfl, rfl, rfl, trivial⟩))
             refine WC.seq (WC.region ?_)
             refine WL.q (oq_move rfl) rfl rfl rfl ?_
             refine WL.q (oq_eql rfl rfl) rfl rfl rfl ?_
             refine WL.nil (WE.then_normal (WC.sub (fr' := [(0, _), (4, _), (6, _), (7, _), (8, _), (9, _), (77, _)]) ?_ ⟨rfl, rfl, rfl, rfl, rfl, rfl, rfl, trivial⟩))
             refine WC.cond rfl (fun q30 => ?_) (fun q30 => ?_)
             ·
              try simp only [Z1, Z2, Z3, Z4, Z5, Z6, Z7, Z8, Z9, Z0] at q30
              refine WC.region ?_
              refine WL.q (oq_fieldAddr fld24_0 rfl) rfl rfl rfl ?_
              refine WL.store1 #[_, _, _, _] ty3 rfl rfl (by first | rfl | exact OwS.one one_) (Nat.lt_of_lt_of_le (Nat.lt_succ_self _) (Nat.le_of_ble_eq_true rfl)) rfl rfl ?_
              refine WL.nil (WE.block_normal ?_)
              refine WE.meet (_, _, _, _, _) ?_ ⟨rfl, rfl, rfl, rfl, rfl, rfl, trivial⟩ (List.Perm.refl _)
              try dsimp only
              first | (exfalso; omega) | (exact ⟨_, .inl ⟨by omega, by omega, rfl, rfl, rfl, rfl, rfl⟩, h9⟩) | (exact ⟨_, .inr (.inl ⟨by omega, rfl, rfl, rfl, rfl, rfl⟩), h9⟩) | (exact ⟨_, .inr (.inr (.inl ⟨by omega, rfl, rfl, rfl, rfl, rfl⟩)), h9⟩) | (exact ⟨_, .inr (.inr (.inr (.inl ⟨.inl ⟨by omega, rfl⟩, rfl, rfl, by omega, rfl, rfl⟩))), h28⟩) | (exact ⟨_, .inr (.inr (.inr (.inl ⟨.inr ⟨by omega, rfl⟩, rfl, rfl, by omega, rfl, rfl⟩))), h28⟩) | (exact ⟨_, .inr (.inr (.inr (.inr ⟨.inl ⟨by omega, rfl⟩, rfl, rfl, rfl, rfl⟩))), h9⟩) | (exact ⟨_, .inr (.inr (.inr (.inr ⟨.inr ⟨by omega, rfl⟩, rfl, rfl, rfl, rfl⟩))), h9⟩)
             ·
              try simp only [Z1, Z2, Z3, Z4, Z5, Z6, Z7, Z8, Z9, Z0] at q30
              refine WC.skip (WE.block_normal ?_)
              refine WE.meet (_, _, _, _, _) ?_ ⟨rfl, rfl, rfl, rfl, rfl, rfl, trivial⟩ (List.Perm.refl _)
              try dsimp only
              first | (exfalso; omega) | (exact ⟨_, .inl ⟨by omega, by omega, rfl, rfl, rfl, rfl, rfl⟩, h9⟩) | (exact ⟨_, .inr (.inl ⟨by omega, rfl, rfl, rfl, rfl, rfl⟩), h9⟩) | (exact ⟨_, .inr (.inr (.inl ⟨by omega, rfl, rfl, rfl, rfl, rfl⟩)), h9⟩) | (exact ⟨_, .inr (.inr (.inr (.inl ⟨.inl ⟨by omega, rfl⟩, rfl, rfl, by omega, rfl, rfl⟩))), h28⟩) | (exact ⟨_, .inr (.inr (.inr (.inl ⟨.inr ⟨by omega, rfl⟩, rfl, rfl, by omega, rfl, rfl⟩))), h28⟩) | (exact ⟨_, .inr (.inr (.inr (.inr ⟨.inl ⟨by omega, rfl⟩, rfl, rfl, rfl, rfl⟩))), h9⟩) | (exact ⟨_, .inr (.inr (.inr (.inr ⟨.inr ⟨by omega, rfl⟩, rfl, rfl, rfl, rfl⟩))), h9⟩)
           ·
            try simp only [Z1, Z2, Z3, Z4, Z5, Z6, Z7, Z8, Z9, Z0] at qNone
            refine WC.seq ?_
            have hk32 := hc2 (by assumption)
            refine WC.region ?_
            refine WL.q (oq_eql rfl rfl) rfl rfl rfl ?_
            refine WL.q (oq_assign rfl) rfl rfl rfl ?_
            refine WL.nil (WE.then_normal (WC.sub (fr' := [(0, _), (4, _), (6, _), (7, _), (8, _), (45, _), (79, _)]) ?_ ⟨rfl, rfl, rfl, rfl, rfl, rfl, rfl, trivial⟩))
            refine WC.cond rfl (fun q32 => ?_) (fun q32 => ?_)
            ·
             try simp only [Z1, Z2, Z3, Z4, Z5, Z6, Z7, Z8, Z9, Z0] at q32
             refine WC.seq (WC.region ?_)
             refine WL.q (oq_assign rfl) rfl rfl rfl ?_
             refine WL.nil (WE.then_normal (WC.sub (fr' := [(0, _), (4, _), (6, _), (7, _), (8, _), (9, _)]) ?_ ⟨rfl, rfl, rfl, rfl, rfl, rfl, trivial⟩))
             refine WC.region ?_
             refine WL.q (oq_fieldAddr fld24_0 rfl) rfl rfl rfl ?_
             refine WL.store1 #[_, _, _, _] ty3 rfl rfl (by first | rfl | exact OwS.one one_) (Nat.lt_of_lt_of_le (Nat.lt_succ_self _) (Nat.le_of_ble_eq_true rfl)) rfl rfl ?_
             refine WL.nil (WE.block_normal ?_)
             refine WE.meet (_, _, _, _, _) ?_ ⟨rfl, rfl, rfl, rfl, rfl, rfl, trivial⟩ (List.Perm.refl _)
             try dsimp only
             first | (exfalso; omega) | (exact ⟨_, .inl ⟨by omega, by omega, rfl, rfl, rfl, rfl, rfl⟩, h9⟩) | (exact ⟨_, .inr (.inl ⟨by omega, rfl, rfl, rfl, rfl, rfl⟩), h9⟩) | (exact ⟨_, .inr (.inr (.inl ⟨by omega, rfl, rfl, rfl, rfl, rfl⟩)), h9⟩) | (exact ⟨_, .inr (.inr (.inr (.inl ⟨.inl ⟨by omega, rfl⟩, rfl, rfl, by omega, rfl, rfl⟩))), h28⟩) | (exact ⟨_, .inr (.inr (.inr (.inl ⟨.inr ⟨by omega, rfl⟩, rfl, rfl, by omega, rfl, rfl⟩))), h28⟩) | (exact ⟨_, .inr (.inr (.inr (.inr ⟨.inl ⟨by omega, rfl⟩, rfl, rfl, rfl, rfl⟩))), h9⟩) | (exact ⟨_, .inr (.inr (.inr (.inr ⟨.inr ⟨by omega, rfl⟩, rfl, rfl, rfl, rfl⟩))), h9⟩)
            ·
             try simp only [Z1, Z2, Z3, Z4, Z5, Z6, Z7, Z8, Z9, Z0] at q32
             refine WC.seq (WC.region ?_)
             refine WL.q (oq_eql rfl rfl) rfl rfl rfl ?_
             refine WL.q (oq_assign rfl) rfl rfl rfl ?_
             refine WL.nil (WE.then_normal (WC.sub (fr' := [(0, _), (4, _), (6, _), (7, _), (8, _), (82, _)]) ?_ ⟨rfl, rfl, rfl, rfl, rfl, rfl, trivial⟩))
             refine WC.cond rfl (fun q35 => ?_) (fun q35 => ?_)
             ·
              try simp only [Z1, Z2, Z3, Z4, Z5, Z6, Z7, Z8, Z9, Z0] at q35
              refine WC.seq (WC.region ?_)
              refine WL.q (oq_assign rfl) rfl rfl rfl ?_
              refine WL.nil (WE.then_normal (WC.sub (fr' := [(0, _), (4, _), (6, _), (7, _), (8, _), (9, _)]) ?_ ⟨rfl, rfl, rfl, rfl, rfl, rfl, trivial⟩))
              refine WC.region ?_
              refine WL.q (oq_fieldAddr fld24_0 rfl) rfl rfl rfl ?_
              refine WL.store1 #[_, _, _, _] ty3 rfl rfl (by first | rfl | exact OwS.one one_) (Nat.lt_of_lt_of_le (Nat.lt_succ_self _) (Nat.le_of_ble_eq_true rfl)) rfl rfl ?_
              refine WL.nil (WE.block_normal ?_)
              refine WE.meet (_, _, _, _, _) ?_ ⟨rfl, rfl, rfl, rfl, rfl, rfl, trivial⟩ (List.Perm.refl _)
              try dsimp only
              first | (exfalso; omega) | (exact ⟨_, .inl ⟨by omega, by omega, rfl, rfl, rfl, rfl, rfl⟩, h9⟩) | (exact ⟨_, .inr (.inl ⟨by omega, rfl, rfl, rfl, rfl, rfl⟩), h9⟩) | (exact ⟨_, .inr (.inr (.inl ⟨by omega, rfl, rfl, rfl, rfl, rfl⟩)), h9⟩) | (exact ⟨_, .inr (.inr (.inr (.inl ⟨.inl ⟨by omega, rfl⟩, rfl, rfl, by omega, rfl, rfl⟩))), h28⟩) | (exact ⟨_, .inr (.inr (.inr (.inl ⟨.inr ⟨by omega, rfl⟩, rfl, rfl, by omega, rfl, rfl⟩))), h28⟩) | (exact ⟨_, .inr (.inr (.inr (.inr ⟨.inl ⟨by omega, rfl⟩, rfl, rfl, rfl, rfl⟩))), h9⟩) | (exact ⟨_, .inr (.inr (.inr (.inr ⟨.inr ⟨by omega, rfl⟩, rfl, rfl, rfl, rfl⟩))), h9⟩)
             ·
              try simp only [Z1, Z2, Z3, Z4, Z5, Z6, Z7, Z8, Z9, Z0] at q35
              refine WC.seq (WC.region ?_)
              refine WL.q (oq_assign rfl) rfl rfl rfl ?_
              refine WL.q (oq_assign rfl) rfl rfl rfl ?_
              refine WL.nil (WE.then_normal (WC.sub (fr' := [(2, _), (3, _)]) ?_ ⟨rfl, rfl, trivial⟩))
              refine WC.ret (WE.block_ret (WE.then_ret (WE.block_ret (WE.then_ret (WE.block_ret (WE.then_ret ?_))))))
              refine WE.lose hhb ?_
              refine WE.forget hZ ?_
              refine WE.add0 ?_
              refine WE.endA (.inl rfl) (res2 Tryz.results55 rfl rfl) ?_ fresh0
              first | (exfalso; omega) | (exact tkr_opn htk rfl (by omega) (by omega)) | (exact tkr_short htk rfl (by omega) (by omega)) | (exact tkr_vo htk rfl hnl (val_other (by omega))) | (exact tkr_vs htk rfl hnl (val_67s (by omega) (by omega))) | (exact tkr_vs htk rfl hnl (prev_short hpv (by omega)))
     ·rintro ⟨v2, kd, w, i0, sz⟩ hp
      try dsimp only at hp
      obtain ⟨r2, hpv, h2⟩ := hp
      show WC _ _ _ _ _ _ ([(0, v2), (4, u), (6, S (rt.take b0.toNat)), (7, .int .u8 ((rt.getD b0.toNat 0).toNat : Int)), (8, Pt hb 0), (9, I sz)]) ([[(hb, .cells #[I kd, I w, I i0, S []] 24 (0, 0))], Z, A])
      obtain ⟨hsz0, hk9, hr2l⟩ := prev_sz hpv
      refine WC.seq (WC.seq (WC.region ?_))
      refine WL.q (oq_move rfl) rfl rfl rfl ?_
      refine WL.q (oq_len_rd h2 Tryz.underlying28 rfl) rfl rfl rfl ?_
      refine WL.q (oq_move rfl) rfl rfl rfl ?_
      refine WL.q (oq_lss rfl rfl) rfl rfl rfl ?_
      refine WL.nil (WE.then_normal (WC.sub (fr' := [(0, _), (4, _), (6, _), (7, _), (8, _), (9, _), (88, _)]) ?_ ⟨rfl, rfl, rfl, rfl, rfl, rfl, rfl, trivial⟩))
      refine WC.cond rfl (fun q38 => ?_) (fun q38 => ?_)
      ·
       try simp only [Z1, Z2, Z3, Z4, Z5, Z6, Z7, Z8, Z9, Z0] at q38
       refine WC.seq (WC.region ?_)
       refine WL.q (oq_assign rfl) rfl rfl rfl ?_
       refine WL.q (oq_assign rfl) rfl rfl rfl ?_
       refine WL.nil (WE.then_normal (WC.sub (fr' := [(2, _), (3, _)]) ?_ ⟨rfl, rfl, trivial⟩))
       refine WC.ret (WE.then_ret (WE.block_ret (WE.then_ret (WE.block_ret (WE.then_ret ?_)))))
       refine WE.lose hhb ?_
       refine WE.forget hZ ?_
       refine WE.add0 ?_
       refine WE.endA (.inl rfl) (res2 Tryz.results55 rfl rfl) ?_ fresh0
       first | (exfalso; omega) | (exact tkr_opn htk rfl (by omega) (by omega)) | (exact tkr_short htk rfl (by omega) (by omega)) | (exact tkr_vo htk rfl hnl (val_other (by omega))) | (exact tkr_vs htk rfl hnl (val_67s (by omega) (by omega))) | (exact tkr_vs htk rfl hnl (prev_short hpv (by omega)))
      ·
       try simp only [Z1, Z2, Z3, Z4, Z5, Z6, Z7, Z8, Z9, Z0] at q38
       refine WC.skip (WE.then_normal (WC.sub (fr' := [(0, _), (4, _), (6, _), (7, _), (8, _), (9, _)]) ?_ ⟨rfl, rfl, rfl, rfl, rfl, rfl, trivial⟩))
       refine WC.cut (ι := Int × (List UInt8)) (fun i_ => (fun (i1 : Int) (tx : List UInt8) => [(0, v2), (4, u), (6, S (rt.take b0.toNat)), (8, Pt hb 0), (9, I sz)]) i_.1 i_.2) (fun i_ => (fun (i1 : Int) (tx : List UInt8) => [[(hb, .cells #[I kd, I w, I i1, S tx] 24 (0, 0))], Z, A]) i_.1 i_.2) (fun i_ => (fun (i1 : Int) (tx : List UInt8) => val (rt.getD b0.toNat 0) (rt.drop (b0.toNat + 1)) = .ok kd w i1 tx (r2.drop sz.toNat) ∧ True) i_.1 i_.2) ?_ ?_
       ·
        refine WC.block (WC.seq (WC.region ?_))
        refine WL.q (oq_move rfl) rfl rfl rfl ?_
        refine WL.q (oq_geq rfl rfl) rfl rfl rfl ?_
        refine WL.q (oq_move rfl) rfl rfl rfl ?_
        refine WL.split 92 rfl (fun s40_2 => ?_) (fun s40_2 => ?_)
        ·
         try simp only [Z1, Z2, Z3, Z4, Z5, Z6, Z7, Z8, Z9, Z0] at s40_2
         refine WL.q (oq_move rfl) rfl rfl rfl ?_
         refine WL.q (oq_leq rfl rfl) rfl rfl rfl ?_
         refine WL.q (oq_pick_t rfl rfl) rfl rfl rfl ?_
         refine WL.q (oq_assign rfl) rfl rfl rfl ?_
         refine WL.nil (WE.then_normal (WC.sub (fr' := [(0, _), (4, _), (6, _), (7, _), (8, _), (9, _), (89, _)]) ?_ ⟨rfl, rfl, rfl, rfl, rfl, rfl, rfl, trivial⟩))
         refine WC.cond rfl (fun q40 => ?_) (fun q40 => ?_)
         ·
          try simp only [Z1, Z2, Z3, Z4, Z5, Z6, Z7, Z8, Z9, Z0] at q40
          refine WC.seq (WC.region ?_)
          refine WL.q (oq_fieldAddr fld24_1 rfl) rfl rfl rfl ?_
          refine WL.q (oq_load flat3 rfl (.head _) (List.mem_singleton.2 rfl) rfl) rfl rfl rfl ?_
          refine WL.q (oq_assign rfl) rfl rfl rfl ?_
          refine WL.nil (WE.then_normal (WC.sub (fr' := [(0, _), (4, _), (6, _), (8, _), (9, _), (10, _)]) ?_ ⟨rfl, rfl, rfl, rfl, rfl, rfl, trivial⟩))
          have hsb := szI_b ((rt.getD b0.toNat 0).toNat : Int)
          obtain ⟨hw8, hs8⟩ : w = 8 * sz ∧ sz ≤ 8 := by
           rcases hpv with ⟨_, _, _, e, e2, _⟩ | ⟨e, _⟩ | ⟨e, _⟩ | ⟨e, _⟩ | ⟨e, _⟩ <;> omega
          obtain ⟨v42, h42, o42⟩ := sl_b (i := 0) (j := sz) (r2.take sz.toNat) h2 (by omega) (by rfl)
          have h42l : (r2.take sz.toNat).length ≤ 8 := by rw [List.length_take]; omega
          refine WC.region ?_
          refine WL.q (oq_move rfl) rfl rfl rfl ?_
          refine WL.q (oq_move rfl) rfl rfl rfl ?_
          refine WL.q (o42 Tryz.underlying28 rfl rfl ⟨_, rfl⟩) rfl rfl rfl ?_
          refine WL.qc (oq_callRm (vTaken _ A _ h42 h42l) (.tail _ (.tail _ (.head _))) call54 rfl) rfl rfl rfl ?_
          refine WL.q (oq_convw Tryz.underlying73 Tryz.underlying2 rfl) rfl rfl rfl ?_
          refine WL.q (oq_move rfl) rfl rfl rfl ?_
          refine WL.q (oq_sub rfl rfl (by rw [i64_lo, i64_hi]; (first | omega | (simp only [List.length_cons, List.length_nil, List.length_append, List.length_drop, List.length_take]; omega)))) rfl rfl rfl ?_
          refine WL.q (oq_shl rfl rfl (by omega)) rfl rfl rfl ?_
          refine WL.q (oq_move rfl) rfl rfl rfl ?_
          refine WL.q (oq_sub rfl rfl (by rw [i64_lo, i64_hi]; (first | omega | (simp only [List.length_cons, List.length_nil, List.length_append, List.length_drop, List.length_take]; omega)))) rfl rfl rfl ?_
          refine WL.q (oq_shr rfl rfl (by omega)) rfl rfl rfl ?_
          refine WL.q (oq_fieldAddr fld24_2 rfl) rfl rfl rfl ?_
          refine WL.store1 #[_, _, _, _] ty2 rfl rfl (by first | rfl | exact OwS.one one_) (Nat.lt_of_lt_of_le (Nat.lt_succ_self _) (Nat.le_of_ble_eq_true rfl)) rfl rfl ?_
          refine WL.nil (WE.block_normal ?_)
          refine WE.meet (_, _) ?_ ⟨rfl, rfl, rfl, rfl, rfl, trivial⟩ (List.Perm.refl _)
          try dsimp only
          first | (exfalso; omega) | (exact ⟨prev_int hpv (by omega) (by omega), trivial⟩) | (exact ⟨(prev_ts hpv (by omega) (by omega)).2, trivial⟩) | (exact ⟨prev_txt hpv (by omega) (by omega), trivial⟩) | (exact ⟨prev_bool hpv (by omega), trivial⟩)
         ·
          try simp only [Z1, Z2, Z3, Z4, Z5, Z6, Z7, Z8, Z9, Z0] at q40
          refine WC.seq (WC.region ?_)
          refine WL.q (oq_move rfl) rfl rfl rfl ?_
          refine WL.q (oq_eql rfl rfl) rfl rfl rfl ?_
          refine WL.q (oq_assign rfl) rfl rfl rfl ?_
          refine WL.nil (WE.then_normal (WC.sub (fr' := [(0, _), (4, _), (6, _), (7, _), (8, _), (9, _), (110, _)]) ?_ ⟨rfl, rfl, rfl, rfl, rfl, rfl, rfl, trivial⟩))
          refine WC.cond rfl (fun q43 => ?_) (fun q43 => ?_)
          ·
           try simp only [Z1, Z2, Z3, Z4, Z5, Z6, Z7, Z8, Z9, Z0] at q43
           obtain ⟨hz8, hval8⟩ := prev_ts hpv (by omega) (by omega)
           obtain ⟨v44, h44, o44⟩ := sl_b (i := 0) (j := 8) (r2.take 8) h2 (by omega) (by rfl)
           have h44l : (r2.take 8).length ≤ 8 := by rw [List.length_take]; omega
           refine WC.region ?_
           refine WL.q (oq_move rfl) rfl rfl rfl ?_
           refine WL.q (o44 Tryz.underlying28 rfl rfl ⟨_, rfl⟩) rfl rfl rfl ?_
           refine WL.qc (oq_callRm (vTaken _ A _ h44 h44l) (.tail _ (.tail _ (.head _))) call54 rfl) rfl rfl rfl ?_
           refine WL.q (oq_convw Tryz.underlying73 Tryz.underlying2 rfl) rfl rfl rfl ?_
           refine WL.q (oq_fieldAddr fld24_2 rfl) rfl rfl rfl ?_
           refine WL.store1 #[_, _, _, _] ty2 rfl rfl (by first | rfl | exact OwS.one one_) (Nat.lt_of_lt_of_le (Nat.lt_succ_self _) (Nat.le_of_ble_eq_true rfl)) rfl rfl ?_
           refine WL.nil (WE.block_normal ?_)
           refine WE.meet (_, _) ?_ ⟨rfl, rfl, rfl, rfl, rfl, trivial⟩ (List.Perm.refl _)
           try dsimp only
           first | (exfalso; omega) | (exact ⟨prev_int hpv (by omega) (by omega), trivial⟩) | (exact ⟨(prev_ts hpv (by omega) (by omega)).2, trivial⟩) | (exact ⟨prev_txt hpv (by omega) (by omega), trivial⟩) | (exact ⟨prev_bool hpv (by omega), trivial⟩)
          ·
           try simp only [Z1, Z2, Z3, Z4, Z5, Z6, Z7, Z8, Z9, Z0] at q43
           refine WC.seq (WC.region ?_)
           refine WL.q (oq_move rfl) rfl rfl rfl ?_
           refine WL.q (oq_eql rfl rfl) rfl rfl rfl ?_
           refine WL.q (oq_move rfl) rfl rfl rfl ?_
           refine WL.split 121 rfl (fun s45_2 => ?_) (fun s45_2 => ?_)
           ·
            try simp only [Z1, Z2, Z3, Z4, Z5, Z6, Z7, Z8, Z9, Z0] at s45_2
            refine WL.skip rfl rfl rfl ?_
            refine WL.skip rfl rfl rfl ?_
            refine WL.q (oq_pick_t rfl rfl) rfl rfl rfl ?_
            refine WL.q (oq_move rfl) rfl rfl rfl ?_
            refine WL.skip rfl rfl rfl ?_
            refine WL.skip rfl rfl rfl ?_
            refine WL.q (oq_pick_t rfl rfl) rfl rfl rfl ?_
            refine WL.q (oq_assign rfl) rfl rfl rfl ?_
            refine WL.nil (WE.then_normal (WC.sub (fr' := [(0, _), (4, _), (6, _), (8, _), (9, _), (118, _)]) ?_ ⟨rfl, rfl, rfl, rfl, rfl, rfl, trivial⟩))
            refine WC.cond_t rfl ?_
            obtain ⟨v46, h46, o46⟩ := sl_b (i := 0) (j := sz) (r2.take sz.toNat) h2 (by omega) (by rfl)
            refine WC.region ?_
            refine WL.q (oq_move rfl) rfl rfl rfl ?_
            refine WL.q (oq_move rfl) rfl rfl rfl ?_
            refine WL.q (o46 Tryz.underlying28 rfl rfl ⟨_, rfl⟩) rfl rfl rfl ?_
            refine WL.q (oq_bytesStr h46 (.tail _ (.tail _ (.head _))) Tryz.underlying9 Tryz.underlying28 Tryz.underlying5 rfl) rfl rfl rfl ?_
            refine WL.q (oq_fieldAddr fld24_3 rfl) rfl rfl rfl ?_
            refine WL.store1 #[_, _, _, _] ty9 rfl rfl (by first | rfl | exact OwS.one one_) (Nat.lt_of_lt_of_le (Nat.lt_succ_self _) (Nat.le_of_ble_eq_true rfl)) rfl rfl ?_
            refine WL.nil (WE.block_normal ?_)
            refine WE.meet (_, _) ?_ ⟨rfl, rfl, rfl, rfl, rfl, trivial⟩ (List.Perm.refl _)
            try dsimp only
            first | (exfalso; omega) | (exact ⟨prev_int hpv (by omega) (by omega), trivial⟩) | (exact ⟨(prev_ts hpv (by omega) (by omega)).2, trivial⟩) | (exact ⟨prev_txt hpv (by omega) (by omega), trivial⟩) | (exact ⟨prev_bool hpv (by omega), trivial⟩)
           ·
            try simp only [Z1, Z2, Z3, Z4, Z5, Z6, Z7, Z8, Z9, Z0] at s45_2
            refine WL.q (oq_move rfl) rfl rfl rfl ?_
            refine WL.q (oq_eql rfl rfl) rfl rfl rfl ?_
            refine WL.q (oq_pick_f rfl rfl) rfl rfl rfl ?_
            refine WL.q (oq_move rfl) rfl rfl rfl ?_
            refine WL.split 125 rfl (fun s45_6 => ?_) (fun s45_6 => ?_)
            ·
             try simp only [Z1, Z2, Z3, Z4, Z5, Z6, Z7, Z8, Z9, Z0] at s45_6
             refine WL.skip rfl rfl rfl ?_
             refine WL.skip rfl rfl rfl ?_
             refine WL.q (oq_pick_t rfl rfl) rfl rfl rfl ?_
             refine WL.q (oq_assign rfl) rfl rfl rfl ?_
             refine WL.nil (WE.then_normal (WC.sub (fr' := [(0, _), (4, _), (6, _), (8, _), (9, _), (118, _)]) ?_ ⟨rfl, rfl, rfl, rfl, rfl, rfl, trivial⟩))
             refine WC.cond_t rfl ?_
             obtain ⟨v46, h46, o46⟩ := sl_b (i := 0) (j := sz) (r2.take sz.toNat) h2 (by omega) (by rfl)
             refine WC.region ?_
             refine WL.q (oq_move rfl) rfl rfl rfl ?_
             refine WL.q (oq_move rfl) rfl rfl rfl ?_
             refine WL.q (o46 Tryz.underlying28 rfl rfl ⟨_, rfl⟩) rfl rfl rfl ?_
             refine WL.q (oq_bytesStr h46 (.tail _ (.tail _ (.head _))) Tryz.underlying9 Tryz.underlying28 Tryz.underlying5 rfl) rfl rfl rfl ?_
             refine WL.q (oq_fieldAddr fld24_3 rfl) rfl rfl rfl ?_
             refine WL.store1 #[_, _, _, _] ty9 rfl rfl (by first | rfl | exact OwS.one one_) (Nat.lt_of_lt_of_le (Nat.lt_succ_self _) (Nat.le_of_ble_eq_true rfl)) rfl rfl ?_
             refine WL.nil (WE.block_normal ?_)
             refine WE.meet (_, _) ?_ ⟨rfl, rfl, rfl, rfl, rfl, trivial⟩ (List.Perm.refl _)
             try dsimp only
             first | (exfalso; omega) | (exact ⟨prev_int hpv (by omega) (by omega), trivial⟩) | (exact ⟨(prev_ts hpv (by omega) (by omega)).2, trivial⟩) | (exact ⟨prev_txt hpv (by omega) (by omega), trivial⟩) | (exact ⟨prev_bool hpv (by omega), trivial⟩)
            ·
             try simp only [Z1, Z2, Z3, Z4, Z5, Z6, Z7, Z8, Z9, Z0] at s45_6
             refine WL.q (oq_move rfl) rfl rfl rfl ?_
             refine WL.q (oq_eql rfl rfl) rfl rfl rfl ?_
             refine WL.q (oq_pick_f rfl rfl) rfl rfl rfl ?_
             refine WL.q (oq_assign rfl) rfl rfl rfl ?_
             refine WL.nil (WE.then_normal (WC.sub (fr' := [(0, _), (4, _), (6, _), (8, _), (9, _), (118, _)]) ?_ ⟨rfl, rfl, rfl, rfl, rfl, rfl, trivial⟩))
             refine WC.cond rfl (fun q45 => ?_) (fun q45 => ?_)
             ·
              try simp only [Z1, Z2, Z3, Z4, Z5, Z6, Z7, Z8, Z9, Z0] at q45
              obtain ⟨v46, h46, o46⟩ := sl_b (i := 0) (j := sz) (r2.take sz.toNat) h2 (by omega) (by rfl)
              refine WC.region ?_
              refine WL.q (oq_move rfl) rfl rfl rfl ?_
              refine WL.q (oq_move rfl) rfl rfl rfl ?_
              refine WL.q (o46 Tryz.underlying28 rfl rfl ⟨_, rfl⟩) rfl rfl rfl ?_
              refine WL.q (oq_bytesStr h46 (.tail _ (.tail _ (.head _))) Tryz.underlying9 Tryz.underlying28 Tryz.underlying5 rfl) rfl rfl rfl ?_
              refine WL.q (oq_fieldAddr fld24_3 rfl) rfl rfl rfl ?_
              refine WL.store1 #[_, _, _, _] ty9 rfl rfl (by first | rfl | exact OwS.one one_) (Nat.lt_of_lt_of_le (Nat.lt_succ_self _) (Nat.le_of_ble_eq_true rfl)) rfl rfl ?_
              refine WL.nil (WE.block_normal ?_)
              refine WE.meet (_, _) ?_ ⟨rfl, rfl, rfl, rfl, rfl, trivial⟩ (List.Perm.refl _)
              try dsimp only
              first | (exfalso; omega) | (exact ⟨prev_int hpv (by omega) (by omega), trivial⟩) | (exact ⟨(prev_ts hpv (by omega) (by omega)).2, trivial⟩) | (exact ⟨prev_txt hpv (by omega) (by omega), trivial⟩) | (exact ⟨prev_bool hpv (by omega), trivial⟩)
             ·
              try simp only [Z1, Z2, Z3, Z4, Z5, Z6, Z7, Z8, Z9, Z0] at q45
              refine WC.skip (WE.block_normal ?_)
              refine WE.meet (_, _) ?_ ⟨rfl, rfl, rfl, rfl, rfl, trivial⟩ (List.Perm.refl _)
              try dsimp only
              first | (exfalso; omega) | (exact ⟨prev_int hpv (by omega) (by omega), trivial⟩) | (exact ⟨(prev_ts hpv (by omega) (by omega)).2, trivial⟩) | (exact ⟨prev_txt hpv (by omega) (by omega), trivial⟩) | (exact ⟨prev_bool hpv (by omega), trivial⟩)
        ·
         try simp only [Z1, Z2, Z3, Z4, Z5, Z6, Z7, Z8, Z9, Z0] at s40_2
         refine WL.skip rfl rfl rfl ?_
         refine WL.skip rfl rfl rfl ?_
         refine WL.q (oq_pick_f rfl rfl) rfl rfl rfl ?_
         refine WL.q (oq_assign rfl) rfl rfl rfl ?_
         refine WL.nil (WE.then_normal (WC.sub (fr' := [(0, _), (4, _), (6, _), (7, _), (8, _), (9, _), (89, _)]) ?_ ⟨rfl, rfl, rfl, rfl, rfl, rfl, rfl, trivial⟩))
         refine WC.cond_f rfl ?_
         refine WC.seq (WC.region ?_)
         refine WL.q (oq_move rfl) rfl rfl rfl ?_
         refine WL.q (oq_eql rfl rfl) rfl rfl rfl ?_
         refine WL.q (oq_assign rfl) rfl rfl rfl ?_
         refine WL.nil (WE.then_normal (WC.sub (fr' := [(0, _), (4, _), (6, _), (7, _), (8, _), (9, _), (110, _)]) ?_ ⟨rfl, rfl, rfl, rfl, rfl, rfl, rfl, trivial⟩))
         refine WC.cond rfl (fun q43 => ?_) (fun q43 => ?_)
         ·
          try simp only [Z1, Z2, Z3, Z4, Z5, Z6, Z7, Z8, Z9, Z0] at q43
          obtain ⟨hz8, hval8⟩ := prev_ts hpv (by omega) (by omega)
          obtain ⟨v44, h44, o44⟩ := sl_b (i := 0) (j := 8) (r2.take 8) h2 (by omega) (by rfl)
          have h44l : (r2.take 8).length ≤ 8 := by rw [List.length_take]; omega
          refine WC.region ?_
          refine WL.q (oq_move rfl) rfl rfl rfl ?_
          refine WL.q (o44 Tryz.underlying28 rfl rfl ⟨_, rfl⟩) rfl rfl rfl ?_
          refine WL.qc (oq_callRm (vTaken _ A _ h44 h44l) (.tail _ (.tail _ (.head _))) call54 rfl) rfl rfl rfl ?_
          refine WL.q (oq_convw Tryz.underlying73 Tryz.underlying2 rfl) rfl rfl rfl ?_
          refine WL.q (oq_fieldAddr fld24_2 rfl) rfl rfl rfl ?_
          refine WL.store1 #[_, _, _, _] ty2 rfl rfl (by first | rfl | exact OwS.one one_) (Nat.lt_of_lt_of_le (Nat.lt_succ_self _) (Nat.le_of_ble_eq_true rfl)) rfl rfl ?_
          refine WL.nil (WE.block_normal ?_)
          refine WE.meet (_, _) ?_ ⟨rfl, rfl, rfl, rfl, rfl, trivial⟩ (List.Perm.refl _)
          try dsimp only
          first | (exfalso; omega) | (exact ⟨prev_int hpv (by omega) (by omega), trivial⟩) | (exact ⟨(prev_ts hpv (by omega) (by omega)).2, trivial⟩) | (exact ⟨prev_txt hpv (by omega) (by omega), trivial⟩) | (exact ⟨prev_bool hpv (by omega), trivial⟩)
         ·
          try simp only [Z1, Z2, Z3, Z4, Z5, Z6, Z7, Z8, Z9, Z0] at q43
          refine WC.seq (WC.region ?_)
          refine WL.q (oq_move rfl) rfl rfl rfl ?_
          refine WL.q (oq_eql rfl rfl) rfl rfl rfl ?_
          refine WL.q (oq_move rfl) rfl rfl rfl ?_
          refine WL.split 121 rfl (fun s45_2 => ?_) (fun s45_2 => ?_)
          ·
           try simp only [Z1, Z2, Z3, Z4, Z5, Z6, Z7, Z8, Z9, Z0] at s45_2
           refine WL.skip rfl rfl rfl ?_
           refine WL.skip rfl rfl rfl ?_
           refine WL.q (oq_pick_t rfl rfl) rfl rfl rfl ?_
           refine WL.q (oq_move rfl) rfl rfl rfl ?_
           refine WL.skip rfl rfl rfl ?_
           refine WL.skip rfl rfl rfl ?_
           refine WL.q (oq_pick_t rfl rfl) rfl rfl rfl ?_
           refine WL.q (oq_assign rfl) rfl rfl rfl ?_
           refine WL.nil (WE.then_normal (WC.sub (fr' := [(0, _), (4, _), (6, _), (8, _), (9, _), (118, _)]) ?_ ⟨rfl, rfl, rfl, rfl, rfl, rfl, trivial⟩))
           refine WC.cond_t rfl ?_
           obtain ⟨v46, h46, o46⟩ := sl_b (i := 0) (j := sz) (r2.take sz.toNat) h2 (by omega) (by rfl)
           refine WC.region ?_
           refine WL.q (oq_move rfl) rfl rfl rfl ?_
           refine WL.q (oq_move rfl) rfl rfl rfl ?_
           refine WL.q (o46 Tryz.underlying28 rfl rfl ⟨_, rfl⟩) rfl rfl rfl ?_
           refine WL.q (oq_bytesStr h46 (.tail _ (.tail _ (.head _))) Tryz.underlying9 Tryz.underlying28 Tryz.underlying5 rfl) rfl rfl rfl ?_
           refine WL.q (oq_fieldAddr fld24_3 rfl) rfl rfl rfl ?_
           refine WL.store1 #[_, _, _, _] ty9 rfl rfl (by first | rfl | exact OwS.one one_) (Nat.lt_of_lt_of_le (Nat.lt_succ_self _) (Nat.le_of_ble_eq_true rfl)) rfl rfl ?_
           refine WL.nil (WE.block_normal ?_)
           refine WE.meet (_, _) ?_ ⟨rfl, rfl, rfl, rfl, rfl, trivial⟩ (List.Perm.refl _)
           try dsimp only
           first | (exfalso; omega) | (exact ⟨prev_int hpv (by omega) (by omega), trivial⟩) | (exact ⟨(prev_ts hpv (by omega) (by omega)).2, trivial⟩) | (exact ⟨prev_txt hpv (by omega) (by omega), trivial⟩) | (exact ⟨prev_bool hpv (by omega), trivial⟩)
          ·
           try simp only [Z1, Z2, Z3, Z4, Z5, Z6, Z7, Z8, Z9, Z0] at s45_2
           refine WL.q (oq_move rfl) rfl rfl rfl ?_
           refine WL.q (oq_eql rfl rfl) rfl rfl rfl ?_
           refine WL.q (oq_pick_f rfl rfl) rfl rfl rfl ?_
           refine WL.q (oq_move rfl) rfl rfl rfl ?_
           refine WL.split 125 rfl (fun s45_6 => ?_) (fun s45_6 => ?_)
           ·
            try simp only [Z1, Z2, Z3, Z4, Z5, Z6, Z7, Z8, Z9, Z0] at s45_6
            refine WL.skip rfl rfl rfl ?_
            refine WL.skip rfl rfl rfl ?_
            refine WL.q (oq_pick_t rfl rfl) rfl rfl rfl ?_
            refine WL.q (oq_assign rfl) rfl rfl rfl ?_
            refine WL.nil (WE.then_normal (WC.sub (fr' := [(0, _), (4, _), (6, _), (8, _), (9, _), (118, _)]) ?_ ⟨rfl, rfl, rfl, rfl, rfl, rfl, trivial⟩))
            refine WC.cond_t rfl ?_
            obtain ⟨v46, h46, o46⟩ := sl_b (i := 0) (j := sz) (r2.take sz.toNat) h2 (by omega) (by rfl)
            refine WC.region ?_
            refine WL.q (oq_move rfl) rfl rfl rfl ?_
            refine WL.q (oq_move rfl) rfl rfl rfl ?_
            refine WL.q (o46 Tryz.underlying28 rfl rfl ⟨_, rfl⟩) rfl rfl rfl ?_
            refine WL.q (oq_bytesStr h46 (.tail _ (.tail _ (.head _))) Tryz.underlying9 Tryz.underlying28 Tryz.underlying5 rfl) rfl rfl rfl ?_
            refine WL.q (oq_fieldAddr fld24_3 rfl) rfl rfl rfl ?_
            refine WL.store1 #[_, _, _, _] ty9 rfl rfl (by first | rfl | exact OwS.one one_) (Nat.lt_of_lt_of_le (Nat.lt_succ_self _) (Nat.le_of_ble_eq_true rfl)) rfl rfl ?_
            refine WL.nil (WE.block_normal ?_)
            refine WE.meet (_, _) ?_ ⟨rfl, rfl, rfl, rfl, rfl, trivial⟩ (List.Perm.refl _)
            try dsimp only
            first | (exfalso; omega) | (exact ⟨prev_int hpv (by omega) (by omega), trivial⟩) | (exact ⟨(prev_ts hpv (by omega) (by omega)).2, trivial⟩) | (exact ⟨prev_txt hpv (by omega) (by omega), trivial⟩) | (exact ⟨prev_bool hpv (by omega), trivial⟩)
           ·
            try simp only [Z1, Z2, Z3, Z4, Z5, Z6, Z7, Z8, Z9, Z0] at s45_6
            refine WL.q (oq_move rfl) rfl rfl rfl ?_
            refine WL.q (oq_eql rfl rfl) rfl rfl rfl ?_
            refine WL.q (oq_pick_f rfl rfl) rfl rfl rfl ?_
            refine WL.q (oq_assign rfl) rfl rfl rfl ?_
            refine WL.nil (WE.then_normal (WC.sub (fr' := [(0, _), (4, _), (6, _), (8, _), (9, _), (118, _)]) ?_ ⟨rfl, rfl, rfl, rfl, rfl, rfl, trivial⟩))
            refine WC.cond rfl (fun q45 => ?_) (fun q45 => ?_)
            ·
             try simp only [Z1, Z2, Z3, Z4, Z5, Z6, Z7, Z8, Z9, Z0] at q45
             obtain ⟨v46, h46, o46⟩ := sl_b (i := 0) (j := sz) (r2.take sz.toNat) h2 (by omega) (by rfl)
             refine WC.region ?_
             refine WL.q (oq_move rfl) rfl rfl rfl ?_
             refine WL.q (oq_move rfl) rfl rfl rfl ?_
             refine WL.q (o46 Tryz.underlying28 rfl rfl ⟨_, rfl⟩) rfl rfl rfl ?_
             refine WL.q (oq_bytesStr h46 (.tail _ (.tail _ (.head _))) Tryz.underlying9 Tryz.underlying28 Tryz.underlying5 rfl) rfl rfl rfl ?_
             refine WL.q (oq_fieldAddr fld24_3 rfl) rfl rfl rfl ?_
             refine WL.store1 #[_, _, _, _] ty9 rfl rfl (by first | rfl | exact OwS.one one_) (Nat.lt_of_lt_of_le (Nat.lt_succ_self _) (Nat.le_of_ble_eq_true rfl)) rfl rfl ?_
             refine WL.nil (WE.block_normal ?_)
             refine WE.meet (_, _) ?_ ⟨rfl, rfl, rfl, rfl, rfl, trivial⟩ (List.Perm.refl _)
             try dsimp only
             first | (exfalso; omega) | (exact ⟨prev_int hpv (by omega) (by omega), trivial⟩) | (exact ⟨(prev_ts hpv (by omega) (by omega)).2, trivial⟩) | (exact ⟨prev_txt hpv (by omega) (by omega), trivial⟩) | (exact ⟨prev_bool hpv (by omega), trivial⟩)
            ·
             try simp only [Z1, Z2, Z3, Z4, Z5, Z6, Z7, Z8, Z9, Z0] at q45
             refine WC.skip (WE.block_normal ?_)
             refine WE.meet (_, _) ?_ ⟨rfl, rfl, rfl, rfl, rfl, trivial⟩ (List.Perm.refl _)
             try dsimp only
             first | (exfalso; omega) | (exact ⟨prev_int hpv (by omega) (by omega), trivial⟩) | (exact ⟨(prev_ts hpv (by omega) (by omega)).2, trivial⟩) | (exact ⟨prev_txt hpv (by omega) (by omega), trivial⟩) | (exact ⟨prev_bool hpv (by omega), trivial⟩)
       ·rintro ⟨i1, tx⟩ hp
        try dsimp only at hp
        obtain ⟨hval, _⟩ := hp
        show WC _ _ _ _ _ _ ([(0, v2), (4, u), (6, S (rt.take b0.toNat)), (8, Pt hb 0), (9, I sz)]) ([[(hb, .cells #[I kd, I w, I i1, S tx] 24 (0, 0))], Z, A])
        refine WC.seq ?_
        obtain ⟨v47, h47, o47⟩ := sl_b (i := sz) (j := (r2.length : Int)) (r2.drop sz.toNat) h2 (by omega) (by rw [Int.toNat_natCast, List.take_length])
        refine WC.region ?_
        refine WL.q (oq_move rfl) rfl rfl rfl ?_
        refine WL.q (oq_move rfl) rfl rfl rfl ?_
        refine WL.q (o47 Tryz.underlying28 rfl ⟨_, rfl⟩ rfl) rfl rfl rfl ?_
        refine WL.q (oq_assign rfl) rfl rfl rfl ?_
        refine WL.nil (WE.then_normal (WC.sub (fr' := [(0, _), (4, _), (6, _), (8, _)]) ?_ ⟨rfl, rfl, rfl, rfl, trivial⟩))
        refine WC.region ?_
        refine WL.q (oq_move rfl) rfl rfl rfl ?_
        refine WL.q (oq_move rfl) rfl rfl rfl ?_
        refine WL.q (oq_loadS [_, _, _, _] agg24 ty24 rfl (.head _) (List.mem_singleton.2 rfl) rfl rfl) rfl rfl rfl ?_
        refine WL.f1 ?_
        refine WL.callA (vPut u Z l hu (by omega) ⟨rt.take b0.toNat, kd, w, i1, tx⟩) call19 rfl rfl rfl fun v48_3 N48_3 hR48_3 hN48_3 => ?_
        have hN := hR48_3.weaken (C := N48_3 ++ Z) (fun x hx => List.mem_append_left _ hx)
        have hNf := hN48_3
        refine WL.f1 ?_
        refine WL.f1 ?_
        refine WL.cat ?_
        refine WL.q (oq_assign rfl) rfl rfl rfl ?_
        refine WL.nil (WE.block_normal ?_)
        refine WE.f1 ?_
        refine WE.lose hhb ?_
        refine WE.again (_, _, _, put l ⟨rt.take b0.toNat, kd, w, i1, tx⟩, r2.drop sz.toNat) ?_ ?_ ⟨rfl, rfl, trivial⟩ (List.Perm.refl _)
        ·try dsimp only
         have hpl := DS.put_len l ⟨rt.take b0.toNat, kd, w, i1, tx⟩
         exact ⟨tk_go htk rfl (by omega) hval, h47, hN, fresh_cat hNf hZ, by rw [List.length_drop]; omega⟩
        ·(try dsimp only); rw [List.length_drop]; omega
  ·
   try simp only [Z1, Z2, Z3, Z4, Z5, Z6, Z7, Z8, Z9, Z0] at q2
   refine WC.exit (WE.then_exit (WE.then_exit (WE.block_same (WE.then_normal (WC.sub (fr' := [(4, _)]) ?_ ⟨rfl, trivial⟩)))))
   refine WC.seq (WC.region ?_)
   refine WL.q (oq_move rfl) rfl rfl rfl ?_
   refine WL.q (oq_assign rfl) rfl rfl rfl ?_
   refine WL.q (oq_assign rfl) rfl rfl rfl ?_
   refine WL.nil (WE.then_normal (WC.sub (fr' := [(2, _), (3, _)]) ?_ ⟨rfl, rfl, trivial⟩))
   refine WC.ret ?_
   refine WE.endA (.inl rfl) (res2 Tryz.results55 rfl rfl) ?_ (hZ)
   exact tkr_end htk (by omega) hu
end DT
end Go.Proofs.YtodlhaghdplclaaGreatDoor
/- What the reference says of bytes. -/
namespace Go.Proofs.YtodlhaghdplclaaGreatDoor
open Go Go.RowKit V EA EB EC ED EL DC DD DA DE EE EH EI EJ DF DG DH DI EM DJ DK DL DM DB EF EG EK EN EO ER ES DP DO DQ ET DR DE DS DT EC
set_option linter.unusedSimpArgs false
set_option linter.unusedVariables false
set_option maxRecDepth 10000
namespace DU
theorem call41 : Callable Tryz.prog 41 := ⟨_, Tryz.func41, rfl, by kernel_rfl⟩
theorem call54 : Callable Tryz.prog 54 := ⟨_, Tryz.func54, rfl, by kernel_rfl⟩
theorem call55 : Callable Tryz.prog 55 := ⟨_, Tryz.func55, rfl, by kernel_rfl⟩
theorem ty30 : Ty Tryz.prog 30 (.agg #[(.slice none 0 0), (.slice none 0 0)]) 2 48 := ty_of (by kernel_rfl)
theorem agg30 : Agg Tryz.prog 30 := agg_of Tryz.underlying30
theorem str30 : Str Tryz.prog 30 #[(0, 1), (1, 1)] := ⟨_, Tryz.underlying30, fun w => by kernel_rfl⟩
section
variable {P : Program} {n : Nat} {w0 : World} {ds : List Deferred} {fr : Fr} {H : List Hp}
theorem run_mapM4 {α β : Type} (f : α → Sem β) {a b c d : α} {x y z u : β} {w : World} (h1 : (f a).run P w = .ok x w) (h2 : (f b).run P w = .ok y w) (h3 : (f c).run P w = .ok z w) (h4 : (f d).run P w = .ok u w) : ((#[a, b, c, d] : Array α).mapM f).run P w = .ok #[x, y, z, u] w := by
 simp [Array.mapM_eq_mapM_toList, h1, h2, h3, h4]
theorem rs4 {fn : Func} {r1 r2 r3 r4 : ResultVar} {v1 v2 v3 v4 : Value} (hr : fn.results = #[r1, r2, r3, r4]) (h1 : RV P n w0 ds fr H r1 v1) (h2 : RV P n w0 ds fr H r2 v2) (h3 : RV P n w0 ds fr H r3 v3) (h4 : RV P n w0 ds fr H r4 v4) : ∀ a w, Fits n ds fr a → St w0 H.flatten w → (results fn a.tmps).run P w = .ok (.tuple #[v1, v2, v3, v4]) w := by
 intro a w hf hw
 rw [results_eq, hr, Sem.run_bind, run_mapM4 (resOf a.tmps) (h1 a w hf hw) (h2 a w hf hw) (h3 a w hf hw) (h4 a w hf hw)]
 rfl
end
theorem nm4 (l : List UInt8) : nm (l.take 4) < 4294967296 := nm_lt' (n := 4) (by rw [List.length_take]; omega)
structure Past (all : List UInt8) : Prop where
 n12 : 12 ≤ all.length
 t0 : totl all ≠ 0
 sum : sumOk all = true
theorem dec_past {all : List UInt8} (h : Past all) : dec all = match tk ((all.drop 12).take (head all)) [] with
  | .short => err 2
  | .other => err 5
  | .ok l => tailR all l
  | .opn l => tailR all l := by
 have h12 := h.n12
 unfold dec
 rw [if_neg (fun e => by rw [e] at h12; simp at h12), if_neg (by omega), if_neg h.t0, if_neg (by omega), if_neg (by rw [h.sum]; decide)]
 cases tk ((all.drop 12).take (head all)) [] <;> rfl
theorem said_past {all : List UInt8} (h : Past all) : said all = (if totl all < 16 + head all then false
 else if all.length < 12 + head all then (match tk (all.drop 12) [] with | .other => false | _ => true)
 else (match tk ((all.drop 12).take (head all)) [] with | .opn _ => false | _ => true)) := by
 have h12 := h.n12
 unfold said
 rw [if_neg (fun e => by rw [e] at h12; simp at h12), if_neg (by omega), if_neg h.t0, if_neg (by omega), if_neg (by rw [h.sum]; decide)]
 split
 ·rfl
 ·split
  ·cases tk (all.drop 12) [] <;> rfl
  ·cases tk ((all.drop 12).take (head all)) [] <;> rfl
theorem s_nil {all : List UInt8} (h : all.length = 0) : said all = true ∧ dec all = err 1 := by
 have e : all = [] := List.eq_nil_of_length_eq_zero h
 subst e; exact ⟨rfl, rfl⟩
theorem ne_nil {all : List UInt8} (h : all.length ≠ 0) : ¬ all = [] := fun e => h (by rw [e]; rfl)
theorem s_8 {all : List UInt8} (h : all.length ≠ 0) (h8 : all.length < 8) : said all = true ∧ dec all = err 2 := by
 unfold said dec; rw [if_neg (ne_nil h), if_pos h8, if_neg (ne_nil h), if_pos h8]; exact ⟨rfl, rfl⟩
theorem s_0 {all : List UInt8} (h8 : 8 ≤ all.length) (ht : totl all = 0) : said all = true ∧ dec all = err 4 := by
 unfold said dec; rw [if_neg (ne_nil (by omega)), if_neg (by omega), if_pos ht, if_neg (ne_nil (by omega)), if_neg (by omega), if_pos ht]; exact ⟨rfl, rfl⟩
theorem s_12 {all : List UInt8} (h8 : 8 ≤ all.length) (ht : totl all ≠ 0) (h : all.length < 12) : said all = true ∧ dec all = err 2 := by
 unfold said dec; rw [if_neg (ne_nil (by omega)), if_neg (by omega), if_neg ht, if_pos h, if_neg (ne_nil (by omega)), if_neg (by omega), if_neg ht, if_pos h]; exact ⟨rfl, rfl⟩
theorem s_sum {all : List UInt8} (h : 12 ≤ all.length) (ht : totl all ≠ 0) (hs : sumOk all = false) : said all = true ∧ dec all = err 3 := by
 unfold said dec; rw [if_neg (ne_nil (by omega)), if_neg (by omega), if_neg ht, if_neg (by omega), if_pos hs, if_neg (ne_nil (by omega)), if_neg (by omega), if_neg ht, if_neg (by omega), if_pos hs]; exact ⟨rfl, rfl⟩
theorem sum_t {all : List UInt8} (h : ((crc (all.take 8)).toNat : Int) = ((nm ((all.drop 8).take 4) : Nat) : Int)) : sumOk all = true := by unfold sumOk; exact decide_eq_true (by omega)
theorem sum_f {all : List UInt8} (h : ¬ ((crc (all.take 8)).toNat : Int) = ((nm ((all.drop 8).take 4) : Nat) : Int)) : sumOk all = false := by unfold sumOk; exact decide_eq_false (by omega)
structure TkC (t : TR) (u : Value) (c : Int) (N : Hp) : Prop where
 one : u.oneCell' = true
 ok : c = 0 → ∃ l, t = .ok l ∧ RdS 5 u N l.length (recsV HV.row l)
 opn : c = -1 → ∃ l, t = .opn l
 short : c = 2 → t = .short
 other : c = 5 → t = .other
 cs : c = 0 ∨ c = -1 ∨ c = 2 ∨ c = 5
theorem tkr_tup {t : TR} {w : Value} {N : Hp} (h : TkR t w N) : ∃ u c, w = .tuple #[u, I c] ∧ TkC t u c N := by
 cases t with
 | ok l =>
  obtain ⟨u, rfl, hr⟩ := h
  exact ⟨u, 0, rfl, rd_one hr, fun _ => ⟨l, rfl, hr⟩, fun h => by omega, fun h => by omega, fun h => by omega, .inl rfl⟩
 | opn l =>
  have h' : w = .tuple #[.slice none 0 0, I (-1)] := h
  subst h'
  exact ⟨_, -1, rfl, rfl, fun h => by omega, fun _ => ⟨l, rfl⟩, fun h => by omega, fun h => by omega, .inr (.inl rfl)⟩
 | short =>
  have h' : w = .tuple #[.slice none 0 0, I 2] := h
  subst h'
  exact ⟨_, 2, rfl, rfl, fun h => by omega, fun h => by omega, fun _ => rfl, fun h => by omega, .inr (.inr (.inl rfl))⟩
 | other =>
  have h' : w = .tuple #[.slice none 0 0, I 5] := h
  subst h'
  exact ⟨_, 5, rfl, rfl, fun h => by omega, fun h => by omega, fun h => by omega, fun _ => rfl, .inr (.inr (.inr rfl))⟩
def RefR (all : List UInt8) (A : Hp) (w : Value) (N : Hp) : Prop := ∃ hv pv c n, w = .tuple #[.agg #[hv, pv], I c, I n, .bool (said all)] ∧ hv.oneCell' = true ∧ pv.oneCell' = true ∧
 (said all = true → c = ((dec all).1 : Nat) ∧ (c = 0 → n = ((dec all).2.2.2 : Nat) ∧ RdS 5 hv N (dec all).2.1.length (recsV HV.row (dec all).2.1) ∧ RdS 1 pv A (dec all).2.2.1.length (bytesV (dec all).2.2.1)))
theorem refr_err {all : List UInt8} {A : Hp} {c : Nat} (h : said all = true ∧ dec all = err c) (h0 : c ≠ 0) : RefR all A (.tuple #[.agg #[.slice none 0 0, .slice none 0 0], I (c : Nat), I 0, .bool true]) [] := by
 obtain ⟨h1, h2⟩ := h
 refine ⟨_, _, _, _, by rw [h1], rfl, rfl, fun _ => ⟨by rw [h2]; rfl, fun h => by omega⟩⟩
theorem refr_no {all : List UInt8} {A : Hp} {c n : Int} (h : said all = false) : RefR all A (.tuple #[.agg #[.slice none 0 0, .slice none 0 0], I c, I n, .bool false]) [] :=
 ⟨_, _, _, _, by rw [h], rfl, rfl, fun h2 => by rw [h] at h2; cases h2⟩
theorem s_wf {all : List UInt8} (h : Past all) (hw : totl all < 16 + head all) : said all = false := by rw [said_past h, if_pos hw]
theorem refr_part {all : List UInt8} {A : Hp} {u : Value} {c : Int} {N : Hp} {b : Bool} (h : Past all) (hw : ¬ totl all < 16 + head all) (hl : all.length < 12 + head all) (hk : TkC (tk (all.drop 12) []) u c N) (hb : b = true ↔ c ≠ 5) : RefR all A (.tuple #[.agg #[.slice none 0 0, .slice none 0 0], I 2, I 0, .bool b]) [] := by
 have hs := said_past h
 rw [if_neg hw, if_pos hl] at hs
 have hd := dec_past h
 rw [List.take_of_length_le (by rw [List.length_drop]; omega)] at hd
 have ht : ∀ l, tailR all l = err 2 := fun l => if_pos (by omega)
 rcases hk.cs with e | e | e | e
 ·obtain ⟨l, e2, _⟩ := hk.ok e
  rw [e2] at hs hd; rw [hb.2 (by omega)]; exact refr_err ⟨hs, hd.trans (ht l)⟩ (by decide)
 ·obtain ⟨l, e2⟩ := hk.opn e
  rw [e2] at hs hd; rw [hb.2 (by omega)]; exact refr_err ⟨hs, hd.trans (ht l)⟩ (by decide)
 ·rw [hk.short e] at hs hd; rw [hb.2 (by omega)]; exact refr_err ⟨hs, hd⟩ (by decide)
 ·rw [hk.other e] at hs
  have : b = false := by
   cases b with
   | false => rfl
   | true => exact absurd e (hb.1 rfl)
  rw [this]; exact refr_no hs
theorem refr_bad {all : List UInt8} {A : Hp} {u : Value} {c : Int} {N : Hp} {b : Bool} (h : Past all) (hw : ¬ totl all < 16 + head all) (hl : ¬ all.length < 12 + head all) (hk : TkC (tk ((all.drop 12).take (head all)) []) u c N) (h0 : c ≠ 0) (hb : b = true ↔ c ≠ -1) : RefR all A (.tuple #[.agg #[.slice none 0 0, .slice none 0 0], I c, I 0, .bool b]) [] := by
 have hs := said_past h
 rw [if_neg hw, if_neg hl] at hs
 have hd := dec_past h
 rcases hk.cs with e | e | e | e
 ·exact absurd e h0
 ·obtain ⟨l, e2⟩ := hk.opn e
  rw [e2] at hs
  have : b = false := by
   cases b with
   | false => rfl
   | true => exact absurd e (hb.1 rfl)
  rw [this]; exact refr_no hs
 ·rw [hk.short e] at hs hd; rw [hb.2 (by omega), e]; exact refr_err ⟨hs, hd⟩ (by decide)
 ·rw [hk.other e] at hs hd; rw [hb.2 (by omega), e]; exact refr_err ⟨hs, hd⟩ (by decide)
theorem dec_ok0 {all : List UInt8} {u : Value} {c : Int} {N : Hp} (h : Past all) (hw : ¬ totl all < 16 + head all) (hl : ¬ all.length < 12 + head all) (hk : TkC (tk ((all.drop 12).take (head all)) []) u c N) (h0 : c = 0) : ∃ l, RdS 5 u N l.length (recsV HV.row l) ∧ said all = true ∧ dec all = tailR all l := by
 obtain ⟨l, e2, hr⟩ := hk.ok h0
 have hs := said_past h
 rw [if_neg hw, if_neg hl, e2] at hs
 have hd := dec_past h
 rw [e2] at hd
 exact ⟨l, hr, hs, hd⟩
theorem tail_2 {all : List UInt8} {l : List HV} (h : all.length < totl all) : tailR all l = err 2 := if_pos h
theorem tail_3 {all : List UInt8} {l : List HV} (h : ¬ all.length < totl all) (h2 : ¬ ((crc (all.take (totl all - 4))).toNat : Int) = ((nm ((all.drop (totl all - 4)).take 4) : Nat) : Int)) : tailR all l = err 3 := by unfold tailR; rw [if_neg h, if_pos (by omega)]
theorem refr_ok {all : List UInt8} {A N : Hp} {u pv : Value} {l : List HV} (hr : RdS 5 u N l.length (recsV HV.row l)) (hs : said all = true) (hd : dec all = tailR all l) (h : ¬ all.length < totl all) (h2 : ((crc (all.take (totl all - 4))).toNat : Int) = ((nm ((all.drop (totl all - 4)).take 4) : Nat) : Int))
  (hp : RdS 1 pv A ((all.drop (12 + head all)).take (totl all - 16 - head all)).length (bytesV ((all.drop (12 + head all)).take (totl all - 16 - head all)))) : RefR all A (.tuple #[.agg #[u, pv], I 0, I (totl all : Nat), .bool true]) N := by
 have e : dec all = (0, l, (all.drop (12 + head all)).take (totl all - 16 - head all), totl all) := by rw [hd]; unfold tailR; rw [if_neg h, if_neg (by omega)]
 exact ⟨_, _, _, _, by rw [hs], rd_one hr, rd_one hp, fun _ => by rw [e]; exact ⟨rfl, fun _ => ⟨rfl, hr, hp⟩⟩⟩
theorem takT {v : Value} {A : Hp} {all : List UInt8} (h : RdS 1 v A (all.take 4).length (bytesV (all.take 4))) : FnR Tryz.prog 54 [v] A (.int .u64 (totl all : Nat)) := vTaken v A (all.take 4) h (by rw [List.length_take]; omega)
theorem takH {v : Value} {A : Hp} {all : List UInt8} (h : RdS 1 v A ((all.drop 4).take 4).length (bytesV ((all.drop 4).take 4))) : FnR Tryz.prog 54 [v] A (.int .u64 (head all : Nat)) := vTaken v A ((all.drop 4).take 4) h (by rw [List.length_take]; omega)
theorem tak4 {v : Value} {A : Hp} {l : List UInt8} (h : RdS 1 v A (l.take 4).length (bytesV (l.take 4))) : FnR Tryz.prog 54 [v] A (.int .u64 (nm (l.take 4) : Nat)) := vTaken v A (l.take 4) h (by rw [List.length_take]; omega)
theorem vDecoded (v : Value) (A : Hp) (all : List UInt8) (hr : RdS 1 v A all.length (bytesV all)) (hn : all.length ≤ 20000) : FnA Tryz.prog 28 [v] A (RefR all A) := by
 refine FnA.enter (n := 115) Tryz.func28 rfl rfl fun w0 => ?_
 refine WC.sub (fr' := [(0, _)]) ?_ ⟨rfl, trivial⟩
 refine WC.seq (WC.region ?_)
 refine WL.alloc ty30 rfl rfl fun res hres => ?_
 refine WL.q (oq_assign rfl) rfl rfl rfl ?_
 refine WL.q (oq_assign rfl) rfl rfl rfl ?_
 refine WL.q (oq_assign rfl) rfl rfl rfl ?_
 refine WL.nil (WE.then_normal (WC.sub (fr' := [(0, _), (2, _)]) ?_ ⟨rfl, rfl, trivial⟩))
 refine WC.seq (WC.region ?_)
 refine WL.q (oq_build #[_, _] str30 ty30 rfl rfl) rfl rfl rfl ?_
 refine WL.alloc ty30 rfl rfl fun zb hzb => ?_
 refine WL.storeS #[_, _] ty30 rfl rfl rfl rfl (Nat.le_of_ble_eq_true rfl) rfl rfl ?_
 refine WL.nil (WE.then_normal (WC.sub (fr' := [(0, _), (2, _), (6, _)]) ?_ ⟨rfl, rfl, rfl, trivial⟩))
 refine WC.seq (WC.seq (WC.region ?_))
 refine WL.q (oq_move rfl) rfl rfl rfl ?_
 refine WL.q (oq_len_rd hr Tryz.underlying28 rfl) rfl rfl rfl ?_
 refine WL.q (oq_eql rfl rfl) rfl rfl rfl ?_
 refine WL.nil (WE.then_normal (WC.sub (fr' := [(0, _), (2, _), (6, _), (16, _)]) ?_ ⟨rfl, rfl, rfl, rfl, trivial⟩))
 refine WC.cond rfl (fun q2 => ?_) (fun q2 => ?_)
 ·
  try simp only [Z1, Z2, Z3, Z4, Z5, Z6, Z7, Z8, Z9, Z0] at q2
  refine WC.seq (WC.region ?_)
  refine WL.q (oq_loadS [_, _] agg30 ty30 rfl (.head _) (List.mem_singleton.2 rfl) rfl rfl) rfl rfl rfl ?_
  refine WL.f1 ?_
  refine WL.storeS #[_, _] ty30 rfl rfl rfl rfl (Nat.le_of_ble_eq_true rfl) rfl rfl ?_
  refine WL.q (oq_assign rfl) rfl rfl rfl ?_
  refine WL.q (oq_assign rfl) rfl rfl rfl ?_
  refine WL.q (oq_assign rfl) rfl rfl rfl ?_
  refine WL.nil (WE.then_normal (WC.sub (fr' := [(2, _), (3, _), (4, _), (5, _)]) ?_ ⟨rfl, rfl, rfl, rfl, trivial⟩))
  refine WC.ret (WE.then_ret ?_)
  refine WE.endDA (.inl rfl) (rs4 Tryz.results28 (rv_cellS [_, _] agg30 ty30 rfl (.head _) (List.mem_singleton.2 rfl) rfl rfl) (rv_tmp rfl) (rv_tmp rfl) (rv_tmp rfl)) (dr_lose hres (dr_lose hzb (dr_add0 dr_refl))) fresh0 ?_
  first | (exfalso; omega) | (exact refr_err (c := 1) (s_nil (by omega)) (by decide)) | (exact refr_err (c := 2) (s_8 (by omega) (by omega)) (by decide)) | (exact refr_err (c := 4) (s_0 (by omega) (by omega)) (by decide)) | (exact refr_err (c := 2) (s_12 (by omega) (by omega) (by omega)) (by decide)) | (exact refr_err (c := 3) (s_sum (by omega) (by omega) (sum_f (by assumption))) (by decide)) | (exact refr_no (s_wf hpast (by omega))) | (exact refr_part hpast (by omega) (by omega) hk16 (by simp only [decide_eq_true_eq, true_iff, ne_eq]; have := hk16.cs; omega)) | (exact refr_bad hpast (by omega) (by omega) hk18 (by omega) (by simp only [decide_eq_true_eq, true_iff, ne_eq]; try omega)) | (exact refr_err (c := 2) ⟨hsaid, hdec.trans (tail_2 (by omega))⟩ (by decide)) | (exact refr_err (c := 3) ⟨hsaid, hdec.trans (tail_3 (by omega) (by assumption))⟩ (by decide))
 ·
  try simp only [Z1, Z2, Z3, Z4, Z5, Z6, Z7, Z8, Z9, Z0] at q2
  refine WC.skip (WE.then_normal (WC.sub (fr' := [(0, _), (2, _), (6, _)]) ?_ ⟨rfl, rfl, rfl, trivial⟩))
  refine WC.seq (WC.seq (WC.region ?_))
  refine WL.q (oq_move rfl) rfl rfl rfl ?_
  refine WL.q (oq_len_rd hr Tryz.underlying28 rfl) rfl rfl rfl ?_
  refine WL.q (oq_lss rfl rfl) rfl rfl rfl ?_
  refine WL.nil (WE.then_normal (WC.sub (fr' := [(0, _), (2, _), (6, _), (20, _)]) ?_ ⟨rfl, rfl, rfl, rfl, trivial⟩))
  refine WC.cond rfl (fun q4 => ?_) (fun q4 => ?_)
  ·
   try simp only [Z1, Z2, Z3, Z4, Z5, Z6, Z7, Z8, Z9, Z0] at q4
   refine WC.seq (WC.region ?_)
   refine WL.q (oq_loadS [_, _] agg30 ty30 rfl (.head _) (List.mem_singleton.2 rfl) rfl rfl) rfl rfl rfl ?_
   refine WL.f1 ?_
   refine WL.storeS #[_, _] ty30 rfl rfl rfl rfl (Nat.le_of_ble_eq_true rfl) rfl rfl ?_
   refine WL.q (oq_assign rfl) rfl rfl rfl ?_
   refine WL.q (oq_assign rfl) rfl rfl rfl ?_
   refine WL.q (oq_assign rfl) rfl rfl rfl ?_
   refine WL.nil (WE.then_normal (WC.sub (fr' := [(2, _), (3, _), (4, _), (5, _)]) ?_ ⟨rfl, rfl, rfl, rfl, trivial⟩))
   refine WC.ret (WE.then_ret ?_)
   refine WE.endDA (.inl rfl) (rs4 Tryz.results28 (rv_cellS [_, _] agg30 ty30 rfl (.head _) (List.mem_singleton.2 rfl) rfl rfl) (rv_tmp rfl) (rv_tmp rfl) (rv_tmp rfl)) (dr_lose hres (dr_lose hzb (dr_add0 dr_refl))) fresh0 ?_
   first | (exfalso; omega) | (exact refr_err (c := 1) (s_nil (by omega)) (by decide)) | (exact refr_err (c := 2) (s_8 (by omega) (by omega)) (by decide)) | (exact refr_err (c := 4) (s_0 (by omega) (by omega)) (by decide)) | (exact refr_err (c := 2) (s_12 (by omega) (by omega) (by omega)) (by decide)) | (exact refr_err (c := 3) (s_sum (by omega) (by omega) (sum_f (by assumption))) (by decide)) | (exact refr_no (s_wf hpast (by omega))) | (exact refr_part hpast (by omega) (by omega) hk16 (by simp only [decide_eq_true_eq, true_iff, ne_eq]; have := hk16.cs; omega)) | (exact refr_bad hpast (by omega) (by omega) hk18 (by omega) (by simp only [decide_eq_true_eq, true_iff, ne_eq]; try omega)) | (exact refr_err (c := 2) ⟨hsaid, hdec.trans (tail_2 (by omega))⟩ (by decide)) | (exact refr_err (c := 3) ⟨hsaid, hdec.trans (tail_3 (by omega) (by assumption))⟩ (by decide))
  ·
   try simp only [Z1, Z2, Z3, Z4, Z5, Z6, Z7, Z8, Z9, Z0] at q4
   refine WC.skip (WE.then_normal (WC.sub (fr' := [(0, _), (2, _), (6, _)]) ?_ ⟨rfl, rfl, rfl, trivial⟩))
   refine WC.seq ?_
   have hT := nm4 all
   have hH := nm4 (all.drop 4)
   replace hT : totl all < 4294967296 := hT
   replace hH : head all < 4294967296 := hH
   obtain ⟨v6a, h6a, o6a⟩ := sl_b (i := 0) (j := 4) (all.take 4) hr (by omega) (by rfl)
   obtain ⟨v6b, h6b, o6b⟩ := sl_b (i := 4) (j := 8) ((all.drop 4).take 4) hr (by omega) (by rw [List.drop_take]; rfl)
   refine WC.quiet (by kernel_rfl) (by kernel_rfl) ?_
   refine WQ.q (oq_move rfl) rfl rfl rfl ?_
   refine WQ.q (o6a Tryz.underlying28 rfl rfl ⟨_, rfl⟩) rfl rfl rfl ?_
   refine WQ.qc (oq_callRm (takT h6a) (by repeat (first | exact .head _ | apply List.Mem.tail)) call54 rfl) rfl rfl rfl ?_
   refine WQ.q (oq_conv Tryz.underlying73 Tryz.underlying3 rfl (by rw [i64_lo, i64_hi]; (first | omega | (simp only [List.length_cons, List.length_nil, List.length_append, List.length_drop, List.length_take]; omega)))) rfl rfl rfl ?_
   refine WQ.q (oq_move rfl) rfl rfl rfl ?_
   refine WQ.q (o6b Tryz.underlying28 rfl ⟨_, rfl⟩ ⟨_, rfl⟩) rfl rfl rfl ?_
   refine WQ.qc (oq_callRm (takH h6b) (by repeat (first | exact .head _ | apply List.Mem.tail)) call54 rfl) rfl rfl rfl ?_
   refine WQ.q (oq_conv Tryz.underlying73 Tryz.underlying3 rfl (by rw [i64_lo, i64_hi]; (first | omega | (simp only [List.length_cons, List.length_nil, List.length_append, List.length_drop, List.length_take]; omega)))) rfl rfl rfl ?_
   refine WQ.q (oq_assign rfl) rfl rfl rfl ?_
   refine WQ.q (oq_assign rfl) rfl rfl rfl ?_
   refine WQ.nil (WE.then_normal (WC.sub (fr' := [(0, _), (2, _), (6, _), (7, _), (8, _)]) ?_ ⟨rfl, rfl, rfl, rfl, rfl, trivial⟩))
   refine WC.seq (WC.seq (WC.region ?_))
   refine WL.q (oq_move rfl) rfl rfl rfl ?_
   refine WL.q (oq_eql rfl rfl) rfl rfl rfl ?_
   refine WL.nil (WE.then_normal (WC.sub (fr' := [(0, _), (2, _), (6, _), (7, _), (8, _), (31, _)]) ?_ ⟨rfl, rfl, rfl, rfl, rfl, rfl, trivial⟩))
   refine WC.cond rfl (fun q7 => ?_) (fun q7 => ?_)
   ·
    try simp only [Z1, Z2, Z3, Z4, Z5, Z6, Z7, Z8, Z9, Z0] at q7
    refine WC.seq (WC.region ?_)
    refine WL.q (oq_loadS [_, _] agg30 ty30 rfl (.head _) (List.mem_singleton.2 rfl) rfl rfl) rfl rfl rfl ?_
    refine WL.f1 ?_
    refine WL.storeS #[_, _] ty30 rfl rfl rfl rfl (Nat.le_of_ble_eq_true rfl) rfl rfl ?_
    refine WL.q (oq_assign rfl) rfl rfl rfl ?_
    refine WL.q (oq_assign rfl) rfl rfl rfl ?_
    refine WL.q (oq_assign rfl) rfl rfl rfl ?_
    refine WL.nil (WE.then_normal (WC.sub (fr' := [(2, _), (3, _), (4, _), (5, _)]) ?_ ⟨rfl, rfl, rfl, rfl, trivial⟩))
    refine WC.ret (WE.then_ret ?_)
    refine WE.endDA (.inl rfl) (rs4 Tryz.results28 (rv_cellS [_, _] agg30 ty30 rfl (.head _) (List.mem_singleton.2 rfl) rfl rfl) (rv_tmp rfl) (rv_tmp rfl) (rv_tmp rfl)) (dr_lose hres (dr_lose hzb (dr_add0 dr_refl))) fresh0 ?_
    first | (exfalso; omega) | (exact refr_err (c := 1) (s_nil (by omega)) (by decide)) | (exact refr_err (c := 2) (s_8 (by omega) (by omega)) (by decide)) | (exact refr_err (c := 4) (s_0 (by omega) (by omega)) (by decide)) | (exact refr_err (c := 2) (s_12 (by omega) (by omega) (by omega)) (by decide)) | (exact refr_err (c := 3) (s_sum (by omega) (by omega) (sum_f (by assumption))) (by decide)) | (exact refr_no (s_wf hpast (by omega))) | (exact refr_part hpast (by omega) (by omega) hk16 (by simp only [decide_eq_true_eq, true_iff, ne_eq]; have := hk16.cs; omega)) | (exact refr_bad hpast (by omega) (by omega) hk18 (by omega) (by simp only [decide_eq_true_eq, true_iff, ne_eq]; try omega)) | (exact refr_err (c := 2) ⟨hsaid, hdec.trans (tail_2 (by omega))⟩ (by decide)) | (exact refr_err (c := 3) ⟨hsaid, hdec.trans (tail_3 (by omega) (by assumption))⟩ (by decide))
   ·
    try simp only [Z1, Z2, Z3, Z4, Z5, Z6, Z7, Z8, Z9, Z0] at q7
    refine WC.skip (WE.then_normal (WC.sub (fr' := [(0, _), (2, _), (6, _), (7, _), (8, _)]) ?_ ⟨rfl, rfl, rfl, rfl, rfl, trivial⟩))
    refine WC.seq (WC.seq (WC.region ?_))
    refine WL.q (oq_move rfl) rfl rfl rfl ?_
    refine WL.q (oq_len_rd hr Tryz.underlying28 rfl) rfl rfl rfl ?_
    refine WL.q (oq_lss rfl rfl) rfl rfl rfl ?_
    refine WL.nil (WE.then_normal (WC.sub (fr' := [(0, _), (2, _), (6, _), (7, _), (8, _), (35, _)]) ?_ ⟨rfl, rfl, rfl, rfl, rfl, rfl, trivial⟩))
    refine WC.cond rfl (fun q9 => ?_) (fun q9 => ?_)
    ·
     try simp only [Z1, Z2, Z3, Z4, Z5, Z6, Z7, Z8, Z9, Z0] at q9
     refine WC.seq (WC.region ?_)
     refine WL.q (oq_loadS [_, _] agg30 ty30 rfl (.head _) (List.mem_singleton.2 rfl) rfl rfl) rfl rfl rfl ?_
     refine WL.f1 ?_
     refine WL.storeS #[_, _] ty30 rfl rfl rfl rfl (Nat.le_of_ble_eq_true rfl) rfl rfl ?_
     refine WL.q (oq_assign rfl) rfl rfl rfl ?_
     refine WL.q (oq_assign rfl) rfl rfl rfl ?_
     refine WL.q (oq_assign rfl) rfl rfl rfl ?_
     refine WL.nil (WE.then_normal (WC.sub (fr' := [(2, _), (3, _), (4, _), (5, _)]) ?_ ⟨rfl, rfl, rfl, rfl, trivial⟩))
     refine WC.ret (WE.then_ret ?_)
     refine WE.endDA (.inl rfl) (rs4 Tryz.results28 (rv_cellS [_, _] agg30 ty30 rfl (.head _) (List.mem_singleton.2 rfl) rfl rfl) (rv_tmp rfl) (rv_tmp rfl) (rv_tmp rfl)) (dr_lose hres (dr_lose hzb (dr_add0 dr_refl))) fresh0 ?_
     first | (exfalso; omega) | (exact refr_err (c := 1) (s_nil (by omega)) (by decide)) | (exact refr_err (c := 2) (s_8 (by omega) (by omega)) (by decide)) | (exact refr_err (c := 4) (s_0 (by omega) (by omega)) (by decide)) | (exact refr_err (c := 2) (s_12 (by omega) (by omega) (by omega)) (by decide)) | (exact refr_err (c := 3) (s_sum (by omega) (by omega) (sum_f (by assumption))) (by decide)) | (exact refr_no (s_wf hpast (by omega))) | (exact refr_part hpast (by omega) (by omega) hk16 (by simp only [decide_eq_true_eq, true_iff, ne_eq]; have := hk16.cs; omega)) | (exact refr_bad hpast (by omega) (by omega) hk18 (by omega) (by simp only [decide_eq_true_eq, true_iff, ne_eq]; try omega)) | (exact refr_err (c := 2) ⟨hsaid, hdec.trans (tail_2 (by omega))⟩ (by decide)) | (exact refr_err (c := 3) ⟨hsaid, hdec.trans (tail_3 (by omega) (by assumption))⟩ (by decide))
    ·
     try simp only [Z1, Z2, Z3, Z4, Z5, Z6, Z7, Z8, Z9, Z0] at q9
     refine WC.skip (WE.then_normal (WC.sub (fr' := [(0, _), (2, _), (6, _), (7, _), (8, _)]) ?_ ⟨rfl, rfl, rfl, rfl, rfl, trivial⟩))
     refine WC.seq (WC.seq ?_)
     have hS8 := nm4 (all.drop 8)
     obtain ⟨v11a, h11a, o11a⟩ := sl_b (i := 0) (j := 8) (all.take 8) hr (by omega) (by rfl)
     obtain ⟨v11b, h11b, o11b⟩ := sl_b (i := 8) (j := 12) ((all.drop 8).take 4) hr (by omega) (by rw [List.drop_take]; rfl)
     have h11l : (all.take 8).length ≤ 1000000 := by rw [List.length_take]; omega
     have h11c := (crc (all.take 8)).isLt
     refine WC.quiet (by kernel_rfl) (by kernel_rfl) ?_
     refine WQ.q (oq_move rfl) rfl rfl rfl ?_
     refine WQ.q (o11a Tryz.underlying28 rfl rfl ⟨_, rfl⟩) rfl rfl rfl ?_
     refine WQ.qc (oq_callRm (sumOf _ A _ h11a h11l) (by repeat (first | exact .head _ | apply List.Mem.tail)) call41 rfl) rfl rfl rfl ?_
     refine WQ.q (oq_conv Tryz.underlying74 Tryz.underlying73 rfl (by rw [u64_lo, u64_hi]; (first | omega | (simp only [List.length_cons, List.length_nil, List.length_append, List.length_drop, List.length_take]; omega)))) rfl rfl rfl ?_
     refine WQ.q (oq_move rfl) rfl rfl rfl ?_
     refine WQ.q (o11b Tryz.underlying28 rfl ⟨_, rfl⟩ ⟨_, rfl⟩) rfl rfl rfl ?_
     refine WQ.qc (oq_callRm (tak4 h11b) (by repeat (first | exact .head _ | apply List.Mem.tail)) call54 rfl) rfl rfl rfl ?_
     refine WQ.q (oq_neq rfl rfl) rfl rfl rfl ?_
     refine WQ.nil (WE.then_normal (WC.sub (fr' := [(0, _), (2, _), (6, _), (7, _), (8, _), (44, _)]) ?_ ⟨rfl, rfl, rfl, rfl, rfl, rfl, trivial⟩))
     refine WC.cond rfl (fun q11 => ?_) (fun q11 => ?_)
     ·
      try simp only [Z1, Z2, Z3, Z4, Z5, Z6, Z7, Z8, Z9, Z0] at q11
      refine WC.seq (WC.region ?_)
      refine WL.q (oq_loadS [_, _] agg30 ty30 rfl (.head _) (List.mem_singleton.2 rfl) rfl rfl) rfl rfl rfl ?_
      refine WL.f1 ?_
      refine WL.storeS #[_, _] ty30 rfl rfl rfl rfl (Nat.le_of_ble_eq_true rfl) rfl rfl ?_
      refine WL.q (oq_assign rfl) rfl rfl rfl ?_
      refine WL.q (oq_assign rfl) rfl rfl rfl ?_
      refine WL.q (oq_assign rfl) rfl rfl rfl ?_
      refine WL.nil (WE.then_normal (WC.sub (fr' := [(2, _), (3, _), (4, _), (5, _)]) ?_ ⟨rfl, rfl, rfl, rfl, trivial⟩))
      refine WC.ret (WE.then_ret ?_)
      refine WE.endDA (.inl rfl) (rs4 Tryz.results28 (rv_cellS [_, _] agg30 ty30 rfl (.head _) (List.mem_singleton.2 rfl) rfl rfl) (rv_tmp rfl) (rv_tmp rfl) (rv_tmp rfl)) (dr_lose hres (dr_lose hzb (dr_add0 dr_refl))) fresh0 ?_
      first | (exfalso; omega) | (exact refr_err (c := 1) (s_nil (by omega)) (by decide)) | (exact refr_err (c := 2) (s_8 (by omega) (by omega)) (by decide)) | (exact refr_err (c := 4) (s_0 (by omega) (by omega)) (by decide)) | (exact refr_err (c := 2) (s_12 (by omega) (by omega) (by omega)) (by decide)) | (exact refr_err (c := 3) (s_sum (by omega) (by omega) (sum_f (by assumption))) (by decide)) | (exact refr_no (s_wf hpast (by omega))) | (exact refr_part hpast (by omega) (by omega) hk16 (by simp only [decide_eq_true_eq, true_iff, ne_eq]; have := hk16.cs; omega)) | (exact refr_bad hpast (by omega) (by omega) hk18 (by omega) (by simp only [decide_eq_true_eq, true_iff, ne_eq]; try omega)) | (exact refr_err (c := 2) ⟨hsaid, hdec.trans (tail_2 (by omega))⟩ (by decide)) | (exact refr_err (c := 3) ⟨hsaid, hdec.trans (tail_3 (by omega) (by assumption))⟩ (by decide))
     ·
      try simp only [Z1, Z2, Z3, Z4, Z5, Z6, Z7, Z8, Z9, Z0] at q11
      refine WC.skip (WE.then_normal (WC.sub (fr' := [(0, _), (2, _), (6, _), (7, _), (8, _)]) ?_ ⟨rfl, rfl, rfl, rfl, rfl, trivial⟩))
      refine WC.seq (WC.seq ?_)
      have hpast : Past all := ⟨by omega, by omega, sum_t (by assumption)⟩
      refine WC.region ?_
      refine WL.q (oq_move rfl) rfl rfl rfl ?_
      refine WL.q (oq_move rfl) rfl rfl rfl ?_
      refine WL.q (oq_add rfl rfl (by rw [i64_lo, i64_hi]; (first | omega | (simp only [List.length_cons, List.length_nil, List.length_append, List.length_drop, List.length_take]; omega)))) rfl rfl rfl ?_
      refine WL.q (oq_lss rfl rfl) rfl rfl rfl ?_
      refine WL.nil (WE.then_normal (WC.sub (fr' := [(0, _), (2, _), (6, _), (7, _), (8, _), (49, _)]) ?_ ⟨rfl, rfl, rfl, rfl, rfl, rfl, trivial⟩))
      refine WC.cond rfl (fun q13 => ?_) (fun q13 => ?_)
      ·
       try simp only [Z1, Z2, Z3, Z4, Z5, Z6, Z7, Z8, Z9, Z0] at q13
       refine WC.seq (WC.region ?_)
       refine WL.q (oq_loadS [_, _] agg30 ty30 rfl (.head _) (List.mem_singleton.2 rfl) rfl rfl) rfl rfl rfl ?_
       refine WL.f1 ?_
       refine WL.storeS #[_, _] ty30 rfl rfl rfl rfl (Nat.le_of_ble_eq_true rfl) rfl rfl ?_
       refine WL.q (oq_assign rfl) rfl rfl rfl ?_
       refine WL.q (oq_assign rfl) rfl rfl rfl ?_
       refine WL.q (oq_assign rfl) rfl rfl rfl ?_
       refine WL.nil (WE.then_normal (WC.sub (fr' := [(2, _), (3, _), (4, _), (5, _)]) ?_ ⟨rfl, rfl, rfl, rfl, trivial⟩))
       refine WC.ret (WE.then_ret ?_)
       refine WE.endDA (.inl rfl) (rs4 Tryz.results28 (rv_cellS [_, _] agg30 ty30 rfl (.head _) (List.mem_singleton.2 rfl) rfl rfl) (rv_tmp rfl) (rv_tmp rfl) (rv_tmp rfl)) (dr_lose hres (dr_lose hzb (dr_add0 dr_refl))) fresh0 ?_
       first | (exfalso; omega) | (exact refr_err (c := 1) (s_nil (by omega)) (by decide)) | (exact refr_err (c := 2) (s_8 (by omega) (by omega)) (by decide)) | (exact refr_err (c := 4) (s_0 (by omega) (by omega)) (by decide)) | (exact refr_err (c := 2) (s_12 (by omega) (by omega) (by omega)) (by decide)) | (exact refr_err (c := 3) (s_sum (by omega) (by omega) (sum_f (by assumption))) (by decide)) | (exact refr_no (s_wf hpast (by omega))) | (exact refr_part hpast (by omega) (by omega) hk16 (by simp only [decide_eq_true_eq, true_iff, ne_eq]; have := hk16.cs; omega)) | (exact refr_bad hpast (by omega) (by omega) hk18 (by omega) (by simp only [decide_eq_true_eq, true_iff, ne_eq]; try omega)) | (exact refr_err (c := 2) ⟨hsaid, hdec.trans (tail_2 (by omega))⟩ (by decide)) | (exact refr_err (c := 3) ⟨hsaid, hdec.trans (tail_3 (by omega) (by assumption))⟩ (by decide))
      ·
       try simp only [Z1, Z2, Z3, Z4, Z5, Z6, Z7, Z8, Z9, Z0] at q13
       refine WC.skip (WE.then_normal (WC.sub (fr' := [(0, _), (2, _), (6, _), (7, _), (8, _)]) ?_ ⟨rfl, rfl, rfl, rfl, rfl, trivial⟩))
       refine WC.seq (WC.seq (WC.region ?_))
       refine WL.q (oq_move rfl) rfl rfl rfl ?_
       refine WL.q (oq_len_rd hr Tryz.underlying28 rfl) rfl rfl rfl ?_
       refine WL.q (oq_move rfl) rfl rfl rfl ?_
       refine WL.q (oq_add rfl rfl (by rw [i64_lo, i64_hi]; (first | omega | (simp only [List.length_cons, List.length_nil, List.length_append, List.length_drop, List.length_take]; omega)))) rfl rfl rfl ?_
       refine WL.q (oq_lss rfl rfl) rfl rfl rfl ?_
       refine WL.nil (WE.then_normal (WC.sub (fr' := [(0, _), (2, _), (6, _), (7, _), (8, _), (55, _)]) ?_ ⟨rfl, rfl, rfl, rfl, rfl, rfl, trivial⟩))
       refine WC.cond rfl (fun q15 => ?_) (fun q15 => ?_)
       ·
        try simp only [Z1, Z2, Z3, Z4, Z5, Z6, Z7, Z8, Z9, Z0] at q15
        refine WC.seq ?_
        obtain ⟨v16, h16, o16⟩ := sl_b (i := 12) (j := (all.length : Int)) (all.drop 12) hr (by omega) (by rw [Int.toNat_natCast, List.take_length]; rfl)
        refine WC.region ?_
        refine WL.q (oq_move rfl) rfl rfl rfl ?_
        refine WL.q (o16 Tryz.underlying28 rfl ⟨_, rfl⟩ rfl) rfl rfl rfl ?_
        refine WL.f2 ?_
        refine WL.callA (vTaking _ A (all.drop 12) h16 (by rw [List.length_drop]; omega)) call55 rfl rfl rfl fun v16_2 N16_2 hR16_2 hN16_2 => ?_
        obtain ⟨u16, c16, rfl, hk16⟩ := tkr_tup hR16_2
        refine WL.q (oq_move rfl) rfl rfl rfl ?_
        refine WL.q (oq_extract rfl rfl) rfl rfl rfl ?_
        refine WL.q (oq_extract rfl rfl) rfl rfl rfl ?_
        refine WL.q (oq_assign rfl) rfl rfl rfl ?_
        refine WL.q (oq_assign rfl) rfl rfl rfl ?_
        refine WL.nil (WE.then_normal (WC.sub (fr' := [(2, _), (6, _), (10, _)]) ?_ ⟨rfl, rfl, rfl, trivial⟩))
        refine WC.seq (WC.region ?_)
        refine WL.q (oq_loadS [_, _] agg30 ty30 rfl (.tail _ (.tail _ (.head _))) (List.mem_singleton.2 rfl) rfl rfl) rfl rfl rfl ?_
        refine WL.q (oq_move rfl) rfl rfl rfl ?_
        refine WL.q (oq_eql rfl rfl) rfl rfl rfl ?_
        refine WL.q (oq_move rfl) rfl rfl rfl ?_
        refine WL.split 65 rfl (fun s17_3 => ?_) (fun s17_3 => ?_)
        ·
         try simp only [Z1, Z2, Z3, Z4, Z5, Z6, Z7, Z8, Z9, Z0] at s17_3
         refine WL.skip rfl rfl rfl ?_
         refine WL.skip rfl rfl rfl ?_
         refine WL.q (oq_pick_t rfl rfl) rfl rfl rfl ?_
         refine WL.q (oq_move rfl) rfl rfl rfl ?_
         refine WL.skip rfl rfl rfl ?_
         refine WL.skip rfl rfl rfl ?_
         refine WL.q (oq_pick_t rfl rfl) rfl rfl rfl ?_
         refine WL.f3 ?_
         refine WL.storeS #[_, _] ty30 rfl rfl rfl rfl (Nat.le_of_ble_eq_true rfl) rfl rfl ?_
         refine WL.q (oq_assign rfl) rfl rfl rfl ?_
         refine WL.q (oq_assign rfl) rfl rfl rfl ?_
         refine WL.q (oq_assign rfl) rfl rfl rfl ?_
         refine WL.nil (WE.then_normal (WC.sub (fr' := [(2, _), (3, _), (4, _), (5, _)]) ?_ ⟨rfl, rfl, rfl, rfl, trivial⟩))
         refine WC.ret (WE.then_ret ?_)
         refine WE.endDA (.inl rfl) (rs4 Tryz.results28 (rv_cellS [_, _] agg30 ty30 rfl (.head _) (List.mem_singleton.2 rfl) rfl rfl) (rv_tmp rfl) (rv_tmp rfl) (rv_tmp rfl)) (dr_lose hres (dr_forget hN16_2 (dr_f1 (dr_lose hzb (dr_add0 dr_refl))))) fresh0 ?_
         first | (exfalso; omega) | (exact refr_err (c := 1) (s_nil (by omega)) (by decide)) | (exact refr_err (c := 2) (s_8 (by omega) (by omega)) (by decide)) | (exact refr_err (c := 4) (s_0 (by omega) (by omega)) (by decide)) | (exact refr_err (c := 2) (s_12 (by omega) (by omega) (by omega)) (by decide)) | (exact refr_err (c := 3) (s_sum (by omega) (by omega) (sum_f (by assumption))) (by decide)) | (exact refr_no (s_wf hpast (by omega))) | (exact refr_part hpast (by omega) (by omega) hk16 (by simp only [decide_eq_true_eq, true_iff, ne_eq]; have := hk16.cs; omega)) | (exact refr_bad hpast (by omega) (by omega) hk18 (by omega) (by simp only [decide_eq_true_eq, true_iff, ne_eq]; try omega)) | (exact refr_err (c := 2) ⟨hsaid, hdec.trans (tail_2 (by omega))⟩ (by decide)) | (exact refr_err (c := 3) ⟨hsaid, hdec.trans (tail_3 (by omega) (by assumption))⟩ (by decide))
        ·
         try simp only [Z1, Z2, Z3, Z4, Z5, Z6, Z7, Z8, Z9, Z0] at s17_3
         refine WL.q (oq_move rfl) rfl rfl rfl ?_
         refine WL.q (oq_eql rfl rfl) rfl rfl rfl ?_
         refine WL.q (oq_pick_f rfl rfl) rfl rfl rfl ?_
         refine WL.q (oq_move rfl) rfl rfl rfl ?_
         refine WL.split 69 rfl (fun s17_7 => ?_) (fun s17_7 => ?_)
         ·
          try simp only [Z1, Z2, Z3, Z4, Z5, Z6, Z7, Z8, Z9, Z0] at s17_7
          refine WL.skip rfl rfl rfl ?_
          refine WL.skip rfl rfl rfl ?_
          refine WL.q (oq_pick_t rfl rfl) rfl rfl rfl ?_
          refine WL.f3 ?_
          refine WL.storeS #[_, _] ty30 rfl rfl rfl rfl (Nat.le_of_ble_eq_true rfl) rfl rfl ?_
          refine WL.q (oq_assign rfl) rfl rfl rfl ?_
          refine WL.q (oq_assign rfl) rfl rfl rfl ?_
          refine WL.q (oq_assign rfl) rfl rfl rfl ?_
          refine WL.nil (WE.then_normal (WC.sub (fr' := [(2, _), (3, _), (4, _), (5, _)]) ?_ ⟨rfl, rfl, rfl, rfl, trivial⟩))
          refine WC.ret (WE.then_ret ?_)
          refine WE.endDA (.inl rfl) (rs4 Tryz.results28 (rv_cellS [_, _] agg30 ty30 rfl (.head _) (List.mem_singleton.2 rfl) rfl rfl) (rv_tmp rfl) (rv_tmp rfl) (rv_tmp rfl)) (dr_lose hres (dr_forget hN16_2 (dr_f1 (dr_lose hzb (dr_add0 dr_refl))))) fresh0 ?_
          first | (exfalso; omega) | (exact refr_err (c := 1) (s_nil (by omega)) (by decide)) | (exact refr_err (c := 2) (s_8 (by omega) (by omega)) (by decide)) | (exact refr_err (c := 4) (s_0 (by omega) (by omega)) (by decide)) | (exact refr_err (c := 2) (s_12 (by omega) (by omega) (by omega)) (by decide)) | (exact refr_err (c := 3) (s_sum (by omega) (by omega) (sum_f (by assumption))) (by decide)) | (exact refr_no (s_wf hpast (by omega))) | (exact refr_part hpast (by omega) (by omega) hk16 (by simp only [decide_eq_true_eq, true_iff, ne_eq]; have := hk16.cs; omega)) | (exact refr_bad hpast (by omega) (by omega) hk18 (by omega) (by simp only [decide_eq_true_eq, true_iff, ne_eq]; try omega)) | (exact refr_err (c := 2) ⟨hsaid, hdec.trans (tail_2 (by omega))⟩ (by decide)) | (exact refr_err (c := 3) ⟨hsaid, hdec.trans (tail_3 (by omega) (by assumption))⟩ (by decide))
         ·
          try simp only [Z1, Z2, Z3, Z4, Z5, Z6, Z7, Z8, Z9, Z0] at s17_7
          refine WL.q (oq_move rfl) rfl rfl rfl ?_
          refine WL.q (oq_eql rfl rfl) rfl rfl rfl ?_
          refine WL.q (oq_pick_f rfl rfl) rfl rfl rfl ?_
          refine WL.f3 ?_
          refine WL.storeS #[_, _] ty30 rfl rfl rfl rfl (Nat.le_of_ble_eq_true rfl) rfl rfl ?_
          refine WL.q (oq_assign rfl) rfl rfl rfl ?_
          refine WL.q (oq_assign rfl) rfl rfl rfl ?_
          refine WL.q (oq_assign rfl) rfl rfl rfl ?_
          refine WL.nil (WE.then_normal (WC.sub (fr' := [(2, _), (3, _), (4, _), (5, _)]) ?_ ⟨rfl, rfl, rfl, rfl, trivial⟩))
          refine WC.ret (WE.then_ret ?_)
          refine WE.endDA (.inl rfl) (rs4 Tryz.results28 (rv_cellS [_, _] agg30 ty30 rfl (.head _) (List.mem_singleton.2 rfl) rfl rfl) (rv_tmp rfl) (rv_tmp rfl) (rv_tmp rfl)) (dr_lose hres (dr_forget hN16_2 (dr_f1 (dr_lose hzb (dr_add0 dr_refl))))) fresh0 ?_
          first | (exfalso; omega) | (exact refr_err (c := 1) (s_nil (by omega)) (by decide)) | (exact refr_err (c := 2) (s_8 (by omega) (by omega)) (by decide)) | (exact refr_err (c := 4) (s_0 (by omega) (by omega)) (by decide)) | (exact refr_err (c := 2) (s_12 (by omega) (by omega) (by omega)) (by decide)) | (exact refr_err (c := 3) (s_sum (by omega) (by omega) (sum_f (by assumption))) (by decide)) | (exact refr_no (s_wf hpast (by omega))) | (exact refr_part hpast (by omega) (by omega) hk16 (by simp only [decide_eq_true_eq, true_iff, ne_eq]; have := hk16.cs; omega)) | (exact refr_bad hpast (by omega) (by omega) hk18 (by omega) (by simp only [decide_eq_true_eq, true_iff, ne_eq]; try omega)) | (exact refr_err (c := 2) ⟨hsaid, hdec.trans (tail_2 (by omega))⟩ (by decide)) | (exact refr_err (c := 3) ⟨hsaid, hdec.trans (tail_3 (by omega) (by assumption))⟩ (by decide))
       ·
        try simp only [Z1, Z2, Z3, Z4, Z5, Z6, Z7, Z8, Z9, Z0] at q15
        refine WC.skip (WE.then_normal (WC.sub (fr' := [(0, _), (2, _), (6, _), (7, _), (8, _)]) ?_ ⟨rfl, rfl, rfl, rfl, rfl, trivial⟩))
        refine WC.seq ?_
        obtain ⟨v18, h18, o18⟩ := sl_b (i := 12) (j := 12 + (head all : Int)) ((all.drop 12).take (head all)) hr (by omega) (by rw [List.drop_take]; congr 1; omega)
        refine WC.region ?_
        refine WL.q (oq_move rfl) rfl rfl rfl ?_
        refine WL.q (oq_move rfl) rfl rfl rfl ?_
        refine WL.q (oq_add rfl rfl (by rw [i64_lo, i64_hi]; (first | omega | (simp only [List.length_cons, List.length_nil, List.length_append, List.length_drop, List.length_take]; omega)))) rfl rfl rfl ?_
        refine WL.q (o18 Tryz.underlying28 rfl ⟨_, rfl⟩ ⟨_, rfl⟩) rfl rfl rfl ?_
        refine WL.f2 ?_
        refine WL.callA (vTaking _ A ((all.drop 12).take (head all)) h18 (by rw [List.length_take, List.length_drop]; omega)) call55 rfl rfl rfl fun v18_4 N18_4 hR18_4 hN18_4 => ?_
        obtain ⟨u18, c18, rfl, hk18⟩ := tkr_tup hR18_4
        refine WL.q (oq_move rfl) rfl rfl rfl ?_
        refine WL.q (oq_extract rfl rfl) rfl rfl rfl ?_
        refine WL.q (oq_extract rfl rfl) rfl rfl rfl ?_
        refine WL.q (oq_assign rfl) rfl rfl rfl ?_
        refine WL.q (oq_assign rfl) rfl rfl rfl ?_
        refine WL.nil (WE.then_normal (WC.sub (fr' := [(0, _), (2, _), (6, _), (7, _), (8, _), (11, _), (12, _)]) ?_ ⟨rfl, rfl, rfl, rfl, rfl, rfl, rfl, trivial⟩))
        refine WC.seq (WC.seq (WC.region ?_))
        refine WL.q (oq_move rfl) rfl rfl rfl ?_
        refine WL.q (oq_neq rfl rfl) rfl rfl rfl ?_
        refine WL.nil (WE.then_normal (WC.sub (fr' := [(0, _), (2, _), (6, _), (7, _), (8, _), (11, _), (12, _), (82, _)]) ?_ ⟨rfl, rfl, rfl, rfl, rfl, rfl, rfl, rfl, trivial⟩))
        refine WC.cond rfl (fun q19 => ?_) (fun q19 => ?_)
        ·
         try simp only [Z1, Z2, Z3, Z4, Z5, Z6, Z7, Z8, Z9, Z0] at q19
         refine WC.seq (WC.region ?_)
         refine WL.q (oq_loadS [_, _] agg30 ty30 rfl (.tail _ (.tail _ (.head _))) (List.mem_singleton.2 rfl) rfl rfl) rfl rfl rfl ?_
         refine WL.q (oq_move rfl) rfl rfl rfl ?_
         refine WL.q (oq_move rfl) rfl rfl rfl ?_
         refine WL.q (oq_neq rfl rfl) rfl rfl rfl ?_
         refine WL.f3 ?_
         refine WL.storeS #[_, _] ty30 rfl rfl rfl rfl (Nat.le_of_ble_eq_true rfl) rfl rfl ?_
         refine WL.q (oq_assign rfl) rfl rfl rfl ?_
         refine WL.q (oq_assign rfl) rfl rfl rfl ?_
         refine WL.q (oq_assign rfl) rfl rfl rfl ?_
         refine WL.nil (WE.then_normal (WC.sub (fr' := [(2, _), (3, _), (4, _), (5, _)]) ?_ ⟨rfl, rfl, rfl, rfl, trivial⟩))
         refine WC.ret (WE.then_ret ?_)
         refine WE.endDA (.inl rfl) (rs4 Tryz.results28 (rv_cellS [_, _] agg30 ty30 rfl (.head _) (List.mem_singleton.2 rfl) rfl rfl) (rv_tmp rfl) (rv_tmp rfl) (rv_tmp rfl)) (dr_lose hres (dr_forget hN18_4 (dr_f1 (dr_lose hzb (dr_add0 dr_refl))))) fresh0 ?_
         first | (exfalso; omega) | (exact refr_err (c := 1) (s_nil (by omega)) (by decide)) | (exact refr_err (c := 2) (s_8 (by omega) (by omega)) (by decide)) | (exact refr_err (c := 4) (s_0 (by omega) (by omega)) (by decide)) | (exact refr_err (c := 2) (s_12 (by omega) (by omega) (by omega)) (by decide)) | (exact refr_err (c := 3) (s_sum (by omega) (by omega) (sum_f (by assumption))) (by decide)) | (exact refr_no (s_wf hpast (by omega))) | (exact refr_part hpast (by omega) (by omega) hk16 (by simp only [decide_eq_true_eq, true_iff, ne_eq]; have := hk16.cs; omega)) | (exact refr_bad hpast (by omega) (by omega) hk18 (by omega) (by simp only [decide_eq_true_eq, true_iff, ne_eq]; try omega)) | (exact refr_err (c := 2) ⟨hsaid, hdec.trans (tail_2 (by omega))⟩ (by decide)) | (exact refr_err (c := 3) ⟨hsaid, hdec.trans (tail_3 (by omega) (by assumption))⟩ (by decide))
        ·
         try simp only [Z1, Z2, Z3, Z4, Z5, Z6, Z7, Z8, Z9, Z0] at q19
         refine WC.skip (WE.then_normal (WC.sub (fr' := [(0, _), (2, _), (6, _), (7, _), (8, _), (11, _)]) ?_ ⟨rfl, rfl, rfl, rfl, rfl, rfl, trivial⟩))
         refine WC.seq (WC.seq ?_)
         obtain ⟨lh, hrh, hsaid, hdec⟩ := dec_ok0 hpast (by omega) (by omega) hk18 (by omega)
         obtain ⟨p18, n18, rfl⟩ := hrh.shape
         refine WC.region ?_
         refine WL.q (oq_move rfl) rfl rfl rfl ?_
         refine WL.q (oq_len_rd hr Tryz.underlying28 rfl) rfl rfl rfl ?_
         refine WL.q (oq_move rfl) rfl rfl rfl ?_
         refine WL.q (oq_lss rfl rfl) rfl rfl rfl ?_
         refine WL.nil (WE.then_normal (WC.sub (fr' := [(0, _), (2, _), (6, _), (7, _), (8, _), (11, _), (90, _)]) ?_ ⟨rfl, rfl, rfl, rfl, rfl, rfl, rfl, trivial⟩))
         refine WC.cond rfl (fun q21 => ?_) (fun q21 => ?_)
         ·
          try simp only [Z1, Z2, Z3, Z4, Z5, Z6, Z7, Z8, Z9, Z0] at q21
          refine WC.seq (WC.region ?_)
          refine WL.q (oq_loadS [_, _] agg30 ty30 rfl (.tail _ (.tail _ (.head _))) (List.mem_singleton.2 rfl) rfl rfl) rfl rfl rfl ?_
          refine WL.f3 ?_
          refine WL.storeS #[_, _] ty30 rfl rfl rfl rfl (Nat.le_of_ble_eq_true rfl) rfl rfl ?_
          refine WL.q (oq_assign rfl) rfl rfl rfl ?_
          refine WL.q (oq_assign rfl) rfl rfl rfl ?_
          refine WL.q (oq_assign rfl) rfl rfl rfl ?_
          refine WL.nil (WE.then_normal (WC.sub (fr' := [(2, _), (3, _), (4, _), (5, _)]) ?_ ⟨rfl, rfl, rfl, rfl, trivial⟩))
          refine WC.ret (WE.then_ret ?_)
          refine WE.endDA (.inl rfl) (rs4 Tryz.results28 (rv_cellS [_, _] agg30 ty30 rfl (.head _) (List.mem_singleton.2 rfl) rfl rfl) (rv_tmp rfl) (rv_tmp rfl) (rv_tmp rfl)) (dr_lose hres (dr_forget hN18_4 (dr_f1 (dr_lose hzb (dr_add0 dr_refl))))) fresh0 ?_
          first | (exfalso; omega) | (exact refr_err (c := 1) (s_nil (by omega)) (by decide)) | (exact refr_err (c := 2) (s_8 (by omega) (by omega)) (by decide)) | (exact refr_err (c := 4) (s_0 (by omega) (by omega)) (by decide)) | (exact refr_err (c := 2) (s_12 (by omega) (by omega) (by omega)) (by decide)) | (exact refr_err (c := 3) (s_sum (by omega) (by omega) (sum_f (by assumption))) (by decide)) | (exact refr_no (s_wf hpast (by omega))) | (exact refr_part hpast (by omega) (by omega) hk16 (by simp only [decide_eq_true_eq, true_iff, ne_eq]; have := hk16.cs; omega)) | (exact refr_bad hpast (by omega) (by omega) hk18 (by omega) (by simp only [decide_eq_true_eq, true_iff, ne_eq]; try omega)) | (exact refr_err (c := 2) ⟨hsaid, hdec.trans (tail_2 (by omega))⟩ (by decide)) | (exact refr_err (c := 3) ⟨hsaid, hdec.trans (tail_3 (by omega) (by assumption))⟩ (by decide))
         ·
          try simp only [Z1, Z2, Z3, Z4, Z5, Z6, Z7, Z8, Z9, Z0] at q21
          refine WC.skip (WE.then_normal (WC.sub (fr' := [(0, _), (2, _), (6, _), (7, _), (8, _), (11, _)]) ?_ ⟨rfl, rfl, rfl, rfl, rfl, rfl, trivial⟩))
          refine WC.seq (WC.seq ?_)
          have hS23 := nm4 (all.drop (totl all - 4))
          obtain ⟨v23a, h23a, o23a⟩ := sl_b (i := 0) (j := (totl all : Int) - 4) (all.take (totl all - 4)) hr (by omega) (by rw [show ((totl all : Int) - 4).toNat = totl all - 4 by omega]; rfl)
          obtain ⟨v23b, h23b, o23b⟩ := sl_b (i := (totl all : Int) - 4) (j := (totl all : Int)) ((all.drop (totl all - 4)).take 4) hr (by omega) (by rw [List.drop_take, Int.toNat_natCast, show ((totl all : Int) - 4).toNat = totl all - 4 by omega, show totl all - (totl all - 4) = 4 by omega])
          have h23l : (all.take (totl all - 4)).length ≤ 1000000 := by rw [List.length_take]; omega
          have h23c := (crc (all.take (totl all - 4))).isLt
          refine WC.quiet (by kernel_rfl) (by kernel_rfl) ?_
          refine WQ.q (oq_move rfl) rfl rfl rfl ?_
          refine WQ.q (oq_move rfl) rfl rfl rfl ?_
          refine WQ.q (oq_sub rfl rfl (by rw [i64_lo, i64_hi]; (first | omega | (simp only [List.length_cons, List.length_nil, List.length_append, List.length_drop, List.length_take]; omega)))) rfl rfl rfl ?_
          refine WQ.q (o23a Tryz.underlying28 rfl rfl ⟨_, rfl⟩) rfl rfl rfl ?_
          refine WQ.qc (oq_callRm (sumOf _ A _ h23a h23l) (by repeat (first | exact .head _ | apply List.Mem.tail)) call41 rfl) rfl rfl rfl ?_
          refine WQ.q (oq_conv Tryz.underlying74 Tryz.underlying73 rfl (by rw [u64_lo, u64_hi]; (first | omega | (simp only [List.length_cons, List.length_nil, List.length_append, List.length_drop, List.length_take]; omega)))) rfl rfl rfl ?_
          refine WQ.q (oq_move rfl) rfl rfl rfl ?_
          refine WQ.q (oq_move rfl) rfl rfl rfl ?_
          refine WQ.q (oq_sub rfl rfl (by rw [i64_lo, i64_hi]; (first | omega | (simp only [List.length_cons, List.length_nil, List.length_append, List.length_drop, List.length_take]; omega)))) rfl rfl rfl ?_
          refine WQ.q (oq_move rfl) rfl rfl rfl ?_
          refine WQ.q (o23b Tryz.underlying28 rfl ⟨_, rfl⟩ ⟨_, rfl⟩) rfl rfl rfl ?_
          refine WQ.qc (oq_callRm (tak4 h23b) (by repeat (first | exact .head _ | apply List.Mem.tail)) call54 rfl) rfl rfl rfl ?_
          refine WQ.q (oq_neq rfl rfl) rfl rfl rfl ?_
          refine WQ.nil (WE.then_normal (WC.sub (fr' := [(0, _), (2, _), (6, _), (7, _), (8, _), (11, _), (104, _)]) ?_ ⟨rfl, rfl, rfl, rfl, rfl, rfl, rfl, trivial⟩))
          refine WC.cond rfl (fun q23 => ?_) (fun q23 => ?_)
          ·
           try simp only [Z1, Z2, Z3, Z4, Z5, Z6, Z7, Z8, Z9, Z0] at q23
           refine WC.seq (WC.region ?_)
           refine WL.q (oq_loadS [_, _] agg30 ty30 rfl (.tail _ (.tail _ (.head _))) (List.mem_singleton.2 rfl) rfl rfl) rfl rfl rfl ?_
           refine WL.f3 ?_
           refine WL.storeS #[_, _] ty30 rfl rfl rfl rfl (Nat.le_of_ble_eq_true rfl) rfl rfl ?_
           refine WL.q (oq_assign rfl) rfl rfl rfl ?_
           refine WL.q (oq_assign rfl) rfl rfl rfl ?_
           refine WL.q (oq_assign rfl) rfl rfl rfl ?_
           refine WL.nil (WE.then_normal (WC.sub (fr' := [(2, _), (3, _), (4, _), (5, _)]) ?_ ⟨rfl, rfl, rfl, rfl, trivial⟩))
           refine WC.ret (WE.then_ret ?_)
           refine WE.endDA (.inl rfl) (rs4 Tryz.results28 (rv_cellS [_, _] agg30 ty30 rfl (.head _) (List.mem_singleton.2 rfl) rfl rfl) (rv_tmp rfl) (rv_tmp rfl) (rv_tmp rfl)) (dr_lose hres (dr_forget hN18_4 (dr_f1 (dr_lose hzb (dr_add0 dr_refl))))) fresh0 ?_
           first | (exfalso; omega) | (exact refr_err (c := 1) (s_nil (by omega)) (by decide)) | (exact refr_err (c := 2) (s_8 (by omega) (by omega)) (by decide)) | (exact refr_err (c := 4) (s_0 (by omega) (by omega)) (by decide)) | (exact refr_err (c := 2) (s_12 (by omega) (by omega) (by omega)) (by decide)) | (exact refr_err (c := 3) (s_sum (by omega) (by omega) (sum_f (by assumption))) (by decide)) | (exact refr_no (s_wf hpast (by omega))) | (exact refr_part hpast (by omega) (by omega) hk16 (by simp only [decide_eq_true_eq, true_iff, ne_eq]; have := hk16.cs; omega)) | (exact refr_bad hpast (by omega) (by omega) hk18 (by omega) (by simp only [decide_eq_true_eq, true_iff, ne_eq]; try omega)) | (exact refr_err (c := 2) ⟨hsaid, hdec.trans (tail_2 (by omega))⟩ (by decide)) | (exact refr_err (c := 3) ⟨hsaid, hdec.trans (tail_3 (by omega) (by assumption))⟩ (by decide))
          ·
           try simp only [Z1, Z2, Z3, Z4, Z5, Z6, Z7, Z8, Z9, Z0] at q23
           refine WC.skip (WE.then_normal (WC.sub (fr' := [(0, _), (2, _), (7, _), (8, _), (11, _)]) ?_ ⟨rfl, rfl, rfl, rfl, rfl, trivial⟩))
           refine WC.seq ?_
           obtain ⟨v25, h25, o25⟩ := sl_b (i := 12 + (head all : Int)) (j := (totl all : Int) - 4) ((all.drop (12 + head all)).take (totl all - 16 - head all)) hr (by omega) (by rw [List.drop_take, show (12 + (head all : Int)).toNat = 12 + head all by omega, show ((totl all : Int) - 4).toNat - (12 + head all) = totl all - 16 - head all by omega])
           obtain ⟨p25, n25, rfl⟩ := h25.shape
           refine WC.region ?_
           refine WL.q (oq_move rfl) rfl rfl rfl ?_
           refine WL.q (oq_move rfl) rfl rfl rfl ?_
           refine WL.q (oq_move rfl) rfl rfl rfl ?_
           refine WL.q (oq_add rfl rfl (by rw [i64_lo, i64_hi]; (first | omega | (simp only [List.length_cons, List.length_nil, List.length_append, List.length_drop, List.length_take]; omega)))) rfl rfl rfl ?_
           refine WL.q (oq_move rfl) rfl rfl rfl ?_
           refine WL.q (oq_sub rfl rfl (by rw [i64_lo, i64_hi]; (first | omega | (simp only [List.length_cons, List.length_nil, List.length_append, List.length_drop, List.length_take]; omega)))) rfl rfl rfl ?_
           refine WL.q (o25 Tryz.underlying28 rfl ⟨_, rfl⟩ ⟨_, rfl⟩) rfl rfl rfl ?_
           refine WL.q (oq_build #[_, _] str30 ty30 rfl rfl) rfl rfl rfl ?_
           refine WL.q (oq_move rfl) rfl rfl rfl ?_
           refine WL.f3 ?_
           refine WL.storeS #[_, _] ty30 rfl rfl rfl rfl (Nat.le_of_ble_eq_true rfl) rfl rfl ?_
           refine WL.q (oq_assign rfl) rfl rfl rfl ?_
           refine WL.q (oq_assign rfl) rfl rfl rfl ?_
           refine WL.q (oq_assign rfl) rfl rfl rfl ?_
           refine WL.nil (WE.then_normal (WC.sub (fr' := [(2, _), (3, _), (4, _), (5, _)]) ?_ ⟨rfl, rfl, rfl, rfl, trivial⟩))
           refine WC.ret ?_
           refine WE.endDA (.inl rfl) (rs4 Tryz.results28 (rv_cellS [_, _] agg30 ty30 rfl (.head _) (List.mem_singleton.2 rfl) rfl rfl) (rv_tmp rfl) (rv_tmp rfl) (rv_tmp rfl)) (dr_lose hres (dr_f2 (dr_lose hzb dr_refl))) (hN18_4) ?_
           exact refr_ok hrh hsaid hdec (by omega) (by assumption) h25
end DU
end Go.Proofs.YtodlhaghdplclaaGreatDoor
/- The law: bytes are read as the reference says. -/
namespace Go.Proofs.YtodlhaghdplclaaGreatDoor
open Go Go.RowKit V EA EB EC ED EL DC DD DA DE EE EH EI EJ DF DG DH DI EM DJ DK DL DM DB EF EG EK EN EO ER ES DP DO DQ ET DR DE DS DT EC DU
set_option linter.unusedSimpArgs false
set_option linter.unusedVariables false
set_option maxRecDepth 10000
namespace DV
theorem call14 : Callable Tryz.prog 14 := ⟨_, Tryz.func14, rfl, by kernel_rfl⟩
theorem call17 : Callable Tryz.prog 17 := ⟨_, Tryz.func17, rfl, by kernel_rfl⟩
theorem call27 : Callable Tryz.prog 27 := ⟨_, Tryz.func27, rfl, by kernel_rfl⟩
theorem call28 : Callable Tryz.prog 28 := ⟨_, Tryz.func28, rfl, by kernel_rfl⟩
theorem flat22 : Flat Tryz.prog 22 := ⟨_, Tryz.underlying22, by simp⟩
theorem flat28 : Flat Tryz.prog 28 := ⟨_, Tryz.underlying28, by simp⟩
theorem ty22 : Ty Tryz.prog 22 (.slice none 0 0) 1 24 := ty_of (by kernel_rfl)
theorem ty28 : Ty Tryz.prog 28 (.slice none 0 0) 1 24 := ty_of (by kernel_rfl)
theorem ty30 : Ty Tryz.prog 30 (.agg #[(.slice none 0 0), (.slice none 0 0)]) 2 48 := ty_of (by kernel_rfl)
theorem fld30_0 : Fld Tryz.prog 30 0 0 22 := fld_of Tryz.underlying30 rfl rfl rfl ty22 (by decide)
theorem fld30_1 : Fld Tryz.prog 30 1 1 28 := fld_of Tryz.underlying30 rfl rfl rfl ty28 (by decide)
theorem said_wf {all : List UInt8} (h : said all = true) (hp : preC all = 0) : 16 + head all ≤ totl all := by
 obtain ⟨h12, hs⟩ := pre_sum hp
 have ht : totl all ≠ 0 := fun e => by
  unfold preC at hp
  rw [if_neg (by omega), if_neg (by omega), if_pos e] at hp; cases hp
 have h2 := said_past ⟨h12, ht, hs⟩
 rw [h] at h2
 by_cases hw : totl all < 16 + head all
 ·rw [if_pos hw] at h2; cases h2
 ·omega
theorem lawReads (A : Hp) (v : Value) (all : List UInt8) (hr0 : RdS 1 v A all.length (bytesV all)) (kE : TypeId) (pE pU : Addr) (hS : Sn A kE pE pU) : FnR Tryz.prog 6 [v] A (.bool true) := by
 obtain ⟨pp, pc, rfl⟩ := hr0.shape
 have hr := hr0
 refine FnR.enter (n := 62) Tryz.func6 rfl rfl fun w0 => ?_
 refine WC.sub (fr' := [(0, _)]) ?_ ⟨rfl, trivial⟩
 refine WC.seq (WC.region ?_)
 refine WL.q (oq_assign rfl) rfl rfl rfl ?_
 refine WL.nil (WE.then_normal (WC.sub (fr' := [(0, _)]) ?_ ⟨rfl, trivial⟩))
 refine WC.seq (WC.seq (WC.region ?_))
 refine WL.q (oq_move rfl) rfl rfl rfl ?_
 refine WL.q (oq_len_rd hr Tryz.underlying28 rfl) rfl rfl rfl ?_
 refine WL.q (oq_gtr rfl rfl) rfl rfl rfl ?_
 refine WL.nil (WE.then_normal (WC.sub (fr' := [(0, _), (12, _)]) ?_ ⟨rfl, rfl, trivial⟩))
 refine WC.cond rfl (fun q1 => ?_) (fun q1 => ?_)
 ·
  try simp only [Z1, Z2, Z3, Z4, Z5, Z6, Z7, Z8, Z9, Z0] at q1
  refine WC.seq (WC.region ?_)
  refine WL.q (oq_assign rfl) rfl rfl rfl ?_
  refine WL.nil (WE.then_normal (WC.sub (fr' := [(2, _)]) ?_ ⟨rfl, trivial⟩))
  refine WC.ret (WE.then_ret ?_)
  refine WE.endR (.inl rfl) (res1 Tryz.results6 rfl) ?_
  first | rfl | (exfalso; omega) | (exfalso; simp_all; done) | skip
 ·
  try simp only [Z1, Z2, Z3, Z4, Z5, Z6, Z7, Z8, Z9, Z0] at q1
  refine WC.skip (WE.then_normal (WC.sub (fr' := [(0, _)]) ?_ ⟨rfl, trivial⟩))
  refine WC.seq (WC.seq (WC.region ?_))
  refine WL.q (oq_move rfl) rfl rfl rfl ?_
  refine WL.q (oq_len_rd hr Tryz.underlying28 rfl) rfl rfl rfl ?_
  refine WL.q (oq_gtr rfl rfl) rfl rfl rfl ?_
  refine WL.nil (WE.then_normal (WC.sub (fr' := [(0, _), (15, _)]) ?_ ⟨rfl, rfl, trivial⟩))
  refine WC.cond rfl (fun q3 => ?_) (fun q3 => ?_)
  ·
   try simp only [Z1, Z2, Z3, Z4, Z5, Z6, Z7, Z8, Z9, Z0] at q3
   refine WC.seq (WC.region ?_)
   refine WL.qc (oq_call (vAwake) call14 rfl) rfl rfl rfl ?_
   refine WL.q (oq_assign rfl) rfl rfl rfl ?_
   refine WL.nil (WE.then_normal (WC.sub (fr' := [(2, _)]) ?_ ⟨rfl, trivial⟩))
   refine WC.ret (WE.then_ret ?_)
   refine WE.endR (.inl rfl) (res1 Tryz.results6 rfl) ?_
   first | rfl | (exfalso; omega) | (exfalso; simp_all; done) | skip
  ·
   try simp only [Z1, Z2, Z3, Z4, Z5, Z6, Z7, Z8, Z9, Z0] at q3
   refine WC.skip (WE.then_normal (WC.sub (fr' := [(0, _)]) ?_ ⟨rfl, trivial⟩))
   refine WC.seq (WC.region ?_)
   refine WL.q (oq_move rfl) rfl rfl rfl ?_
   refine WL.callA (vDecoded _ A all hr (by omega)) call28 rfl rfl rfl fun v5_1 N5_1 hR5_1 hN5_1 => ?_
   obtain ⟨hv5, pv5, c5, k5, rfl, ho5, po5, hd5⟩ := hR5_1
   refine WL.q (oq_move rfl) rfl rfl rfl ?_
   refine WL.q (oq_extract rfl rfl) rfl rfl rfl ?_
   refine WL.q (oq_extract rfl rfl) rfl rfl rfl ?_
   refine WL.q (oq_extract rfl rfl) rfl rfl rfl ?_
   refine WL.q (oq_extract rfl rfl) rfl rfl rfl ?_
   refine WL.alloc ty30 rfl rfl fun m3 hm3 => ?_
   refine WL.storeS (#[hv5, pv5]) ty30 rfl rfl rfl (by simp [Value.cells, ho5, po5]) (Nat.le_of_ble_eq_true rfl) rfl rfl ?_
   refine WL.q (oq_assign rfl) rfl rfl rfl ?_
   refine WL.q (oq_assign rfl) rfl rfl rfl ?_
   refine WL.q (oq_assign rfl) rfl rfl rfl ?_
   refine WL.nil (WE.then_normal (WC.sub (fr' := [(0, _), (3, _), (4, _), (5, _), (6, _)]) ?_ ⟨rfl, rfl, rfl, rfl, rfl, trivial⟩))
   refine WC.seq (WC.seq (WC.region ?_))
   refine WL.q (oq_move rfl) rfl rfl rfl ?_
   refine WL.q (oq_not rfl) rfl rfl rfl ?_
   refine WL.nil (WE.then_normal (WC.sub (fr' := [(0, _), (3, _), (4, _), (5, _), (25, _)]) ?_ ⟨rfl, rfl, rfl, rfl, rfl, trivial⟩))
   refine WC.cond rfl (fun q6 => ?_) (fun q6 => ?_)
   ·
    try simp only [Z1, Z2, Z3, Z4, Z5, Z6, Z7, Z8, Z9, Z0] at q6
    refine WC.seq (WC.region ?_)
    refine WL.qc (oq_call (vAwake) call14 rfl) rfl rfl rfl ?_
    refine WL.q (oq_assign rfl) rfl rfl rfl ?_
    refine WL.nil (WE.then_normal (WC.sub (fr' := [(2, _)]) ?_ ⟨rfl, trivial⟩))
    refine WC.ret (WE.then_ret ?_)
    refine WE.lose hm3 ?_
    refine WE.forget hN5_1 ?_
    refine WE.endR (.inl rfl) (res1 Tryz.results6 rfl) ?_
    first | rfl | (exfalso; omega) | (exfalso; simp_all; done) | skip
   ·
    try simp only [Z1, Z2, Z3, Z4, Z5, Z6, Z7, Z8, Z9, Z0] at q6
    refine WC.skip (WE.then_normal (WC.sub (fr' := [(0, _), (3, _), (4, _), (5, _)]) ?_ ⟨rfl, rfl, rfl, rfl, trivial⟩))
    refine WC.seq ?_
    have hsaid : said all = true := by simpa using q6
    obtain ⟨rfl, hk5⟩ := hd5 hsaid
    refine WC.region ?_
    refine WL.q (oq_move rfl) rfl rfl rfl ?_
    refine WL.f2 ?_
    refine WL.callA (vDecode _ kE pE pU hS pp pc all hr (by omega) (said_wf hsaid)) call27 rfl rfl rfl fun v8_1 N8_1 hR8_1 hN8_1 => ?_
    obtain ⟨mv8, k8, rfl, hv8, pv8, rfl, o1, o2, hok8⟩ := hR8_1
    refine WL.q (oq_move rfl) rfl rfl rfl ?_
    refine WL.q (oq_extract rfl rfl) rfl rfl rfl ?_
    refine WL.q (oq_extract rfl rfl) rfl rfl rfl ?_
    refine WL.q (oq_extract rfl rfl) rfl rfl rfl ?_
    refine WL.alloc ty30 rfl rfl fun m7 hm7 => ?_
    refine WL.storeS (#[hv8, pv8]) ty30 rfl rfl rfl (by simp [Value.cells, o1, o2]) (Nat.le_of_ble_eq_true rfl) rfl rfl ?_
    refine WL.q (oq_assign rfl) rfl rfl rfl ?_
    refine WL.q (oq_assign rfl) rfl rfl rfl ?_
    refine WL.nil (WE.then_normal (WC.sub (fr' := [(3, _), (4, _), (5, _), (7, _), (8, _), (9, _)]) ?_ ⟨rfl, rfl, rfl, rfl, rfl, rfl, trivial⟩))
    refine WC.seq (WC.seq (WC.region ?_))
    refine WL.q (oq_move rfl) rfl rfl rfl ?_
    refine WL.q (oq_move rfl) rfl rfl rfl ?_
    refine WL.q (oq_neq rfl rfl) rfl rfl rfl ?_
    refine WL.nil (WE.then_normal (WC.sub (fr' := [(3, _), (5, _), (7, _), (8, _), (9, _), (35, _)]) ?_ ⟨rfl, rfl, rfl, rfl, rfl, rfl, trivial⟩))
    refine WC.cond rfl (fun q9 => ?_) (fun q9 => ?_)
    ·
     try simp only [Z1, Z2, Z3, Z4, Z5, Z6, Z7, Z8, Z9, Z0] at q9
     refine WC.seq (WC.region ?_)
     refine WL.q (oq_assign rfl) rfl rfl rfl ?_
     refine WL.nil (WE.then_normal (WC.sub (fr' := [(2, _)]) ?_ ⟨rfl, trivial⟩))
     refine WC.ret (WE.then_ret ?_)
     refine WE.lose hm7 ?_
     refine WE.forget hN8_1 ?_
     refine WE.f1 ?_
     refine WE.lose hm3 ?_
     refine WE.f1 ?_
     refine WE.forget hN5_1 ?_
     refine WE.endR (.inl rfl) (res1 Tryz.results6 rfl) ?_
     first | rfl | (exfalso; omega) | (exfalso; simp_all; done) | skip
    ·
     try simp only [Z1, Z2, Z3, Z4, Z5, Z6, Z7, Z8, Z9, Z0] at q9
     refine WC.skip (WE.then_normal (WC.sub (fr' := [(3, _), (5, _), (7, _), (8, _), (9, _)]) ?_ ⟨rfl, rfl, rfl, rfl, rfl, trivial⟩))
     refine WC.seq (WC.region ?_)
     refine WL.q (oq_move rfl) rfl rfl rfl ?_
     refine WL.q (oq_neq rfl rfl) rfl rfl rfl ?_
     refine WL.q (oq_move rfl) rfl rfl rfl ?_
     refine WL.split 38 rfl (fun s11_2 => ?_) (fun s11_2 => ?_)
     ·
      try simp only [Z1, Z2, Z3, Z4, Z5, Z6, Z7, Z8, Z9, Z0] at s11_2
      refine WL.skip rfl rfl rfl ?_
      refine WL.skip rfl rfl rfl ?_
      refine WL.skip rfl rfl rfl ?_
      refine WL.skip rfl rfl rfl ?_
      refine WL.skip rfl rfl rfl ?_
      refine WL.skip rfl rfl rfl ?_
      refine WL.skip rfl rfl rfl ?_
      refine WL.skip rfl rfl rfl ?_
      refine WL.skip rfl rfl rfl ?_
      refine WL.skip rfl rfl rfl ?_
      refine WL.skip rfl rfl rfl ?_
      refine WL.skip rfl rfl rfl ?_
      refine WL.skip rfl rfl rfl ?_
      refine WL.skip rfl rfl rfl ?_
      refine WL.skip rfl rfl rfl ?_
      refine WL.skip rfl rfl rfl ?_
      refine WL.skip rfl rfl rfl ?_
      refine WL.skip rfl rfl rfl ?_
      refine WL.skip rfl rfl rfl ?_
      refine WL.q (oq_pick_t rfl rfl) rfl rfl rfl ?_
      refine WL.q (oq_move rfl) rfl rfl rfl ?_
      refine WL.qc (oq_call (vAwake) call14 rfl) rfl rfl rfl ?_
      refine WL.q (oq_pick_t rfl rfl) rfl rfl rfl ?_
      refine WL.q (oq_assign rfl) rfl rfl rfl ?_
      refine WL.nil (WE.then_normal (WC.sub (fr' := [(2, _)]) ?_ ⟨rfl, trivial⟩))
      refine WC.ret ?_
      refine WE.lose hm7 ?_
      refine WE.forget hN8_1 ?_
      refine WE.f1 ?_
      refine WE.lose hm3 ?_
      refine WE.f1 ?_
      refine WE.forget hN5_1 ?_
      refine WE.endR (.inl rfl) (res1 Tryz.results6 rfl) ?_
      first | rfl | (exfalso; omega) | (exfalso; simp_all; done) | skip
     ·
      try simp only [Z1, Z2, Z3, Z4, Z5, Z6, Z7, Z8, Z9, Z0] at s11_2
      have h0 : (dec all).1 = 0 := by simp only [decide_eq_true_eq, decide_eq_false_iff_not] at *; omega
      obtain ⟨hrh8, hrp8, rfl, _⟩ := hok8 h0
      obtain ⟨rfl, hrh5, hrp5⟩ := hk5 (by omega)
      have hln : (dec all).2.1.length ≤ 1000000 := by have := dec_hn all; omega
      refine WL.q (oq_move rfl) rfl rfl rfl ?_
      refine WL.q (oq_move rfl) rfl rfl rfl ?_
      refine WL.q (oq_eql rfl rfl) rfl rfl rfl ?_
      refine WL.q (oq_move rfl) rfl rfl rfl ?_
      refine WL.split 42 rfl (fun s11_6 => ?_) (fun s11_6 => ?_)
      ·
       try simp only [Z1, Z2, Z3, Z4, Z5, Z6, Z7, Z8, Z9, Z0] at s11_6
       refine WL.q (oq_fieldAddr fld30_0 rfl) rfl rfl rfl ?_
       refine WL.q (oq_load flat22 rfl (.head _) (List.mem_singleton.2 rfl) rfl) rfl rfl rfl ?_
       refine WL.q (oq_fieldAddr fld30_0 rfl) rfl rfl rfl ?_
       refine WL.q (oq_load flat22 rfl (.tail _ (.tail _ (.tail _ (.head _)))) (List.mem_singleton.2 rfl) rfl) rfl rfl rfl ?_
       refine WL.qc (oq_callRall (vSame _ _ _ (dec all).2.1 (dec all).2.1 (rd_flat hrh8 (by repeat (first | exact .head _ | apply List.Mem.tail))) (rd_flat hrh5 (by repeat (first | exact .head _ | apply List.Mem.tail))) hln) call17 rfl) rfl rfl rfl ?_
       refine WL.q (oq_pick_t rfl rfl) rfl rfl rfl ?_
       refine WL.q (oq_move rfl) rfl rfl rfl ?_
       refine WL.split 49 rfl (fun s11_13 => ?_) (fun s11_13 => ?_)
       ·
        try simp only [Z1, Z2, Z3, Z4, Z5, Z6, Z7, Z8, Z9, Z0] at s11_13
        refine WL.q (oq_fieldAddr fld30_1 rfl) rfl rfl rfl ?_
        refine WL.q (oq_load flat28 rfl (.head _) (List.mem_singleton.2 rfl) rfl) rfl rfl rfl ?_
        refine WL.q (oq_bytesStr hrp8 (.tail _ (.head _)) Tryz.underlying9 Tryz.underlying28 Tryz.underlying5 rfl) rfl rfl rfl ?_
        refine WL.q (oq_fieldAddr fld30_1 rfl) rfl rfl rfl ?_
        refine WL.q (oq_load flat28 rfl (.tail _ (.tail _ (.tail _ (.head _)))) (List.mem_singleton.2 rfl) rfl) rfl rfl rfl ?_
        refine WL.q (oq_bytesStr hrp5 (.tail _ (.tail _ (.head _))) Tryz.underlying9 Tryz.underlying28 Tryz.underlying5 rfl) rfl rfl rfl ?_
        refine WL.q (oq_seql rfl rfl) rfl rfl rfl ?_
        refine WL.q (oq_pick_t rfl rfl) rfl rfl rfl ?_
        refine WL.q (oq_pick_f rfl rfl) rfl rfl rfl ?_
        refine WL.q (oq_move rfl) rfl rfl rfl ?_
        refine WL.split 59 rfl (fun s11_23 => ?_) (fun s11_23 => ?_)
        ·
         try simp only [Z1, Z2, Z3, Z4, Z5, Z6, Z7, Z8, Z9, Z0] at s11_23
         refine WL.qc (oq_call (vAwake) call14 rfl) rfl rfl rfl ?_
         refine WL.q (oq_pick_t rfl rfl) rfl rfl rfl ?_
         refine WL.q (oq_assign rfl) rfl rfl rfl ?_
         refine WL.nil (WE.then_normal (WC.sub (fr' := [(2, _)]) ?_ ⟨rfl, trivial⟩))
         refine WC.ret ?_
         refine WE.lose hm7 ?_
         refine WE.forget hN8_1 ?_
         refine WE.f1 ?_
         refine WE.lose hm3 ?_
         refine WE.f1 ?_
         refine WE.forget hN5_1 ?_
         refine WE.endR (.inl rfl) (res1 Tryz.results6 rfl) ?_
         first | rfl | (exfalso; omega) | (exfalso; simp_all; done) | skip
        ·
         try simp only [Z1, Z2, Z3, Z4, Z5, Z6, Z7, Z8, Z9, Z0] at s11_23
         refine WL.skip rfl rfl rfl ?_
         refine WL.q (oq_pick_f rfl rfl) rfl rfl rfl ?_
         refine WL.q (oq_assign rfl) rfl rfl rfl ?_
         refine WL.nil (WE.then_normal (WC.sub (fr' := [(2, _)]) ?_ ⟨rfl, trivial⟩))
         refine WC.ret ?_
         refine WE.lose hm7 ?_
         refine WE.forget hN8_1 ?_
         refine WE.f1 ?_
         refine WE.lose hm3 ?_
         refine WE.f1 ?_
         refine WE.forget hN5_1 ?_
         refine WE.endR (.inl rfl) (res1 Tryz.results6 rfl) ?_
         first | rfl | (exfalso; omega) | (exfalso; simp_all; done) | skip
       ·
        try simp only [Z1, Z2, Z3, Z4, Z5, Z6, Z7, Z8, Z9, Z0] at s11_13
        refine WL.skip rfl rfl rfl ?_
        refine WL.skip rfl rfl rfl ?_
        refine WL.skip rfl rfl rfl ?_
        refine WL.skip rfl rfl rfl ?_
        refine WL.skip rfl rfl rfl ?_
        refine WL.skip rfl rfl rfl ?_
        refine WL.skip rfl rfl rfl ?_
        refine WL.q (oq_pick_f rfl rfl) rfl rfl rfl ?_
        refine WL.q (oq_pick_f rfl rfl) rfl rfl rfl ?_
        refine WL.q (oq_move rfl) rfl rfl rfl ?_
        refine WL.skip rfl rfl rfl ?_
        refine WL.q (oq_pick_f rfl rfl) rfl rfl rfl ?_
        refine WL.q (oq_assign rfl) rfl rfl rfl ?_
        refine WL.nil (WE.then_normal (WC.sub (fr' := [(2, _)]) ?_ ⟨rfl, trivial⟩))
        refine WC.ret ?_
        refine WE.lose hm7 ?_
        refine WE.forget hN8_1 ?_
        refine WE.f1 ?_
        refine WE.lose hm3 ?_
        refine WE.f1 ?_
        refine WE.forget hN5_1 ?_
        refine WE.endR (.inl rfl) (res1 Tryz.results6 rfl) ?_
        first | rfl | (exfalso; omega) | (exfalso; simp_all; done) | skip
      ·
       try simp only [Z1, Z2, Z3, Z4, Z5, Z6, Z7, Z8, Z9, Z0] at s11_6
       refine WL.skip rfl rfl rfl ?_
       refine WL.skip rfl rfl rfl ?_
       refine WL.skip rfl rfl rfl ?_
       refine WL.skip rfl rfl rfl ?_
       refine WL.skip rfl rfl rfl ?_
       refine WL.q (oq_pick_f rfl rfl) rfl rfl rfl ?_
       refine WL.q (oq_move rfl) rfl rfl rfl ?_
       refine WL.skip rfl rfl rfl ?_
       refine WL.skip rfl rfl rfl ?_
       refine WL.skip rfl rfl rfl ?_
       refine WL.skip rfl rfl rfl ?_
       refine WL.skip rfl rfl rfl ?_
       refine WL.skip rfl rfl rfl ?_
       refine WL.skip rfl rfl rfl ?_
       refine WL.q (oq_pick_f rfl rfl) rfl rfl rfl ?_
       refine WL.q (oq_pick_f rfl rfl) rfl rfl rfl ?_
       refine WL.q (oq_move rfl) rfl rfl rfl ?_
       refine WL.skip rfl rfl rfl ?_
       refine WL.q (oq_pick_f rfl rfl) rfl rfl rfl ?_
       refine WL.q (oq_assign rfl) rfl rfl rfl ?_
       refine WL.nil (WE.then_normal (WC.sub (fr' := [(2, _)]) ?_ ⟨rfl, trivial⟩))
       refine WC.ret ?_
       refine WE.lose hm7 ?_
       refine WE.forget hN8_1 ?_
       refine WE.f1 ?_
       refine WE.lose hm3 ?_
       refine WE.f1 ?_
       refine WE.forget hN5_1 ?_
       refine WE.endR (.inl rfl) (res1 Tryz.results6 rfl) ?_
       first | rfl | (exfalso; omega) | (exfalso; simp_all; done) | skip
end DV
end Go.Proofs.YtodlhaghdplclaaGreatDoor
/- The engine, part 30: sentinels of errors with their texts. Over any program. -/
namespace Go.Proofs.YtodlhaghdplclaaGreatDoor.V
open Go Go.RowKit Go.ChangeShapes Go.WideShapes
set_option linter.unusedSimpArgs false
set_option linter.unusedVariables false
theorem laid_err {P : Program} {w : World} {n nm : String} {text : List UInt8} {g : Nat} {t k te ts : TypeId} {f : Field} {r : List (String × DataW Unit)} {ps : List MemPlace} {ms : Array (String × TypeId)} (h : DataW.LaidVars P w ((n, .iface nm (.ptr (.agg [.lit (.string text)]))) :: r) ps)
  (hall : ∀ b off, MemPlace.cell b off ∈ ps → (∃ c t, w.heap[b]? = some (.cells c t (0, 0))) ∧ ∀ u v, w.cell? ⟨b, off, none⟩ = some (.iface u v) → Value.okWide P w .any 0 u v) (hg : P.globalNamed n = some g) (ht : (P.globals[g]?).map (·.type) = some t)
  (hi : P.underlying t = some (.interface ms)) (hrow : ∀ u, P.typeName? 3 u = some nm → u = k) (hp : P.underlying k = some (.pointer te)) (he : P.underlying te = some (.struct #[f])) (hft : f.type = ts) (hfo : f.offset = 0) (hs : P.underlying ts = some .string) (hc : P.cellsOf te = 1) (hcs : P.cellsOf ts = 1) :
  (∃ (a : Addr) (s : ByteArray) (c0 : Array Value) (t0 tg : TypeId) (fg : Nat × Nat), w.heap[g]? = some (.cells #[.iface k (.pointer (some a))] tg fg) ∧ w.cell? a = some (.string s) ∧ s.data.toList = text ∧ w.heap[a.block]? = some (.cells c0 t0 (0, 0))) ∧
  ∃ q, DataW.LaidVars P w r q ∧ ∀ b off, MemPlace.cell b off ∈ q → (∃ c t, w.heap[b]? = some (.cells c t (0, 0))) ∧ ∀ u v, w.cell? ⟨b, off, none⟩ = some (.iface u v) → Value.okWide P w .any 0 u v := by
 obtain ⟨g', t', cs, fuel, p, q, hg', ht', hv, hd, hr, rfl⟩ := h
 obtain rfl := Option.some.inj (hg.symm.trans hg')
 obtain rfl := Option.some.inj (ht.symm.trans ht')
 obtain ⟨l⟩ := cs
 have ok : ∀ u v, l = [.iface u v] → Value.okWide P w .any 0 u v := fun u v e => by
  subst e
  exact (hall g 0 (by simp [MemPlace.row])).2 u v (by simpa using World.var?_cell hg hv 0)
 obtain ⟨a, s, hl, hcell, hst, _, rfl⟩ := errorString_of_trod hi hrow hp he hft hfo hs hc hcs hd ok
 obtain ⟨tg, fg, hh⟩ := var_heap hg hv
 have hl2 : l = [.iface k (.pointer (some a))] := hl
 subst hl2
 obtain ⟨c0, t0, hb⟩ := (hall a.block a.off (by simp [MemPlace.row])).1
 exact ⟨⟨a, s, c0, t0, tg, fg, hh, hcell, hst, hb⟩, q, hr, fun b off hm => hall b off (List.mem_append_right _ hm)⟩
end Go.Proofs.YtodlhaghdplclaaGreatDoor.V
/- What the listed variables hold. -/
namespace Go.Proofs.YtodlhaghdplclaaGreatDoor
open Go Go.RowKit V DC
set_option linter.unusedVariables false
namespace DN
theorem star : "*" ++ "errors.errorString" = "*errors.errorString" := by decide
theorem rowE (u : TypeId) (h : Tryz.prog.typeName? 3 u = some "*errors.errorString") : u = 248 :=
 typeName_ptr_named (nm := "errors.errorString") (by rw [star]; kernel_rfl) (by kernel_rfl) (by decide) u (by rw [star]; exact h)
theorem tyE : Ty Tryz.prog 250 (.agg #[S []]) 1 16 := ty_of (by kernel_rfl)
theorem compE : Comp Tryz.prog 248 250 := by
 refine ⟨Tryz.underlying248, ?_, _, _, _, tyE, by decide⟩
 cases hi : Tryz.prog.info? 248 with
 | none =>
  have h : (Tryz.prog.info? 248).isSome = true := by kernel_rfl
  rw [hi] at h; cases h
 | some inf =>
  exact ⟨inf, rfl, by
   have h : (Tryz.prog.info? 248).map (·.comparable) = some true := by kernel_rfl
   rw [hi] at h; simpa using h⟩
theorem g0 : Tryz.prog.globalNamed "io.EOF" = some 0 := by kernel_rfl
theorem g1 : Tryz.prog.globalNamed "io.ErrUnexpectedEOF" = some 1 := by kernel_rfl
theorem g2 : Tryz.prog.globalNamed "io.errInvalidWrite" = some 2 := by kernel_rfl
theorem g3 : Tryz.prog.globalNamed "io.ErrShortWrite" = some 3 := by kernel_rfl
theorem g4 : Tryz.prog.globalNamed "io.ErrShortBuffer" = some 4 := by kernel_rfl
theorem t0 : (Tryz.prog.globals[0]?).map (·.type) = some 99 := by kernel_rfl
theorem t1 : (Tryz.prog.globals[1]?).map (·.type) = some 99 := by kernel_rfl
theorem t2 : (Tryz.prog.globals[2]?).map (·.type) = some 99 := by kernel_rfl
theorem t3 : (Tryz.prog.globals[3]?).map (·.type) = some 99 := by kernel_rfl
theorem t4 : (Tryz.prog.globals[4]?).map (·.type) = some 99 := by kernel_rfl
theorem cE : Tryz.prog.cellsOf 250 = 1 := by kernel_rfl
theorem cS : Tryz.prog.cellsOf 9 = 1 := by kernel_rfl
set_option maxRecDepth 100000 in
theorem sn_laid {W : World} (h : laidMetH Tryz.prog Rows.fnVBackRow.laid W) : ∃ G pE pU, Has G W ∧ Sn G 248 pE pU := by
 rw [Go.MakeChecks.laidMetH_plain _ _ _ (by kernel_rfl)] at h
 obtain ⟨ps, hl, _, hall⟩ := h
 obtain ⟨_, q3, hl, hall⟩ := laid_err hl hall g3 t3 Tryz.underlying99 rowE Tryz.underlying248 Tryz.underlying250 rfl rfl Tryz.underlying9 cE cS
 obtain ⟨_, q2, hl, hall⟩ := laid_err hl hall g2 t2 Tryz.underlying99 rowE Tryz.underlying248 Tryz.underlying250 rfl rfl Tryz.underlying9 cE cS
 obtain ⟨⟨a4, s4, c4, u4, k4, f4, h4, x4, y4, z4⟩, q4, hl, hall⟩ := laid_err hl hall g4 t4 Tryz.underlying99 rowE Tryz.underlying248 Tryz.underlying250 rfl rfl Tryz.underlying9 cE cS
 obtain ⟨⟨a0, s0, c0, u0, k0, f0, h0, x0, y0, z0⟩, q0, hl, hall⟩ := laid_err hl hall g0 t0 Tryz.underlying99 rowE Tryz.underlying248 Tryz.underlying250 rfl rfl Tryz.underlying9 cE cS
 obtain ⟨⟨a1, s1, c1, u1, k1, f1, h1, x1, y1, z1⟩, q1, hl, hall⟩ := laid_err hl hall g1 t1 Tryz.underlying99 rowE Tryz.underlying248 Tryz.underlying250 rfl rfl Tryz.underlying9 cE cS
 have one : ∀ b o, W.heap[b]? = some o → Has [(b, o)] W := fun b o hb => ⟨fun b' o' hm => by rw [List.mem_singleton] at hm; cases hm; exact hb, by simp⟩
 obtain ⟨C, hC, hin⟩ := has_list (W := W) [[(0, _)], [(1, _)], [(4, _)], [(a0.block, _)], [(a1.block, _)]] (by
  intro A hA
  simp only [List.mem_cons, List.not_mem_nil, or_false] at hA
  rcases hA with rfl | rfl | rfl | rfl | rfl
  ·exact one _ _ h0
  ·exact one _ _ h1
  ·exact one _ _ h4
  ·exact one _ _ z0
  ·exact one _ _ z1)
 refine ⟨C, a0, a1, hC, ⟨⟨_, compE⟩, ⟨_, _, hin _ (.head _) _ (.head _)⟩, ⟨_, _, hin _ (.tail _ (.head _)) _ (.head _)⟩, ⟨_, _, _, _, hin _ (.tail _ (.tail _ (.head _))) _ (.head _)⟩, ?_, ⟨_, _, hin _ (.tail _ (.tail _ (.tail _ (.head _)))) _ (.head _)⟩, ⟨_, _, hin _ (.tail _ (.tail _ (.tail _ (.tail _ (.head _))))) _ (.head _)⟩, rfl⟩⟩
 rintro rfl
 rw [x0] at x1
 injection x1 with x1
 injection x1 with x1
 rw [← x1, y0] at y1
 exact absurd y1 (by decide)
end DN
end Go.Proofs.YtodlhaghdplclaaGreatDoor
