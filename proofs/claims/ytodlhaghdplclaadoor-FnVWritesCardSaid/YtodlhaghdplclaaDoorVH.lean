/- The engine, part 16: buffers of bytes that are written, arrays as slices, copy, calls through interfaces. Over any program. -/
import Derived.Test.YtodlhaghdplclaaDoorVF
import Derived.Test.YtodlhaghdplclaaDoorVB
namespace Go.Proofs.YtodlhaghdplclaaDoor.V
open Go Go.RowKit
set_option linter.unusedSimpArgs false
set_option linter.unusedVariables false
/-- a block of bytes -/
abbrev Bf (b : Nat) (e : TypeId) (l : List UInt8) : Hp := [(b, .cells (bytesV l).toArray e (0, 0))]
/-- a slice into it -/
abbrev Sl (b off n c : Nat) : Value := .slice (some ⟨b, off, none⟩) n c
theorem bytesV_len (l : List UInt8) : (bytesV l).length = l.length := by simp [bytesV]
theorem Sl.rd {b off n c : Nat} {e : TypeId} {l : List UInt8} (h : off + n ≤ l.length) (hc : n ≤ c) : RdS 1 (Sl b off n c) (Bf b e l) n (bytesV ((l.drop off).take n)) := by
  refine ⟨by rw [bytesV_len, List.length_take, List.length_drop]; omega, .inr ⟨b, off, c, _, e, (0, 0), rfl, hc, List.mem_singleton.2 rfl, fun j hj => ?_⟩⟩
  have hj' : j < n := by omega
  simp only [bytesV, List.getElem?_toArray, List.getElem?_map, List.getElem?_take, List.getElem?_drop]
  rw [if_pos hj']
theorem putCells_bytes : ∀ (ys l : List UInt8) (off : Nat), off + ys.length ≤ l.length → putCells (bytesV l).toArray off (bytesV ys) = (bytesV (l.take off ++ ys ++ l.drop (off + ys.length))).toArray := by
  intro ys l off h
  apply Array.ext_getElem?
  intro j
  rw [putCells_get _ _ _ _ (by simp [bytesV]; exact h)]
  simp only [bytesV_len, bytesV, List.getElem?_toArray, List.getElem?_map]
  rw [List.append_assoc]
  by_cases h1 : j < off
  · rw [if_neg (by omega), List.getElem?_append_left (by simp; omega), List.getElem?_take, if_pos h1]
  · have e : (l.take off).length = off := by simp; omega
    rw [List.getElem?_append_right (by omega), e]
    by_cases h2 : j < off + ys.length
    · rw [if_pos (by simp; omega), List.getElem?_append_left (by omega)]
    · rw [if_neg (by simp; omega), List.getElem?_append_right (by omega), List.getElem?_drop]
      congr 2; omega
section
variable {P : Program} {n : Nat} {w0 : World} {ds : List Deferred} {fr : Fr} {H H' : List Hp} {dst : Option Tmp} {ty : TypeId} {pos : String} {aft : Array Edge} {g : Option (Nat × Bool)}
variable {ops : Array Oper} {Q : Post} {rest : List Oper} {d : Nat}

/-- an array as a slice, or a part of it -/
theorem oq_sliceArr {t e : TypeId} {x : Operand} {lo hi : Option Operand} {m i j b off : Nat} {z : Value} {bytes : Nat} (ht : P.underlying t = some (.array m e)) (hty : Ty P e z 1 bytes) (hx : ev fr x = some (Pt b off))
    (hlo : match lo with | none => i = 0 | some y => ∃ k, ev fr y = some (.int k (i : Int))) (hhi : match hi with | none => j = m | some y => ∃ k, ev fr y = some (.int k (j : Int))) (h : i ≤ j ∧ j ≤ m) (him : i < m) :
    OV P n w0 ⟨dst, .slice t x lo hi none, ty, pos, aft, g⟩ (Sl b (off + i) (j - i) (m - i)) ds fr H := by
  refine oq_of_run fun a w hf _ => ?_
  have hj : (0 : Int) ≤ (j : Int) ∧ (j : Int) ≤ (m : Int) := by omega
  have hi2 : (0 : Int) ≤ (i : Int) ∧ (i : Int) ≤ (j : Int) := by omega
  have hmi : ¬ (m = i) := by omega
  have hmi2 : ¬ (m = m - i) ∨ i = 0 := by omega
  cases lo with
  | none =>
    subst hlo
    have hm0 : ¬ (m = 0) := by omega
    cases hi with
    | none => subst hhi; simp [execOp, hf.eval hx, Instr.sliceAt, Instr.sliceBounds, run_underlying ht, run_size hty, Instr.sureAddr, hm0, add_none]
    | some y =>
      obtain ⟨k, hy⟩ := hhi
      have := run_sliceBound (P := P) (k := k) (code := .sliceAlen) (w := w) hj
      simp [execOp, hf.eval hx, hf.eval hy, Instr.sliceAt, Instr.sliceBounds, run_underlying ht, run_size hty, Instr.sureAddr, hm0, add_none, run_sliceBound hj]
  | some y0 =>
    obtain ⟨k0, hy0⟩ := hlo
    cases hi with
    | none =>
      subst hhi
      simp [execOp, hf.eval hx, hf.eval hy0, Instr.sliceAt, Instr.sliceBounds, run_underlying ht, run_size hty, Instr.sureAddr, hmi, add_none, run_sliceBound hi2]
    | some y =>
      obtain ⟨k, hy⟩ := hhi
      have hi3 : (0 : Int) ≤ (i : Int) ∧ (i : Int) ≤ (((j : Int).toNat : Nat) : Int) := by omega
      simp [execOp, hf.eval hx, hf.eval hy0, hf.eval hy, Instr.sliceAt, Instr.sliceBounds, run_underlying ht, run_size hty, Instr.sureAddr, hmi, add_none, run_sliceBound hj, run_sliceBound hi2]
/-- a slice of a slice into a block -/
theorem oq_sliceSl {t e : TypeId} {x : Operand} {lo hi : Option Operand} {m c i j b off : Nat} {z : Value} {bytes : Nat} (ht : P.underlying t = some (.slice e)) (hty : Ty P e z 1 bytes) (hx : ev fr x = some (Sl b off m c)) (hmc : m ≤ c)
    (hlo : match lo with | none => i = 0 | some y => ∃ k, ev fr y = some (.int k (i : Int))) (hhi : match hi with | none => j = m | some y => ∃ k, ev fr y = some (.int k (j : Int))) (h : i ≤ j ∧ j ≤ c) (him : i < c) :
    OV P n w0 ⟨dst, .slice t x lo hi none, ty, pos, aft, g⟩ (Sl b (off + i) (j - i) (c - i)) ds fr H := by
  refine oq_of_run fun a w hf _ => ?_
  have hj : (0 : Int) ≤ (j : Int) ∧ (j : Int) ≤ (c : Int) := by omega
  have hi2 : (0 : Int) ≤ (i : Int) ∧ (i : Int) ≤ (j : Int) := by omega
  have hci : ¬ (c = i) := by omega
  have hna : ∀ w, (underlying t).run P w = .ok (.slice e) w := run_underlying ht
  cases lo with
  | none =>
    subst hlo
    have hm0 : ¬ (c = 0) := by omega
    cases hi with
    | none => subst hhi; simp [execOp, hf.eval hx, Instr.sliceAt, Instr.slice, Instr.sliceBounds, hna, run_size hty, hm0, add_none]
    | some y =>
      obtain ⟨k, hy⟩ := hhi
      simp [execOp, hf.eval hx, hf.eval hy, Instr.sliceAt, Instr.slice, Instr.sliceBounds, hna, run_size hty, hm0, add_none, run_sliceBound hj]
  | some y0 =>
    obtain ⟨k0, hy0⟩ := hlo
    cases hi with
    | none =>
      subst hhi
      simp [execOp, hf.eval hx, hf.eval hy0, Instr.sliceAt, Instr.slice, Instr.sliceBounds, hna, run_size hty, hci, add_none, run_sliceBound hi2]
    | some y =>
      obtain ⟨k, hy⟩ := hhi
      simp [execOp, hf.eval hx, hf.eval hy0, hf.eval hy, Instr.sliceAt, Instr.slice, Instr.sliceBounds, hna, run_size hty, hci, add_none, run_sliceBound hj, run_sliceBound hi2]
/-- an element's address in an array -/
theorem oq_ixArr {t e : TypeId} {x y : Operand} {k : IntKind} {m i b off : Nat} {z : Value} {bytes : Nat} (ht : P.underlying t = some (.array m e)) (hty : Ty P e z 1 bytes) (hx : ev fr x = some (Pt b off)) (hy : ev fr y = some (.int k (i : Int))) (h : i < m) :
    OV P n w0 ⟨dst, .indexAddr t x y, ty, pos, aft, g⟩ (Pt b (off + i)) ds fr H :=
  oq_of_run fun a w hf _ => by
    have h' : (0 : Int) ≤ (i : Int) ∧ (i : Int) < (m : Int) := by omega
    simp [execOp, hf.eval hx, hf.eval hy, Instr.indexAt, asIntOf, run_underlying ht, Instr.sureAddr, h', run_size hty, add_none]
    intro hh; omega
/-- an element's address in a slice into a block -/
theorem oq_ixSl {t e : TypeId} {x y : Operand} {k : IntKind} {m c i b off : Nat} {z : Value} {bytes : Nat} (ht : P.underlying t = some (.slice e)) (hty : Ty P e z 1 bytes) (hx : ev fr x = some (Sl b off m c)) (hy : ev fr y = some (.int k (i : Int))) (h : i < m) :
    OV P n w0 ⟨dst, .indexAddr t x y, ty, pos, aft, g⟩ (Pt b (off + i)) ds fr H :=
  oq_of_run fun a w hf _ => by
    have h' : (0 : Int) ≤ (i : Int) ∧ (i : Int) < (m : Int) := by omega
    simp [execOp, hf.eval hx, hf.eval hy, Instr.indexAt, asIntOf, run_underlying ht, h', run_size hty, add_none]
    intro hh; omega
theorem bytesV_at (l : List UInt8) (i : Nat) (h : i < l.length) : (bytesV l).toArray[i]? = some (.int .u8 (byteAt l (i : Int))) := by
  simp only [bytesV, List.getElem?_toArray, List.getElem?_map, List.getElem?_eq_getElem h, byteAt, Int.toNat_natCast, List.getD_eq_getElem?_getD]; rfl
/-- a byte of a block -/
theorem oq_loadB {t : TypeId} {x : Operand} {b i : Nat} {e : TypeId} {l : List UInt8} (ht : Flat P t) (hx : ev fr x = some (Pt b i)) (hA : Bf b e l ∈ H) (h : i < l.length) : OV P n w0 ⟨dst, .load t x, ty, pos, aft, g⟩ (.int .u8 (byteAt l (i : Int))) ds fr H :=
  oq_load ht hx hA (List.mem_singleton.2 rfl) (bytesV_at l i h)
theorem setB (l : List UInt8) (i : Nat) (c : Int) (hc : 0 ≤ c ∧ c < 256) : (bytesV l).toArray.setIfInBounds i (.int .u8 c) = (bytesV (l.set i (UInt8.ofNat c.toNat))).toArray := by
  apply Array.ext_getElem?
  intro j
  simp only [Array.getElem?_setIfInBounds, bytesV, List.getElem?_toArray, List.getElem?_map, List.getElem?_set, List.size_toArray, List.length_map]
  by_cases e : i = j
  · subst e
    rw [if_pos rfl, if_pos rfl]
    by_cases hi : i < l.length
    · rw [if_pos hi, if_pos hi]
      simp only [Option.map_some]
      congr 2
      simp
      omega
    · rw [if_neg hi, if_neg hi]; rfl
  · rw [if_neg e, if_neg e]
/-- a byte of the first group's block is written -/
theorem WL.storeB {t : TypeId} {x y : Operand} {b i : Nat} {e : TypeId} {l : List UInt8} {c : Int} {z : Value} {bytes : Nat} (hty : Ty P t z 1 bytes) (hx : ev fr x = some (Pt b i)) (hy : ev fr y = some (.int .u8 c)) (hc : 0 ≤ c ∧ c < 256) (hi : i < l.length)
    (hg : gd ops fr ⟨none, .store t x y, ty, pos, aft, g⟩ = some true) (hk : WL P n w0 ops Q rest ds fr (Bf b e (l.set i (UInt8.ofNat c.toNat)) :: H)) : WL P n w0 ops Q (⟨none, .store t x y, ty, pos, aft, g⟩ :: rest) ds fr (Bf b e l :: H) :=
  WL.store hty hx hy rfl (by simp [bytesV]; exact hi) (by simp) hg (by rw [setB l i c hc]; exact hk)
/-- copy(dst, src): bytes into the first group's block -/
theorem WL.copyB {t t' e' : TypeId} {x y : Operand} {b off m c k : Nat} {e : TypeId} {l xs : List UInt8} {v : Value} {A : Hp} {z : Value} {bytes : Nat} (ht : P.underlying t = some (.slice e')) (hty : Ty P e' z 1 bytes) (hx : ev fr x = some (Sl b off m c)) (hy : ev fr y = some v) (hr : RdS 1 v A k (bytesV xs)) (hA : A ∈ H) (hm : off + m ≤ l.length)
    (hg : gd ops fr ⟨some d, .call ⟨.builtin .copy, #[x, y], #[t, t']⟩, ty, pos, aft, g⟩ = some true) (hn : Nat.blt d n = true)
    (hk : WL P n w0 ops Q rest ds ((d, I ((min k m : Nat) : Int)) :: fr) (Bf b e (l.take off ++ xs.take (min k m) ++ l.drop (off + min k m)) :: H)) : WL P n w0 ops Q (⟨some d, .call ⟨.builtin .copy, #[x, y], #[t, t']⟩, ty, pos, aft, g⟩ :: rest) ds fr (Bf b e l :: H) := by
  intro a w hf hw
  have hw' : St w0 ((b, .cells (bytesV l).toArray e (0, 0)) :: H.flatten) w := by simpa using hw
  unfold wpList
  rw [gd_wanted hf hg, if_pos rfl]
  left
  unfold Oper.wp
  have hxl : xs.length = k := by have := hr.1; rw [bytesV_len] at this; omega
  have hmin1 : min k m ≤ k := Nat.min_le_left _ _
  have hmin2 : min k m ≤ m := Nat.min_le_right _ _
  have hlen : (Builtin.lenOf v).run P w = .ok k w := by obtain ⟨p, c, rfl⟩ := hr.shape; simp [Builtin.lenOf]
  have hcells : (Builtin.firstCells 1 (min k m) v).run P w = .ok (bytesV (xs.take (min k m))).toArray w := by
    rcases hr.2 with ⟨h0, p, c', rfl⟩ | ⟨b', off', c', cells, e'', fz, rfl, _, hb, hc⟩
    · subst h0
      have e0 : min 0 m = 0 := by omega
      rw [e0]
      cases p with
      | none => simp [Builtin.firstCells, bytesV]
      | some p => simp [Builtin.firstCells, loadCells, loadCellsFrom, bytesV]
    · have hnow := hw'.now b' _ (List.mem_cons_of_mem _ (mem_flat hA hb))
      refine run_firstCells_some w 1 (min k m) _ k c' (bytesV (xs.take (min k m))) (by rw [bytesV_len, List.length_take]; omega) fun j u hu => ?_
      rw [add_none, cell_at hnow]
      have hj : j < min k m := by
        have := (List.getElem?_eq_some_iff.1 hu).1
        rw [bytesV_len, List.length_take] at this; omega
      rw [hc j (by omega), ← hu]
      simp [bytesV, hj]
  obtain ⟨w', hs, hst⟩ := run_storeCells_st (P := P) (bytesV (xs.take (min k m))) 0 off _ w hw' (by simp [bytesV]; omega) (bytesV_one _) (fun j _ _ => by simp)
  have hn' : ∀ w, (underlying t).run P w = .ok (.slice e') w := run_underlying ht
  have hrun : (execOp a.eval ⟨some d, .call ⟨.builtin .copy, #[x, y], #[t, t']⟩, ty, pos, aft, g⟩).run P w = .ok (.value (I ((min k m : Nat) : Int))) w' := by
    simp [execOp, resolve, invoke, builtin, Builtin.copy_, hf.eval hx, hf.eval hy, hn', run_size hty, hlen, hcells, hs, goInt]
  rw [hrun, Oper.upon_value]
  refine hk _ _ (hf.put _ hn) ?_
  have e1 : putCells (bytesV l).toArray (off + 0) (bytesV (xs.take (min k m))) = (bytesV (l.take off ++ xs.take (min k m) ++ l.drop (off + min k m))).toArray := by
    have hl2 : (xs.take (min k m)).length = min k m := by rw [List.length_take]; omega
    rw [Nat.add_zero, putCells_bytes _ _ _ (by omega), hl2]
  rw [e1] at hst
  simpa using hst

/-- a part of a slice, in whatever order it is asked for -/
theorem slice_val {P : Program} {size m : Nat} {v z : Value} {A : Hp} {xs : List Value} {e : TypeId} {bytes : Nat} {i j : Int} (hr : RdS size v A m xs) (hty : Ty P e z size bytes) (h : 0 ≤ i ∧ i ≤ j ∧ j ≤ m) : ∃ v', RdS size v' A (j - i).toNat (cut xs (i * size) (j * size)) ∧
    ∀ {n : Nat} {w0 : World} {ds : List Deferred} {fr : Fr} {H : List Hp} {dst : Option Tmp} {ty : TypeId} {pos : String} {aft : Array Edge} {g : Option (Nat × Bool)} {t : TypeId} {x : Operand} {lo hi : Option Operand}, P.underlying t = some (.slice e) → ev fr x = some v →
      (match lo with | none => i = 0 | some y => ∃ k, ev fr y = some (.int k i)) → (match hi with | none => j = m | some y => ∃ k, ev fr y = some (.int k j)) → OV P n w0 ⟨dst, .slice t x lo hi none, ty, pos, aft, g⟩ v' ds fr H := by
  have e1 : (i * (size : Int)).toNat = i.toNat * size := by
    rw [show i = (i.toNat : Int) from by omega, ← Int.natCast_mul, Int.toNat_natCast, Int.toNat_natCast]
  have e2 : (j * (size : Int)).toNat = j.toNat * size := by
    rw [show j = (j.toNat : Int) from by omega, ← Int.natCast_mul, Int.toNat_natCast, Int.toNat_natCast]
  have hle : j.toNat * size ≤ m * size := Nat.mul_le_mul_right _ (by omega)
  have hlen : (cut xs (i * size) (j * size)).length = (j - i).toNat * size := by
    unfold cut
    rw [List.length_drop, List.length_take, e1, e2, hr.1, Nat.min_eq_left hle, ← Nat.sub_mul]
    congr 1
    omega
  obtain ⟨p, c, rfl, hmc⟩ : ∃ p c, v = .slice p m c ∧ m ≤ c := by
    rcases hr.2 with ⟨rfl, p, c, rfl⟩ | ⟨b, off, c, cells, e', fz, rfl, hmc, _⟩
    · exact ⟨p, c, rfl, by omega⟩
    · exact ⟨_, c, rfl, hmc⟩
  refine ⟨.slice (if c = i.toNat then p else p.map (·.add (i.toNat * size))) (j - i).toNat (c - i.toNat), ?_, ?_⟩
  · refine ⟨hlen, ?_⟩
    rcases hr.2 with ⟨rfl, p', c', he⟩ | ⟨b, off, c', cells, e', fz, he, hmc', hb, hc⟩
    · exact .inl ⟨by omega, (if c = i.toNat then p else p.map (·.add (i.toNat * size))), c - i.toNat, by rw [show (j - i).toNat = 0 from by omega]⟩
    · injection he with hp _ hcc
      subst hp; subst hcc
      by_cases hz0 : (j - i).toNat = 0
      · exact .inl ⟨hz0, (if c = i.toNat then some ⟨b, off, none⟩ else (some (⟨b, off, none⟩ : Addr)).map (·.add (i.toNat * size))), c - i.toNat, by rw [hz0]⟩
      · refine .inr ⟨b, off + i.toNat * size, c - i.toNat, cells, e', fz, ?_, by omega, hb, fun k hk2 => ?_⟩
        · rw [if_neg (by omega)]
          simp [add_none]
        · have h3 : i.toNat * size + k < j.toNat * size := by
            have : (j - i).toNat * size + i.toNat * size = j.toNat * size := by rw [← Nat.add_mul]; congr 1; omega
            omega
          rw [Nat.add_assoc, hc _ (by omega)]
          unfold cut
          rw [List.getElem?_drop, List.getElem?_take, e1, e2, if_pos h3]
  · intro n w0 ds fr H dst ty pos aft g t x lo hi ht hx hlo hhi
    refine oq_of_run fun a w hf _ => ?_
    have hj : 0 ≤ j ∧ j ≤ (c : Int) := by omega
    have hi2 : 0 ≤ i ∧ i ≤ (j.toNat : Int) := by omega
    have hji : (j - i).toNat = j.toNat - i.toNat := by omega
    have hna : ∀ w, (underlying t).run P w = .ok (.slice e) w := run_underlying ht
    rw [hji]
    cases lo with
    | none =>
      subst hlo
      cases hi with
      | none => subst hhi; simp [execOp, hf.eval hx, Instr.sliceAt, Instr.slice, Instr.sliceBounds, hna, run_size hty]
      | some y =>
        obtain ⟨k, hy⟩ := hhi
        simp [execOp, hf.eval hx, hf.eval hy, Instr.sliceAt, Instr.slice, Instr.sliceBounds, hna, run_size hty, run_sliceBound hj]
    | some y0 =>
      obtain ⟨k0, hy0⟩ := hlo
      cases hi with
      | none =>
        subst hhi
        have hi3 : 0 ≤ i ∧ i ≤ (m : Int) := by omega
        simp [execOp, hf.eval hx, hf.eval hy0, Instr.sliceAt, Instr.slice, Instr.sliceBounds, hna, run_size hty, run_sliceBound hi3]
      | some y =>
        obtain ⟨k, hy⟩ := hhi
        simp [execOp, hf.eval hx, hf.eval hy, hf.eval hy0, Instr.sliceAt, Instr.slice, Instr.sliceBounds, hna, run_size hty, run_sliceBound hj, run_sliceBound hi2]
theorem WL.loadB {t : TypeId} {x : Operand} {b i : Nat} {e : TypeId} {l : List UInt8} (ht : Flat P t) (hx : ev fr x = some (Pt b i)) (hA : Bf b e l ∈ H) (h : i < l.length) (hg : gd ops fr ⟨some d, .load t x, ty, pos, aft, g⟩ = some true) (hn : Nat.blt d n = true)
    (hk : ∀ c, c = byteAt l (i : Int) → 0 ≤ c → c < 256 → WL P n w0 ops Q rest ds ((d, .int .u8 c) :: fr) H) : WL P n w0 ops Q (⟨some d, .load t x, ty, pos, aft, g⟩ :: rest) ds fr H :=
  WL.q (oq_loadB ht hx hA h) hg rfl hn (hk _ rfl (byteAt_lo _ _) (byteAt_hi _ _))
theorem cut_bytes (l : List UInt8) (i j : Int) : cut (bytesV l) i j = bytesV (cut l i j) := by unfold cut bytesV; rw [List.map_drop, List.map_take]

/-! ### Calls through interfaces -/
def Inv0 (P : Program) (k : TypeId) (name : String) (f : FuncId) : Prop := ∀ (x : Value) w, (invoke (.fn (.method name) #[]) #[.iface k x]).run P w = .ok (.enter f #[x]) w
def Inv1 (P : Program) (k : TypeId) (name : String) (f : FuncId) : Prop := ∀ (x a : Value) w, (invoke (.fn (.method name) #[]) #[.iface k x, a]).run P w = .ok (.enter f #[x, a]) w
def Inv2 (P : Program) (k : TypeId) (name : String) (f : FuncId) : Prop := ∀ (x a b : Value) w, (invoke (.fn (.method name) #[]) #[.iface k x, a, b]).run P w = .ok (.enter f #[x, a, b]) w
theorem ent_inv1 {recv y : Operand} {name : String} {ts : Array TypeId} {k : TypeId} {x v : Value} {f : FuncId} (hi : Inv1 P k name f) (hr : ev fr recv = some (.iface k x)) (hy : ev fr y = some v) {a : Act} (hf : Fits n ds fr a) (w : World) : (execOp a.eval ⟨dst, .call ⟨.invoke recv name, #[y], ts⟩, ty, pos, aft, g⟩).run P w = .ok (.enter f ([x, v] : List Value).toArray) w := by
  have := hi x v w
  simp [execOp, resolve, hf.eval hr, hf.eval hy, this]
theorem ent_inv0 {recv : Operand} {name : String} {ts : Array TypeId} {k : TypeId} {x : Value} {f : FuncId} (hi : Inv0 P k name f) (hr : ev fr recv = some (.iface k x)) {a : Act} (hf : Fits n ds fr a) (w : World) : (execOp a.eval ⟨dst, .call ⟨.invoke recv name, #[], ts⟩, ty, pos, aft, g⟩).run P w = .ok (.enter f ([x] : List Value).toArray) w := by
  have := hi x w
  simp [execOp, resolve, hf.eval hr, this]
theorem ent_inv2 {recv y z : Operand} {name : String} {ts : Array TypeId} {k : TypeId} {x v u : Value} {f : FuncId} (hi : Inv2 P k name f) (hr : ev fr recv = some (.iface k x)) (hy : ev fr y = some v) (hz : ev fr z = some u) {a : Act} (hf : Fits n ds fr a) (w : World) : (execOp a.eval ⟨dst, .call ⟨.invoke recv name, #[y, z], ts⟩, ty, pos, aft, g⟩).run P w = .ok (.enter f ([x, v, u] : List Value).toArray) w := by
  have := hi x v u w
  simp [execOp, resolve, hf.eval hr, hf.eval hy, hf.eval hz, this]
theorem WL.app1 {l : List Oper} {A : Hp} (h : WL P n w0 ops Q l ds fr (A :: H)) : WL P n w0 ops Q l ds fr ([A] ++ H) := h
theorem WL.app2 {l : List Oper} {A B : Hp} (h : WL P n w0 ops Q l ds fr (A :: B :: H)) : WL P n w0 ops Q l ds fr ([A, B] ++ H) := h
theorem WL.app5 {l : List Oper} {A B C D E : Hp} (h : WL P n w0 ops Q l ds fr (A :: B :: C :: D :: E :: H)) : WL P n w0 ops Q l ds fr ([A, B, C, D, E] ++ H) := h
/-- a call that changes told groups, however it comes about -/
theorem WL.callWE {o : Oper} {f : FuncId} {args : List Value} {R : Value → List Hp → Prop} {Hs : List Hp} (he : ∀ a w, Fits n ds fr a → (execOp a.eval o).run P w = .ok (.enter f args.toArray) w) (hc : FnW P f args w0.heap.size Hs R) (hH : H = Hs ++ H') (hg : gd ops fr o = some true) (hd : o.dst = some d) (hn : Nat.blt d n = true)
    (hk : ∀ v Hs', R v Hs' → WL P n w0 ops Q rest ds ((d, v) :: fr) (Hs' ++ H')) : WL P n w0 ops Q (o :: rest) ds fr H := by
  subst hH
  intro a w hfit hw
  unfold wpList
  rw [gd_wanted hfit hg, if_pos rfl]
  left
  unfold Oper.wp
  rw [he a w hfit, Oper.upon_enter]
  refine (hc w0 H'.flatten w rfl (by simpa using hw)).mono fun e w' h => ?_
  obtain ⟨v, Hs', rfl, hR, hst⟩ := h
  rw [hd]
  exact hk v Hs' hR _ _ (hfit.put v hn) (by simpa using hst)
theorem ent_fn {f : FuncId} {xs : Array Operand} {ts : Array TypeId} {args : List Value} (hf : Callable P f) (ha : evs fr xs.toList = some args) {a : Act} (hfit : Fits n ds fr a) (w : World) : (execOp a.eval ⟨dst, .call ⟨.value (.func f), xs, ts⟩, ty, pos, aft, g⟩).run P w = .ok (.enter f args.toArray) w := run_enter hf ha hfit w
theorem oq_makeMeth {name : String} {y : Operand} {v : Value} (hy : ev fr y = some v) : OV P n w0 ⟨dst, .makeFunc (.method name) #[y] #[], ty, pos, aft, g⟩ (.func (.method name) #[v] #[]) ds fr H :=
  oq_of_run fun a w hf _ => by simp [execOp, Instr.makeFunc, hf.eval hy]
def NilOk (P : Program) (k : TypeId) (x : Value) (name : String) : Prop := ∀ w, (nilAhead (P.types.size + Made.depth) k x name).run P w = .ok (some false) w
theorem oq_nilMeth {name : String} {y : Operand} {k : TypeId} {x : Value} (hy : ev fr y = some (.func (.method name) #[.iface k x] #[])) (hk : NilOk P k x name) : OV P n w0 ⟨dst, .nilCheck y, ty, pos, aft, g⟩ (.func (.method name) #[.iface k x] #[]) ds fr H :=
  oq_of_run fun a w hf _ => by
    have := hk w
    simp [execOp, hf.eval hy, this]
theorem equal_isame {t k e : TypeId} {ms : Array (String × TypeId)} {p : Addr} {z : Value} {size bytes : Nat} {inf : TypeInfo} (ht : P.underlying t = some (.interface ms)) (hk : P.underlying k = some (.pointer e)) (hi : P.info? k = some inf) (hc : inf.comparable = true) (hty : Ty P e z size bytes) (h0 : size ≠ 0) (w : World) :
    (Op.equal t (.iface k (.pointer (some p))) (.iface k (.pointer (some p)))).run P w = .ok true w := by
  unfold Op.equal Op.maxDepth Op.equalIn
  rw [Sem.run_bind, run_underlying ht]
  simp only [Result.andThen_ok]
  simp only [ne_eq, not_true_eq_false, ↓reduceIte, Sem.run_bind, typeInfo, run_program, hi, Result.andThen_ok, Sem.run_pure, hc, Bool.not_true, Bool.false_eq_true]
  unfold Op.equalIn
  rw [Sem.run_bind, run_underlying hk]
  simp [run_size hty, h0, sameAddr]
def Comp (P : Program) (k e : TypeId) : Prop := P.underlying k = some (.pointer e) ∧ (∃ inf, P.info? k = some inf ∧ inf.comparable = true) ∧ ∃ z size bytes, Ty P e z size bytes ∧ size ≠ 0
/-- a sentinel is itself -/
theorem oq_isame {t t' k e : TypeId} {ms : Array (String × TypeId)} {p : Addr} {x y : Operand} (hk : Comp P k e) (ht : P.underlying t = some (.interface ms)) (hx : ev fr x = some (.iface k (.pointer (some p)))) (hy : ev fr y = some (.iface k (.pointer (some p)))) : OV P n w0 ⟨dst, .binOp .eql t x y t', ty, pos, aft, g⟩ (.bool true) ds fr H :=
  oq_of_run fun a w hf _ => by
    obtain ⟨hk, ⟨inf, hi, hc⟩, z, size, bytes, hty, h0⟩ := hk
    have he := equal_isame (p := p) ht hk hi hc hty h0 w
    simp [execOp, hf.eval hx, hf.eval hy, eqGuard, binOp, he]
end
end Go.Proofs.YtodlhaghdplclaaDoor.V
