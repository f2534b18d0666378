/- The engine, part 27: bytes made at a length and a capacity, texts copied into a block, parts of nil. Over any program. -/
import Derived.Test.YtodlhaghdplclaaDoorVR
namespace Go.Proofs.YtodlhaghdplclaaDoor.V
open Go Go.RowKit
set_option linter.unusedSimpArgs false
set_option linter.unusedVariables false
section
variable {P : Program} {n : Nat} {w0 : World} {ds : List Deferred} {fr : Fr} {H H' : List Hp} {dst : Option Tmp} {ty : TypeId} {pos : String} {aft : Array Edge} {g : Option (Nat × Bool)}
variable {ops : Array Oper} {Q : Post} {rest : List Oper} {d : Nat}
theorem WL.makeBc {t e : TypeId} {x y : Operand} {kl kc : IntKind} {k c : Nat} {bytes : Nat} (ht : P.underlying t = some (.slice e)) (hty : Ty P e (.int .u8 0) 1 bytes) (hx : ev fr x = some (.int kl (k : Int))) (hy : ev fr y = some (.int kc (c : Int))) (hkc : k ≤ c) (hb : bytes * c ≤ 281474976710656) (h63 : c ≤ maxLen)
    (hg : gd ops fr ⟨some d, .makeSlice t x y, ty, pos, aft, g⟩ = some true) (hn : Nat.blt d n = true)
    (hk : ∀ b, w0.heap.size ≤ b → WL P n w0 ops Q rest ds ((d, Sl b 0 k c) :: fr) (Bf b e (List.replicate c 0) :: H)) : WL P n w0 ops Q (⟨some d, .makeSlice t x y, ty, pos, aft, g⟩ :: rest) ds fr H := by
  obtain ⟨i, hi, hz, hs, hby⟩ := hty
  have h63' : (c : Int) ≤ 9223372036854775807 := by have h := h63; unfold maxLen at h; omega
  have hb' : (i.bytes : Int) * (c : Int) ≤ 281474976710656 := by
    rw [hby, ← Int.natCast_mul]; omega
  refine WL.new (v := fun b => Sl b 0 k c) (obj := .cells (bytesV (List.replicate c 0)).toArray e (0, 0)) (fun a w hf _ => ?_) hg rfl hn hk
  have hr := run_make (P := P) w t e i (.int .u8 0) ht hi hz kl kc (k : Int) (c : Int) (by omega) (by omega) hb' h63'
  have hc : madeCells (Value.int .u8 0).cells (c * i.size) = (bytesV (List.replicate c 0)).toArray := by
    apply Array.toList_inj.1
    rw [hs, Nat.mul_one, show (Value.int .u8 0).cells = #[.int .u8 0] from rfl, ← one_cells (v := .int .u8 0) rfl, made_one rfl]
    simp [bytesV]
  simp only [Int.toNat_natCast, hc] at hr
  simp only [execOp, hf.eval hx, hf.eval hy, Sem.run_bind, hr, Result.andThen_ok, Sem.run_pure]
/-- a part of nil: nil -/
theorem oq_sliceNil0 {t e : TypeId} {x y : Operand} {z : Value} {bytes : Nat} (ht : P.underlying t = some (.slice e)) (hty : Ty P e z 1 bytes) (hx : ev fr x = some (.slice none 0 0)) (hy : ev fr y = some (I 0)) : OV P n w0 ⟨dst, .slice t x none (some y) none, ty, pos, aft, g⟩ (.slice none 0 0) ds fr H :=
  oq_of_run fun a w hf _ => by
    have h0 : (0 : Int) ≤ (0 : Int) ∧ (0 : Int) ≤ ((0 : Nat) : Int) := by omega
    have hb : ∀ c w, (Instr.sliceBound (.int .i64 0) 0 c).run P w = .ok 0 w := fun c w => run_sliceBound h0
    simp [execOp, hf.eval hx, hf.eval hy, Instr.sliceAt, Instr.slice, Instr.sliceBounds, run_underlying ht, run_size hty, hb]
/-- a slice that begins where its block ends -/
theorem oq_sliceEnd {t e : TypeId} {x y : Operand} {k : IntKind} {c b off : Nat} {z : Value} {bytes : Nat} (ht : P.underlying t = some (.slice e)) (hty : Ty P e z 1 bytes) (hx : ev fr x = some (Sl b off c c)) (hy : ev fr y = some (.int k (c : Int))) :
    OV P n w0 ⟨dst, .slice t x (some y) none none, ty, pos, aft, g⟩ (Sl b off 0 0) ds fr H := by
  refine oq_of_run fun a w hf _ => ?_
  have hi2 : (0 : Int) ≤ (c : Int) ∧ (c : Int) ≤ ((c : Nat) : Int) := by omega
  have hna : ∀ w, (underlying t).run P w = .ok (.slice e) w := run_underlying ht
  simp [execOp, hf.eval hx, hf.eval hy, Instr.sliceAt, Instr.slice, Instr.sliceBounds, hna, run_size hty, run_sliceBound hi2]
/-- copy(dst, text): bytes into the first group's block -/
theorem WL.copyBS {t t' e' : TypeId} {x y : Operand} {b off m c : Nat} {e : TypeId} {l xs : List UInt8} {z : Value} {bytes : Nat} (ht : P.underlying t = some (.slice e')) (hty : Ty P e' z 1 bytes) (hx : ev fr x = some (Sl b off m c)) (hy : ev fr y = some (S xs)) (hm : off + m ≤ l.length)
    (hg : gd ops fr ⟨some d, .call ⟨.builtin .copy, #[x, y], #[t, t']⟩, ty, pos, aft, g⟩ = some true) (hn : Nat.blt d n = true)
    (hk : WL P n w0 ops Q rest ds ((d, I ((min xs.length m : Nat) : Int)) :: fr) (Bf b e (l.take off ++ xs.take (min xs.length m) ++ l.drop (off + min xs.length m)) :: H)) : WL P n w0 ops Q (⟨some d, .call ⟨.builtin .copy, #[x, y], #[t, t']⟩, ty, pos, aft, g⟩ :: rest) ds fr (Bf b e l :: H) := by
  intro a w hf hw
  have hw' : St w0 ((b, .cells (bytesV l).toArray e (0, 0)) :: H.flatten) w := by simpa using hw
  unfold wpList
  rw [gd_wanted hf hg, if_pos rfl]
  left
  unfold Oper.wp
  have hmin1 : min xs.length m ≤ xs.length := Nat.min_le_left _ _
  have hmin2 : min xs.length m ≤ m := Nat.min_le_right _ _
  have hlen : (Builtin.lenOf (S xs)).run P w = .ok xs.length w := by simp [Builtin.lenOf]; rfl
  have hcells : (Builtin.firstCells 1 (min xs.length m) (S xs)).run P w = .ok (bytesV (xs.take (min xs.length m))).toArray w := by
    simp only [Builtin.firstCells, Sem.run_pure]
    congr 1
    apply Array.toList_inj.1
    simp [bytesV, ByteArray.extract, ByteArray.copySlice]
  obtain ⟨w', hs, hst⟩ := run_storeCells_st (P := P) (bytesV (xs.take (min xs.length m))) 0 off _ w hw' (by simp [bytesV]; omega) (bytesV_one _) (fun j _ _ => by simp)
  have hn' : ∀ w, (underlying t).run P w = .ok (.slice e') w := run_underlying ht
  have hrun : (execOp a.eval ⟨some d, .call ⟨.builtin .copy, #[x, y], #[t, t']⟩, ty, pos, aft, g⟩).run P w = .ok (.value (I ((min xs.length m : Nat) : Int))) w' := by
    simp [execOp, resolve, invoke, builtin, Builtin.copy_, hf.eval hx, hf.eval hy, hn', run_size hty, hlen, hcells, hs, goInt]
  rw [hrun, Oper.upon_value]
  refine hk _ _ (hf.put _ hn) ?_
  have e1 : putCells (bytesV l).toArray (off + 0) (bytesV (xs.take (min xs.length m))) = (bytesV (l.take off ++ xs.take (min xs.length m) ++ l.drop (off + min xs.length m))).toArray := by
    have hl2 : (xs.take (min xs.length m)).length = min xs.length m := by rw [List.length_take]; omega
    rw [Nat.add_zero, putCells_bytes _ _ _ (by omega), hl2]
  rw [e1] at hst
  simpa using hst
end
end Go.Proofs.YtodlhaghdplclaaDoor.V
