/- The engine, part 16: buffers of bytes that are written, arrays as slices, copy, calls through interfaces. Over any program. -/
import Derived.Test.YtiegaefkahnfjaaGreatVF
import Derived.Test.YtiegaefkahnfjaaGreatVB
namespace Go.Proofs.YtiegaefkahnfjaaGreat.V
open Go Go.RowKit
set_option linter.unusedSimpArgs false
set_option linter.unusedVariables false
section
variable {P : Program} {n : Nat} {w0 : World} {ds : List Deferred} {fr : Fr} {H H' : List Hp} {dst : Option Tmp} {ty : TypeId} {pos : String} {aft : Array Edge} {g : Option (Nat × Bool)}
variable {ops : Array Oper} {Q : Post} {rest : List Oper} {d : Nat}
theorem oq_ixArr {t e : TypeId} {x y : Operand} {k : IntKind} {m i b off : Nat} {z : Value} {bytes : Nat} (ht : P.underlying t = some (.array m e)) (hty : Ty P e z 1 bytes) (hx : ev fr x = some (Pt b off)) (hy : ev fr y = some (.int k (i : Int))) (h : i < m) :
  OV P n w0 ⟨dst, .indexAddr t x y, ty, pos, aft, g⟩ (Pt b (off + i)) ds fr H :=
 oq_of_run fun a w hf _ => by
  have h' : (0 : Int) ≤ (i : Int) ∧ (i : Int) < (m : Int) := by omega
  simp [execOp, hf.eval hx, hf.eval hy, Instr.indexAt, asIntOf, run_underlying ht, Instr.sureAddr, h', run_size hty, add_none]
  intro hh; omega
theorem slice_val {P : Program} {size m : Nat} {v z : Value} {A : Hp} {xs : List Value} {e : TypeId} {bytes : Nat} {i j : Int} (hr : RdS size v A m xs) (hty : Ty P e z size bytes) (h : 0 ≤ i ∧ i ≤ j ∧ j ≤ m) : ∃ v', RdS size v' A (j - i).toNat (cut xs (i * size) (j * size)) ∧
  ∀ {n : Nat} {w0 : World} {ds : List Deferred} {fr : Fr} {H : List Hp} {dst : Option Tmp} {ty : TypeId} {pos : String} {aft : Array Edge} {g : Option (Nat × Bool)} {t : TypeId} {x : Operand} {lo hi : Option Operand}, P.underlying t = some (.slice e) → ev fr x = some v →
   (match lo with | none => i = 0 | some y => ∃ k, ev fr y = some (.int k i)) → (match hi with | none => j = m | some y => ∃ k, ev fr y = some (.int k j)) → OV P n w0 ⟨dst, .slice t x lo hi none, ty, pos, aft, g⟩ v' ds fr H := by
 have e1 : (i * (size : Int)).toNat = i.toNat * size := by
  rw [show i = (i.toNat : Int) from by omega, ← Int.natCast_mul, Int.toNat_natCast, Int.toNat_natCast]
 have e2 : (j * (size : Int)).toNat = j.toNat * size := by
  rw [show j = (j.toNat : Int) from by omega, ← Int.natCast_mul, Int.toNat_natCast, Int.toNat_natCast]
 have hle : j.toNat * size ≤ m * size := Nat.mul_le_mul_right _ (by omega)
 have hlen : (cut xs (i * size) (j * size)).length = (j - i).toNat * size := by
  unfold cut
  rw [List.length_drop, List.length_take, e1, e2, hr.1, Nat.min_eq_left hle, ← Nat.sub_mul]
  congr 1
  omega
 obtain ⟨p, c, rfl, hmc⟩ : ∃ p c, v = .slice p m c ∧ m ≤ c := by
  rcases hr.2 with ⟨rfl, p, c, rfl⟩ | ⟨b, off, c, cells, e', fz, rfl, hmc, _⟩
  ·exact ⟨p, c, rfl, by omega⟩
  ·exact ⟨_, c, rfl, hmc⟩
 refine ⟨.slice (if c = i.toNat then p else p.map (·.add (i.toNat * size))) (j - i).toNat (c - i.toNat), ?_, ?_⟩
 ·refine ⟨hlen, ?_⟩
  rcases hr.2 with ⟨rfl, p', c', he⟩ | ⟨b, off, c', cells, e', fz, he, hmc', hb, hc⟩
  ·exact .inl ⟨by omega, (if c = i.toNat then p else p.map (·.add (i.toNat * size))), c - i.toNat, by rw [show (j - i).toNat = 0 from by omega]⟩
  ·injection he with hp _ hcc
   subst hp; subst hcc
   by_cases hz0 : (j - i).toNat = 0
   ·exact .inl ⟨hz0, (if c = i.toNat then some ⟨b, off, none⟩ else (some (⟨b, off, none⟩ : Addr)).map (·.add (i.toNat * size))), c - i.toNat, by rw [hz0]⟩
   ·refine .inr ⟨b, off + i.toNat * size, c - i.toNat, cells, e', fz, ?_, by omega, hb, fun k hk2 => ?_⟩
    ·rw [if_neg (by omega)]
     simp [add_none]
    ·have h3 : i.toNat * size + k < j.toNat * size := by
      have : (j - i).toNat * size + i.toNat * size = j.toNat * size := by rw [← Nat.add_mul]; congr 1; omega
      omega
     rw [Nat.add_assoc, hc _ (by omega)]
     unfold cut
     rw [List.getElem?_drop, List.getElem?_take, e1, e2, if_pos h3]
 ·intro n w0 ds fr H dst ty pos aft g t x lo hi ht hx hlo hhi
  refine oq_of_run fun a w hf _ => ?_
  have hj : 0 ≤ j ∧ j ≤ (c : Int) := by omega
  have hi2 : 0 ≤ i ∧ i ≤ (j.toNat : Int) := by omega
  have hji : (j - i).toNat = j.toNat - i.toNat := by omega
  have hna : ∀ w, (underlying t).run P w = .ok (.slice e) w := run_underlying ht
  rw [hji]
  cases lo with
  | none =>
   subst hlo
   cases hi with
   | none => subst hhi; simp [execOp, hf.eval hx, Instr.sliceAt, Instr.slice, Instr.sliceBounds, hna, run_size hty]
   | some y =>
    obtain ⟨k, hy⟩ := hhi
    simp [execOp, hf.eval hx, hf.eval hy, Instr.sliceAt, Instr.slice, Instr.sliceBounds, hna, run_size hty, run_sliceBound hj]
  | some y0 =>
   obtain ⟨k0, hy0⟩ := hlo
   cases hi with
   | none =>
    subst hhi
    have hi3 : 0 ≤ i ∧ i ≤ (m : Int) := by omega
    simp [execOp, hf.eval hx, hf.eval hy0, Instr.sliceAt, Instr.slice, Instr.sliceBounds, hna, run_size hty, run_sliceBound hi3]
   | some y =>
    obtain ⟨k, hy⟩ := hhi
    simp [execOp, hf.eval hx, hf.eval hy, hf.eval hy0, Instr.sliceAt, Instr.slice, Instr.sliceBounds, hna, run_size hty, run_sliceBound hj, run_sliceBound hi2]
/-! ### Calls through interfaces -/
def Inv0 (P : Program) (k : TypeId) (name : String) (f : FuncId) : Prop := ∀ (x : Value) w, (invoke (.fn (.method name) #[]) #[.iface k x]).run P w = .ok (.enter f #[x]) w
theorem ent_inv0 {recv : Operand} {name : String} {ts : Array TypeId} {k : TypeId} {x : Value} {f : FuncId} (hi : Inv0 P k name f) (hr : ev fr recv = some (.iface k x)) {a : Act} (hf : Fits n ds fr a) (w : World) : (execOp a.eval ⟨dst, .call ⟨.invoke recv name, #[], ts⟩, ty, pos, aft, g⟩).run P w = .ok (.enter f ([x] : List Value).toArray) w := by
 have := hi x w
 simp [execOp, resolve, hf.eval hr, this]
theorem WL.app1 {l : List Oper} {A : Hp} (h : WL P n w0 ops Q l ds fr (A :: H)) : WL P n w0 ops Q l ds fr ([A] ++ H) := h
theorem WL.app2 {l : List Oper} {A B : Hp} (h : WL P n w0 ops Q l ds fr (A :: B :: H)) : WL P n w0 ops Q l ds fr ([A, B] ++ H) := h
theorem WL.app5 {l : List Oper} {A B C D E : Hp} (h : WL P n w0 ops Q l ds fr (A :: B :: C :: D :: E :: H)) : WL P n w0 ops Q l ds fr ([A, B, C, D, E] ++ H) := h
theorem WL.callWE {o : Oper} {f : FuncId} {args : List Value} {R : Value → List Hp → Prop} {Hs : List Hp} (he : ∀ a w, Fits n ds fr a → (execOp a.eval o).run P w = .ok (.enter f args.toArray) w) (hc : FnW P f args w0.heap.size Hs R) (hH : H = Hs ++ H') (hg : gd ops fr o = some true) (hd : o.dst = some d) (hn : Nat.blt d n = true)
  (hk : ∀ v Hs', R v Hs' → WL P n w0 ops Q rest ds ((d, v) :: fr) (Hs' ++ H')) : WL P n w0 ops Q (o :: rest) ds fr H := by
 subst hH
 intro a w hfit hw
 unfold wpList
 rw [gd_wanted hfit hg, if_pos rfl]
 left
 unfold Oper.wp
 rw [he a w hfit, Oper.upon_enter]
 refine (hc w0 H'.flatten w rfl (by simpa using hw)).mono fun e w' h => ?_
 obtain ⟨v, Hs', rfl, hR, hst⟩ := h
 rw [hd]
 exact hk v Hs' hR _ _ (hfit.put v hn) (by simpa using hst)
end
end Go.Proofs.YtiegaefkahnfjaaGreat.V
