/- The engine, part 13: slices made at a length, values put into interfaces, calls of function values that make memory. Over any program. -/
import Derived.Test.YtodlhaghdplclaaDoorVD
namespace Go.Proofs.YtodlhaghdplclaaDoor.V
open Go Go.RowKit
set_option linter.unusedSimpArgs false
set_option linter.unusedVariables false
section
variable {P : Program} {n : Nat} {w0 : World} {ds : List Deferred} {fr : Fr} {H H' : List Hp} {dst : Option Tmp} {ty : TypeId} {pos : String} {aft : Array Edge} {g : Option (Nat × Bool)}
variable {ops : Array Oper} {Q : Post} {rest : List Oper} {d : Nat}

/-- a slice made, at length k of capacity c -/
theorem WL.make {t e : TypeId} {x y : Operand} {kl kc : IntKind} {k c : Nat} {z : Value} {size bytes : Nat} (ht : P.underlying t = some (.slice e)) (hty : Ty P e z size bytes) (hx : ev fr x = some (.int kl (k : Int))) (hy : ev fr y = some (.int kc (c : Int))) (hkc : k ≤ c) (hb : bytes * c ≤ 281474976710656) (h63 : c ≤ maxLen)
    (hg : gd ops fr ⟨some d, .makeSlice t x y, ty, pos, aft, g⟩ = some true) (hn : Nat.blt d n = true)
    (hk : ∀ v A, OwS w0.heap.size e size v A k ((madeCells z.cells (c * size)).toList.take (k * size)) → v ≠ .slice none 0 0 → WL P n w0 ops Q rest ds ((d, v) :: fr) (A :: H)) : WL P n w0 ops Q (⟨some d, .makeSlice t x y, ty, pos, aft, g⟩ :: rest) ds fr H := by
  obtain ⟨i, hi, hz, hs, hby⟩ := hty
  have h63' : (c : Int) ≤ 9223372036854775807 := by have h := h63; unfold maxLen at h; omega
  have hb' : (i.bytes : Int) * (c : Int) ≤ 281474976710656 := by
    rw [hby, ← Int.natCast_mul]; omega
  subst hs
  refine WL.new (v := fun b => .slice (some ⟨b, 0, none⟩) k c) (obj := .cells (madeCells z.cells (c * i.size)) e (0, 0)) (fun a w hf _ => ?_) hg rfl hn fun b hb => ?_
  · have hr := run_make (P := P) w t e i z ht hi hz kl kc (k : Int) (c : Int) (by omega) (by omega) hb' h63'
    simp only [Int.toNat_natCast] at hr
    simp only [execOp, hf.eval hx, hf.eval hy, Sem.run_bind, hr, Result.andThen_ok, Sem.run_pure]
  · refine hk _ _ ⟨?_, .inr ⟨b, c, madeCells z.cells (c * i.size), rfl, rfl, hb, hkc, h63, size_madeCells _ _, rfl⟩⟩ (by simp)
    rw [List.length_take, Array.length_toList, size_madeCells]
    exact Nat.min_eq_left (Nat.mul_le_mul_right _ hkc)
theorem made_one {z : Value} (h1 : z.oneCell' = true) (c : Nat) : (madeCells z.cells c).toList = List.replicate c z := by
  rw [one_cells h1]
  unfold madeCells
  apply List.ext_getElem
  · simp
  · intro i h1 h2; simp [Nat.mod_one]
theorem WL.make0 {t e : TypeId} {x y : Operand} {kl kc : IntKind} {c : Nat} {z : Value} {size bytes : Nat} (ht : P.underlying t = some (.slice e)) (hty : Ty P e z size bytes) (hx : ev fr x = some (.int kl 0)) (hy : ev fr y = some (.int kc (c : Int))) (hb : bytes * c ≤ 281474976710656) (h63 : c ≤ maxLen)
    (hg : gd ops fr ⟨some d, .makeSlice t x y, ty, pos, aft, g⟩ = some true) (hn : Nat.blt d n = true)
    (hk : ∀ v A, OwS w0.heap.size e size v A 0 [] → v ≠ .slice none 0 0 → WL P n w0 ops Q rest ds ((d, v) :: fr) (A :: H)) : WL P n w0 ops Q (⟨some d, .makeSlice t x y, ty, pos, aft, g⟩ :: rest) ds fr H :=
  WL.make (k := 0) ht hty hx hy (Nat.zero_le _) hb h63 hg hn fun v A ho hne => hk v A (by simpa using ho) hne
theorem WL.make1 {t e : TypeId} {x y : Operand} {kl kc : IntKind} {k : Nat} {z : Value} {bytes : Nat} (h1 : z.oneCell' = true) (ht : P.underlying t = some (.slice e)) (hty : Ty P e z 1 bytes) (hx : ev fr x = some (.int kl (k : Int))) (hy : ev fr y = some (.int kc (k : Int))) (hb : bytes * k ≤ 281474976710656) (h63 : k ≤ maxLen)
    (hg : gd ops fr ⟨some d, .makeSlice t x y, ty, pos, aft, g⟩ = some true) (hn : Nat.blt d n = true)
    (hk : ∀ v A, OwS w0.heap.size e 1 v A k (List.replicate k z) → v ≠ .slice none 0 0 → WL P n w0 ops Q rest ds ((d, v) :: fr) (A :: H)) : WL P n w0 ops Q (⟨some d, .makeSlice t x y, ty, pos, aft, g⟩ :: rest) ds fr H :=
  WL.make ht hty hx hy (Nat.le_refl _) hb h63 hg hn fun v A ho hne => hk v A (by rw [show k * 1 = k from Nat.mul_one k, made_one h1, List.take_of_length_le (by simp)] at ho; exact ho) hne

/-- no interface's type -/
def Conc (P : Program) (t : TypeId) : Prop := ∃ u, P.underlying t = some u ∧ (match u with | .interface _ => True | _ => False) = False
theorem oq_makeI {t : TypeId} {x : Operand} {v : Value} (ht : Conc P t) (hx : ev fr x = some v) : OV P n w0 ⟨dst, .makeInterface t x, ty, pos, aft, g⟩ (.iface t v) ds fr H :=
  oq_of_run fun a w hf _ => by
    obtain ⟨u, hu, hn⟩ := ht
    cases u <;> simp_all [execOp, Instr.makeInterface, run_underlying hu, hf.eval hx]

/-! ### Calls of function values that make memory -/
theorem WL.callAv {f : FuncId} {y : Operand} {xs : Array Operand} {ts : Array TypeId} {first vs cap : List Value} {R : Value → Hp → Prop} {A : Hp} (hc : FnA P f (first ++ vs ++ cap) A R) (hf : Callable P f) (hy : ev fr y = some (.func (.func f) first.toArray cap.toArray)) (ha : evs fr xs.toList = some vs) (hg : gd ops fr ⟨some d, .call ⟨.value y, xs, ts⟩, ty, pos, aft, g⟩ = some true) (hn : Nat.blt d n = true)
    (hk : ∀ v N, R v N → (∀ b o, (b, o) ∈ N → w0.heap.size ≤ b) → WL P n w0 ops Q rest ds ((d, v) :: fr) (N :: A :: H)) :
    WL P n w0 ops Q (⟨some d, .call ⟨.value y, xs, ts⟩, ty, pos, aft, g⟩ :: rest) ds fr (A :: H) := by
  intro a w hfit hw
  unfold wpList
  rw [gd_wanted hfit hg, if_pos rfl]
  left
  unfold Oper.wp
  rw [run_enterv hf hy ha hfit w, Oper.upon_enter]
  refine (hc w (St.has (R := H.flatten) (by simpa using hw))).mono fun e w' h => ?_
  obtain ⟨v, N, rfl, hR, hN, hst⟩ := h
  exact hk v N hR (fun b o hb => Nat.le_trans hw.size (hN b o hb)) _ _ (hfit.put v hn) (by simpa using St.trans (by simpa using hw) hst rfl hN)
theorem WL.callAv0 {f : FuncId} {y : Operand} {xs : Array Operand} {ts : Array TypeId} {vs : List Value} {R : Value → Hp → Prop} (hc : FnA P f vs [] R) (hf : Callable P f) (hy : ev fr y = some (.func (.func f) #[] #[])) (ha : evs fr xs.toList = some vs) (hg : gd ops fr ⟨some d, .call ⟨.value y, xs, ts⟩, ty, pos, aft, g⟩ = some true) (hn : Nat.blt d n = true)
    (hk : ∀ v N, R v N → (∀ b o, (b, o) ∈ N → w0.heap.size ≤ b) → WL P n w0 ops Q rest ds ((d, v) :: fr) (N :: H)) :
    WL P n w0 ops Q (⟨some d, .call ⟨.value y, xs, ts⟩, ty, pos, aft, g⟩ :: rest) ds fr H :=
  WL.add0 (WL.callAv (first := []) (cap := []) (by simpa using hc) hf hy ha hg hn fun v N hR hN => WL.f1 (WL.nil0 (hk v N hR hN)))
/-- append the elements of another slice, whose blocks are among those told of -/
theorem WL.appendS {t e : TypeId} {s x : Operand} {z : Value} {size bytes m k : Nat} {v y : Value} {xs news : List Value} {A B : Hp} (hown : OwS w0.heap.size e size v A k xs) (ht : P.underlying t = some (.slice e)) (hty : Ty P e z size bytes) (hzs : z.cells.size = size) (hb0 : bytes ≠ 0)
    (hs : ev fr s = some v) (hx : ev fr x = some y) (hr : RdS size y B m news) (hB : B ∈ H) (h1 : ∀ u ∈ news, u.oneCell' = true) (h63 : k + m ≤ maxLen) (hbytes : (k + m) * bytes ≤ 140737488355328)
    (hg : gd ops fr ⟨some d, .call ⟨.builtin .append, #[s, x], #[t, t]⟩, ty, pos, aft, g⟩ = some true) (hn : Nat.blt d n = true)
    (hk : ∀ v' A', OwS w0.heap.size e size v' A' (k + m) (xs ++ news) → (v' = .slice none 0 0 ↔ v = .slice none 0 0 ∧ m = 0) → WL P n w0 ops Q rest ds ((d, v') :: fr) (A' :: H)) :
    WL P n w0 ops Q (⟨some d, .call ⟨.builtin .append, #[s, x], #[t, t]⟩, ty, pos, aft, g⟩ :: rest) ds fr (A :: H) :=
  WL.append hown ht (.inl ⟨_, ht⟩) hty hzs hb0 hs hx (SrcS.rd hr (List.mem_cons_of_mem _ hB) h1) h63 hbytes hg hn hk
end
end Go.Proofs.YtodlhaghdplclaaDoor.V
