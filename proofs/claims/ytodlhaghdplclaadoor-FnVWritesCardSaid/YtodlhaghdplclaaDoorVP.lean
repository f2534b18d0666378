/- The engine, part 24: arrays of structs: built, indexed as values, and addresses in them. Over any program. -/
import Derived.Test.YtodlhaghdplclaaDoorVO
namespace Go.Proofs.YtodlhaghdplclaaDoor.V
open Go Go.RowKit
set_option linter.unusedSimpArgs false
set_option linter.unusedVariables false
section
variable {P : Program} {n : Nat} {w0 : World} {ops : Array Oper} {Q : Post} {ds : List Deferred} {fr : Fr} {H : List Hp} {dst : Option Tmp} {ty : TypeId} {pos : String} {aft : Array Edge} {g : Option (Nat × Bool)}
theorem oq_ixArrN {t e : TypeId} {x y : Operand} {k : IntKind} {m i b off size : Nat} {z : Value} {bytes : Nat} (ht : P.underlying t = some (.array m e)) (hty : Ty P e z size bytes) (hs : size ≠ 0) (hx : ev fr x = some (Pt b off)) (hy : ev fr y = some (.int k (i : Int))) (h : i < m) :
    OV P n w0 ⟨dst, .indexAddr t x y, ty, pos, aft, g⟩ (Pt b (off + i * size)) ds fr H :=
  oq_of_run fun a w hf _ => by
    have h' : (0 : Int) ≤ (i : Int) ∧ (i : Int) < (m : Int) := by omega
    simp [execOp, hf.eval hx, hf.eval hy, Instr.indexAt, asIntOf, run_underlying ht, Instr.sureAddr, h', run_size hty, add_none, hs]
    intro hh; omega
theorem oq_buildA {t e : TypeId} {z ze : Value} {m s size bytes b2 : Nat} {parts : Array (Nat × Operand)} {vs : List (Nat × Value)} (cells : Array Value) (ht : P.underlying t = some (.array m e)) (hte : Ty P e ze s b2) (hty : Ty P t z size bytes) (hp : evp2 fr parts.toList = some vs) (hfill : Instr.fill (fun i => some (i * s, s)) z.cells vs = some cells) :
    OV P n w0 ⟨dst, .build t parts, ty, pos, aft, g⟩ (.agg cells) ds fr H :=
  oq_of_run fun a w hf _ => by
    have hsz := run_size hte w
    obtain ⟨i, hi, hz, _, _⟩ := hty
    have e1 := evp2_spec hf parts.toList vs hp
    have e2 : (parts.map fun (i, x) => (i, a.eval x)).toList = vs := by rw [← e1]; simp
    simp only [execOp, Instr.build, Sem.run_bind, zeroValue, typeInfo, run_program, Result.andThen_ok, hi, Sem.run_pure, hz, run_underlying ht, hsz, e2, hfill]
theorem oq_indexA {t e : TypeId} {x y : Operand} {k : IntKind} {m i size bytes : Nat} {cells : Array Value} {z : Value} (vs : Array Value) (ht : P.underlying t = some (.array m e)) (hag : Agg P e) (hty : Ty P e z size bytes) (hx : ev fr x = some (.agg cells)) (hy : ev fr y = some (.int k (i : Int))) (h : i < m) (hv : cells.extract (i * size) (i * size + size) = vs) :
    OV P n w0 ⟨dst, .index t x y, ty, pos, aft, g⟩ (.agg vs) ds fr H :=
  oq_of_run fun a w hf _ => by
    have h' : (0 : Int) ≤ (i : Int) ∧ (i : Int) < (m : Int) := by omega
    simp [execOp, hf.eval hx, hf.eval hy, Instr.index, asIntOf, run_underlying ht, h', run_size hty, part, hag w, hv]
    try (intro hh; omega)
theorem oq_makeBound {f : FuncId} {y : Operand} {v : Value} (hy : ev fr y = some v) : OV P n w0 ⟨dst, .makeFunc (.func f) #[y] #[], ty, pos, aft, g⟩ (.func (.func f) #[v] #[]) ds fr H :=
  oq_of_run fun a w hf _ => by simp [execOp, Instr.makeFunc, hf.eval hy]
theorem WL.f9 {a0 a1 a2 a3 a4 a5 a6 a7 a8 a9 : Hp} {r : List Hp} {l : List Oper} (h : WL P n w0 ops Q l ds fr (a9 :: a0 :: a1 :: a2 :: a3 :: a4 :: a5 :: a6 :: a7 :: a8 :: r)) : WL P n w0 ops Q l ds fr (a0 :: a1 :: a2 :: a3 :: a4 :: a5 :: a6 :: a7 :: a8 :: a9 :: r) := h.perm (List.perm_middle (l₁ := [a0, a1, a2, a3, a4, a5, a6, a7, a8]) (l₂ := r))
theorem WC.f9 {a0 a1 a2 a3 a4 a5 a6 a7 a8 a9 : Hp} {r : List Hp} {c : Code} (h : WC P n w0 c Q ds fr (a9 :: a0 :: a1 :: a2 :: a3 :: a4 :: a5 :: a6 :: a7 :: a8 :: r)) : WC P n w0 c Q ds fr (a0 :: a1 :: a2 :: a3 :: a4 :: a5 :: a6 :: a7 :: a8 :: a9 :: r) := h.perm (List.perm_middle (l₁ := [a0, a1, a2, a3, a4, a5, a6, a7, a8]) (l₂ := r))
theorem WE.f9 {a0 a1 a2 a3 a4 a5 a6 a7 a8 a9 : Hp} {r : List Hp} {e : Exit} (h : WE n w0 e Q ds fr (a9 :: a0 :: a1 :: a2 :: a3 :: a4 :: a5 :: a6 :: a7 :: a8 :: r)) : WE n w0 e Q ds fr (a0 :: a1 :: a2 :: a3 :: a4 :: a5 :: a6 :: a7 :: a8 :: a9 :: r) := h.perm (List.perm_middle (l₁ := [a0, a1, a2, a3, a4, a5, a6, a7, a8]) (l₂ := r))
theorem WL.f10 {a0 a1 a2 a3 a4 a5 a6 a7 a8 a9 a10 : Hp} {r : List Hp} {l : List Oper} (h : WL P n w0 ops Q l ds fr (a10 :: a0 :: a1 :: a2 :: a3 :: a4 :: a5 :: a6 :: a7 :: a8 :: a9 :: r)) : WL P n w0 ops Q l ds fr (a0 :: a1 :: a2 :: a3 :: a4 :: a5 :: a6 :: a7 :: a8 :: a9 :: a10 :: r) := h.perm (List.perm_middle (l₁ := [a0, a1, a2, a3, a4, a5, a6, a7, a8, a9]) (l₂ := r))
theorem WC.f10 {a0 a1 a2 a3 a4 a5 a6 a7 a8 a9 a10 : Hp} {r : List Hp} {c : Code} (h : WC P n w0 c Q ds fr (a10 :: a0 :: a1 :: a2 :: a3 :: a4 :: a5 :: a6 :: a7 :: a8 :: a9 :: r)) : WC P n w0 c Q ds fr (a0 :: a1 :: a2 :: a3 :: a4 :: a5 :: a6 :: a7 :: a8 :: a9 :: a10 :: r) := h.perm (List.perm_middle (l₁ := [a0, a1, a2, a3, a4, a5, a6, a7, a8, a9]) (l₂ := r))
theorem WE.f10 {a0 a1 a2 a3 a4 a5 a6 a7 a8 a9 a10 : Hp} {r : List Hp} {e : Exit} (h : WE n w0 e Q ds fr (a10 :: a0 :: a1 :: a2 :: a3 :: a4 :: a5 :: a6 :: a7 :: a8 :: a9 :: r)) : WE n w0 e Q ds fr (a0 :: a1 :: a2 :: a3 :: a4 :: a5 :: a6 :: a7 :: a8 :: a9 :: a10 :: r) := h.perm (List.perm_middle (l₁ := [a0, a1, a2, a3, a4, a5, a6, a7, a8, a9]) (l₂ := r))
theorem WL.f11 {a0 a1 a2 a3 a4 a5 a6 a7 a8 a9 a10 a11 : Hp} {r : List Hp} {l : List Oper} (h : WL P n w0 ops Q l ds fr (a11 :: a0 :: a1 :: a2 :: a3 :: a4 :: a5 :: a6 :: a7 :: a8 :: a9 :: a10 :: r)) : WL P n w0 ops Q l ds fr (a0 :: a1 :: a2 :: a3 :: a4 :: a5 :: a6 :: a7 :: a8 :: a9 :: a10 :: a11 :: r) := h.perm (List.perm_middle (l₁ := [a0, a1, a2, a3, a4, a5, a6, a7, a8, a9, a10]) (l₂ := r))
theorem WC.f11 {a0 a1 a2 a3 a4 a5 a6 a7 a8 a9 a10 a11 : Hp} {r : List Hp} {c : Code} (h : WC P n w0 c Q ds fr (a11 :: a0 :: a1 :: a2 :: a3 :: a4 :: a5 :: a6 :: a7 :: a8 :: a9 :: a10 :: r)) : WC P n w0 c Q ds fr (a0 :: a1 :: a2 :: a3 :: a4 :: a5 :: a6 :: a7 :: a8 :: a9 :: a10 :: a11 :: r) := h.perm (List.perm_middle (l₁ := [a0, a1, a2, a3, a4, a5, a6, a7, a8, a9, a10]) (l₂ := r))
theorem WE.f11 {a0 a1 a2 a3 a4 a5 a6 a7 a8 a9 a10 a11 : Hp} {r : List Hp} {e : Exit} (h : WE n w0 e Q ds fr (a11 :: a0 :: a1 :: a2 :: a3 :: a4 :: a5 :: a6 :: a7 :: a8 :: a9 :: a10 :: r)) : WE n w0 e Q ds fr (a0 :: a1 :: a2 :: a3 :: a4 :: a5 :: a6 :: a7 :: a8 :: a9 :: a10 :: a11 :: r) := h.perm (List.perm_middle (l₁ := [a0, a1, a2, a3, a4, a5, a6, a7, a8, a9, a10]) (l₂ := r))
theorem WL.f12 {a0 a1 a2 a3 a4 a5 a6 a7 a8 a9 a10 a11 a12 : Hp} {r : List Hp} {l : List Oper} (h : WL P n w0 ops Q l ds fr (a12 :: a0 :: a1 :: a2 :: a3 :: a4 :: a5 :: a6 :: a7 :: a8 :: a9 :: a10 :: a11 :: r)) : WL P n w0 ops Q l ds fr (a0 :: a1 :: a2 :: a3 :: a4 :: a5 :: a6 :: a7 :: a8 :: a9 :: a10 :: a11 :: a12 :: r) := h.perm (List.perm_middle (l₁ := [a0, a1, a2, a3, a4, a5, a6, a7, a8, a9, a10, a11]) (l₂ := r))
theorem WC.f12 {a0 a1 a2 a3 a4 a5 a6 a7 a8 a9 a10 a11 a12 : Hp} {r : List Hp} {c : Code} (h : WC P n w0 c Q ds fr (a12 :: a0 :: a1 :: a2 :: a3 :: a4 :: a5 :: a6 :: a7 :: a8 :: a9 :: a10 :: a11 :: r)) : WC P n w0 c Q ds fr (a0 :: a1 :: a2 :: a3 :: a4 :: a5 :: a6 :: a7 :: a8 :: a9 :: a10 :: a11 :: a12 :: r) := h.perm (List.perm_middle (l₁ := [a0, a1, a2, a3, a4, a5, a6, a7, a8, a9, a10, a11]) (l₂ := r))
theorem WE.f12 {a0 a1 a2 a3 a4 a5 a6 a7 a8 a9 a10 a11 a12 : Hp} {r : List Hp} {e : Exit} (h : WE n w0 e Q ds fr (a12 :: a0 :: a1 :: a2 :: a3 :: a4 :: a5 :: a6 :: a7 :: a8 :: a9 :: a10 :: a11 :: r)) : WE n w0 e Q ds fr (a0 :: a1 :: a2 :: a3 :: a4 :: a5 :: a6 :: a7 :: a8 :: a9 :: a10 :: a11 :: a12 :: r) := h.perm (List.perm_middle (l₁ := [a0, a1, a2, a3, a4, a5, a6, a7, a8, a9, a10, a11]) (l₂ := r))
theorem dr_f5 {a0 a1 a2 a3 a4 a5 : Hp} {r : List Hp} {H' : List Hp} (h : Drops w0 (a5 :: a0 :: a1 :: a2 :: a3 :: a4 :: r) H') : Drops w0 (a0 :: a1 :: a2 :: a3 :: a4 :: a5 :: r) H' := dr_perm (List.perm_middle (l₁ := [a0, a1, a2, a3, a4]) (l₂ := r)) h
theorem dr_f6 {a0 a1 a2 a3 a4 a5 a6 : Hp} {r : List Hp} {H' : List Hp} (h : Drops w0 (a6 :: a0 :: a1 :: a2 :: a3 :: a4 :: a5 :: r) H') : Drops w0 (a0 :: a1 :: a2 :: a3 :: a4 :: a5 :: a6 :: r) H' := dr_perm (List.perm_middle (l₁ := [a0, a1, a2, a3, a4, a5]) (l₂ := r)) h
theorem dr_f7 {a0 a1 a2 a3 a4 a5 a6 a7 : Hp} {r : List Hp} {H' : List Hp} (h : Drops w0 (a7 :: a0 :: a1 :: a2 :: a3 :: a4 :: a5 :: a6 :: r) H') : Drops w0 (a0 :: a1 :: a2 :: a3 :: a4 :: a5 :: a6 :: a7 :: r) H' := dr_perm (List.perm_middle (l₁ := [a0, a1, a2, a3, a4, a5, a6]) (l₂ := r)) h
theorem dr_f8 {a0 a1 a2 a3 a4 a5 a6 a7 a8 : Hp} {r : List Hp} {H' : List Hp} (h : Drops w0 (a8 :: a0 :: a1 :: a2 :: a3 :: a4 :: a5 :: a6 :: a7 :: r) H') : Drops w0 (a0 :: a1 :: a2 :: a3 :: a4 :: a5 :: a6 :: a7 :: a8 :: r) H' := dr_perm (List.perm_middle (l₁ := [a0, a1, a2, a3, a4, a5, a6, a7]) (l₂ := r)) h
theorem dr_f9 {a0 a1 a2 a3 a4 a5 a6 a7 a8 a9 : Hp} {r : List Hp} {H' : List Hp} (h : Drops w0 (a9 :: a0 :: a1 :: a2 :: a3 :: a4 :: a5 :: a6 :: a7 :: a8 :: r) H') : Drops w0 (a0 :: a1 :: a2 :: a3 :: a4 :: a5 :: a6 :: a7 :: a8 :: a9 :: r) H' := dr_perm (List.perm_middle (l₁ := [a0, a1, a2, a3, a4, a5, a6, a7, a8]) (l₂ := r)) h
theorem dr_f10 {a0 a1 a2 a3 a4 a5 a6 a7 a8 a9 a10 : Hp} {r : List Hp} {H' : List Hp} (h : Drops w0 (a10 :: a0 :: a1 :: a2 :: a3 :: a4 :: a5 :: a6 :: a7 :: a8 :: a9 :: r) H') : Drops w0 (a0 :: a1 :: a2 :: a3 :: a4 :: a5 :: a6 :: a7 :: a8 :: a9 :: a10 :: r) H' := dr_perm (List.perm_middle (l₁ := [a0, a1, a2, a3, a4, a5, a6, a7, a8, a9]) (l₂ := r)) h
theorem WL.storeX {Q : Post} {rest : List Oper} {t : TypeId} {x y : Operand} {b off : Nat} {c c' : Array Value} {e : TypeId} {fz : Nat × Nat} {v z : Value} {bytes : Nat} (hty : Ty P t z 1 bytes) (hx : ev fr x = some (Pt b off)) (hy : ev fr y = some v) (h1 : v.oneCell' = true) (hc : off < c.size) (hfz : ¬ (fz.1 ≤ off ∧ off < fz.2)) (hput : c.setIfInBounds off v = c')
    (hg : gd ops fr ⟨none, .store t x y, ty, pos, aft, g⟩ = some true)
    (hk : WL P n w0 ops Q rest ds fr ([(b, .cells c' e fz)] :: H)) : WL P n w0 ops Q (⟨none, .store t x y, ty, pos, aft, g⟩ :: rest) ds fr ([(b, .cells c e fz)] :: H) := by
  subst hput
  exact WL.store hty hx hy h1 hc hfz hg hk
theorem WL.buildSS {Q : Post} {rest : List Oper} {d : Nat} {t e : TypeId} {z : Value} {size bytes len : Nat} {parts : Array (Nat × Operand)} {vs : List (Nat × Value)} (cells : Array Value) (ht : P.underlying t = some (.slice e)) (hty : Ty P e z size bytes)
    (hp : evp2 fr parts.toList = some vs) (hsm : len * size ≤ 16777216) (h0 : len * size ≠ 0) (hfill : Instr.fill (fun i => some (i * size, size)) ((Array.range (len * size)).map (z.cells[· % z.cells.size]!)) vs = some cells) (hcs : cells.size = len * size)
    (hg : gd ops fr ⟨some d, .buildSlice t len parts, ty, pos, aft, g⟩ = some true) (hn : Nat.blt d n = true)
    (hk : ∀ v A, OwS w0.heap.size e size v A len cells.toList → v ≠ .slice none 0 0 → WL P n w0 ops Q rest ds ((d, v) :: fr) (A :: H)) : WL P n w0 ops Q (⟨some d, .buildSlice t len parts, ty, pos, aft, g⟩ :: rest) ds fr H := by
  refine WL.buildSlice (vs := vs) (cells := cells) ht hty (fun a hf => ?_) hsm h0 hfill hg hn fun b hb => ?_
  · have := evp2_spec hf parts.toList vs hp
    rw [← this]; simp
  · have h16 : len ≤ 16777216 := Nat.le_trans (Nat.le_mul_of_pos_right _ (Nat.pos_of_ne_zero fun h => h0 (by rw [h, Nat.mul_zero]))) hsm
    exact hk _ _ ⟨by rw [Array.length_toList, hcs], .inr ⟨b, len, cells, rfl, rfl, hb, Nat.le_refl _, by unfold maxLen; omega, by rw [hcs], by rw [← hcs, ← Array.length_toList, List.take_length]⟩⟩ (by simp)
theorem rd_one {v : Value} {A : Hp} {m : Nat} {xs : List Value} {size : Nat} (h : RdS size v A m xs) : v.oneCell' = true := by
  obtain ⟨p, c, rfl⟩ := h.shape
  rfl
theorem fr_l {A B : Hp} {k : Nat} (h : ∀ b o, (b, o) ∈ A ++ B → k ≤ b) : ∀ b o, (b, o) ∈ A → k ≤ b := fun b o hb => h b o (List.mem_append_left _ hb)
theorem fr_r {A B : Hp} {k : Nat} (h : ∀ b o, (b, o) ∈ A ++ B → k ≤ b) : ∀ b o, (b, o) ∈ B → k ≤ b := fun b o hb => h b o (List.mem_append_right _ hb)
theorem wpOp_of_wl {Q : Post} {A : Hp} {fuel : Nat} {l : Array Bool} {i : Nat} {o : Oper} (ho : ops[i]? = some o) {a : Act} {w : World} (h' : wpList P ops (QS P ops Q A fuel (l.setIfInBounds i true)) [o] a w) : wpOp P ops Q i (fun a' w' => Has A w' ∧ wpAnyH P .any ops Q (Has A) fuel (l.setIfInBounds i true) a' w') a w := by
  unfold wpList at h'
  unfold wpOp
  rw [ho]
  show if Region.wanted o (yielded ops a.tmps) = true then _ else _
  have go : ∀ a' w', wpList P ops (QS P ops Q A fuel (l.setIfInBounds i true)) [] a' w' → Has A w' ∧ wpAnyH P .any ops Q (Has A) fuel (l.setIfInBounds i true) a' w' := fun a' w' hl => hl
  split
  · rename_i hw2; rw [if_pos hw2] at h'
    rcases h' with h' | h'
    · left
      have h2 := Oper.wp_mono go h'
      unfold Oper.wp at h2 ⊢
      generalize (execOp a.eval o).run P w = r at h2 ⊢
      cases r with
      | ok x w' =>
        cases x <;> simp only [Oper.upon] at h2 ⊢ <;> exact h2
      | halt x w' => cases x <;> simp only [Oper.upon] at h2 ⊢ <;> exact h2
    · exact .inr h'
  · rename_i hw2; rw [if_neg hw2] at h'; exact go _ _ h'
/-- two operations may come up now -/
theorem WH.fork {Q : Post} {A : Hp} {fuel : Nat} {l : Array Bool} {i j : Nat} {o u : Oper} (hr : Region.ready .any ops l = [i, j]) (ho : ops[i]? = some o) (hu : ops[j]? = some u) (h1 : WL P n w0 ops (QS P ops Q A fuel (l.setIfInBounds i true)) [o] ds fr H) (h2 : WL P n w0 ops (QS P ops Q A fuel (l.setIfInBounds j true)) [u] ds fr H) : WH P n w0 ops Q A (fuel + 1) l ds fr H := by
  intro a w hfit hw
  refine wpAnyH_all hr (by simp) fun k hk => ?_
  rcases List.mem_cons.1 hk with rfl | hk
  · exact wpOp_of_wl ho (h1 a w hfit hw)
  · obtain rfl := List.mem_singleton.1 hk
    exact wpOp_of_wl hu (h2 a w hfit hw)
end
end Go.Proofs.YtodlhaghdplclaaDoor.V
