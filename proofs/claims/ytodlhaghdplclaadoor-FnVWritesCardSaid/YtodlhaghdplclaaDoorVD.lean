/- The engine, part 12: slices of structs that come in. Over any program. -/
import Derived.Test.YtodlhaghdplclaaDoorV5
import Derived.Test.YtodlhaghdplclaaDoorVB
import Derived.Lib.SmallJoins
namespace Go.Proofs.YtodlhaghdplclaaDoor.V
open Go Go.RowKit Go.ChangeShapes Go.WideShapes
set_option linter.unusedSimpArgs false
set_option linter.unusedVariables false
/-- cells in a row lie in one block: elements of some cells -/
theorem rd_of_cellsN {w : World} {a : Addr} {sz len cap : Nat} {xs : List Value} (hsz : 0 < sz) (hl : xs.length = len * sz) (hc : len ≤ cap) (h : ∀ i, i < len * sz → w.cell? (a.add i) = xs[i]?) : ∃ A, Has A w ∧ RdS sz (.slice (some a) len cap) A len xs := by
  by_cases h0 : len = 0
  · subst h0
    exact ⟨[], Has.nil w, hl, .inl ⟨rfl, _, _, rfl⟩⟩
  · have hpos : 0 < len * sz := Nat.mul_pos (by omega) hsz
    have h1 := h 0 hpos
    obtain ⟨b, off, spot⟩ := a
    have e0 : (⟨b, off, spot⟩ : Addr).add 0 = ⟨b, off, spot⟩ := rfl
    rw [e0, List.getElem?_eq_getElem (by omega)] at h1
    unfold World.cell? at h1
    cases hb : w.heap[b]? with
    | none => rw [hb] at h1; cases h1
    | some o =>
      rw [hb] at h1
      cases o with
      | cells c e fz =>
        simp only at h1
        cases spot with
        | some s => simp at h1
        | none =>
          refine ⟨[(b, .cells c e fz)], ⟨fun b' o' hm => ?_, by simp⟩, hl, .inr ⟨b, off, cap, c, e, fz, rfl, hc, List.mem_singleton.2 rfl, fun j hj => ?_⟩⟩
          · simp at hm; rw [hm.1, hm.2, hb]
          · have := h j hj
            rw [add_none, cell_at hb] at this
            exact this
      | _ => simp at h1
section
variable {H : Type} {enc : TypeId × Value → H} {P : Program} {w : World} {base : Nat}
theorem arg_recs {α : Type} (f : α → List Value) {sz : Nat} (hf : ∀ x, (f x).length = sz) (hsz : 0 < sz) {t e : TypeId} {r : Reach} {v : Value} {d : DataW H} {ps : List MemPlace} (ht : P.underlying t = some (.slice e)) (hc : P.cellsOf e = sz)
    (hel : ∀ (n : Nat) (cs : List Value) (y : DataW H × List MemPlace), DataW.trod enc P w 0 (fun _ => true) true n e cs = some y → cs.length = sz → ∃ x, cs = f x)
    (hval : Value.okWide P w r base t v) (h : DataW.Trod enc P w 0 (fun _ => true) true t v d ps) :
    ∃ (l : List α) (A : Hp), Has A w ∧ RdS sz v A l.length (recsV f l) ∧ l.length ≤ maxLen := by
  obtain ⟨a, len, cap, rfl⟩ := okWide_slice ht hval
  obtain ⟨fuel, hfu⟩ := h
  rcases DataW.trod_slice ht hfu with ⟨hcs, _⟩ | ⟨x, l, c, elems, rest, n, _, hcs, _, _, hl, hm, hlen, hels, _, _⟩
  · simp [Value.cells] at hcs
    obtain ⟨rfl, rfl, rfl⟩ := hcs
    exact ⟨[], [], Has.nil w, ⟨by simp [recsV], .inl ⟨rfl, _, _, rfl⟩⟩, by simp⟩
  · simp [Value.cells] at hcs
    obtain ⟨rfl, rfl, rfl⟩ := hcs
    have each : ∀ i : Fin len, ∃ y : α, ∀ j, j < sz → w.cell? (x.add (i.1 * sz + j)) = (f y)[j]? := by
      intro i
      have h1 := hels i.1 i.2
      rw [List.getElem?_eq_getElem (by omega), hc] at h1
      obtain ⟨cs, h2, h3⟩ := Option.bind_eq_some_iff.1 h1
      obtain ⟨_, h4, h5⟩ := World.cells?_some h2
      obtain ⟨y, rfl⟩ := hel n cs _ h3 h4
      exact ⟨y, fun j hj => by rw [← Addr.add_add]; exact h5 j hj⟩
    let g : Fin len → α := fun i => Classical.choose (each i)
    have hg : ∀ i : Fin len, ∀ j, j < sz → w.cell? (x.add (i.1 * sz + j)) = (f (g i))[j]? := fun i => Classical.choose_spec (each i)
    have hll : (List.ofFn g).length = len := by simp
    obtain ⟨A, hA, hr⟩ := rd_of_cellsN (w := w) (a := x) (sz := sz) (len := len) (cap := cap) (xs := recsV f (List.ofFn g)) hsz (by rw [recs_len hf, hll]) hl (fun i hi => by
      have hdiv : i / sz < len := Nat.div_lt_of_lt_mul (by rw [Nat.mul_comm]; exact hi)
      have hmod : i % sz < sz := Nat.mod_lt _ hsz
      have hi2 : i / sz * sz + i % sz = i := by rw [Nat.mul_comm]; exact Nat.div_add_mod i sz
      have h1 := hg ⟨i / sz, hdiv⟩ (i % sz) hmod
      have h2 := recs_get hf (g ⟨i / sz, hdiv⟩) (List.ofFn g) (i / sz) (i % sz) (by rw [hll]; exact hdiv) hmod
      rw [hi2] at h1 h2
      rw [h1, h2]
      congr 1
      rw [List.getD_eq_getElem?_getD, List.getElem?_eq_getElem (by rw [hll]; exact hdiv)]
      simp)
    exact ⟨_, A, hA, by rw [hll]; exact hr, by omega⟩
end
end Go.Proofs.YtodlhaghdplclaaDoor.V
