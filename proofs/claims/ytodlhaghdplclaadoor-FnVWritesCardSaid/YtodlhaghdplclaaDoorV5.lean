/- The engine, part 5: from a law's contract to its row. Over any program. -/
import Derived.Test.YtodlhaghdplclaaDoorV4
import Derived.ProofKit
import Derived.SliceStrings
import Derived.OpenShut
namespace Go.Proofs.YtodlhaghdplclaaDoor.V
open Go Go.RowKit Go.ChangeShapes Go.WideShapes
set_option linter.unusedSimpArgs false
set_option linter.unusedVariables false

theorem St.below0 {W w : World} (h : St W [] w) : Below W.heap.size W w := ⟨h.os, h.tape, h.output, h.size, fun k hk => h.old k hk (fun _ hm => by cases hm)⟩
theorem St.belowR {W w : World} {A : Hp} (ha : Has A W) (h : St W A w) : Below W.heap.size W w :=
  St.below0 (St.drop (N := A) (H := []) (by simpa using h) fun b o hb => .inr (ha.now b o hb))

theorem wf_bounds {k : IntKind} {n : Int} (h : (Lit.int k n).wf = true) : k.min ≤ n ∧ n ≤ k.max := by
  simpa [Lit.wf] using h

theorem RdS.weaken {size : Nat} {v : Value} {A C : Hp} {n : Nat} {xs : List Value} (h : RdS size v A n xs) (hs : ∀ x ∈ A, x ∈ C) : RdS size v C n xs := by
  refine ⟨h.1, ?_⟩
  rcases h.2 with h1 | ⟨b, off, c, cells, e, fz, h1, h2, h3, h4⟩
  · exact .inl h1
  · exact .inr ⟨b, off, c, cells, e, fz, h1, h2, hs _ h3, h4⟩

theorem has_two {W : World} {A B : Hp} (ha : Has A W) (hb : Has B W) : ∃ C, Has C W ∧ (∀ x ∈ A, x ∈ C) ∧ (∀ x ∈ B, x ∈ C) := by
  refine ⟨A ++ B.filter (fun x => !(A.map Prod.fst).contains x.1), ⟨fun b o h => ?_, ?_⟩, fun x hx => List.mem_append_left _ hx, fun x hx => ?_⟩
  · rcases List.mem_append.1 h with h | h
    · exact ha.now b o h
    · exact hb.now b o (List.mem_filter.1 h).1
  · rw [List.map_append, List.nodup_append]
    refine ⟨ha.nodup, (List.filter_sublist.map Prod.fst).nodup hb.nodup, fun a h1 c h2 e => ?_⟩
    subst e
    obtain ⟨x, hx, rfl⟩ := List.mem_map.1 h2
    have := (List.mem_filter.1 hx).2
    simp only [Bool.not_eq_true', ← Bool.not_eq_true, List.contains_iff_mem] at this
    exact this h1
  · by_cases h : x.1 ∈ A.map Prod.fst
    · obtain ⟨y, hy, e⟩ := List.mem_map.1 h
      have h1 := ha.now y.1 y.2 hy
      have h2 := hb.now x.1 x.2 hx
      rw [e, h2] at h1
      have e2 : x = y := Prod.ext e.symm (Option.some.inj h1)
      rw [e2]; exact List.mem_append_left _ hy
    · refine List.mem_append_right _ (List.mem_filter.2 ⟨hx, ?_⟩)
      simp only [Bool.not_eq_true', ← Bool.not_eq_true, List.contains_iff_mem]
      exact h
theorem has_all1 {W : World} {A : Hp} (ha : Has A W) : ∃ C, Has C W ∧ (∀ x ∈ A, x ∈ C) := ⟨A, ha, fun _ h => h⟩
theorem has_all2 {W : World} {A B : Hp} (ha : Has A W) (hb : Has B W) : ∃ C, Has C W ∧ (∀ x ∈ A, x ∈ C) ∧ (∀ x ∈ B, x ∈ C) := has_two ha hb
theorem has_all3 {W : World} {A B D : Hp} (ha : Has A W) (hb : Has B W) (hd : Has D W) : ∃ C, Has C W ∧ (∀ x ∈ A, x ∈ C) ∧ (∀ x ∈ B, x ∈ C) ∧ (∀ x ∈ D, x ∈ C) := by
  obtain ⟨C, hc, h1, h2⟩ := has_two ha hb
  obtain ⟨E, he, h3, h4⟩ := has_two hc hd
  exact ⟨E, he, fun x hx => h3 x (h1 x hx), fun x hx => h3 x (h2 x hx), h4⟩

/-- cells in a row lie in one block -/
theorem rd_of_cells {w : World} {a : Addr} {len cap : Nat} {xs : List Value} (hl : xs.length = len) (hc : len ≤ cap) (h : ∀ i, i < len → w.cell? (a.add i) = xs[i]?) : ∃ A, Has A w ∧ RdS 1 (.slice (some a) len cap) A len xs := by
  by_cases h0 : len = 0
  · subst h0
    exact ⟨[], Has.nil w, by simpa using hl, .inl ⟨rfl, _, _, rfl⟩⟩
  · have h1 := h 0 (by omega)
    obtain ⟨b, off, spot⟩ := a
    have e0 : (⟨b, off, spot⟩ : Addr).add 0 = ⟨b, off, spot⟩ := rfl
    rw [e0, List.getElem?_eq_getElem (by omega)] at h1
    unfold World.cell? at h1
    cases hb : w.heap[b]? with
    | none => rw [hb] at h1; cases h1
    | some o =>
      rw [hb] at h1
      cases o with
      | cells c e fz =>
        simp only at h1
        cases spot with
        | some s => simp at h1
        | none =>
          refine ⟨[(b, .cells c e fz)], ⟨fun b' o' hm => ?_, by simp⟩, by omega, .inr ⟨b, off, cap, c, e, fz, rfl, hc, List.mem_singleton.2 rfl, fun j hj => ?_⟩⟩
          · simp at hm; rw [hm.1, hm.2, hb]
          · have := h j (by omega)
            rw [add_none, cell_at hb] at this
            exact this
      | _ => simp at h1

section
variable {H : Type} {enc : TypeId × Value → H} {P : Program} {w : World} {base : Nat}

theorem arg_strs {t e : TypeId} {r : Reach} {v : Value} {d : DataW H} {ps : List MemPlace} (ht : P.underlying t = some (.slice e)) (he : P.underlying e = some .string) (hc : P.cellsOf e = 1) (hval : Value.okWide P w r base t v) (h : DataW.Trod enc P w 0 (fun _ => true) true t v d ps) :
    ∃ ls A, Has A w ∧ RdS 1 v A ls.length (strsV ls) ∧ ls.length ≤ maxLen := by
  obtain ⟨a, len, cap, rfl⟩ := okWide_slice ht hval
  obtain ⟨fuel, hf⟩ := h
  rcases open_strings ht he hc hf with ⟨hcs, _⟩ | ⟨x, l, c, ss, hcs, _, hl, hm, hz, _, hcell, _⟩
  · simp [Value.cells] at hcs
    obtain ⟨rfl, rfl, rfl⟩ := hcs
    exact ⟨[], [], Has.nil w, ⟨by simp [strsV], .inl ⟨rfl, _, _, rfl⟩⟩, by simp⟩
  · simp [Value.cells] at hcs
    obtain ⟨rfl, rfl, rfl⟩ := hcs
    have hz' : ss.length = cap := by simpa using hz
    have hlen : ((ss.take len).map (·.data.toList)).length = len := by simp; omega
    obtain ⟨A, hA, hr⟩ := rd_of_cells (w := w) (a := x) (len := len) (cap := cap) (xs := strsV ((ss.take len).map (·.data.toList))) (by simp [strsV]; omega) hl (fun i hi => by
      rw [hcell i (by omega)]
      simp only [strsV, List.map_map, List.getElem?_map, List.getElem?_take, if_pos hi]
      rw [List.getElem?_eq_getElem (by omega), List.getD_eq_getElem?_getD, List.getElem?_eq_getElem (by omega)]
      rfl)
    exact ⟨_, A, hA, by rw [hlen]; exact hr, by omega⟩

theorem arg_ints {t e : TypeId} {k : IntKind} {r : Reach} {v : Value} {d : DataW H} {ps : List MemPlace} (ht : P.underlying t = some (.slice e)) (he : P.underlying e = some (.int k)) (hc : P.cellsOf e = 1) (hval : Value.okWide P w r base t v) (h : DataW.Trod enc P w 0 (fun _ => true) true t v d ps) :
    ∃ zs A, Has A w ∧ RdS 1 v A zs.length (intsV k zs) ∧ zs.length ≤ maxLen ∧ ∀ z ∈ zs, k.min ≤ z ∧ z ≤ k.max := by
  obtain ⟨a, len, cap, rfl⟩ := okWide_slice ht hval
  obtain ⟨fuel, hf⟩ := h
  rcases open_ints ht he hc hf with ⟨hcs, _⟩ | ⟨x, l, c, ss, hcs, _, hl, hm, hz, _, hcell, hw⟩
  · simp [Value.cells] at hcs
    obtain ⟨rfl, rfl, rfl⟩ := hcs
    exact ⟨[], [], Has.nil w, ⟨by simp [intsV], .inl ⟨rfl, _, _, rfl⟩⟩, by simp, by simp⟩
  · simp [Value.cells] at hcs
    obtain ⟨rfl, rfl, rfl⟩ := hcs
    have hz' : ss.length = cap := by simpa using hz
    have hlen : (ss.take len).length = len := by simp; omega
    obtain ⟨A, hA, hr⟩ := rd_of_cells (w := w) (a := x) (len := len) (cap := cap) (xs := intsV k (ss.take len)) (by simp [intsV]; omega) hl (fun i hi => by
      rw [hcell i (by omega)]
      simp only [intsV, List.getElem?_map, List.getElem?_take, if_pos hi]
      rw [List.getElem?_eq_getElem (by omega), List.getD_eq_getElem?_getD, List.getElem?_eq_getElem (by omega)]
      rfl)
    exact ⟨_, A, hA, by rw [hlen]; exact hr, by omega, fun z hz => wf_bounds (hw z (List.mem_of_mem_take hz))⟩
end
end Go.Proofs.YtodlhaghdplclaaDoor.V
