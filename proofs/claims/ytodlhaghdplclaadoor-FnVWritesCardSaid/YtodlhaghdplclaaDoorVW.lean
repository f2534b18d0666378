/- The engine, part 28: arguments that come in: slices whose elements hold slices, structs. Over any program. -/
import Derived.Test.YtodlhaghdplclaaDoorVD
import Derived.Test.YtodlhaghdplclaaDoorVJ
namespace Go.Proofs.YtodlhaghdplclaaDoor.V
open Go Go.RowKit Go.ChangeShapes Go.WideShapes
set_option linter.unusedSimpArgs false
set_option linter.unusedVariables false
theorem has_list {W : World} : ∀ (As : List Hp), (∀ A ∈ As, Has A W) → ∃ C, Has C W ∧ ∀ A ∈ As, ∀ x ∈ A, x ∈ C
  | [], _ => ⟨[], Has.nil W, fun _ h => nomatch h⟩
  | A :: r, h => by
    obtain ⟨C, hC, h1⟩ := has_list r fun B hB => h B (List.mem_cons_of_mem _ hB)
    obtain ⟨D, hD, h2, h3⟩ := has_two (h A List.mem_cons_self) hC
    refine ⟨D, hD, fun B hB x hx => ?_⟩
    rcases List.mem_cons.1 hB with rfl | hB
    · exact h2 x hx
    · exact h3 x (h1 B hB x hx)
section
variable {H : Type} {enc : TypeId × Value → H} {P : Program} {w : World}
theorem trod_sl {α : Type} (f : α → List Value) (R : α → Hp → Prop) {sz : Nat} (hR : ∀ x A C, R x A → (∀ y ∈ A, y ∈ C) → R x C) (hf : ∀ x, (f x).length = sz) (hsz : 0 < sz) {t e : TypeId} {cs : List Value} {fuel : Nat} {y : DataW H × List MemPlace} (ht : P.underlying t = some (.slice e)) (hc : P.cellsOf e = sz)
    (hel : ∀ (n : Nat) (cs : List Value) (y : DataW H × List MemPlace), DataW.trod enc P w 0 (fun _ => true) true n e cs = some y → cs.length = sz → ∃ x A, cs = f x ∧ Has A w ∧ R x A)
    (h : DataW.trod enc P w 0 (fun _ => true) true fuel t cs = some y) :
    ∃ (v : Value) (l : List α) (A : Hp), cs = [v] ∧ Has A w ∧ RdS sz v A l.length (recsV f l) ∧ l.length ≤ maxLen ∧ ∀ x ∈ l, R x A := by
  rcases DataW.trod_slice ht h with ⟨rfl, _⟩ | ⟨x, len, cap, elems, rest, n, _, rfl, _, _, hl, hm, hlen, hels, _, _⟩
  · exact ⟨_, [], [], rfl, Has.nil w, ⟨by simp [recsV], .inl ⟨rfl, _, _, rfl⟩⟩, by simp, fun _ h => nomatch h⟩
  · have each : ∀ i : Fin len, ∃ y : α × Hp, (∀ j, j < sz → w.cell? (x.add (i.1 * sz + j)) = (f y.1)[j]?) ∧ Has y.2 w ∧ R y.1 y.2 := by
      intro i
      have h1 := hels i.1 i.2
      rw [List.getElem?_eq_getElem (by omega), hc] at h1
      obtain ⟨cs, h2, h3⟩ := Option.bind_eq_some_iff.1 h1
      obtain ⟨_, h4, h5⟩ := World.cells?_some h2
      obtain ⟨y, A, rfl, hA, hr⟩ := hel n cs _ h3 h4
      exact ⟨(y, A), fun j hj => by rw [← Addr.add_add]; exact h5 j hj, hA, hr⟩
    let g : Fin len → α × Hp := fun i => Classical.choose (each i)
    have hg : ∀ i : Fin len, (∀ j, j < sz → w.cell? (x.add (i.1 * sz + j)) = (f (g i).1)[j]?) ∧ Has (g i).2 w ∧ R (g i).1 (g i).2 := fun i => Classical.choose_spec (each i)
    obtain ⟨l, hl'⟩ : ∃ l, l = List.ofFn (fun i => (g i).1) := ⟨_, rfl⟩
    have hll : l.length = len := by rw [hl']; simp
    obtain ⟨A, hA, hr⟩ := rd_of_cellsN (w := w) (a := x) (sz := sz) (len := len) (cap := cap) (xs := recsV f l) hsz (by rw [recs_len hf, hll]) hl (fun i hi => by
      have hdiv : i / sz < len := Nat.div_lt_of_lt_mul (by rw [Nat.mul_comm]; exact hi)
      have hmod : i % sz < sz := Nat.mod_lt _ hsz
      have hi2 : i / sz * sz + i % sz = i := by rw [Nat.mul_comm]; exact Nat.div_add_mod i sz
      have h1 := (hg ⟨i / sz, hdiv⟩).1 (i % sz) hmod
      have h2 := recs_get hf (g ⟨i / sz, hdiv⟩).1 l (i / sz) (i % sz) (by rw [hll]; exact hdiv) hmod
      rw [hi2] at h1 h2
      rw [h1, h2]
      congr 2
      rw [List.getD_eq_getElem?_getD, List.getElem?_eq_getElem (by rw [hll]; exact hdiv)]
      simp [hl'])
    obtain ⟨C, hC, hin⟩ := has_list (W := w) (List.ofFn fun i => (g i).2) (by
      intro B hB
      obtain ⟨i, rfl⟩ := List.mem_ofFn.1 hB
      exact (hg i).2.1)
    obtain ⟨D, hD, h2, h3⟩ := has_two hA hC
    refine ⟨_, l, D, rfl, hD, by rw [hll]; exact hr.weaken h2, by omega, fun z hz => ?_⟩
    rw [hl'] at hz
    obtain ⟨i, rfl⟩ := List.mem_ofFn.1 hz
    exact hR _ _ _ (hg i).2.2 fun y hy => h3 y (hin _ (List.mem_ofFn.2 ⟨i, rfl⟩) y hy)
def oneB (b : UInt8) : List Value := [.int .u8 (b.toNat : Int)]
theorem recs_bytes (l : List UInt8) : recsV oneB l = bytesV l := by
  unfold recsV bytesV oneB
  induction l with
  | nil => rfl
  | cons b r ih => rw [List.flatMap_cons, ih]; rfl
theorem trod_by {t e : TypeId} {cs : List Value} {fuel : Nat} {y : DataW H × List MemPlace} (ht : P.underlying t = some (.slice e)) (he : P.underlying e = some (.int .u8)) (hc : P.cellsOf e = 1) (h : DataW.trod enc P w 0 (fun _ => true) true fuel t cs = some y) :
    ∃ (p : Option Addr) (c : Nat) (l : List UInt8) (A : Hp), cs = [.slice p l.length c] ∧ Has A w ∧ RdS 1 (.slice p l.length c) A l.length (bytesV l) ∧ l.length ≤ maxLen := by
  obtain ⟨v, l, A, rfl, hA, hr, hl, _⟩ := trod_sl (enc := enc) oneB (fun _ _ => True) (fun _ _ _ _ _ => trivial) (fun _ => rfl) (by decide) ht hc (fun n cs y hy _ => by
    obtain ⟨z, rfl, _, hw⟩ := DataW.trod_int he hy
    have hb := wf_bounds hw
    rw [u8_lo, u8_hi] at hb
    refine ⟨UInt8.ofNat z.toNat, [], ?_, Has.nil w, trivial⟩
    show [Value.int .u8 z] = [Value.int .u8 (((UInt8.ofNat z.toNat).toNat : Nat) : Int)]
    rw [byte_back z (by omega) (by omega)]) h
  rw [recs_bytes] at hr
  obtain ⟨p, c, rfl⟩ := hr.shape
  exact ⟨p, c, l, A, rfl, hA, hr, hl⟩
end
end Go.Proofs.YtodlhaghdplclaaDoor.V
