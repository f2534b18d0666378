/- The engine, part 15: slices of bools that come in. Over any program. -/
import Derived.Test.YtcgpajknehhdgaaDoorV5
import Derived.Deep.Grids
namespace Go.Proofs.YtcgpajknehhdgaaDoor.V
open Go Go.RowKit Go.ChangeShapes Go.WideShapes
section
variable {H : Type} {enc : TypeId × Value → H} {P : Program} {w : World} {base : Nat}
theorem arg_bools {t e : TypeId} {r : Reach} {v : Value} {d : DataW H} {ps : List MemPlace} (ht : P.underlying t = some (.slice e)) (he : P.underlying e = some .bool) (hc : P.cellsOf e = 1) (hval : Value.okWide P w r base t v) (h : DataW.Trod enc P w 0 (fun _ => true) true t v d ps) :
    ∃ bs A, Has A w ∧ RdS 1 v A bs.length (boolsV bs) ∧ bs.length ≤ maxLen := by
  obtain ⟨a, len, cap, rfl⟩ := okWide_slice ht hval
  obtain ⟨fuel, hf⟩ := h
  rcases Go.Deep.open_bools ht he hc hf with ⟨hcs, _⟩ | ⟨x, l, c, B, hcs, _, hl, hm, _, hcell⟩
  · simp [Value.cells] at hcs
    obtain ⟨rfl, rfl, rfl⟩ := hcs
    exact ⟨[], [], Has.nil w, ⟨by simp [boolsV], .inl ⟨rfl, _, _, rfl⟩⟩, by simp⟩
  · simp [Value.cells] at hcs
    obtain ⟨rfl, rfl, rfl⟩ := hcs
    have hlen : ((List.range len).map B).length = len := by simp
    obtain ⟨A, hA, hr⟩ := rd_of_cells (w := w) (a := x) (len := len) (cap := cap) (xs := boolsV ((List.range len).map B)) (by simp [boolsV]) hl (fun i hi => by
      rw [hcell i (by omega)]
      simp [boolsV, hi])
    exact ⟨_, A, hA, by rw [hlen]; exact hr, by omega⟩
end
end Go.Proofs.YtcgpajknehhdgaaDoor.V
