/- What the listed tables of unicode/utf8 hold. -/
import Derived.Test.YtcgpajknehhdgaaDoorRows
import Derived.Test.YtcgpajknehhdgaaDoorK7
import Derived.Lib.LaidU8
import Derived.LaidLaws
import Derived.LaidHandle
import Derived.MakeChecks
namespace Go.Proofs.YtcgpajknehhdgaaDoor
open Go V K7
set_option linter.unusedVariables false
set_option maxRecDepth 100000
namespace KT
theorem extra : U8Extra Tryd.prog Tryd.lays260_ren := { n3 := by kernel_rfl, n4 := by kernel_rfl, y3 := by kernel_rfl, y4 := by kernel_rfl, c5 := by kernel_rfl, c119 := by kernel_rfl, c138 := by kernel_rfl }
theorem first_is : (Rows.laid_unicode_utf8_first : DataW Unit) = Lib.firstData := by kernel_rfl
theorem accept_is : (Rows.laid_unicode_utf8_acceptRanges : DataW Unit) = Lib.acceptData := by kernel_rfl
theorem cell_heap {w : World} {b c : Nat} {v : Value} (h : w.cell? ⟨b, c, none⟩ = some v) : ∃ o, w.heap[b]? = some o := by
  cases hh : w.heap[b]? with
  | some o => exact ⟨o, rfl⟩
  | none => simp [World.cell?, hh] at h
/-- the two tables, wherever they stand on a row's list -/
theorem tabs_laid {W : World} {l : List (String × DataW Unit)} (h : laidMet Tryd.prog l W) (m3 : ("unicode/utf8.first", Rows.laid_unicode_utf8_first) ∈ l) (m4 : ("unicode/utf8.acceptRanges", Rows.laid_unicode_utf8_acceptRanges) ∈ l) : ∃ G, Has G W ∧ Tabs G ∧ ∀ x ∈ G, x.1 = 8 ∨ x.1 = 9 := by
  have h3 := Lib.laidMet.reads h m3
  have h4 := Lib.laidMet.reads h m4
  rw [first_is] at h3
  rw [accept_is] at h4
  have hT : Lib.Utf8Tabs 8 9 W := utf8Tabs_of_reads Tryd.lays260 extra h3 h4
  obtain ⟨o8, e8⟩ := cell_heap (hT.1 0 (by decide))
  obtain ⟨o9, e9⟩ := cell_heap (hT.2 0 (by decide)).1
  refine ⟨[(8, o8), (9, o9)], ⟨fun b o hb => ?_, by simp⟩, fun w' hw' => ?_, fun x hx => ?_⟩
  · simp only [List.mem_cons, Prod.mk.injEq, List.not_mem_nil, or_false] at hb
    rcases hb with ⟨rfl, rfl⟩ | ⟨rfl, rfl⟩
    · exact e8
    · exact e9
  · have k8 : w'.heap[8]? = W.heap[8]? := by rw [hw'.now 8 o8 (.head _), e8]
    have k9 : w'.heap[9]? = W.heap[9]? := by rw [hw'.now 9 o9 (.tail _ (.head _)), e9]
    refine ⟨fun c hc => ?_, fun i hi => ⟨?_, ?_⟩⟩
    · rw [World.cell?_of_block (a := ⟨8, c, none⟩) k8]; exact hT.1 c hc
    · rw [World.cell?_of_block (a := ⟨9, 2 * i, none⟩) k9]; exact (hT.2 i hi).1
    · rw [World.cell?_of_block (a := ⟨9, 2 * i + 1, none⟩) k9]; exact (hT.2 i hi).2
  · simp only [List.mem_cons, List.not_mem_nil, or_false] at hx
    rcases hx with rfl | rfl
    · exact .inl rfl
    · exact .inr rfl
theorem tabs_queries {W : World} (h : laidMetH Tryd.prog Rows.fnHQueriesRow.laid W) : ∃ G, Tabs G ∧ Has G W := by
  rw [Go.MakeChecks.laidMetH_plain _ _ _ (by kernel_rfl)] at h
  obtain ⟨G, h1, h2, _⟩ := tabs_laid h (.tail _ (.head _)) (.head _)
  exact ⟨G, h2, h1⟩
theorem Tabs.weaken {G C : Hp} (h : Tabs G) (hn : (G.map Prod.fst).Nodup) (hs : ∀ x ∈ G, x ∈ C) : Tabs C := fun w hw => h w ⟨fun b o hb => hw.now b o (hs _ hb), hn⟩
end KT
end Go.Proofs.YtcgpajknehhdgaaDoor
