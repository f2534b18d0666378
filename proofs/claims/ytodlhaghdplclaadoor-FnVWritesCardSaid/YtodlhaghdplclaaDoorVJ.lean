/- The engine, part 18: package variables that hold sentinels, or tables of numbers; slices of bytes that come in. Over any program. -/
import Derived.Test.YtodlhaghdplclaaDoorV5
import Derived.Test.YtodlhaghdplclaaDoorVI
import Derived.Lay
namespace Go.Proofs.YtodlhaghdplclaaDoor.V
open Go Go.RowKit Go.ChangeShapes Go.WideShapes
set_option linter.unusedSimpArgs false
set_option linter.unusedVariables false
theorem var_heap {P : Program} {w : World} {n : String} {g : Nat} {cs : Array Value} (hg : P.globalNamed n = some g) (hv : w.var? P n = some cs) : ∃ t f, w.heap[g]? = some (.cells cs t f) := by
  simp only [World.var?, hg, Option.bind_some] at hv
  split at hv
  · rename_i c t f h; simp at hv; subst hv; exact ⟨_, _, h⟩
  · cases hv
theorem sentinel_open {P : Program} {w : World} {n : String} {g : Nat} {t : TypeId} {cs : Array Value} {fuel : Nat} {p : List MemPlace} {name : String} {d : DataW Unit} {ms : Array (String × TypeId)} (hg : P.globalNamed n = some g) (hv : w.var? P n = some cs) (ht : P.underlying t = some (.interface ms))
    (hd : DataW.trod (fun _ => ()) P w 0 (fun _ => true) false fuel t cs.toList = some (.iface name d, p)) : ∃ u v t' f fuel', w.heap[g]? = some (.cells #[.iface u v] t' f) ∧ P.typeName? 3 u = some name ∧ DataW.trod (fun _ => ()) P w 0 (fun _ => true) false fuel' u v.cells.toList = some (d, p) := by
  obtain ⟨t', f, hh⟩ := var_heap hg hv
  cases fuel with
  | zero => simp [DataW.trod] at hd
  | succ fuel =>
    unfold DataW.trod at hd
    rw [ht] at hd
    obtain ⟨l⟩ := cs
    simp only at hd
    split at hd <;> simp_all
    all_goals first
      | (cases hd; done)
      | skip
    rename_i u v h2
    cases hn : P.typeName? 3 u with
    | none => rw [hn] at hd; simp at hd
    | some name' =>
      rw [hn] at hd
      simp only [Option.map_eq_some_iff] at hd
      obtain ⟨x, hx, he⟩ := hd
      simp only [Prod.mk.injEq, DataW.iface.injEq] at he
      exact ⟨u, v, ⟨rfl, rfl⟩, by rw [hn, he.1.1], fuel, by rw [hx, ← he.1.2, ← he.2]⟩
/-- a sentinel: a pointer, not nil, of the one type of that name -/
theorem sentinel_is {P : Program} {w : World} {n : String} {g : Nat} {t k e : TypeId} {cs : Array Value} {fuel : Nat} {p : List MemPlace} {name : String} {d : DataW Unit} {ms : Array (String × TypeId)} (hg : P.globalNamed n = some g) (hv : w.var? P n = some cs) (ht : P.underlying t = some (.interface ms))
    (hd : DataW.trod (fun _ => ()) P w 0 (fun _ => true) false fuel t cs.toList = some (.iface name (.ptr d), p)) (hk : P.underlying k = some (.pointer e)) (hone : ∀ u, P.typeName? 3 u = some name → u = k) (hok : ∀ u v, w.cell? ⟨g, 0, none⟩ = some (.iface u v) → Value.okWide P w .any 0 u v) :
    ∃ a t' f, w.heap[g]? = some (.cells #[.iface k (.pointer (some a))] t' f) := by
  obtain ⟨u, v, t', f, fuel', hh, hn, htr⟩ := sentinel_open hg hv ht hd
  obtain rfl := hone u hn
  have hc : w.cell? ⟨g, 0, none⟩ = some (.iface u v) := by rw [cell_at hh]; rfl
  obtain ⟨q, rfl⟩ := okWide_pointer hk (hok u v hc)
  cases q with
  | some a => exact ⟨a, t', f, hh⟩
  | none =>
    exfalso
    cases fuel' with
    | zero => simp [DataW.trod] at htr
    | succ m => unfold DataW.trod at htr; rw [hk] at htr; simp [Value.cells] at htr
/-- the first listed variable is a sentinel -/
theorem laid_sent {P : Program} {w : World} {n name : String} {g : Nat} {t k e : TypeId} {d : DataW Unit} {r : List (String × DataW Unit)} {ps : List MemPlace} {ms : Array (String × TypeId)} (h : DataW.LaidVars P w ((n, .iface name (.ptr d)) :: r) ps)
    (hall : ∀ b off, MemPlace.cell b off ∈ ps → ∀ u v, w.cell? ⟨b, off, none⟩ = some (.iface u v) → Value.okWide P w .any 0 u v) (hg : P.globalNamed n = some g) (ht : (P.globals[g]?).map (·.type) = some t) (hu : P.underlying t = some (.interface ms)) (hk : P.underlying k = some (.pointer e)) (hone : ∀ u, P.typeName? 3 u = some name → u = k) :
    (∃ a t' f, w.heap[g]? = some (.cells #[.iface k (.pointer (some a))] t' f)) ∧ ∃ q, DataW.LaidVars P w r q ∧ ∀ b off, MemPlace.cell b off ∈ q → ∀ u v, w.cell? ⟨b, off, none⟩ = some (.iface u v) → Value.okWide P w .any 0 u v := by
  obtain ⟨g', t', cs, fuel, p, q, hg', ht', hv, hd, hr, rfl⟩ := h
  obtain rfl := Option.some.inj (hg.symm.trans hg')
  obtain rfl := Option.some.inj (ht.symm.trans ht')
  refine ⟨sentinel_is hg hv hu hd hk hone fun u v hc => hall g 0 ?_ u v hc, q, hr, fun b off hm => hall b off (List.mem_append_right _ hm)⟩
  refine List.mem_append_left _ (List.mem_append_left _ ?_)
  have hc2 := World.var?_cell hg hv 0
  rw [hc] at hc2
  have hpos : 0 < cs.size := (Array.getElem?_eq_some_iff.1 hc2.symm).1
  simp [MemPlace.row]
  first | exact ⟨0, hpos, rfl⟩ | exact hpos | omega
theorem has_blocks {w : World} {l : Hp} (h : ∀ b o, (b, o) ∈ l → w.heap[b]? = some o) (hn : (l.map Prod.fst).Nodup) : Has l w := ⟨h, hn⟩
section
variable {H : Type} {enc : TypeId × Value → H} {P : Program} {w : World} {base : Nat}
theorem arg_bytes {t e : TypeId} {r : Reach} {v : Value} {d : DataW H} {ps : List MemPlace} (ht : P.underlying t = some (.slice e)) (he : P.underlying e = some (.int .u8)) (hc : P.cellsOf e = 1) (hval : Value.okWide P w r base t v) (h : DataW.Trod enc P w 0 (fun _ => true) true t v d ps) :
    ∃ l A, Has A w ∧ RdS 1 v A l.length (bytesV l) ∧ l.length ≤ maxLen := by
  obtain ⟨zs, A, hA, hr, hl, hb⟩ := arg_ints ht he hc hval h
  have e1 : intsV .u8 zs = bytesV (zs.map fun z => UInt8.ofNat z.toNat) := by
    unfold intsV bytesV
    rw [List.map_map]
    refine List.map_congr_left fun z hz => ?_
    have hz2 := hb z hz
    rw [u8_lo, u8_hi] at hz2
    show Value.int .u8 z = Value.int .u8 (((UInt8.ofNat z.toNat).toNat : Nat) : Int)
    rw [byte_back z (by omega) (by omega)]
  refine ⟨zs.map fun z => UInt8.ofNat z.toNat, A, hA, ?_, by rw [List.length_map]; exact hl⟩
  rw [List.length_map, ← e1]; exact hr
end
end Go.Proofs.YtodlhaghdplclaaDoor.V
