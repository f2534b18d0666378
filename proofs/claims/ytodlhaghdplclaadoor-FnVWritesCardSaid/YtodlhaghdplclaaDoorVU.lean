/- The engine, part 29: maps with numbers as keys, written out. Over any program. -/
import Derived.Test.YtodlhaghdplclaaDoorVT
namespace Go.Proofs.YtodlhaghdplclaaDoor.V
open Go Go.RowKit
set_option linter.unusedSimpArgs false
set_option linter.unusedVariables false
theorem find_i {ik : IntKind} {k : Int} : ∀ (ms : List (Int × Value × Nat)) (i : Nat), Instr.findNow (.int ik) (.int ik k) (Ment (fun x => .int ik x) ms) i = some (mfind k ms i)
  | [], _ => rfl
  | e :: r, i => by
    unfold mfind
    have : Instr.sameNow (.int ik) (.int ik k) (.int ik e.1) = some (decide (k = e.1)) := by
      unfold Instr.sameNow
      by_cases h : k = e.1 <;> simp [h]
    show Instr.findNow (.int ik) (.int ik k) ({ key := .int ik e.1, val := e.2.1, born := e.2.2 } :: Ment (fun x => .int ik x) r) i = _
    unfold Instr.findNow
    rw [this]
    by_cases hk : k = e.1
    · rw [decide_eq_true hk, if_pos hk]
    · rw [decide_eq_false hk, if_neg hk]; exact find_i r (i + 1)
/-- numbers as keys -/
theorem KeyOk.int {P : Program} {kt : TypeId} {ik : IntKind} (hd : P.underlying kt = some (.int ik)) : KeyOk P kt (fun x : Int => .int ik x) where
  chk := fun b x w => MapKept.run_checkKey hd (by trivial) b 9999
  find := fun x ms w => MapKept.run_findKey hd (find_i ms 0)
  bits := fun x => MapKept.sameBits_self (d := .int ik) (by trivial) 10000
section
variable {P : Program} {n : Nat} {w0 : World} {ds : List Deferred} {fr : Fr} {H H' : List Hp} {dst : Option Tmp} {ty : TypeId} {pos : String} {aft : Array Edge} {g : Option (Nat × Bool)}
variable {ops : Array Oper} {Q : Post} {rest : List Oper} {d : Nat}
variable {α : Type} [DecidableEq α] {K : α → Value} {m : Nat} {ms : List (α × Value × Nat)} {clk : Nat}
theorem WL.insert {t kt et : TypeId} {x y u : Operand} {k : α} {v : Value} (ht : P.underlying t = some (.map kt et)) (hK : KeyOk P kt K) (hx : ev fr x = some (Mp m)) (hy : ev fr y = some (K k)) (hu : ev fr u = some v)
    (hg : gd ops fr ⟨none, .insert t x y u, ty, pos, aft, g⟩ = some true)
    (hk : WL P n w0 ops Q rest ds fr (MG K m (mput k v clk ms) (mclk k clk ms) :: H)) : WL P n w0 ops Q (⟨none, .insert t x y u, ty, pos, aft, g⟩ :: rest) ds fr (MG K m ms clk :: H) := by
  intro a w hfit hw
  have hw' : St w0 ((m, .map (Ment K ms).toArray clk) :: H.flatten) w := by simpa [MG] using hw
  unfold wpList
  rw [gd_wanted hfit hg, if_pos rfl]
  left
  unfold Oper.wp
  have hnow := hw'.now m _ List.mem_cons_self
  have hrun : (execOp a.eval ⟨none, .insert t x y u, ty, pos, aft, g⟩).run P w = .ok .skip { w with heap := w.heap.setIfInBounds m (.map (Ment K (mput k v clk ms)).toArray (mclk k clk ms)) } := by
    have hfnd := hK.find k ms w
    simp only [execOp, Instr.mapUpdate, hfit.eval hx, hfit.eval hy, hfit.eval hu, Sem.run_bind, run_underlying ht, Result.andThen_ok, MapKept.run_getObj_map hnow, hK.chk, hfnd]
    cases h1 : mget k ms with
    | none =>
      have h2 := (mfind_none ms 0).2 h1
      simp only [h2, MapKept.run_setObj_map _ hnow, Result.andThen_ok, Sem.run_pure]
      simp [mput, mclk, h1, Ment]
    | some u' =>
      obtain ⟨i, h2, h3, h4⟩ := mfind_some (K := K) ms 0 h1
      simp only [h2]
      have h5 : ((Ment K ms).toArray[0 + i]?.map (fun x => x.key)).getD (K k) = K k := by
        rw [Nat.zero_add, List.getElem?_toArray, h3]; rfl
      have h6 : (Instr.keyThatStays (K k) (K k)).run P w = .ok (K k) w := by unfold Instr.keyThatStays; rw [hK.bits k]; rfl
      have h7 := ment_mset (K := K) (v := v) ms 0 i u' h2
      simp only [Sem.run_bind, h5, h6, Result.andThen_ok, MapKept.run_setObj_map _ hnow, Sem.run_pure]
      simp only [mput, mclk, h1, Nat.zero_add, List.modify_toArray, h7]
  rw [hrun, Oper.upon_skip]
  exact hk _ _ hfit (by simpa [MG] using St.setMap (o' := .map (Ment K (mput k v clk ms)).toArray (mclk k clk ms)) hw')
end
end Go.Proofs.YtodlhaghdplclaaDoor.V
