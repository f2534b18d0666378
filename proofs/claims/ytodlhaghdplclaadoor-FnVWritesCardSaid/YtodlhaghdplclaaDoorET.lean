/- Headers and messages that come in. -/
import Derived.Test.YtodlhaghdplclaaDoorVW
import Derived.Test.YtodlhaghdplclaaDoorES
namespace Go.Proofs.YtodlhaghdplclaaDoor
open Go Go.RowKit Go.ChangeShapes Go.WideShapes V EI EJ ER
set_option linter.unusedVariables false
set_option linter.unusedSimpArgs false
namespace ET
theorem cS : Tryd.prog.cellsOf 9 = 1 := by kernel_rfl
theorem cI : Tryd.prog.cellsOf 3 = 1 := by kernel_rfl
theorem cJ : Tryd.prog.cellsOf 2 = 1 := by kernel_rfl
theorem cU : Tryd.prog.cellsOf 5 = 1 := by kernel_rfl
theorem cV : Tryd.prog.cellsOf 33 = 4 := by kernel_rfl
theorem cH : Tryd.prog.cellsOf 35 = 5 := by kernel_rfl
theorem cM : Tryd.prog.cellsOf 25 = 2 := by kernel_rfl
theorem cL : Tryd.prog.cellsOf 22 = 1 := by kernel_rfl
theorem cB : Tryd.prog.cellsOf 23 = 1 := by kernel_rfl
def okI (x : Int) : Prop := -9223372036854775808 ≤ x ∧ x ≤ 9223372036854775807
def okV (h : HV) : Prop := okI h.int ∧ okI h.width ∧ okI h.kind
theorem wfI {n : Int} (h : (Lit.int .i64 n).wf = true) : okI n := by
  have := wf_bounds h
  rw [i64_lo, i64_hi] at this; exact this
section
variable {H : Type} {enc : TypeId × Value → H} {W : World}
set_option maxRecDepth 100000 in
theorem val_cells {n : Nat} {cs : List Value} {y : DataW H × List MemPlace} (h : DataW.trod enc Tryd.prog W 0 (fun _ => true) true n 33 cs = some y) (hl : cs.length = 4) : ∃ x : HV, cs = [I x.kind, I x.width, I x.int, S x.text] ∧ okV x := by
  obtain ⟨xs, m, _, rfl, _, hlen, hf⟩ := DataW.trod_struct Tryd.underlying33 h
  match xs, hlen with
  | [y0, y1, y2, y3], _ =>
    match cs, hl with
    | [a, b, c, d], _ =>
      have k0 : DataW.trod enc Tryd.prog W 0 (fun _ => true) true m 3 (([a, b, c, d].drop 0).take (Tryd.prog.cellsOf 3)) = some y0 := hf 0 _ rfl
      have k1 : DataW.trod enc Tryd.prog W 0 (fun _ => true) true m 3 (([a, b, c, d].drop 1).take (Tryd.prog.cellsOf 3)) = some y1 := hf 1 _ rfl
      have k2 : DataW.trod enc Tryd.prog W 0 (fun _ => true) true m 2 (([a, b, c, d].drop 2).take (Tryd.prog.cellsOf 2)) = some y2 := hf 2 _ rfl
      have k3 : DataW.trod enc Tryd.prog W 0 (fun _ => true) true m 9 (([a, b, c, d].drop 3).take (Tryd.prog.cellsOf 9)) = some y3 := hf 3 _ rfl
      rw [cI] at k0 k1
      rw [cJ] at k2
      rw [cS] at k3
      obtain ⟨s0, e0, _, w0⟩ := DataW.trod_int Tryd.underlying3 k0
      obtain ⟨s1, e1, _, w1⟩ := DataW.trod_int Tryd.underlying3 k1
      obtain ⟨s2, e2, _, w2⟩ := DataW.trod_int Tryd.underlying2 k2
      obtain ⟨s3, e3, _⟩ := DataW.trod_string Tryd.underlying9 k3
      simp at e0 e1 e2 e3
      subst e0; subst e1; subst e2; subst e3
      obtain ⟨⟨s3⟩⟩ := s3
      exact ⟨⟨[], s0, s1, s2, s3⟩, rfl, wfI w2, wfI w1, wfI w0⟩
set_option maxRecDepth 100000 in
theorem hv_cells (n : Nat) (cs : List Value) (y : DataW H × List MemPlace) (h : DataW.trod enc Tryd.prog W 0 (fun _ => true) true n 35 cs = some y) (hl : cs.length = 5) : ∃ (x : HV) (A : Hp), cs = HV.row x ∧ Has A W ∧ okV x := by
  obtain ⟨xs, m, _, rfl, _, hlen, hf⟩ := DataW.trod_struct Tryd.underlying35 h
  match xs, hlen with
  | [y0, y1], _ =>
    match cs, hl with
    | [a, b, c, d, e], _ =>
      have k0 : DataW.trod enc Tryd.prog W 0 (fun _ => true) true m 9 (([a, b, c, d, e].drop 0).take (Tryd.prog.cellsOf 9)) = some y0 := hf 0 _ rfl
      have k1 : DataW.trod enc Tryd.prog W 0 (fun _ => true) true m 33 (([a, b, c, d, e].drop 1).take (Tryd.prog.cellsOf 33)) = some y1 := hf 1 _ rfl
      rw [cS] at k0
      rw [cV] at k1
      obtain ⟨s0, e0, _⟩ := DataW.trod_string Tryd.underlying9 k0
      obtain ⟨x, e1, hx⟩ := val_cells k1 rfl
      simp at e0 e1
      obtain ⟨rfl, rfl, rfl, rfl⟩ := e1
      subst e0
      obtain ⟨⟨s0⟩⟩ := s0
      exact ⟨⟨s0, x.kind, x.width, x.int, x.text⟩, [], rfl, Has.nil W, hx⟩
theorem int_of {l : List HV} (h : ∀ x ∈ l, okV x) : intOk l := fun i hi => by
  have := h (l.getD i HV0) (by rw [List.getD_eq_getElem?_getD, List.getElem?_eq_getElem hi]; exact List.getElem_mem hi)
  exact ⟨this.1.1, this.1.2, this.2.1.1, this.2.1.2⟩
theorem hs_cells {n : Nat} {cs : List Value} {y : DataW H × List MemPlace} (h : DataW.trod enc Tryd.prog W 0 (fun _ => true) true n 22 cs = some y) :
    ∃ (v : Value) (l : List HV) (A : Hp), cs = [v] ∧ Has A W ∧ RdS 5 v A l.length (recsV HV.row l) ∧ l.length ≤ maxLen ∧ ∀ x ∈ l, okV x :=
  trod_sl HV.row (fun x _ => okV x) (fun _ _ _ h _ => h) (fun _ => rfl) (by decide) Tryd.underlying22 cH hv_cells h
/-- a message -/
structure MV where
  vh : Value
  l : List HV
  pp : Option Addr
  pc : Nat
  data : List UInt8
def MV.row (m : MV) : List Value := [m.vh, .slice m.pp m.data.length m.pc]
structure MvIn (m : MV) (A : Hp) : Prop where
  rd : RdS 5 m.vh A m.l.length (recsV HV.row m.l)
  rdp : RdS 1 (.slice m.pp m.data.length m.pc) A m.data.length (bytesV m.data)
  int : intOk m.l
  len : m.l.length ≤ maxLen
  plen : m.data.length ≤ maxLen
theorem MvIn.weaken {m : MV} {A C : Hp} (h : MvIn m A) (hs : ∀ x ∈ A, x ∈ C) : MvIn m C := ⟨h.rd.weaken hs, h.rdp.weaken hs, h.int, h.len, h.plen⟩
set_option maxRecDepth 100000 in
theorem mv_cells (n : Nat) (cs : List Value) (y : DataW H × List MemPlace) (h : DataW.trod enc Tryd.prog W 0 (fun _ => true) true n 25 cs = some y) (hl : cs.length = 2) : ∃ (x : MV) (A : Hp), cs = MV.row x ∧ Has A W ∧ MvIn x A := by
  obtain ⟨xs, m, _, rfl, _, hlen, hf⟩ := DataW.trod_struct Tryd.underlying25 h
  match xs, hlen with
  | [y0, y1], _ =>
    match cs, hl with
    | [a, b], _ =>
      have k0 : DataW.trod enc Tryd.prog W 0 (fun _ => true) true m 22 (([a, b].drop 0).take (Tryd.prog.cellsOf 22)) = some y0 := hf 0 _ rfl
      have k1 : DataW.trod enc Tryd.prog W 0 (fun _ => true) true m 23 (([a, b].drop 1).take (Tryd.prog.cellsOf 23)) = some y1 := hf 1 _ rfl
      rw [cL] at k0
      rw [cB] at k1
      obtain ⟨v, l, A, e0, hA, hr, hln, hok⟩ := hs_cells k0
      obtain ⟨p, c, d, B, e1, hB, hrp, hlp⟩ := trod_by Tryd.underlying23 Tryd.underlying5 cU k1
      simp at e0 e1
      subst e0; subst e1
      obtain ⟨C, hC, h1, h2⟩ := has_two hA hB
      exact ⟨⟨a, l, p, c, d⟩, C, rfl, hC, ⟨hr.weaken h1, hrp.weaken h2, int_of hok, hln, hlp⟩⟩
set_option maxRecDepth 100000 in
theorem arg_msg {base : Nat} {r : Reach} {v : Value} {d : DataW H} {ps : List MemPlace} (hval : Value.okWide Tryd.prog W r base 25 v) (h : DataW.Trod enc Tryd.prog W 0 (fun _ => true) true 25 v d ps) :
    ∃ (m : MV) (A : Hp), v = .agg #[m.vh, .slice m.pp m.data.length m.pc] ∧ Has A W ∧ MvIn m A := by
  obtain ⟨cs, rfl, hsz⟩ := okWide_struct Tryd.underlying25 hval
  obtain ⟨fuel, hfu⟩ := h
  obtain ⟨m, A, e, hA, hm⟩ := mv_cells _ _ _ hfu (by show cs.toList.length = 2; rw [Array.length_toList, hsz, cM])
  refine ⟨m, A, ?_, hA, hm⟩
  obtain ⟨cs⟩ := cs
  simp [Value.cells] at e
  rw [e]; rfl
set_option maxRecDepth 100000 in
theorem arg_hs {base : Nat} {r : Reach} {v : Value} {d : DataW H} {ps : List MemPlace} (hval : Value.okWide Tryd.prog W r base 22 v) (h : DataW.Trod enc Tryd.prog W 0 (fun _ => true) true 22 v d ps) :
    ∃ (l : List HV) (A : Hp), Has A W ∧ RdS 5 v A l.length (recsV HV.row l) ∧ l.length ≤ maxLen ∧ ∀ x ∈ l, okV x := by
  obtain ⟨a, len, cap, rfl⟩ := okWide_slice Tryd.underlying22 hval
  obtain ⟨fuel, hfu⟩ := h
  obtain ⟨v, l, A, e, hA, hr, hl, hok⟩ := hs_cells hfu
  simp [Value.cells] at e
  subst e
  exact ⟨l, A, hA, hr, hl, hok⟩
set_option maxRecDepth 100000 in
theorem arg_val {base : Nat} {r : Reach} {v : Value} {d : DataW H} {ps : List MemPlace} (hval : Value.okWide Tryd.prog W r base 33 v) (h : DataW.Trod enc Tryd.prog W 0 (fun _ => true) true 33 v d ps) :
    ∃ x : HV, v = .agg #[I x.kind, I x.width, I x.int, S x.text] ∧ okV x := by
  obtain ⟨cs, rfl, hsz⟩ := okWide_struct Tryd.underlying33 hval
  obtain ⟨fuel, hfu⟩ := h
  obtain ⟨x, e, hx⟩ := val_cells hfu (by show cs.toList.length = 4; rw [Array.length_toList, hsz, cV])
  refine ⟨x, ?_, hx⟩
  obtain ⟨cs⟩ := cs
  simp [Value.cells] at e
  rw [e]
end
end ET
end Go.Proofs.YtodlhaghdplclaaDoor
