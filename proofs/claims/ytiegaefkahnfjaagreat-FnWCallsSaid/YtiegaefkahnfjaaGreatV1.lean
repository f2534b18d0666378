/- The engine, part 1: operations that only compute. Over any program. -/
import Derived.Test.YtiegaefkahnfjaaGreatV0
import Derived.Lib.Strings
namespace Go.Proofs.YtiegaefkahnfjaaGreat.V
open Go Go.RowKit
set_option linter.unusedSimpArgs false
abbrev S (l : List UInt8) : Value := .string ⟨⟨l⟩⟩
abbrev I (n : Int) : Value := .int .i64 n
def cut {α : Type} (l : List α) (lo hi : Int) : List α := (l.take hi.toNat).drop lo.toNat
section
variable {P : Program} {n : Nat} {w0 : World} {ds : List Deferred} {fr : Fr} {H : List Hp} {dst : Option Tmp} {ty : TypeId} {pos : String} {aft : Array Edge} {g : Option (Nat × Bool)}
theorem oq_of_run {o : Oper} {v : Value} (h : ∀ a w, Fits n ds fr a → St w0 H.flatten w → (execOp a.eval o).run P w = .ok (.value v) w) : OV P n w0 o v ds fr H := h
theorem oq_move {x : Operand} {v : Value} (hx : ev fr x = some v) : OV P n w0 ⟨dst, .move x, ty, pos, aft, g⟩ v ds fr H :=
 oq_of_run fun a w hf _ => by simp only [execOp, hf.eval hx]; rfl
theorem oq_assign {x : Operand} {v : Value} (hx : ev fr x = some v) : OV P n w0 ⟨dst, .assign x, ty, pos, aft, g⟩ v ds fr H :=
 oq_of_run fun a w hf _ => by simp only [execOp, hf.eval hx]; rfl
theorem oq_pick_t {c x y : Operand} {v : Value} (hc : ev fr c = some (.bool true)) (hx : ev fr x = some v) : OV P n w0 ⟨dst, .pick c x y, ty, pos, aft, g⟩ v ds fr H :=
 oq_of_run fun a w hf _ => by simp [execOp, hf.eval hc, hf.eval hx, asBool]
theorem oq_pick_f {c x y : Operand} {v : Value} (hc : ev fr c = some (.bool false)) (hx : ev fr y = some v) : OV P n w0 ⟨dst, .pick c x y, ty, pos, aft, g⟩ v ds fr H :=
 oq_of_run fun a w hf _ => by simp [execOp, hf.eval hc, hf.eval hx, asBool]
theorem oq_extract {x : Operand} {vs : List Value} {i : Nat} {v : Value} (hx : ev fr x = some (.tuple vs.toArray)) (hi : vs[i]? = some v) : OV P n w0 ⟨dst, .extract x i, ty, pos, aft, g⟩ v ds fr H :=
 oq_of_run fun a w hf _ => by simp [execOp, hf.eval hx, Instr.extract, hi]
/-! ### Integers -/
theorem eqGuard_int (op : BinOp) (t : TypeId) (x y : Operand) (k k' : IntKind) (i j : Int) (w : World) : (eqGuard op t x y (.int k i) (.int k' j)).run P w = .ok () w := by
 unfold eqGuard
 cases op <;> simp
theorem oq_int {op : BinOp} {t t' : TypeId} {x y : Operand} {k k' : IntKind} {i j : Int} {v : Value} (hx : ev fr x = some (.int k i)) (hy : ev fr y = some (.int k' j)) (hr : ∀ w, (binOp op t (.int k i) (.int k' j)).run P w = .ok v w) :
  OV P n w0 ⟨dst, .binOp op t x y t', ty, pos, aft, g⟩ v ds fr H :=
 oq_of_run fun a w hf _ => by simp [execOp, hf.eval hx, hf.eval hy, eqGuard_int, hr]
theorem wrap_in {k : IntKind} {i : Int} (h : k.min ≤ i ∧ i ≤ k.max) : k.wrap i = i := by
 have h' : (Lit.int k i).wf = true := by simp [Lit.wf, h]
 cases k <;> simp [IntKind.wrap, IntKind.min, IntKind.max, IntKind.signed, IntKind.bits] at * <;> omega
theorem i64_lo : IntKind.i64.min = -9223372036854775808 := by decide
theorem i64_hi : IntKind.i64.max = 9223372036854775807 := by decide
theorem oq_addw {t t' : TypeId} {x y : Operand} {k : IntKind} {i j : Int} (hx : ev fr x = some (.int k i)) (hy : ev fr y = some (.int k j)) : OV P n w0 ⟨dst, .binOp .add t x y t', ty, pos, aft, g⟩ (.int k (k.wrap (i + j))) ds fr H :=
 oq_int hx hy fun w => by simp [binOp, Op.intArith]
theorem oq_subw {t t' : TypeId} {x y : Operand} {k : IntKind} {i j : Int} (hx : ev fr x = some (.int k i)) (hy : ev fr y = some (.int k j)) : OV P n w0 ⟨dst, .binOp .sub t x y t', ty, pos, aft, g⟩ (.int k (k.wrap (i - j))) ds fr H :=
 oq_int hx hy fun w => by simp [binOp, Op.intArith]
theorem oq_add {t t' : TypeId} {x y : Operand} {k : IntKind} {i j : Int} (hx : ev fr x = some (.int k i)) (hy : ev fr y = some (.int k j)) (h : k.min ≤ i + j ∧ i + j ≤ k.max) : OV P n w0 ⟨dst, .binOp .add t x y t', ty, pos, aft, g⟩ (.int k (i + j)) ds fr H := by
 have := oq_addw (P := P) (n := n) (w0 := w0) (ds := ds) (H := H) (dst := dst) (ty := ty) (pos := pos) (aft := aft) (g := g) (t := t) (t' := t') hx hy
 rwa [wrap_in h] at this
theorem oq_sub {t t' : TypeId} {x y : Operand} {k : IntKind} {i j : Int} (hx : ev fr x = some (.int k i)) (hy : ev fr y = some (.int k j)) (h : k.min ≤ i - j ∧ i - j ≤ k.max) : OV P n w0 ⟨dst, .binOp .sub t x y t', ty, pos, aft, g⟩ (.int k (i - j)) ds fr H := by
 have := oq_subw (P := P) (n := n) (w0 := w0) (ds := ds) (H := H) (dst := dst) (ty := ty) (pos := pos) (aft := aft) (g := g) (t := t) (t' := t') hx hy
 rwa [wrap_in h] at this
theorem oq_eql {t t' : TypeId} {x y : Operand} {k : IntKind} {i j : Int} (hx : ev fr x = some (.int k i)) (hy : ev fr y = some (.int k j)) : OV P n w0 ⟨dst, .binOp .eql t x y t', ty, pos, aft, g⟩ (.bool (decide (i = j))) ds fr H :=
 oq_int hx hy fun w => by simp [binOp, Op.intCmp]; rw [Bool.eq_iff_iff]; simp
theorem oq_neq {t t' : TypeId} {x y : Operand} {k : IntKind} {i j : Int} (hx : ev fr x = some (.int k i)) (hy : ev fr y = some (.int k j)) : OV P n w0 ⟨dst, .binOp .neq t x y t', ty, pos, aft, g⟩ (.bool (decide (i ≠ j))) ds fr H :=
 oq_int hx hy fun w => by simp [binOp, Op.intCmp]; rw [Bool.eq_iff_iff]; simp
theorem oq_lss {t t' : TypeId} {x y : Operand} {k : IntKind} {i j : Int} (hx : ev fr x = some (.int k i)) (hy : ev fr y = some (.int k j)) : OV P n w0 ⟨dst, .binOp .lss t x y t', ty, pos, aft, g⟩ (.bool (decide (i < j))) ds fr H :=
 oq_int hx hy fun w => by simp [binOp, Op.intCmp]
theorem oq_leq {t t' : TypeId} {x y : Operand} {k : IntKind} {i j : Int} (hx : ev fr x = some (.int k i)) (hy : ev fr y = some (.int k j)) : OV P n w0 ⟨dst, .binOp .leq t x y t', ty, pos, aft, g⟩ (.bool (decide (i ≤ j))) ds fr H :=
 oq_int hx hy fun w => by simp [binOp, Op.intCmp]
theorem oq_gtr {t t' : TypeId} {x y : Operand} {k : IntKind} {i j : Int} (hx : ev fr x = some (.int k i)) (hy : ev fr y = some (.int k j)) : OV P n w0 ⟨dst, .binOp .gtr t x y t', ty, pos, aft, g⟩ (.bool (decide (j < i))) ds fr H :=
 oq_int hx hy fun w => by simp [binOp, Op.intCmp]
theorem oq_geq {t t' : TypeId} {x y : Operand} {k : IntKind} {i j : Int} (hx : ev fr x = some (.int k i)) (hy : ev fr y = some (.int k j)) : OV P n w0 ⟨dst, .binOp .geq t x y t', ty, pos, aft, g⟩ (.bool (decide (j ≤ i))) ds fr H :=
 oq_int hx hy fun w => by simp [binOp, Op.intCmp]
theorem oq_not {t : TypeId} {x : Operand} {b : Bool} (hx : ev fr x = some (.bool b)) : OV P n w0 ⟨dst, .unOp .not t x, ty, pos, aft, g⟩ (.bool (!b)) ds fr H :=
 oq_of_run fun a w hf _ => by simp [execOp, hf.eval hx, Op.unary]
/-! ### Bools -/
theorem oq_beql {t t' : TypeId} {x y : Operand} {b c : Bool} (ht : P.underlying t = some .bool) (hx : ev fr x = some (.bool b)) (hy : ev fr y = some (.bool c)) : OV P n w0 ⟨dst, .binOp .eql t x y t', ty, pos, aft, g⟩ (.bool (b == c)) ds fr H :=
 oq_of_run fun a w hf _ => by simp [execOp, hf.eval hx, hf.eval hy, eqGuard, binOp, run_equal_bool w t b c ht]
/-! ### Strings -/
theorem S_size (l : List UInt8) : (⟨⟨l⟩⟩ : ByteArray).size = l.length := rfl
theorem S_toList (l : List UInt8) : (⟨⟨l⟩⟩ : ByteArray).toList = l := ByteArray.toList_mk l
theorem eqGuard_str (op : BinOp) (t : TypeId) (x y : Operand) (s s' : ByteArray) (w : World) : (eqGuard op t x y (.string s) (.string s')).run P w = .ok () w := by
 unfold eqGuard
 cases op <;> simp
theorem oq_len_s {t : TypeId} {x : Operand} {l : List UInt8} (ht : P.underlying t = some .string) (hx : ev fr x = some (S l)) : OV P n w0 ⟨dst, .call ⟨.builtin .len, #[x], #[t]⟩, ty, pos, aft, g⟩ (I (l.length : Int)) ds fr H :=
 oq_of_run fun a w hf _ => by simp [execOp, resolve, invoke, builtin, Builtin.len_, hf.eval hx, run_underlying ht, goInt]; rfl
theorem oq_len_sl {t e : TypeId} {x : Operand} {p : Option Addr} {m c : Nat} (ht : P.underlying t = some (.slice e)) (hx : ev fr x = some (.slice p m c)) : OV P n w0 ⟨dst, .call ⟨.builtin .len, #[x], #[t]⟩, ty, pos, aft, g⟩ (I (m : Int)) ds fr H :=
 oq_of_run fun a w hf _ => by simp [execOp, resolve, invoke, builtin, Builtin.len_, hf.eval hx, run_underlying ht, goInt]
theorem run_sliceBound {k : IntKind} {i : Int} {y : Nat} {code : BoundsCode} {w : World} (h : 0 ≤ i ∧ i ≤ y) : (Instr.sliceBound (.int k i) y code).run P w = .ok i.toNat w := by
 simp [Instr.sliceBound, asIntOf, h]
theorem oq_str {op : BinOp} {t t' : TypeId} {x y : Operand} {l l' : List UInt8} {v : Value} (hx : ev fr x = some (S l)) (hy : ev fr y = some (S l')) (hr : ∀ w, (binOp op t (S l) (S l')).run P w = .ok v w) :
  OV P n w0 ⟨dst, .binOp op t x y t', ty, pos, aft, g⟩ v ds fr H :=
 oq_of_run fun a w hf _ => by simp [execOp, hf.eval hx, hf.eval hy, eqGuard_str, hr]
theorem S_append (l l' : List UInt8) : (⟨⟨l⟩⟩ : ByteArray) ++ (⟨⟨l'⟩⟩ : ByteArray) = ⟨⟨l ++ l'⟩⟩ := by
 apply ByteArray.ext
 rw [ByteArray.data_append]
 simp
theorem oq_concat {t t' : TypeId} {x y : Operand} {l l' : List UInt8} (hx : ev fr x = some (S l)) (hy : ev fr y = some (S l')) (h : l.length + l'.length ≤ 9223372036854775807) : OV P n w0 ⟨dst, .binOp .add t x y t', ty, pos, aft, g⟩ (S (l ++ l')) ds fr H :=
 oq_str hx hy fun w => by
  have h1 : ¬ (((⟨⟨l⟩⟩ : ByteArray).size + (⟨⟨l'⟩⟩ : ByteArray).size : Nat) : Int) > IntKind.i64.max := by rw [S_size, S_size, i64_hi]; omega
  simp only [binOp, Op.stringOp, h1, if_false, S_append]
  rfl
theorem oq_seql {t t' : TypeId} {x y : Operand} {l l' : List UInt8} (hx : ev fr x = some (S l)) (hy : ev fr y = some (S l')) : OV P n w0 ⟨dst, .binOp .eql t x y t', ty, pos, aft, g⟩ (.bool (decide (l = l'))) ds fr H :=
 oq_str hx hy fun w => by simp only [binOp, Op.stringOp, S_toList]; show Result.ok _ _ = _; congr 2; rw [Bool.eq_iff_iff]; simp
theorem oq_sneq {t t' : TypeId} {x y : Operand} {l l' : List UInt8} (hx : ev fr x = some (S l)) (hy : ev fr y = some (S l')) : OV P n w0 ⟨dst, .binOp .neq t x y t', ty, pos, aft, g⟩ (.bool (decide (l ≠ l'))) ds fr H :=
 oq_str hx hy fun w => by simp only [binOp, Op.stringOp, S_toList]; show Result.ok _ _ = _; congr 2; rw [Bool.eq_iff_iff]; simp
/-! ### Calls that only compute -/
def evs (fr : Fr) : List Operand → Option (List Value)
 | [] => some []
 | x :: xs => match ev fr x, evs fr xs with
  | some v, some vs => some (v :: vs)
  | _, _ => none
theorem Fits.evals {a : Act} (h : Fits n ds fr a) : ∀ {xs : List Operand} {vs : List Value}, evs fr xs = some vs → xs.map a.eval = vs := by
 intro xs
 induction xs with
 | nil => intro vs hv; exact (Option.some.inj hv)
 | cons x xs ih =>
  intro vs hv
  unfold evs at hv
  cases h1 : ev fr x with
  | none => simp [h1] at hv
  | some v =>
   cases h2 : evs fr xs with
   | none => simp [h1, h2] at hv
   | some vs' =>
    simp only [h1, h2] at hv
    rw [List.map_cons, h.eval h1, ih h2]
    exact Option.some.inj hv
theorem Fits.evalsA {a : Act} (h : Fits n ds fr a) {xs : Array Operand} {vs : List Value} (hv : evs fr xs.toList = some vs) : xs.map a.eval = vs.toArray := by
 apply Array.ext'
 simpa using h.evals hv
def Callable (P : Program) (f : FuncId) : Prop := ∃ fn, P.funcs[f]? = some fn ∧ fn.body.isNone = false ∧ (fn.name == "runtime.NumGoroutine") = false
theorem run_enter {f : FuncId} {xs : Array Operand} {ts : Array TypeId} {args : List Value} (hf : Callable P f) (ha : evs fr xs.toList = some args) {a : Act} (hfit : Fits n ds fr a) (w : World) :
  (execOp a.eval ⟨dst, .call ⟨.value (.func f), xs, ts⟩, ty, pos, aft, g⟩).run P w = .ok (.enter f args.toArray) w := by
 obtain ⟨fn, hf, hb, hnm⟩ := hf
 have e := hfit.evalsA ha
 simp only [execOp, resolve, Act.eval, Deferred.ofValue, Sem.run_bind, e]
 simp only [invoke, callFunc, Sem.run_bind, run_program, Result.andThen_ok, Sem.run_pure, hf, hnm, hb, Bool.false_eq_true, ↓reduceIte, Array.append_empty, Array.empty_append]
theorem oq_call {f : FuncId} {xs : Array Operand} {ts : Array TypeId} {args : List Value} {v : Value} (hc : Fn0 P f args v) (hf : Callable P f) (ha : evs fr xs.toList = some args) : OQ P n w0 ⟨dst, .call ⟨.value (.func f), xs, ts⟩, ty, pos, aft, g⟩ v ds fr H := by
 intro a hfit w hw
 unfold Oper.quietAt
 rw [run_enter hf ha hfit w]
 exact ⟨rfl, (hc w).mono fun e w' h => ⟨h.1, hw.pure h.2⟩⟩
end
end Go.Proofs.YtiegaefkahnfjaaGreat.V
