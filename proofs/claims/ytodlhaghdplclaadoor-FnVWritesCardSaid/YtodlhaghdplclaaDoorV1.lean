/- The engine, part 1: operations that only compute. Over any program. -/
import Derived.Test.YtodlhaghdplclaaDoorV0
import Derived.Lib.Strings
namespace Go.Proofs.YtodlhaghdplclaaDoor.V
open Go Go.RowKit
set_option linter.unusedSimpArgs false

abbrev S (l : List UInt8) : Value := .string ⟨⟨l⟩⟩
abbrev I (n : Int) : Value := .int .i64 n
/-- The byte at a place. -/
def byteAt (l : List UInt8) (i : Int) : Int := ((l.getD i.toNat 0).toNat : Int)
theorem byteAt_lo (l : List UInt8) (i : Int) : 0 ≤ byteAt l i := by unfold byteAt; omega
theorem byteAt_hi (l : List UInt8) (i : Int) : byteAt l i < 256 := by unfold byteAt; have := (l.getD i.toNat 0).toNat_lt; omega
/-- What stands from lo to hi. -/
def cut {α : Type} (l : List α) (lo hi : Int) : List α := (l.take hi.toNat).drop lo.toNat

section
variable {P : Program} {n : Nat} {w0 : World} {ds : List Deferred} {fr : Fr} {H : List Hp} {dst : Option Tmp} {ty : TypeId} {pos : String} {aft : Array Edge} {g : Option (Nat × Bool)}

theorem oq_of_run {o : Oper} {v : Value} (h : ∀ a w, Fits n ds fr a → St w0 H.flatten w → (execOp a.eval o).run P w = .ok (.value v) w) : OV P n w0 o v ds fr H := h

theorem oq_move {x : Operand} {v : Value} (hx : ev fr x = some v) : OV P n w0 ⟨dst, .move x, ty, pos, aft, g⟩ v ds fr H :=
  oq_of_run fun a w hf _ => by simp only [execOp, hf.eval hx]; rfl
theorem oq_assign {x : Operand} {v : Value} (hx : ev fr x = some v) : OV P n w0 ⟨dst, .assign x, ty, pos, aft, g⟩ v ds fr H :=
  oq_of_run fun a w hf _ => by simp only [execOp, hf.eval hx]; rfl
theorem oq_pick_t {c x y : Operand} {v : Value} (hc : ev fr c = some (.bool true)) (hx : ev fr x = some v) : OV P n w0 ⟨dst, .pick c x y, ty, pos, aft, g⟩ v ds fr H :=
  oq_of_run fun a w hf _ => by simp [execOp, hf.eval hc, hf.eval hx, asBool]
theorem oq_pick_f {c x y : Operand} {v : Value} (hc : ev fr c = some (.bool false)) (hx : ev fr y = some v) : OV P n w0 ⟨dst, .pick c x y, ty, pos, aft, g⟩ v ds fr H :=
  oq_of_run fun a w hf _ => by simp [execOp, hf.eval hc, hf.eval hx, asBool]
theorem oq_extract {x : Operand} {vs : List Value} {i : Nat} {v : Value} (hx : ev fr x = some (.tuple vs.toArray)) (hi : vs[i]? = some v) : OV P n w0 ⟨dst, .extract x i, ty, pos, aft, g⟩ v ds fr H :=
  oq_of_run fun a w hf _ => by simp [execOp, hf.eval hx, Instr.extract, hi]

/-! ### Integers -/
theorem eqGuard_int (op : BinOp) (t : TypeId) (x y : Operand) (k k' : IntKind) (i j : Int) (w : World) : (eqGuard op t x y (.int k i) (.int k' j)).run P w = .ok () w := by
  unfold eqGuard
  cases op <;> simp

theorem oq_int {op : BinOp} {t t' : TypeId} {x y : Operand} {k k' : IntKind} {i j : Int} {v : Value} (hx : ev fr x = some (.int k i)) (hy : ev fr y = some (.int k' j)) (hr : ∀ w, (binOp op t (.int k i) (.int k' j)).run P w = .ok v w) :
    OV P n w0 ⟨dst, .binOp op t x y t', ty, pos, aft, g⟩ v ds fr H :=
  oq_of_run fun a w hf _ => by simp [execOp, hf.eval hx, hf.eval hy, eqGuard_int, hr]

theorem wrap_in {k : IntKind} {i : Int} (h : k.min ≤ i ∧ i ≤ k.max) : k.wrap i = i := by
  have h' : (Lit.int k i).wf = true := by simp [Lit.wf, h]
  cases k <;> simp [IntKind.wrap, IntKind.min, IntKind.max, IntKind.signed, IntKind.bits] at * <;> omega

theorem i64_lo : IntKind.i64.min = -9223372036854775808 := by decide
theorem i64_hi : IntKind.i64.max = 9223372036854775807 := by decide

theorem oq_addw {t t' : TypeId} {x y : Operand} {k : IntKind} {i j : Int} (hx : ev fr x = some (.int k i)) (hy : ev fr y = some (.int k j)) : OV P n w0 ⟨dst, .binOp .add t x y t', ty, pos, aft, g⟩ (.int k (k.wrap (i + j))) ds fr H :=
  oq_int hx hy fun w => by simp [binOp, Op.intArith]
theorem oq_subw {t t' : TypeId} {x y : Operand} {k : IntKind} {i j : Int} (hx : ev fr x = some (.int k i)) (hy : ev fr y = some (.int k j)) : OV P n w0 ⟨dst, .binOp .sub t x y t', ty, pos, aft, g⟩ (.int k (k.wrap (i - j))) ds fr H :=
  oq_int hx hy fun w => by simp [binOp, Op.intArith]
theorem oq_mulw {t t' : TypeId} {x y : Operand} {k : IntKind} {i j : Int} (hx : ev fr x = some (.int k i)) (hy : ev fr y = some (.int k j)) : OV P n w0 ⟨dst, .binOp .mul t x y t', ty, pos, aft, g⟩ (.int k (k.wrap (i * j))) ds fr H :=
  oq_int hx hy fun w => by simp [binOp, Op.intArith]
theorem oq_add {t t' : TypeId} {x y : Operand} {k : IntKind} {i j : Int} (hx : ev fr x = some (.int k i)) (hy : ev fr y = some (.int k j)) (h : k.min ≤ i + j ∧ i + j ≤ k.max) : OV P n w0 ⟨dst, .binOp .add t x y t', ty, pos, aft, g⟩ (.int k (i + j)) ds fr H := by
  have := oq_addw (P := P) (n := n) (w0 := w0) (ds := ds) (H := H) (dst := dst) (ty := ty) (pos := pos) (aft := aft) (g := g) (t := t) (t' := t') hx hy
  rwa [wrap_in h] at this
theorem oq_sub {t t' : TypeId} {x y : Operand} {k : IntKind} {i j : Int} (hx : ev fr x = some (.int k i)) (hy : ev fr y = some (.int k j)) (h : k.min ≤ i - j ∧ i - j ≤ k.max) : OV P n w0 ⟨dst, .binOp .sub t x y t', ty, pos, aft, g⟩ (.int k (i - j)) ds fr H := by
  have := oq_subw (P := P) (n := n) (w0 := w0) (ds := ds) (H := H) (dst := dst) (ty := ty) (pos := pos) (aft := aft) (g := g) (t := t) (t' := t') hx hy
  rwa [wrap_in h] at this
theorem oq_mul {t t' : TypeId} {x y : Operand} {k : IntKind} {i j : Int} (hx : ev fr x = some (.int k i)) (hy : ev fr y = some (.int k j)) (h : k.min ≤ i * j ∧ i * j ≤ k.max) : OV P n w0 ⟨dst, .binOp .mul t x y t', ty, pos, aft, g⟩ (.int k (i * j)) ds fr H := by
  have := oq_mulw (P := P) (n := n) (w0 := w0) (ds := ds) (H := H) (dst := dst) (ty := ty) (pos := pos) (aft := aft) (g := g) (t := t) (t' := t') hx hy
  rwa [wrap_in h] at this
/-- Of numbers not below 0. -/
theorem oq_quo {t t' : TypeId} {x y : Operand} {k : IntKind} {i j : Int} (hx : ev fr x = some (.int k i)) (hy : ev fr y = some (.int k j)) (h : 0 ≤ i ∧ i ≤ k.max ∧ 0 < j) : OV P n w0 ⟨dst, .binOp .quo t x y t', ty, pos, aft, g⟩ (.int k (i / j)) ds fr H :=
  oq_int hx hy fun w => by
    have h1 : ¬ j = 0 := by omega
    have h2 : i.tdiv j = i / j := Int.tdiv_eq_ediv_of_nonneg h.1
    have h3 : 0 ≤ i / j := Int.ediv_nonneg h.1 (by omega)
    have h4 : i / j ≤ i := Int.ediv_le_self j h.1
    have h5 : k.min ≤ 0 := by cases k <;> decide
    have h6 : k.wrap (i / j) = i / j := wrap_in ⟨by omega, by omega⟩
    simp [binOp, Op.intDiv, h1, h2, h6]
theorem oq_rem {t t' : TypeId} {x y : Operand} {k : IntKind} {i j : Int} (hx : ev fr x = some (.int k i)) (hy : ev fr y = some (.int k j)) (h : 0 ≤ i ∧ 0 < j) : OV P n w0 ⟨dst, .binOp .rem t x y t', ty, pos, aft, g⟩ (.int k (i % j)) ds fr H :=
  oq_int hx hy fun w => by
    have h1 : ¬ j = 0 := by omega
    have h2 : i.tmod j = i % j := Int.tmod_eq_emod_of_nonneg h.1
    simp [binOp, Op.intDiv, h1, h2]
theorem oq_eql {t t' : TypeId} {x y : Operand} {k : IntKind} {i j : Int} (hx : ev fr x = some (.int k i)) (hy : ev fr y = some (.int k j)) : OV P n w0 ⟨dst, .binOp .eql t x y t', ty, pos, aft, g⟩ (.bool (decide (i = j))) ds fr H :=
  oq_int hx hy fun w => by simp [binOp, Op.intCmp]; rw [Bool.eq_iff_iff]; simp
theorem oq_neq {t t' : TypeId} {x y : Operand} {k : IntKind} {i j : Int} (hx : ev fr x = some (.int k i)) (hy : ev fr y = some (.int k j)) : OV P n w0 ⟨dst, .binOp .neq t x y t', ty, pos, aft, g⟩ (.bool (decide (i ≠ j))) ds fr H :=
  oq_int hx hy fun w => by simp [binOp, Op.intCmp]; rw [Bool.eq_iff_iff]; simp
theorem oq_lss {t t' : TypeId} {x y : Operand} {k : IntKind} {i j : Int} (hx : ev fr x = some (.int k i)) (hy : ev fr y = some (.int k j)) : OV P n w0 ⟨dst, .binOp .lss t x y t', ty, pos, aft, g⟩ (.bool (decide (i < j))) ds fr H :=
  oq_int hx hy fun w => by simp [binOp, Op.intCmp]
theorem oq_leq {t t' : TypeId} {x y : Operand} {k : IntKind} {i j : Int} (hx : ev fr x = some (.int k i)) (hy : ev fr y = some (.int k j)) : OV P n w0 ⟨dst, .binOp .leq t x y t', ty, pos, aft, g⟩ (.bool (decide (i ≤ j))) ds fr H :=
  oq_int hx hy fun w => by simp [binOp, Op.intCmp]
theorem oq_gtr {t t' : TypeId} {x y : Operand} {k : IntKind} {i j : Int} (hx : ev fr x = some (.int k i)) (hy : ev fr y = some (.int k j)) : OV P n w0 ⟨dst, .binOp .gtr t x y t', ty, pos, aft, g⟩ (.bool (decide (j < i))) ds fr H :=
  oq_int hx hy fun w => by simp [binOp, Op.intCmp]
theorem oq_geq {t t' : TypeId} {x y : Operand} {k : IntKind} {i j : Int} (hx : ev fr x = some (.int k i)) (hy : ev fr y = some (.int k j)) : OV P n w0 ⟨dst, .binOp .geq t x y t', ty, pos, aft, g⟩ (.bool (decide (j ≤ i))) ds fr H :=
  oq_int hx hy fun w => by simp [binOp, Op.intCmp]

/-- and, or, xor, and-not: the bits -/
def bitOp (op : BinOp) (k : IntKind) (i j : Int) : Int :=
  let a := BitVec.ofInt k.bits i
  let b := BitVec.ofInt k.bits j
  k.wrap (match op with | .and => (a &&& b).toNat | .or => (a ||| b).toNat | .xor => (a ^^^ b).toNat | _ => (a &&& ~~~b).toNat)
theorem oq_bits {op : BinOp} {t t' : TypeId} {x y : Operand} {k : IntKind} {i j : Int} (hx : ev fr x = some (.int k i)) (hy : ev fr y = some (.int k j)) (hop : op = .and ∨ op = .or ∨ op = .xor ∨ op = .andNot) : OV P n w0 ⟨dst, .binOp op t x y t', ty, pos, aft, g⟩ (.int k (bitOp op k i j)) ds fr H :=
  oq_int hx hy fun w => by rcases hop with rfl | rfl | rfl | rfl <;> simp [binOp, Op.intBits, bitOp]
theorem oq_shl {t t' : TypeId} {x y : Operand} {k k' : IntKind} {i j : Int} (hx : ev fr x = some (.int k i)) (hy : ev fr y = some (.int k' j)) (h : 0 ≤ j) : OV P n w0 ⟨dst, .binOp .shl t x y t', ty, pos, aft, g⟩ (.int k (k.wrap (i * 2 ^ (min j.toNat k.bits)))) ds fr H :=
  oq_int hx hy fun w => by simp [binOp, Op.shift, show ¬ j < 0 from by omega]
theorem oq_shr {t t' : TypeId} {x y : Operand} {k k' : IntKind} {i j : Int} (hx : ev fr x = some (.int k i)) (hy : ev fr y = some (.int k' j)) (h : 0 ≤ j) : OV P n w0 ⟨dst, .binOp .shr t x y t', ty, pos, aft, g⟩ (.int k (i.fdiv (2 ^ (min j.toNat k.bits)))) ds fr H :=
  oq_int hx hy fun w => by simp [binOp, Op.shift, show ¬ j < 0 from by omega]
theorem oq_neg {t : TypeId} {x : Operand} {k : IntKind} {i : Int} (hx : ev fr x = some (.int k i)) (h : k.min ≤ -i ∧ -i ≤ k.max) : OV P n w0 ⟨dst, .unOp .neg t x, ty, pos, aft, g⟩ (.int k (-i)) ds fr H :=
  oq_of_run fun a w hf _ => by
    have : k.wrap (-i) = -i := wrap_in h
    simp [execOp, hf.eval hx, Op.unary, Op.intArith, this]
theorem oq_not {t : TypeId} {x : Operand} {b : Bool} (hx : ev fr x = some (.bool b)) : OV P n w0 ⟨dst, .unOp .not t x, ty, pos, aft, g⟩ (.bool (!b)) ds fr H :=
  oq_of_run fun a w hf _ => by simp [execOp, hf.eval hx, Op.unary]
theorem oq_conv {s t : TypeId} {x : Operand} {k k' : IntKind} {i : Int} {d : TypeDesc} (hs : P.underlying s = some d) (ht : P.underlying t = some (.int k')) (hx : ev fr x = some (.int k i)) (h : k'.min ≤ i ∧ i ≤ k'.max) : OV P n w0 ⟨dst, .convert s t x, ty, pos, aft, g⟩ (.int k' i) ds fr H :=
  oq_of_run fun a w hf _ => by
    have : k'.wrap i = i := wrap_in h
    simp [execOp, hf.eval hx, convert, run_underlying hs, run_underlying ht, Conv.intToInt, this]
theorem oq_convw {s t : TypeId} {x : Operand} {k k' : IntKind} {i : Int} {d : TypeDesc} (hs : P.underlying s = some d) (ht : P.underlying t = some (.int k')) (hx : ev fr x = some (.int k i)) : OV P n w0 ⟨dst, .convert s t x, ty, pos, aft, g⟩ (.int k' (k'.wrap i)) ds fr H :=
  oq_of_run fun a w hf _ => by simp [execOp, hf.eval hx, convert, run_underlying hs, run_underlying ht, Conv.intToInt]

/-! ### Bools -/
theorem oq_beql {t t' : TypeId} {x y : Operand} {b c : Bool} (ht : P.underlying t = some .bool) (hx : ev fr x = some (.bool b)) (hy : ev fr y = some (.bool c)) : OV P n w0 ⟨dst, .binOp .eql t x y t', ty, pos, aft, g⟩ (.bool (b == c)) ds fr H :=
  oq_of_run fun a w hf _ => by simp [execOp, hf.eval hx, hf.eval hy, eqGuard, binOp, run_equal_bool w t b c ht]
theorem oq_bneq {t t' : TypeId} {x y : Operand} {b c : Bool} (ht : P.underlying t = some .bool) (hx : ev fr x = some (.bool b)) (hy : ev fr y = some (.bool c)) : OV P n w0 ⟨dst, .binOp .neq t x y t', ty, pos, aft, g⟩ (.bool (b != c)) ds fr H :=
  oq_of_run fun a w hf _ => by simp [execOp, hf.eval hx, hf.eval hy, eqGuard, binOp, run_equal_bool w t b c ht]; cases b <;> cases c <;> rfl

/-! ### Strings -/
theorem S_size (l : List UInt8) : (⟨⟨l⟩⟩ : ByteArray).size = l.length := rfl
theorem S_toList (l : List UInt8) : (⟨⟨l⟩⟩ : ByteArray).toList = l := ByteArray.toList_mk l
theorem eqGuard_str (op : BinOp) (t : TypeId) (x y : Operand) (s s' : ByteArray) (w : World) : (eqGuard op t x y (.string s) (.string s')).run P w = .ok () w := by
  unfold eqGuard
  cases op <;> simp

theorem oq_len_s {t : TypeId} {x : Operand} {l : List UInt8} (ht : P.underlying t = some .string) (hx : ev fr x = some (S l)) : OV P n w0 ⟨dst, .call ⟨.builtin .len, #[x], #[t]⟩, ty, pos, aft, g⟩ (I (l.length : Int)) ds fr H :=
  oq_of_run fun a w hf _ => by simp [execOp, resolve, invoke, builtin, Builtin.len_, hf.eval hx, run_underlying ht, goInt]; rfl
theorem oq_len_sl {t e : TypeId} {x : Operand} {p : Option Addr} {m c : Nat} (ht : P.underlying t = some (.slice e)) (hx : ev fr x = some (.slice p m c)) : OV P n w0 ⟨dst, .call ⟨.builtin .len, #[x], #[t]⟩, ty, pos, aft, g⟩ (I (m : Int)) ds fr H :=
  oq_of_run fun a w hf _ => by simp [execOp, resolve, invoke, builtin, Builtin.len_, hf.eval hx, run_underlying ht, goInt]
theorem oq_cap_sl {t e : TypeId} {x : Operand} {p : Option Addr} {m c : Nat} (ht : P.underlying t = some (.slice e)) (hx : ev fr x = some (.slice p m c)) : OV P n w0 ⟨dst, .call ⟨.builtin .cap, #[x], #[t]⟩, ty, pos, aft, g⟩ (I (c : Int)) ds fr H :=
  oq_of_run fun a w hf _ => by simp [execOp, resolve, invoke, builtin, Builtin.cap_, hf.eval hx, run_underlying ht, goInt]

theorem oq_index_s {t : TypeId} {x y : Operand} {l : List UInt8} {k : IntKind} {i : Int} (ht : P.underlying t = some .string) (hx : ev fr x = some (S l)) (hy : ev fr y = some (.int k i)) (h : 0 ≤ i ∧ i < l.length) : OV P n w0 ⟨dst, .index t x y, ty, pos, aft, g⟩ (.int .u8 (byteAt l i)) ds fr H :=
  oq_of_run fun a w hf _ => by
    have h1 : i.toNat < (⟨⟨l⟩⟩ : ByteArray).size := by rw [S_size]; omega
    have h2 : (⟨⟨l⟩⟩ : ByteArray)[i.toNat] = l.getD i.toNat 0 := by
      rw [List.getD_eq_getElem?_getD, List.getElem?_eq_getElem (by rw [S_size] at h1; exact h1)]; rfl
    simp [execOp, hf.eval hx, hf.eval hy, Instr.index, asIntOf, run_underlying ht, h.1, ByteArray.getElem?_lt' _ _ h1, byteAt, h2]

theorem run_sliceBound {k : IntKind} {i : Int} {y : Nat} {code : BoundsCode} {w : World} (h : 0 ≤ i ∧ i ≤ y) : (Instr.sliceBound (.int k i) y code).run P w = .ok i.toNat w := by
  simp [Instr.sliceBound, asIntOf, h]

theorem S_extract (l : List UInt8) (a b : Nat) : (⟨⟨l⟩⟩ : ByteArray).extract a b = ⟨⟨(l.take b).drop a⟩⟩ := by
  rw [Lib.extract_eq]
  show (⟨⟨(l.drop a).take (b - a)⟩⟩ : ByteArray) = _
  rw [List.drop_take]

theorem oq_slice_s2 {t : TypeId} {x y z : Operand} {l : List UInt8} {k k' : IntKind} {i j : Int} (ht : P.underlying t = some .string) (hx : ev fr x = some (S l)) (hy : ev fr y = some (.int k i)) (hz : ev fr z = some (.int k' j)) (h : 0 ≤ i ∧ i ≤ j ∧ j ≤ l.length) : OV P n w0 ⟨dst, .slice t x (some y) (some z) none, ty, pos, aft, g⟩ (S (cut l i j)) ds fr H :=
  oq_of_run fun a w hf _ => by
    have h1 : 0 ≤ j ∧ j ≤ ((⟨⟨l⟩⟩ : ByteArray).size : Int) := ⟨by omega, h.2.2⟩
    have h2 : 0 ≤ i ∧ i ≤ (j.toNat : Int) := by omega
    simp only [execOp, hf.eval hx, Option.map_some, hf.eval hy, hf.eval hz, Option.map_none, Instr.sliceAt, Instr.slice, Instr.sliceBounds, Sem.run_bind, run_underlying ht, Result.andThen_ok, Sem.run_pure, Option.isSome_none, Bool.false_eq_true, ↓reduceIte, run_sliceBound h1, run_sliceBound h2, S_extract]
    rfl
theorem oq_slice_s1 {t : TypeId} {x y : Operand} {l : List UInt8} {k : IntKind} {i : Int} (ht : P.underlying t = some .string) (hx : ev fr x = some (S l)) (hy : ev fr y = some (.int k i)) (h : 0 ≤ i ∧ i ≤ l.length) : OV P n w0 ⟨dst, .slice t x (some y) none none, ty, pos, aft, g⟩ (S (l.drop i.toNat)) ds fr H :=
  oq_of_run fun a w hf _ => by
    have h2 : 0 ≤ i ∧ i ≤ (l.length : Int) := h
    simp only [execOp, hf.eval hx, Option.map_some, hf.eval hy, Option.map_none, Instr.sliceAt, Instr.slice, Instr.sliceBounds, Sem.run_bind, run_underlying ht, Result.andThen_ok, Sem.run_pure, Option.isSome_none, Bool.false_eq_true, ↓reduceIte, S_extract, S_size, run_sliceBound h2, List.take_length]
theorem oq_slice_s0 {t : TypeId} {x z : Operand} {l : List UInt8} {k : IntKind} {j : Int} (ht : P.underlying t = some .string) (hx : ev fr x = some (S l)) (hz : ev fr z = some (.int k j)) (h : 0 ≤ j ∧ j ≤ l.length) : OV P n w0 ⟨dst, .slice t x none (some z) none, ty, pos, aft, g⟩ (S (l.take j.toNat)) ds fr H :=
  oq_of_run fun a w hf _ => by
    have h2 : 0 ≤ j ∧ j ≤ ((⟨⟨l⟩⟩ : ByteArray).size : Int) := h
    simp only [execOp, hf.eval hx, Option.map_some, hf.eval hz, Option.map_none, Instr.sliceAt, Instr.slice, Instr.sliceBounds, Sem.run_bind, run_underlying ht, Result.andThen_ok, Sem.run_pure, Option.isSome_none, Bool.false_eq_true, ↓reduceIte, run_sliceBound h2, S_extract, List.drop_zero]

theorem oq_str {op : BinOp} {t t' : TypeId} {x y : Operand} {l l' : List UInt8} {v : Value} (hx : ev fr x = some (S l)) (hy : ev fr y = some (S l')) (hr : ∀ w, (binOp op t (S l) (S l')).run P w = .ok v w) :
    OV P n w0 ⟨dst, .binOp op t x y t', ty, pos, aft, g⟩ v ds fr H :=
  oq_of_run fun a w hf _ => by simp [execOp, hf.eval hx, hf.eval hy, eqGuard_str, hr]
theorem S_append (l l' : List UInt8) : (⟨⟨l⟩⟩ : ByteArray) ++ (⟨⟨l'⟩⟩ : ByteArray) = ⟨⟨l ++ l'⟩⟩ := by
  apply ByteArray.ext
  rw [ByteArray.data_append]
  simp
theorem oq_concat {t t' : TypeId} {x y : Operand} {l l' : List UInt8} (hx : ev fr x = some (S l)) (hy : ev fr y = some (S l')) (h : l.length + l'.length ≤ 9223372036854775807) : OV P n w0 ⟨dst, .binOp .add t x y t', ty, pos, aft, g⟩ (S (l ++ l')) ds fr H :=
  oq_str hx hy fun w => by
    have h1 : ¬ (((⟨⟨l⟩⟩ : ByteArray).size + (⟨⟨l'⟩⟩ : ByteArray).size : Nat) : Int) > IntKind.i64.max := by rw [S_size, S_size, i64_hi]; omega
    simp only [binOp, Op.stringOp, h1, if_false, S_append]
    rfl
theorem oq_seql {t t' : TypeId} {x y : Operand} {l l' : List UInt8} (hx : ev fr x = some (S l)) (hy : ev fr y = some (S l')) : OV P n w0 ⟨dst, .binOp .eql t x y t', ty, pos, aft, g⟩ (.bool (decide (l = l'))) ds fr H :=
  oq_str hx hy fun w => by simp only [binOp, Op.stringOp, S_toList]; show Result.ok _ _ = _; congr 2; rw [Bool.eq_iff_iff]; simp
theorem oq_sneq {t t' : TypeId} {x y : Operand} {l l' : List UInt8} (hx : ev fr x = some (S l)) (hy : ev fr y = some (S l')) : OV P n w0 ⟨dst, .binOp .neq t x y t', ty, pos, aft, g⟩ (.bool (decide (l ≠ l'))) ds fr H :=
  oq_str hx hy fun w => by simp only [binOp, Op.stringOp, S_toList]; show Result.ok _ _ = _; congr 2; rw [Bool.eq_iff_iff]; simp
theorem oq_slss {t t' : TypeId} {x y : Operand} {l l' : List UInt8} (hx : ev fr x = some (S l)) (hy : ev fr y = some (S l')) : OV P n w0 ⟨dst, .binOp .lss t x y t', ty, pos, aft, g⟩ (.bool (Op.bytesLess l l')) ds fr H :=
  oq_str hx hy fun w => by simp only [binOp, Op.stringOp, S_toList]; rfl

/-! ### Calls that only compute -/
def evs (fr : Fr) : List Operand → Option (List Value)
  | [] => some []
  | x :: xs => match ev fr x, evs fr xs with
    | some v, some vs => some (v :: vs)
    | _, _ => none

theorem Fits.evals {a : Act} (h : Fits n ds fr a) : ∀ {xs : List Operand} {vs : List Value}, evs fr xs = some vs → xs.map a.eval = vs := by
  intro xs
  induction xs with
  | nil => intro vs hv; exact (Option.some.inj hv)
  | cons x xs ih =>
    intro vs hv
    unfold evs at hv
    cases h1 : ev fr x with
    | none => simp [h1] at hv
    | some v =>
      cases h2 : evs fr xs with
      | none => simp [h1, h2] at hv
      | some vs' =>
        simp only [h1, h2] at hv
        rw [List.map_cons, h.eval h1, ih h2]
        exact Option.some.inj hv

theorem Fits.evalsA {a : Act} (h : Fits n ds fr a) {xs : Array Operand} {vs : List Value} (hv : evs fr xs.toList = some vs) : xs.map a.eval = vs.toArray := by
  apply Array.ext'
  simpa using h.evals hv

/-- A function with a body, which a call enters. -/
def Callable (P : Program) (f : FuncId) : Prop := ∃ fn, P.funcs[f]? = some fn ∧ fn.body.isNone = false ∧ (fn.name == "runtime.NumGoroutine") = false

theorem run_enter {f : FuncId} {xs : Array Operand} {ts : Array TypeId} {args : List Value} (hf : Callable P f) (ha : evs fr xs.toList = some args) {a : Act} (hfit : Fits n ds fr a) (w : World) :
    (execOp a.eval ⟨dst, .call ⟨.value (.func f), xs, ts⟩, ty, pos, aft, g⟩).run P w = .ok (.enter f args.toArray) w := by
  obtain ⟨fn, hf, hb, hnm⟩ := hf
  have e := hfit.evalsA ha
  simp only [execOp, resolve, Act.eval, Deferred.ofValue, Sem.run_bind, e]
  simp only [invoke, callFunc, Sem.run_bind, run_program, Result.andThen_ok, Sem.run_pure, hf, hnm, hb, Bool.false_eq_true, ↓reduceIte, Array.append_empty, Array.empty_append]

theorem oq_call {f : FuncId} {xs : Array Operand} {ts : Array TypeId} {args : List Value} {v : Value} (hc : Fn0 P f args v) (hf : Callable P f) (ha : evs fr xs.toList = some args) : OQ P n w0 ⟨dst, .call ⟨.value (.func f), xs, ts⟩, ty, pos, aft, g⟩ v ds fr H := by
  intro a hfit w hw
  unfold Oper.quietAt
  rw [run_enter hf ha hfit w]
  exact ⟨rfl, (hc w).mono fun e w' h => ⟨h.1, hw.pure h.2⟩⟩

/-- a callee that reads the first group of blocks -/
theorem oq_callR {f : FuncId} {xs : Array Operand} {ts : Array TypeId} {args : List Value} {v : Value} {A : Hp} (hc : FnR P f args A v) (hf : Callable P f) (ha : evs fr xs.toList = some args) : OQ P n w0 ⟨dst, .call ⟨.value (.func f), xs, ts⟩, ty, pos, aft, g⟩ v ds fr (A :: H) := by
  intro a hfit w hw
  unfold Oper.quietAt
  rw [run_enter hf ha hfit w]
  refine ⟨rfl, (hc w (St.has (R := H.flatten) (by simpa using hw))).mono fun e w' h => ⟨h.1, ?_⟩⟩
  have := St.trans (H := A) (H1 := A) (N := []) (R := H.flatten) (by simpa using hw) (by simpa using h.2) rfl (fun _ _ h => by cases h)
  simpa using this

/-- a callee that leaves new blocks -/
theorem WL.callN {ops : Array Oper} {Q : Post} {rest : List Oper} {f : FuncId} {xs : Array Operand} {ts : Array TypeId} {args : List Value} {R : Value → Hp → Hp → Prop} {A : Hp} {d : Nat} (hc : FnN P f args A R) (hf : Callable P f) (ha : evs fr xs.toList = some args) (hg : gd ops fr ⟨some d, .call ⟨.value (.func f), xs, ts⟩, ty, pos, aft, g⟩ = some true) (hn : Nat.blt d n = true)
    (hk : ∀ v A' N, R v A' N → A'.map Prod.fst = A.map Prod.fst → (∀ b o, (b, o) ∈ N → w0.heap.size ≤ b) → WL P n w0 ops Q rest ds ((d, v) :: fr) (N :: A' :: H)) :
    WL P n w0 ops Q (⟨some d, .call ⟨.value (.func f), xs, ts⟩, ty, pos, aft, g⟩ :: rest) ds fr (A :: H) := by
  intro a w hfit hw
  unfold wpList
  rw [gd_wanted hfit hg, if_pos rfl]
  left
  unfold Oper.wp
  rw [run_enter hf ha hfit w, Oper.upon_enter]
  refine (hc w (St.has (R := H.flatten) (by simpa using hw))).mono fun e w' h => ?_
  obtain ⟨v, A', N, rfl, hR, hids, hN, hst⟩ := h
  exact hk v A' N hR hids (fun b o hb => Nat.le_trans hw.size (hN b o hb)) _ _ (hfit.put v hn) (by simpa using St.trans (by simpa using hw) hst hids hN)

/-- An index into a string, its byte under a name. -/
theorem WL.index_s {ops : Array Oper} {Q : Post} {rest : List Oper} {t : TypeId} {x y : Operand} {l : List UInt8} {k : IntKind} {i : Int} {d : Nat} (ht : P.underlying t = some .string) (hx : ev fr x = some (S l)) (hy : ev fr y = some (.int k i)) (h : 0 ≤ i ∧ i < l.length) (hg : gd ops fr ⟨some d, .index t x y, ty, pos, aft, g⟩ = some true) (hn : Nat.blt d n = true)
    (hk : ∀ c, c = byteAt l i → 0 ≤ c → c < 256 → WL P n w0 ops Q rest ds ((d, .int .u8 c) :: fr) H) : WL P n w0 ops Q (⟨some d, .index t x y, ty, pos, aft, g⟩ :: rest) ds fr H :=
  WL.q (oq_index_s ht hx hy h) hg rfl hn (hk _ rfl (byteAt_lo _ _) (byteAt_hi _ _))
theorem WQ.index_s {ops : Array Oper} {Q : Post} {rest : List Oper} {t : TypeId} {x y : Operand} {l : List UInt8} {k : IntKind} {i : Int} {d : Nat} (ht : P.underlying t = some .string) (hx : ev fr x = some (S l)) (hy : ev fr y = some (.int k i)) (h : 0 ≤ i ∧ i < l.length) (hg : gd ops fr ⟨some d, .index t x y, ty, pos, aft, g⟩ = some true) (hn : Nat.blt d n = true)
    (hk : ∀ c, c = byteAt l i → 0 ≤ c → c < 256 → WQ P n w0 ops Q rest ds ((d, .int .u8 c) :: fr) H) : WQ P n w0 ops Q (⟨some d, .index t x y, ty, pos, aft, g⟩ :: rest) ds fr H :=
  WQ.q (oq_index_s ht hx hy h) hg rfl hn (hk _ rfl (byteAt_lo _ _) (byteAt_hi _ _))

theorem i8_lo : IntKind.i8.min = -128 := by decide
theorem i8_hi : IntKind.i8.max = 127 := by decide
theorem i16_lo : IntKind.i16.min = -32768 := by decide
theorem i16_hi : IntKind.i16.max = 32767 := by decide
theorem i32_lo : IntKind.i32.min = -2147483648 := by decide
theorem i32_hi : IntKind.i32.max = 2147483647 := by decide
theorem u8_lo : IntKind.u8.min = 0 := by decide
theorem u8_hi : IntKind.u8.max = 255 := by decide
theorem u16_lo : IntKind.u16.min = 0 := by decide
theorem u16_hi : IntKind.u16.max = 65535 := by decide
theorem u32_lo : IntKind.u32.min = 0 := by decide
theorem u32_hi : IntKind.u32.max = 4294967295 := by decide
theorem u64_lo : IntKind.u64.min = 0 := by decide
theorem u64_hi : IntKind.u64.max = 18446744073709551615 := by decide
end
end Go.Proofs.YtodlhaghdplclaaDoor.V
