/- The engine, part 28: numbers of 32 bits as bit vectors, the sum of a stream. Over any program. -/
import Derived.Test.YtodlhaghdplclaaDoorVS
namespace Go.Proofs.YtodlhaghdplclaaDoor.V
open Go Go.RowKit
set_option linter.unusedSimpArgs false
set_option linter.unusedVariables false
/-- a number of 32 bits -/
abbrev U32 (c : BitVec 32) : Value := .int .u32 (c.toNat : Int)
theorem ofInt_u32 (c : BitVec 32) : BitVec.ofInt IntKind.u32.bits (c.toNat : Int) = c := by
  show BitVec.ofInt 32 (c.toNat : Int) = c
  rw [BitVec.ofInt_natCast, BitVec.ofNat_toNat, BitVec.setWidth_eq]
theorem wrap_u32 (c : BitVec 32) : IntKind.u32.wrap (c.toNat : Int) = (c.toNat : Int) := wrap_in (by rw [u32_lo, u32_hi]; have := c.isLt; omega)
theorem bit_xor (a b : BitVec 32) : bitOp .xor .u32 (a.toNat : Int) (b.toNat : Int) = ((a ^^^ b).toNat : Int) := by
  unfold bitOp; simp only [ofInt_u32]; exact wrap_u32 _
theorem bit_and (a b : BitVec 32) : bitOp .and .u32 (a.toNat : Int) (b.toNat : Int) = ((a &&& b).toNat : Int) := by
  unfold bitOp; simp only [ofInt_u32]; exact wrap_u32 _
section
variable {P : Program} {n : Nat} {w0 : World} {ds : List Deferred} {fr : Fr} {H H' : List Hp} {dst : Option Tmp} {ty : TypeId} {pos : String} {aft : Array Edge} {g : Option (Nat × Bool)}
theorem oq_x32 {t t' : TypeId} {x y : Operand} {i j : Int} (a b : BitVec 32) (hx : ev fr x = some (.int .u32 i)) (hy : ev fr y = some (.int .u32 j)) (hi : i = (a.toNat : Int)) (hj : j = (b.toNat : Int)) : OV P n w0 ⟨dst, .binOp .xor t x y t', ty, pos, aft, g⟩ (U32 (a ^^^ b)) ds fr H := by
  subst hi hj
  have := oq_bits (op := .xor) (P := P) (n := n) (w0 := w0) (ds := ds) (H := H) (dst := dst) (ty := ty) (pos := pos) (aft := aft) (g := g) (t := t) (t' := t') hx hy (by simp)
  rwa [bit_xor] at this
theorem oq_a32 {t t' : TypeId} {x y : Operand} {i j : Int} (a b : BitVec 32) (hx : ev fr x = some (.int .u32 i)) (hy : ev fr y = some (.int .u32 j)) (hi : i = (a.toNat : Int)) (hj : j = (b.toNat : Int)) : OV P n w0 ⟨dst, .binOp .and t x y t', ty, pos, aft, g⟩ (U32 (a &&& b)) ds fr H := by
  subst hi hj
  have := oq_bits (op := .and) (P := P) (n := n) (w0 := w0) (ds := ds) (H := H) (dst := dst) (ty := ty) (pos := pos) (aft := aft) (g := g) (t := t) (t' := t') hx hy (by simp)
  rwa [bit_and] at this
theorem oq_s32 {t t' : TypeId} {x y : Operand} {k : IntKind} (a : BitVec 32) (hx : ev fr x = some (U32 a)) (hy : ev fr y = some (.int k 1)) : OV P n w0 ⟨dst, .binOp .shr t x y t', ty, pos, aft, g⟩ (U32 (a >>> 1)) ds fr H := by
  have := oq_shrl (P := P) (n := n) (w0 := w0) (ds := ds) (H := H) (dst := dst) (ty := ty) (pos := pos) (aft := aft) (g := g) (t := t) (t' := t') 2 hx hy (by decide) (by decide)
  have e : ((a.toNat : Int)) / (2 : Int) = ((a >>> 1).toNat : Int) := by
    rw [BitVec.toNat_ushiftRight, Nat.shiftRight_eq_div_pow]; omega
  rwa [e] at this
theorem oq_c32 {t : TypeId} {x : Operand} (a : BitVec 32) (hx : ev fr x = some (U32 a)) : OV P n w0 ⟨dst, .unOp .xor t x, ty, pos, aft, g⟩ (U32 (~~~ a)) ds fr H :=
  oq_of_run fun ac w hf _ => by
    have h1 : (Op.intBits .xor .u32 (IntKind.u32.max) (a.toNat : Int)).run P w = .ok (U32 (~~~ a)) w := by
      have h2 := bit_xor (BitVec.allOnes 32) a
      have h3 : ((BitVec.allOnes 32).toNat : Int) = IntKind.u32.max := by decide
      rw [h3, BitVec.allOnes_xor] at h2
      unfold bitOp at h2
      simp [Op.intBits, U32]
      simpa using h2
    have h4 : IntKind.u32.signed = false := rfl
    simp only [execOp, hf.eval hx, Op.unary, h4, Bool.false_eq_true, if_false, Sem.run_bind, h1, Result.andThen_ok, Sem.run_pure]
end
theorem OV.to {P : Program} {n : Nat} {w0 : World} {ds : List Deferred} {fr : Fr} {H : List Hp} {o : Oper} {v v' : Value} (h : OV P n w0 o v ds fr H) (e : v = v') : OV P n w0 o v' ds fr H := e ▸ h
theorem oq_askG {P : Program} {n : Nat} {w0 : World} {ds : List Deferred} {fr : Fr} {H : List Hp} {dst : Option Tmp} {ty : TypeId} {pos : String} {aft : Array Edge} {g : Option (Nat × Bool)} {k t u : TypeId} {x : Operand} {v z : Value} {size bytes : Nat} (hc : Conc P t) (hty : Ty P t z size bytes) (hx : ev fr x = some (.iface k v)) : OV P n w0 ⟨dst, .typeAssert x u t true, ty, pos, aft, g⟩ (.tuple #[if k = t then v else z, .bool (decide (k = t))]) ds fr H := by
  by_cases h : k = t
  · subst h
    rw [if_pos rfl, decide_eq_true rfl]
    exact oq_askC hc hx
  · rw [if_neg h, decide_eq_false h]
    refine oq_of_run fun a w hf _ => ?_
    obtain ⟨d', hd, hx'⟩ := hc
    obtain ⟨i, hi, hz, _⟩ := hty
    cases d' <;> simp_all [execOp, Instr.typeAssert, hf.eval hx, run_underlying hd, zeroValue, typeInfo]
section
variable {P : Program} {n : Nat} {w0 : World} {ds : List Deferred} {fr : Fr} {H H' : List Hp} {dst : Option Tmp} {ty : TypeId} {pos : String} {aft : Array Edge} {g : Option (Nat × Bool)}
variable {ops : Array Oper} {Q : Post} {rest : List Oper} {d : Nat}
theorem WE.endW6 {fn : Func} {e : Exit} {v : Value} {R : Value → List Hp → Prop} {R0 A B C D E F : Hp} (he : e = .ret ∨ e = .normal) (hres : ∀ a w, Fits n [] fr a → St w0 ([A, B, C, D, E, F, R0] : List Hp).flatten w → (results fn a.tmps).run P w = .ok v w) (hR : R v [A, B, C, D, E, F]) :
    WE n w0 e (bodyPost P fn (postW w0 R0 R)) [] fr [A, B, C, D, E, F, R0] :=
  WE.body he hres fun w hw => ⟨_, [A, B, C, D, E, F], rfl, hR, by simpa using hw⟩
theorem WL.to6 {l : List Oper} {A B C D E F : Hp} (h : WL P n w0 ops Q l ds fr (A :: B :: C :: D :: E :: F :: H)) : WL P n w0 ops Q l ds fr ([A, B, C, D, E, F] ++ H) := h
theorem WE.endW7 {fn : Func} {e : Exit} {v : Value} {R : Value → List Hp → Prop} {R0 A B C D E F G : Hp} (he : e = .ret ∨ e = .normal) (hres : ∀ a w, Fits n [] fr a → St w0 ([A, B, C, D, E, F, G, R0] : List Hp).flatten w → (results fn a.tmps).run P w = .ok v w) (hR : R v [A, B, C, D, E, F, G]) :
    WE n w0 e (bodyPost P fn (postW w0 R0 R)) [] fr [A, B, C, D, E, F, G, R0] :=
  WE.body he hres fun w hw => ⟨_, [A, B, C, D, E, F, G], rfl, hR, by simpa using hw⟩
theorem WL.to7 {l : List Oper} {A B C D E F G : Hp} (h : WL P n w0 ops Q l ds fr (A :: B :: C :: D :: E :: F :: G :: H)) : WL P n w0 ops Q l ds fr ([A, B, C, D, E, F, G] ++ H) := h
theorem WL.callW7 {f : FuncId} {xs : Array Operand} {ts : Array TypeId} {args : List Value} {R : Value → List Hp → Prop} {A B C D E F G : Hp} (hc : FnW P f args w0.heap.size [A, B, C, D, E, F, G] R) (hf : Callable P f) (ha : evs fr xs.toList = some args) (hg : gd ops fr ⟨some d, .call ⟨.value (.func f), xs, ts⟩, ty, pos, aft, g⟩ = some true) (hn : Nat.blt d n = true)
    (hk : ∀ v Hs', R v Hs' → WL P n w0 ops Q rest ds ((d, v) :: fr) (Hs' ++ H)) :
    WL P n w0 ops Q (⟨some d, .call ⟨.value (.func f), xs, ts⟩, ty, pos, aft, g⟩ :: rest) ds fr (A :: B :: C :: D :: E :: F :: G :: H) := WL.callW hc hf ha hg hn hk
theorem WE.endW8 {fn : Func} {e : Exit} {v : Value} {R : Value → List Hp → Prop} {R0 A B C D E F G K : Hp} (he : e = .ret ∨ e = .normal) (hres : ∀ a w, Fits n [] fr a → St w0 ([A, B, C, D, E, F, G, K, R0] : List Hp).flatten w → (results fn a.tmps).run P w = .ok v w) (hR : R v [A, B, C, D, E, F, G, K]) :
    WE n w0 e (bodyPost P fn (postW w0 R0 R)) [] fr [A, B, C, D, E, F, G, K, R0] :=
  WE.body he hres fun w hw => ⟨_, [A, B, C, D, E, F, G, K], rfl, hR, by simpa using hw⟩
theorem WL.to8 {l : List Oper} {A B C D E F G K : Hp} (h : WL P n w0 ops Q l ds fr (A :: B :: C :: D :: E :: F :: G :: K :: H)) : WL P n w0 ops Q l ds fr ([A, B, C, D, E, F, G, K] ++ H) := h
theorem WL.callW8 {f : FuncId} {xs : Array Operand} {ts : Array TypeId} {args : List Value} {R : Value → List Hp → Prop} {A B C D E F G K : Hp} (hc : FnW P f args w0.heap.size [A, B, C, D, E, F, G, K] R) (hf : Callable P f) (ha : evs fr xs.toList = some args) (hg : gd ops fr ⟨some d, .call ⟨.value (.func f), xs, ts⟩, ty, pos, aft, g⟩ = some true) (hn : Nat.blt d n = true)
    (hk : ∀ v Hs', R v Hs' → WL P n w0 ops Q rest ds ((d, v) :: fr) (Hs' ++ H)) :
    WL P n w0 ops Q (⟨some d, .call ⟨.value (.func f), xs, ts⟩, ty, pos, aft, g⟩ :: rest) ds fr (A :: B :: C :: D :: E :: F :: G :: K :: H) := WL.callW hc hf ha hg hn hk
end
section
variable {P : Program} {n : Nat} {w0 : World} {ds : List Deferred} {fr : Fr} {H H' : List Hp} {dst : Option Tmp} {ty : TypeId} {pos : String} {aft : Array Edge} {g : Option (Nat × Bool)}
/-- the address of a field of an element's field -/
theorem oq_fldElF {s k o1 off sz m : Nat} {t : TypeId} {x : Operand} {v : Value} {A : Hp} {xs : List Value} {i : Int} (hf : Fld P s k off t) (hr : RdS sz v A m xs) (hx : ev fr x = some (adOff (elAddr sz v i) o1)) (h : 0 ≤ i ∧ i < m) :
    OV P n w0 ⟨dst, .fieldAddr s x k, ty, pos, aft, g⟩ (adOff (elAddr sz v i) (o1 + off)) ds fr H := by
  obtain ⟨b, o, c, e, fz, he, _, _⟩ := elAddr_pt hr h
  rw [he, show adOff (Pt b o) o1 = Pt b (o + o1) from by simp [adOff, add_none]] at hx
  have := oq_fieldAddr (P := P) (n := n) (w0 := w0) (ds := ds) (H := H) (dst := dst) (ty := ty) (pos := pos) (aft := aft) (g := g) hf hx
  rw [he, show adOff (Pt b o) (o1 + off) = Pt b (o + o1 + off) from by simp [adOff, add_none, Nat.add_assoc]]
  exact this
/-- an element's field that is a struct, whole -/
theorem oq_loadFS {α : Type} {f : α → List Value} {l : List α} {sz off size : Nat} {t : TypeId} {x : Operand} {v : Value} {A : Hp} {i : Int} {z : Value} {bytes : Nat} (dflt : α) (vs : List Value) (hf : ∀ x, (f x).length = sz) (hag : Agg P t) (hty : Ty P t z size bytes) (hr : RdS sz v A l.length (recsV f l)) (hA : A ∈ H) (hx : ev fr x = some (adOff (elAddr sz v i) off)) (h : 0 ≤ i ∧ i < l.length) {j : Nat} (hj : i.toNat = j) (hoff : off + size ≤ sz) (hl : vs.length = size) (hu : ((f (l.getD j dflt)).drop off).take size = vs) :
    OV P n w0 ⟨dst, .load t x, ty, pos, aft, g⟩ (.agg vs.toArray) ds fr H := by
  obtain ⟨b, o, c, e, fz, he, hb, hc⟩ := elAddr_pt hr h
  rw [he, show adOff (Pt b o) off = Pt b (o + off) from by simp [adOff, add_none]] at hx
  refine oq_loadAgg hag (by rw [hl]; exact hty) hx hA hb fun q u hq => ?_
  have hq2 : q < size := by rw [← hl]; exact (List.getElem?_eq_some_iff.1 hq).1
  rw [Nat.add_assoc, hc (off + q) (by omega), recs_get hf dflt l i.toNat (off + q) (by omega) (by omega), hj]
  rw [← hu, List.getElem?_take, if_pos hq2, List.getElem?_drop] at hq
  exact hq
end
/-! ### The sum -/
/-- one bit's step -/
def crcBit (c : BitVec 32) : BitVec 32 := if (c &&& 1#32).toNat = 0 then c >>> 1 else (c >>> 1) ^^^ 3988292384#32
def crcBits : Nat → BitVec 32 → BitVec 32
  | 0, c => c
  | k + 1, c => crcBit (crcBits k c)
def crcByte (c : BitVec 32) (b : UInt8) : BitVec 32 := crcBits 8 (c ^^^ BitVec.ofNat 32 b.toNat)
def crcRaw (c : BitVec 32) (l : List UInt8) : BitVec 32 := l.foldl crcByte c
def crc (l : List UInt8) : BitVec 32 := ~~~ crcRaw (~~~ 0#32) l
theorem crcBits_odd {k : Nat} {c : BitVec 32} (h : ¬ ((crcBits k c &&& 1#32).toNat : Int) = 0) : U32 (crcBits k c >>> 1 ^^^ 3988292384#32) = U32 (crcBits (k + 1) c) := by
  show _ = U32 (crcBit (crcBits k c))
  unfold crcBit; rw [if_neg (by omega)]
theorem crcBits_even {k : Nat} {c : BitVec 32} (h : ((crcBits k c &&& 1#32).toNat : Int) = 0) : U32 (crcBits k c >>> 1) = U32 (crcBits (k + 1) c) := by
  show _ = U32 (crcBit (crcBits k c))
  unfold crcBit; rw [if_pos (by omega)]
theorem crcRaw_append (c : BitVec 32) (l m : List UInt8) : crcRaw c (l ++ m) = crcRaw (crcRaw c l) m := List.foldl_append
theorem crc_append (l m : List UInt8) : crc (l ++ m) = ~~~ crcRaw (~~~ crc l) m := by unfold crc; rw [BitVec.not_not, crcRaw_append]
theorem crc_nil : crc [] = 0#32 := by decide
theorem byte32 (b : UInt8) : ((BitVec.ofNat 32 b.toNat).toNat : Int) = (b.toNat : Int) := by
  rw [BitVec.toNat_ofNat]; have := b.toNat_lt; omega
theorem byteAt_get {l : List UInt8} {i : Nat} (h : i < l.length) : byteAt l (i : Int) = (l[i].toNat : Int) := by
  unfold byteAt; rw [Int.toNat_natCast, List.getD_eq_getElem?_getD, List.getElem?_eq_getElem h]; rfl
theorem crcRaw_step (c : BitVec 32) (l : List UInt8) (i : Nat) (h : i < l.length) : crcRaw c (l.take (i + 1)) = crcByte (crcRaw c (l.take i)) l[i] := by
  rw [List.take_add_one, crcRaw_append, List.getElem?_eq_getElem h]; rfl
/-! ### Numbers as bytes, the great end first -/
def beB (j : Nat) (x : Int) : UInt8 := UInt8.ofNat ((x / 2 ^ (8 * j)) % 256).toNat
def be : Nat → Int → List UInt8
  | 0, _ => []
  | w + 1, x => beB w x :: be w x
theorem be_len : ∀ (w : Nat) (x : Int), (be w x).length = w
  | 0, _ => rfl
  | w + 1, x => by rw [be, List.length_cons, be_len]
theorem be_get : ∀ (w m : Nat) (x : Int), m < w → (be w x)[m]? = some (beB (w - 1 - m) x)
  | w + 1, 0, x, _ => rfl
  | w + 1, m + 1, x, h => by
    rw [be, List.getElem?_cons_succ, be_get w m x (by omega), show w + 1 - 1 - (m + 1) = w - 1 - m by omega]
theorem beB_nat (j : Nat) (x : Int) : ((beB j x).toNat : Int) = (x / 2 ^ (8 * j)) % 256 := by
  unfold beB
  have h1 := Int.emod_nonneg (x / 2 ^ (8 * j)) (b := 256) (by decide)
  have h2 := Int.emod_lt_of_pos (x / 2 ^ (8 * j)) (b := 256) (by decide)
  rw [UInt8.toNat_ofNat']; omega
theorem wrap_u8 (i : Int) : IntKind.u8.wrap i = i % 256 := by simp [IntKind.wrap, IntKind.signed, IntKind.bits]
theorem be_shr {w m : Nat} {x : Int} (h : m < w) (hw : w ≤ 8) : Value.int .u8 (IntKind.u8.wrap (x.fdiv (2 ^ (min (8 * ((w : Int) - 1 - (m : Int))).toNat 64)))) = .int .u8 ((beB (w - 1 - m) x).toNat : Int) := by
  have e : min (8 * ((w : Int) - 1 - (m : Int))).toNat 64 = 8 * (w - 1 - m) := by omega
  rw [beB_nat, wrap_u8, e, Int.fdiv_eq_ediv_of_nonneg _ (Int.le_of_lt (Int.pow_pos (by decide)))]
theorem be_snoc {w m : Nat} {x : Int} (h : m < w) (hw : w ≤ 8) : bytesV ((be w x).take m) ++ [Value.int .u8 (IntKind.u8.wrap (x.fdiv (2 ^ (min (8 * ((w : Int) - 1 - (m : Int))).toNat 64))))] = bytesV ((be w x).take (m + 1)) := by
  rw [be_shr h hw, List.take_add_one, be_get w m x h]; simp [bytesV]
theorem Int.emul_emod_emod_helper (x : Int) (j d : Nat) : ((x % 2 ^ (8 * (j + 1 + d))) / 2 ^ (8 * j)) % 256 = (x / 2 ^ (8 * j)) % 256 := by
  have h1 : (2 : Int) ^ (8 * (j + 1 + d)) = 2 ^ (8 * j) * (256 * 2 ^ (8 * d)) := by
    rw [show 8 * (j + 1 + d) = 8 * j + (8 + 8 * d) by omega, Int.pow_add, Int.pow_add]; rfl
  have hp : (0 : Int) < 2 ^ (8 * j) := Int.pow_pos (by decide)
  rw [h1, Int.emod_def x, Int.mul_assoc, Int.sub_eq_add_neg, ← Int.mul_neg, Int.add_mul_ediv_left _ _ (Int.ne_of_gt hp), ← Int.mul_neg, Int.mul_assoc, Int.add_mul_emod_self_left]
theorem be_snocj {w j : Nat} {x : Int} (h : 0 < j) (hj : j ≤ w) (hw : w ≤ 8) : bytesV ((be w x).take (w - j)) ++ [Value.int .u8 (IntKind.u8.wrap (x.fdiv (2 ^ (min (8 * ((j : Int) - 1)).toNat IntKind.u64.bits))))] = bytesV ((be w x).take (w - (j - 1))) := by
  have h1 := be_snoc (w := w) (m := w - j) (x := x) (by omega) hw
  rw [show ((w : Int) - 1 - ((w - j : Nat) : Int)) = (j : Int) - 1 by omega, show w - j + 1 = w - (j - 1) by omega] at h1
  exact h1
theorem own_bytes {base e m : Nat} {v : Value} {A : Hp} {xs : List Value} {l : List UInt8} (h : OwS base e 1 v A m xs) (hx : xs = bytesV l) : OwS 0 e 1 v A l.length (bytesV l) := by
  have hl := h.1
  subst hx
  simp only [bytesV, List.length_map, Nat.mul_one] at hl
  subst hl
  refine ⟨h.1, ?_⟩
  rcases h.2 with ⟨h1, h2, h3⟩ | ⟨b, cap, cur, h1, h2, h3, h4, h5, h6⟩
  · exact .inl ⟨h1, h2, h3⟩
  · exact .inr ⟨b, cap, cur, h1, h2, Nat.zero_le _, h4, h5, h6⟩
/-- what the lower bytes of a number are is told by what it leaves -/
theorem beB_mod (j w : Nat) (x : Int) (h : j < w) : beB j (x % 2 ^ (8 * w)) = beB j x := by
  have e : ((x % 2 ^ (8 * w)) / 2 ^ (8 * j)) % 256 = (x / 2 ^ (8 * j)) % 256 := by
    obtain ⟨d, rfl⟩ : ∃ d, w = j + 1 + d := ⟨w - (j + 1), by omega⟩
    have hx := Int.emul_emod_emod_helper x j d
    exact hx
  unfold beB; rw [e]
theorem be_mod : ∀ (w v : Nat) (x : Int), w ≤ v → be w (x % 2 ^ (8 * v)) = be w x
  | 0, _, _, _ => rfl
  | w + 1, v, x, h => by rw [be, be, beB_mod w v x (by omega), be_mod w v x (by omega)]
end Go.Proofs.YtodlhaghdplclaaDoor.V
