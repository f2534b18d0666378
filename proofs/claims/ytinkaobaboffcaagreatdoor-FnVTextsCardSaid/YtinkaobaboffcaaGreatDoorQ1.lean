/- The engine, part 28: numbers of 32 bits as bit vectors, the sum of a stream. Over any program. -/
import Derived.Test.YtinkaobaboffcaaGreatDoorQ0
import Derived.Test.YtinkaobaboffcaaGreatDoorProg
import Derived.Lay
import Derived.Lib.SmallJoins
import Derived.LaidEql
namespace Go.Proofs.YtinkaobaboffcaaGreatDoor.V
open Go Go.RowKit
set_option linter.unusedSimpArgs false
set_option linter.unusedVariables false
abbrev U32 (c : BitVec 32) : Value := .int .u32 (c.toNat : Int)
theorem ofInt_u32 (c : BitVec 32) : BitVec.ofInt IntKind.u32.bits (c.toNat : Int) = c := by
 show BitVec.ofInt 32 (c.toNat : Int) = c
 rw [BitVec.ofInt_natCast, BitVec.ofNat_toNat, BitVec.setWidth_eq]
theorem wrap_u32 (c : BitVec 32) : IntKind.u32.wrap (c.toNat : Int) = (c.toNat : Int) := wrap_in (by rw [u32_lo, u32_hi]; have := c.isLt; omega)
theorem bit_xor (a b : BitVec 32) : bitOp .xor .u32 (a.toNat : Int) (b.toNat : Int) = ((a ^^^ b).toNat : Int) := by
 unfold bitOp; simp only [ofInt_u32]; exact wrap_u32 _
theorem bit_and (a b : BitVec 32) : bitOp .and .u32 (a.toNat : Int) (b.toNat : Int) = ((a &&& b).toNat : Int) := by
 unfold bitOp; simp only [ofInt_u32]; exact wrap_u32 _
section
variable {P : Program} {n : Nat} {w0 : World} {ds : List Deferred} {fr : Fr} {H H' : List Hp} {dst : Option Tmp} {ty : TypeId} {pos : String} {aft : Array Edge} {g : Option (Nat × Bool)}
theorem oq_x32 {t t' : TypeId} {x y : Operand} {i j : Int} (a b : BitVec 32) (hx : ev fr x = some (.int .u32 i)) (hy : ev fr y = some (.int .u32 j)) (hi : i = (a.toNat : Int)) (hj : j = (b.toNat : Int)) : OV P n w0 ⟨dst, .binOp .xor t x y t', ty, pos, aft, g⟩ (U32 (a ^^^ b)) ds fr H := by
 subst hi hj
 have := oq_bits (op := .xor) (P := P) (n := n) (w0 := w0) (ds := ds) (H := H) (dst := dst) (ty := ty) (pos := pos) (aft := aft) (g := g) (t := t) (t' := t') hx hy (by simp)
 rwa [bit_xor] at this
theorem oq_a32 {t t' : TypeId} {x y : Operand} {i j : Int} (a b : BitVec 32) (hx : ev fr x = some (.int .u32 i)) (hy : ev fr y = some (.int .u32 j)) (hi : i = (a.toNat : Int)) (hj : j = (b.toNat : Int)) : OV P n w0 ⟨dst, .binOp .and t x y t', ty, pos, aft, g⟩ (U32 (a &&& b)) ds fr H := by
 subst hi hj
 have := oq_bits (op := .and) (P := P) (n := n) (w0 := w0) (ds := ds) (H := H) (dst := dst) (ty := ty) (pos := pos) (aft := aft) (g := g) (t := t) (t' := t') hx hy (by simp)
 rwa [bit_and] at this
theorem oq_s32 {t t' : TypeId} {x y : Operand} {k : IntKind} (a : BitVec 32) (hx : ev fr x = some (U32 a)) (hy : ev fr y = some (.int k 1)) : OV P n w0 ⟨dst, .binOp .shr t x y t', ty, pos, aft, g⟩ (U32 (a >>> 1)) ds fr H := by
 have := oq_shrl (P := P) (n := n) (w0 := w0) (ds := ds) (H := H) (dst := dst) (ty := ty) (pos := pos) (aft := aft) (g := g) (t := t) (t' := t') 2 hx hy (by decide) (by decide)
 have e : ((a.toNat : Int)) / (2 : Int) = ((a >>> 1).toNat : Int) := by
  rw [BitVec.toNat_ushiftRight, Nat.shiftRight_eq_div_pow]; omega
 rwa [e] at this
theorem oq_c32 {t : TypeId} {x : Operand} (a : BitVec 32) (hx : ev fr x = some (U32 a)) : OV P n w0 ⟨dst, .unOp .xor t x, ty, pos, aft, g⟩ (U32 (~~~ a)) ds fr H :=
 oq_of_run fun ac w hf _ => by
  have h1 : (Op.intBits .xor .u32 (IntKind.u32.max) (a.toNat : Int)).run P w = .ok (U32 (~~~ a)) w := by
   have h2 := bit_xor (BitVec.allOnes 32) a
   have h3 : ((BitVec.allOnes 32).toNat : Int) = IntKind.u32.max := by decide
   rw [h3, BitVec.allOnes_xor] at h2
   unfold bitOp at h2
   simp [Op.intBits, U32]
   simpa using h2
  have h4 : IntKind.u32.signed = false := rfl
  simp only [execOp, hf.eval hx, Op.unary, h4, Bool.false_eq_true, if_false, Sem.run_bind, h1, Result.andThen_ok, Sem.run_pure]
end
theorem OV.to {P : Program} {n : Nat} {w0 : World} {ds : List Deferred} {fr : Fr} {H : List Hp} {o : Oper} {v v' : Value} (h : OV P n w0 o v ds fr H) (e : v = v') : OV P n w0 o v' ds fr H := e ▸ h
theorem oq_askG {P : Program} {n : Nat} {w0 : World} {ds : List Deferred} {fr : Fr} {H : List Hp} {dst : Option Tmp} {ty : TypeId} {pos : String} {aft : Array Edge} {g : Option (Nat × Bool)} {k t u : TypeId} {x : Operand} {v z : Value} {size bytes : Nat} (hc : Conc P t) (hty : Ty P t z size bytes) (hx : ev fr x = some (.iface k v)) : OV P n w0 ⟨dst, .typeAssert x u t true, ty, pos, aft, g⟩ (.tuple #[if k = t then v else z, .bool (decide (k = t))]) ds fr H := by
 by_cases h : k = t
 ·subst h
  rw [if_pos rfl, decide_eq_true rfl]
  exact oq_askC hc hx
 ·rw [if_neg h, decide_eq_false h]
  refine oq_of_run fun a w hf _ => ?_
  obtain ⟨d', hd, hx'⟩ := hc
  obtain ⟨i, hi, hz, _⟩ := hty
  cases d' <;> simp_all [execOp, Instr.typeAssert, hf.eval hx, run_underlying hd, zeroValue, typeInfo]
section
variable {P : Program} {n : Nat} {w0 : World} {ds : List Deferred} {fr : Fr} {H H' : List Hp} {dst : Option Tmp} {ty : TypeId} {pos : String} {aft : Array Edge} {g : Option (Nat × Bool)}
variable {ops : Array Oper} {Q : Post} {rest : List Oper} {d : Nat}
theorem WE.endW7 {fn : Func} {e : Exit} {v : Value} {R : Value → List Hp → Prop} {R0 A B C D E F G : Hp} (he : e = .ret ∨ e = .normal) (hres : ∀ a w, Fits n [] fr a → St w0 ([A, B, C, D, E, F, G, R0] : List Hp).flatten w → (results fn a.tmps).run P w = .ok v w) (hR : R v [A, B, C, D, E, F, G]) :
  WE n w0 e (bodyPost P fn (postW w0 R0 R)) [] fr [A, B, C, D, E, F, G, R0] :=
 WE.body he hres fun w hw => ⟨_, [A, B, C, D, E, F, G], rfl, hR, by simpa using hw⟩
end
section
variable {P : Program} {n : Nat} {w0 : World} {ds : List Deferred} {fr : Fr} {H H' : List Hp} {dst : Option Tmp} {ty : TypeId} {pos : String} {aft : Array Edge} {g : Option (Nat × Bool)}
theorem oq_loadFS {α : Type} {f : α → List Value} {l : List α} {sz off size : Nat} {t : TypeId} {x : Operand} {v : Value} {A : Hp} {i : Int} {z : Value} {bytes : Nat} (dflt : α) (vs : List Value) (hf : ∀ x, (f x).length = sz) (hag : Agg P t) (hty : Ty P t z size bytes) (hr : RdS sz v A l.length (recsV f l)) (hA : A ∈ H) (hx : ev fr x = some (adOff (elAddr sz v i) off)) (h : 0 ≤ i ∧ i < l.length) {j : Nat} (hj : i.toNat = j) (hoff : off + size ≤ sz) (hl : vs.length = size) (hu : ((f (l.getD j dflt)).drop off).take size = vs) :
  OV P n w0 ⟨dst, .load t x, ty, pos, aft, g⟩ (.agg vs.toArray) ds fr H := by
 obtain ⟨b, o, c, e, fz, he, hb, hc⟩ := elAddr_pt hr h
 rw [he, show adOff (Pt b o) off = Pt b (o + off) from by simp [adOff, add_none]] at hx
 refine oq_loadAgg hag (by rw [hl]; exact hty) hx hA hb fun q u hq => ?_
 have hq2 : q < size := by rw [← hl]; exact (List.getElem?_eq_some_iff.1 hq).1
 rw [Nat.add_assoc, hc (off + q) (by omega), recs_get hf dflt l i.toNat (off + q) (by omega) (by omega), hj]
 rw [← hu, List.getElem?_take, if_pos hq2, List.getElem?_drop] at hq
 exact hq
end
/-! ### The sum -/
def crcBit (c : BitVec 32) : BitVec 32 := if (c &&& 1#32).toNat = 0 then c >>> 1 else (c >>> 1) ^^^ 3988292384#32
def crcBits : Nat → BitVec 32 → BitVec 32
 | 0, c => c
 | k + 1, c => crcBit (crcBits k c)
def crcByte (c : BitVec 32) (b : UInt8) : BitVec 32 := crcBits 8 (c ^^^ BitVec.ofNat 32 b.toNat)
def crcRaw (c : BitVec 32) (l : List UInt8) : BitVec 32 := l.foldl crcByte c
def crc (l : List UInt8) : BitVec 32 := ~~~ crcRaw (~~~ 0#32) l
theorem crcBits_odd {k : Nat} {c : BitVec 32} (h : ¬ ((crcBits k c &&& 1#32).toNat : Int) = 0) : U32 (crcBits k c >>> 1 ^^^ 3988292384#32) = U32 (crcBits (k + 1) c) := by
 show _ = U32 (crcBit (crcBits k c))
 unfold crcBit; rw [if_neg (by omega)]
theorem crcBits_even {k : Nat} {c : BitVec 32} (h : ((crcBits k c &&& 1#32).toNat : Int) = 0) : U32 (crcBits k c >>> 1) = U32 (crcBits (k + 1) c) := by
 show _ = U32 (crcBit (crcBits k c))
 unfold crcBit; rw [if_pos (by omega)]
theorem crcRaw_append (c : BitVec 32) (l m : List UInt8) : crcRaw c (l ++ m) = crcRaw (crcRaw c l) m := List.foldl_append
theorem crc_append (l m : List UInt8) : crc (l ++ m) = ~~~ crcRaw (~~~ crc l) m := by unfold crc; rw [BitVec.not_not, crcRaw_append]
theorem byte32 (b : UInt8) : ((BitVec.ofNat 32 b.toNat).toNat : Int) = (b.toNat : Int) := by
 rw [BitVec.toNat_ofNat]; have := b.toNat_lt; omega
theorem byteAt_get {l : List UInt8} {i : Nat} (h : i < l.length) : byteAt l (i : Int) = (l[i].toNat : Int) := by
 unfold byteAt; rw [Int.toNat_natCast, List.getD_eq_getElem?_getD, List.getElem?_eq_getElem h]; rfl
theorem crcRaw_step (c : BitVec 32) (l : List UInt8) (i : Nat) (h : i < l.length) : crcRaw c (l.take (i + 1)) = crcByte (crcRaw c (l.take i)) l[i] := by
 rw [List.take_add_one, crcRaw_append, List.getElem?_eq_getElem h]; rfl
/-! ### Numbers as bytes, the great end first -/
def beB (j : Nat) (x : Int) : UInt8 := UInt8.ofNat ((x / 2 ^ (8 * j)) % 256).toNat
def be : Nat → Int → List UInt8
 | 0, _ => []
 | w + 1, x => beB w x :: be w x
theorem be_len : ∀ (w : Nat) (x : Int), (be w x).length = w
 | 0, _ => rfl
 | w + 1, x => by rw [be, List.length_cons, be_len]
theorem be_get : ∀ (w m : Nat) (x : Int), m < w → (be w x)[m]? = some (beB (w - 1 - m) x)
 | w + 1, 0, x, _ => rfl
 | w + 1, m + 1, x, h => by
  rw [be, List.getElem?_cons_succ, be_get w m x (by omega), show w + 1 - 1 - (m + 1) = w - 1 - m by omega]
theorem beB_nat (j : Nat) (x : Int) : ((beB j x).toNat : Int) = (x / 2 ^ (8 * j)) % 256 := by
 unfold beB
 have h1 := Int.emod_nonneg (x / 2 ^ (8 * j)) (b := 256) (by decide)
 have h2 := Int.emod_lt_of_pos (x / 2 ^ (8 * j)) (b := 256) (by decide)
 rw [UInt8.toNat_ofNat']; omega
theorem wrap_u8 (i : Int) : IntKind.u8.wrap i = i % 256 := by simp [IntKind.wrap, IntKind.signed, IntKind.bits]
theorem be_shr {w m : Nat} {x : Int} (h : m < w) (hw : w ≤ 8) : Value.int .u8 (IntKind.u8.wrap (x.fdiv (2 ^ (min (8 * ((w : Int) - 1 - (m : Int))).toNat 64)))) = .int .u8 ((beB (w - 1 - m) x).toNat : Int) := by
 have e : min (8 * ((w : Int) - 1 - (m : Int))).toNat 64 = 8 * (w - 1 - m) := by omega
 rw [beB_nat, wrap_u8, e, Int.fdiv_eq_ediv_of_nonneg _ (Int.le_of_lt (Int.pow_pos (by decide)))]
theorem be_snoc {w m : Nat} {x : Int} (h : m < w) (hw : w ≤ 8) : bytesV ((be w x).take m) ++ [Value.int .u8 (IntKind.u8.wrap (x.fdiv (2 ^ (min (8 * ((w : Int) - 1 - (m : Int))).toNat 64))))] = bytesV ((be w x).take (m + 1)) := by
 rw [be_shr h hw, List.take_add_one, be_get w m x h]; simp [bytesV]
theorem Int.emul_emod_emod_helper (x : Int) (j d : Nat) : ((x % 2 ^ (8 * (j + 1 + d))) / 2 ^ (8 * j)) % 256 = (x / 2 ^ (8 * j)) % 256 := by
 have h1 : (2 : Int) ^ (8 * (j + 1 + d)) = 2 ^ (8 * j) * (256 * 2 ^ (8 * d)) := by
  rw [show 8 * (j + 1 + d) = 8 * j + (8 + 8 * d) by omega, Int.pow_add, Int.pow_add]; rfl
 have hp : (0 : Int) < 2 ^ (8 * j) := Int.pow_pos (by decide)
 rw [h1, Int.emod_def x, Int.mul_assoc, Int.sub_eq_add_neg, ← Int.mul_neg, Int.add_mul_ediv_left _ _ (Int.ne_of_gt hp), ← Int.mul_neg, Int.mul_assoc, Int.add_mul_emod_self_left]
theorem be_snocj {w j : Nat} {x : Int} (h : 0 < j) (hj : j ≤ w) (hw : w ≤ 8) : bytesV ((be w x).take (w - j)) ++ [Value.int .u8 (IntKind.u8.wrap (x.fdiv (2 ^ (min (8 * ((j : Int) - 1)).toNat IntKind.u64.bits))))] = bytesV ((be w x).take (w - (j - 1))) := by
 have h1 := be_snoc (w := w) (m := w - j) (x := x) (by omega) hw
 rw [show ((w : Int) - 1 - ((w - j : Nat) : Int)) = (j : Int) - 1 by omega, show w - j + 1 = w - (j - 1) by omega] at h1
 exact h1
theorem beB_mod (j w : Nat) (x : Int) (h : j < w) : beB j (x % 2 ^ (8 * w)) = beB j x := by
 have e : ((x % 2 ^ (8 * w)) / 2 ^ (8 * j)) % 256 = (x / 2 ^ (8 * j)) % 256 := by
  obtain ⟨d, rfl⟩ : ∃ d, w = j + 1 + d := ⟨w - (j + 1), by omega⟩
  have hx := Int.emul_emod_emod_helper x j d
  exact hx
 unfold beB; rw [e]
theorem be_mod : ∀ (w v : Nat) (x : Int), w ≤ v → be w (x % 2 ^ (8 * v)) = be w x
 | 0, _, _, _ => rfl
 | w + 1, v, x, h => by rw [be, be, beB_mod w v x (by omega), be_mod w v x (by omega)]
end Go.Proofs.YtinkaobaboffcaaGreatDoor.V
/- The plain law of a value's text: the sixty-four signs, the digits of sixteen. -/
namespace Go.Proofs.YtinkaobaboffcaaGreatDoor
open Go Go.RowKit V
set_option linter.unusedSimpArgs false
set_option linter.unusedVariables false
set_option maxRecDepth 10000
namespace TA
def signs : List UInt8 := [65, 66, 67, 68, 69, 70, 71, 72, 73, 74, 75, 76, 77, 78, 79, 80, 81, 82, 83, 84, 85, 86, 87, 88, 89, 90, 97, 98, 99, 100, 101, 102, 103, 104, 105, 106, 107, 108, 109, 110, 111, 112, 113, 114, 115, 116, 117, 118, 119, 120, 121, 122, 48, 49, 50, 51, 52, 53, 54, 55, 56, 57, 43, 47]
def dg (n : Nat) : UInt8 := signs.getD n 0
def num3 (g : List UInt8) : Nat := (g.getD 0 0).toNat * 65536 + (g.getD 1 0).toNat * 256 + (g.getD 2 0).toNat
def sign4 (g : List UInt8) (k : Nat) : UInt8 := if k > g.length then 61 else dg (num3 g / 64 ^ (3 - k) % 64)
def out4 (g : List UInt8) : List UInt8 := [sign4 g 0, sign4 g 1, sign4 g 2, sign4 g 3]
def b64F : Nat → List UInt8 → List UInt8
 | 0, _ => []
 | _ + 1, [] => []
 | f + 1, a :: l => out4 ((a :: l).take 3) ++ b64F f ((a :: l).drop 3)
def b64 (l : List UInt8) : List UInt8 := b64F (l.length + 1) l
theorem b64F_more : ∀ (f g : Nat) (l : List UInt8), l.length < f → l.length < g → b64F f l = b64F g l
 | 0, _, _, h, _ => by omega
 | _, 0, _, _, h => by omega
 | _ + 1, _ + 1, [], _, _ => rfl
 | f + 1, g + 1, a :: l, h1, h2 => by
  have hd : ((a :: l).drop 3).length < f ∧ ((a :: l).drop 3).length < g := by
   rw [List.length_drop]
   rw [List.length_cons] at h1 h2 ⊢
   omega
  unfold b64F
  rw [b64F_more f g _ hd.1 hd.2]
theorem b64_nil : b64 [] = [] := rfl
theorem b64_step {l : List UInt8} (h : l ≠ []) : b64 l = out4 (l.take 3) ++ b64 (l.drop 3) := by
 cases l with
 | nil => exact absurd rfl h
 | cons a l =>
  show out4 ((a :: l).take 3) ++ b64F (a :: l).length ((a :: l).drop 3) = _
  rw [b64F_more (a :: l).length (((a :: l).drop 3).length + 1) _ (by rw [List.length_drop, List.length_cons]; omega) (by omega)]
  rfl
theorem num3_lt (g : List UInt8) : num3 g < 16777216 := by
 have h0 := (g.getD 0 0).toNat_lt
 have h1 := (g.getD 1 0).toNat_lt
 have h2 := (g.getD 2 0).toNat_lt
 unfold num3; omega
theorem out4_len (g : List UInt8) : (out4 g).length = 4 := rfl
def hexs : List UInt8 := [48, 49, 50, 51, 52, 53, 54, 55, 56, 57, 97, 98, 99, 100, 101, 102]
def hx (n : Nat) : UInt8 := hexs.getD n 0
def hexF : Nat → Nat → List UInt8 → List UInt8
 | 0, _, acc => acc
 | f + 1, n, acc => if n < 16 then hx n :: acc else hexF f (n / 16) (hx (n % 16) :: acc)
def hex (n : Nat) : List UInt8 := hexF 17 n []
theorem hexF_len : ∀ (f n : Nat) (acc : List UInt8), (hexF f n acc).length ≤ f + acc.length
 | 0, _, _ => by simp [hexF]
 | f + 1, n, acc => by
  unfold hexF
  split
  ·rw [List.length_cons]; omega
  ·have := hexF_len f (n / 16) (hx (n % 16) :: acc)
   rw [List.length_cons] at this; omega
def hexB (l : List UInt8) : List UInt8 := l.flatMap fun b => [hx (b.toNat / 16), hx (b.toNat % 16)]
end TA
end Go.Proofs.YtinkaobaboffcaaGreatDoor
/- The texts of the reference. -/
namespace Go.Proofs.YtinkaobaboffcaaGreatDoor
open Go Go.RowKit V TA
set_option linter.unusedSimpArgs false
set_option linter.unusedVariables false
set_option maxRecDepth 10000
namespace TB
def sf (l : List UInt8) : Nat → List UInt8
 | 0 => []
 | i + 1 => sf l i ++ (if i = 4 ∨ i = 6 ∨ i = 8 ∨ i = 10 then [45] else []) ++ [hx ((l.getD i 0).toNat / 16), hx ((l.getD i 0).toNat % 16)]
theorem sf_len (l : List UInt8) : ∀ i, (sf l i).length ≤ 3 * i
 | 0 => Nat.le_refl _
 | i + 1 => by
  have := sf_len l i
  unfold sf
  rw [List.length_append, List.length_append]
  split <;> simp <;> omega
theorem cut_hex (n : Nat) (h : n < 16) : (hexs.take (n + 1)).drop n = [hx n] := by
 rcases (show n = 0 ∨ n = 1 ∨ n = 2 ∨ n = 3 ∨ n = 4 ∨ n = 5 ∨ n = 6 ∨ n = 7 ∨ n = 8 ∨ n = 9 ∨ n = 10 ∨ n = 11 ∨ n = 12 ∨ n = 13 ∨ n = 14 ∨ n = 15 by omega) with rfl | rfl | rfl | rfl | rfl | rfl | rfl | rfl | rfl | rfl | rfl | rfl | rfl | rfl | rfl | rfl <;> rfl
theorem cutH (x : Int) (h : 0 ≤ x ∧ x < 16) : cut [48, 49, 50, 51, 52, 53, 54, 55, 56, 57, 97, 98, 99, 100, 101, 102] x (x + 1) = [hx x.toNat] := by
 unfold cut
 rw [show (x + 1).toNat = x.toNat + 1 by omega]
 exact cut_hex x.toNat (by omega)
theorem sf_step {l : List UInt8} {i : Nat} {c d : Int} (hc : c = byteAt l i) (hd : d = byteAt l i) : sf l i ++ (if i = 4 ∨ i = 6 ∨ i = 8 ∨ i = 10 then [45] else []) ++ [hx (c / 16).toNat] ++ [hx (d % 16).toNat] = sf l (i + 1) := by
 subst hc hd
 have e1 : (byteAt l i / 16).toNat = (l.getD i 0).toNat / 16 := by unfold byteAt; rw [Int.toNat_natCast]; omega
 have e2 : (byteAt l i % 16).toNat = (l.getD i 0).toNat % 16 := by unfold byteAt; rw [Int.toNat_natCast]; omega
 rw [e1, e2, List.append_assoc (sf l i ++ _)]; rfl
theorem cut_sign : ∀ n, n < 64 → (signs.take (n + 1)).drop n = [dg n] := by decide
theorem cutS (n : Nat) (h : n < 64) : cut [65, 66, 67, 68, 69, 70, 71, 72, 73, 74, 75, 76, 77, 78, 79, 80, 81, 82, 83, 84, 85, 86, 87, 88, 89, 90, 97, 98, 99, 100, 101, 102, 103, 104, 105, 106, 107, 108, 109, 110, 111, 112, 113, 114, 115, 116, 117, 118, 119, 120, 121, 122, 48, 49, 50, 51, 52, 53, 54, 55, 56, 57, 43, 47] (n : Int) ((n : Int) + 1) = [dg n] := by
 unfold cut
 rw [show ((n : Int) + 1).toNat = n + 1 by omega, Int.toNat_natCast]
 exact cut_sign n h
def pn (g : List UInt8) : Nat → Nat
 | 0 => 0
 | k + 1 => pn g k * 256 + (g.getD k 0).toNat
theorem pn3 (g : List UInt8) : pn g 3 = num3 (g.take 3) := by
 have e : ∀ k, k < 3 → (g.take 3).getD k 0 = g.getD k 0 := fun k hk => by simp [List.getD_eq_getElem?_getD, List.getElem?_take, hk]
 unfold num3
 rw [e 0 (by omega), e 1 (by omega), e 2 (by omega)]
 simp only [pn]; omega
theorem and63 (n : Nat) (h : n < 16777216) : bitOp .and .i64 (n : Int) 63 = ((n % 64 : Nat) : Int) := by
 unfold bitOp
 have e : (BitVec.ofInt IntKind.i64.bits (n : Int) &&& BitVec.ofInt IntKind.i64.bits 63).toNat = n % 64 := by
  rw [BitVec.toNat_and]
  have h1 : (BitVec.ofInt IntKind.i64.bits 63).toNat = 63 := by decide
  have h2 : (BitVec.ofInt IntKind.i64.bits (n : Int)).toNat = n := by
   show (BitVec.ofInt 64 (n : Int)).toNat = _
   rw [BitVec.toNat_ofInt]
   show ((n : Int) % ((2 ^ 64 : Nat) : Int)).toNat = n
   omega
  rw [h1, h2]
  exact Nat.and_two_pow_sub_one_eq_mod n 6
 simp only [e]
 rw [wrap_in (by rw [i64_lo, i64_hi]; omega)]
theorem shr6 (n k : Nat) (hk : k ≤ 3) : (n : Int).fdiv (2 ^ (min ((18 : Int) - 6 * (k : Int)).toNat IntKind.i64.bits)) = ((n / 64 ^ (3 - k) : Nat) : Int) := by
 rcases (show k = 0 ∨ k = 1 ∨ k = 2 ∨ k = 3 by omega) with rfl | rfl | rfl | rfl
 ·rw [show min ((18 : Int) - 6 * ((0 : Nat) : Int)).toNat IntKind.i64.bits = 18 by decide, Int.fdiv_eq_ediv_of_nonneg _ (by decide)]; norm_cast
 ·rw [show min ((18 : Int) - 6 * ((1 : Nat) : Int)).toNat IntKind.i64.bits = 12 by decide, Int.fdiv_eq_ediv_of_nonneg _ (by decide)]; norm_cast
 ·rw [show min ((18 : Int) - 6 * ((2 : Nat) : Int)).toNat IntKind.i64.bits = 6 by decide, Int.fdiv_eq_ediv_of_nonneg _ (by decide)]; norm_cast
 ·rw [show min ((18 : Int) - 6 * ((3 : Nat) : Int)).toNat IntKind.i64.bits = 0 by decide, Int.fdiv_eq_ediv_of_nonneg _ (by decide)]; norm_cast
theorem out4_take (g : List UInt8) {k : Nat} (hk : k < 4) : (out4 g).take (k + 1) = (out4 g).take k ++ [sign4 g k] := by
 rcases (show k = 0 ∨ k = 1 ∨ k = 2 ∨ k = 3 by omega) with rfl | rfl | rfl | rfl <;> rfl
theorem getD_no {g : List UInt8} {k : Nat} (h : g.length ≤ k) : g.getD k 0 = 0 := by rw [List.getD_eq_getElem?_getD, List.getElem?_eq_none h]; rfl
theorem drop_getD (l : List UInt8) (i k : Nat) : (l.drop i).getD k 0 = l.getD (i + k) 0 := by simp [List.getD_eq_getElem?_getD]
theorem sign_pad {g : List UInt8} {k h : Nat} (hh : h = g.length) (hk : h < k) : sign4 g k = 61 := by unfold sign4; rw [if_pos (by omega)]
theorem sign_dg {g : List UInt8} {k h m : Nat} (hh : h = g.length) (hk : k ≤ h) (hm : m = num3 g) : sign4 g k = dg (m / 64 ^ (3 - k) % 64) := by unfold sign4; rw [if_neg (by omega), hm]
section
variable {P : Program} {n : Nat} {w0 : World} {ds : List Deferred} {fr : Fr} {H : List Hp} {dst : Option Tmp} {ty : TypeId} {pos : String} {aft : Array Edge} {g : Option (Nat × Bool)} {t t' : TypeId} {x y : Operand}
theorem oq_sh6 (m k : Nat) (hk : k ≤ 3) (hx : ev fr x = some (I (m : Int))) (hy : ev fr y = some (I ((18 : Int) - 6 * (k : Int)))) : OV P n w0 ⟨dst, .binOp .shr t x y t', ty, pos, aft, g⟩ (I ((m / 64 ^ (3 - k) : Nat) : Int)) ds fr H := by
 rw [← shr6 m k hk]
 exact oq_shr hx hy (by omega)
theorem oq_a63 (m : Nat) (h : m < 16777216) (hx : ev fr x = some (I (m : Int))) (hy : ev fr y = some (I 63)) : OV P n w0 ⟨dst, .binOp .and t x y t', ty, pos, aft, g⟩ (I ((m % 64 : Nat) : Int)) ds fr H := by
 have := oq_bits (op := .and) (P := P) (n := n) (w0 := w0) (ds := ds) (H := H) (dst := dst) (ty := ty) (pos := pos) (aft := aft) (g := g) (t := t) (t' := t') hx hy (by simp)
 rwa [and63 m h] at this
end
theorem sForm (l : List UInt8) (hl : l.length ≤ 400000) : Fn0 Tryz.prog 14 [S l] (S (sf l l.length)) := by
 refine Fn0.enter (n := 51) Tryz.func14 rfl rfl fun w0 => ?_
 refine WC.sub (fr' := [(0, _)]) ?_ ⟨rfl, trivial⟩
 refine WC.seq (WC.region ?_)
 refine WL.q (oq_assign rfl) rfl rfl rfl ?_
 refine WL.nil (WE.then_normal (WC.sub (fr' := [(0, _)]) ?_ ⟨rfl, trivial⟩))
 refine WC.seq (WC.region ?_)
 refine WL.q (oq_assign rfl) rfl rfl rfl ?_
 refine WL.nil (WE.then_normal (WC.sub (fr' := [(0, _), (3, _)]) ?_ ⟨rfl, rfl, trivial⟩))
 refine WC.seq (WC.seq (WC.region ?_))
 refine WL.q (oq_assign rfl) rfl rfl rfl ?_
 refine WL.nil (WE.then_normal (WC.sub (fr' := [(0, _), (3, _), (4, _)]) ?_ ⟨rfl, rfl, rfl, trivial⟩))
 refine WC.block ?_
 refine WC.loop (ι := Nat × (List UInt8)) (fun i_ => (fun (i : Nat) (out : List UInt8) => [(0, S l), (3, S out), (4, I (i : Int))]) i_.1 i_.2) (fun i_ => (fun (i : Nat) (out : List UInt8) => []) i_.1 i_.2) (fun i_ => (fun (i : Nat) (out : List UInt8) => i ≤ l.length ∧ out = sf l i) i_.1 i_.2) (fun i_ => (fun (i : Nat) (out : List UInt8) => l.length - i) i_.1 i_.2) ((0, [])) ?_ ⟨rfl, rfl, rfl, trivial⟩ (List.Perm.refl _) ?_
 ·try dsimp only
  exact ⟨by omega, rfl⟩
 ·rintro ⟨i, out⟩ hp
  try dsimp only at hp
  obtain ⟨hi, ho⟩ := hp
  show WC _ _ _ _ _ _ ([(0, S l), (3, S out), (4, I (i : Int))]) ([])
  refine WC.seq (WC.seq (WC.region ?_))
  refine WL.q (oq_move rfl) rfl rfl rfl ?_
  refine WL.q (oq_move rfl) rfl rfl rfl ?_
  refine WL.q (oq_len_s Tryz.underlying9 rfl) rfl rfl rfl ?_
  refine WL.q (oq_lss rfl rfl) rfl rfl rfl ?_
  refine WL.nil (WE.then_normal (WC.sub (fr' := [(0, _), (3, _), (4, _), (8, _)]) ?_ ⟨rfl, rfl, rfl, rfl, trivial⟩))
  refine WC.cond rfl (fun q3 => ?_) (fun q3 => ?_)
  ·
   try simp only [Z1, Z2, Z3, Z4, Z5, Z6, Z7, Z8, Z9, Z0] at q3
   refine WC.skip (WE.then_normal (WC.sub (fr' := [(0, _), (3, _), (4, _)]) ?_ ⟨rfl, rfl, rfl, trivial⟩))
   refine WC.seq (WC.block ?_)
   refine WC.cut (ι := (List UInt8)) (fun (o2 : List UInt8) => [(0, S l), (3, S o2), (4, I (i : Int))]) (fun (o2 : List UInt8) => []) (fun (o2 : List UInt8) => o2 = out ++ (if i = 4 ∨ i = 6 ∨ i = 8 ∨ i = 10 then [45] else []) ∧ o2.length ≤ 3 * i + 1) ?_ ?_
   ·
    refine WC.seq ?_
    have hsl := sf_len l i
    rw [← ho] at hsl
    refine WC.region ?_
    refine WL.q (oq_move rfl) rfl rfl rfl ?_
    refine WL.q (oq_eql rfl rfl) rfl rfl rfl ?_
    refine WL.q (oq_move rfl) rfl rfl rfl ?_
    refine WL.split 13 rfl (fun s5_2 => ?_) (fun s5_2 => ?_)
    ·
     try simp only [Z1, Z2, Z3, Z4, Z5, Z6, Z7, Z8, Z9, Z0] at s5_2
     refine WL.skip rfl rfl rfl ?_
     refine WL.skip rfl rfl rfl ?_
     refine WL.q (oq_pick_t rfl rfl) rfl rfl rfl ?_
     refine WL.q (oq_move rfl) rfl rfl rfl ?_
     refine WL.skip rfl rfl rfl ?_
     refine WL.skip rfl rfl rfl ?_
     refine WL.q (oq_pick_t rfl rfl) rfl rfl rfl ?_
     refine WL.q (oq_move rfl) rfl rfl rfl ?_
     refine WL.skip rfl rfl rfl ?_
     refine WL.skip rfl rfl rfl ?_
     refine WL.q (oq_pick_t rfl rfl) rfl rfl rfl ?_
     refine WL.nil (WE.then_normal (WC.sub (fr' := [(0, _), (3, _), (4, _), (24, _)]) ?_ ⟨rfl, rfl, rfl, rfl, trivial⟩))
     refine WC.cond_t rfl ?_
     refine WC.region ?_
     refine WL.q (oq_move rfl) rfl rfl rfl ?_
     refine WL.q (oq_concat rfl rfl (by (first | omega | (simp only [List.length_cons, List.length_nil, List.length_append, List.length_drop, List.length_take]; omega)))) rfl rfl rfl ?_
     refine WL.q (oq_assign rfl) rfl rfl rfl ?_
     refine WL.nil ?_
     refine WE.meet _ ?_ ⟨rfl, rfl, rfl, trivial⟩ (List.Perm.refl _)
     try dsimp only
     first | exact ⟨by rw [if_pos (by omega)], by rw [List.length_append]; simp; omega⟩ | exact ⟨by rw [if_neg (by omega), List.append_nil], by omega⟩
    ·
     try simp only [Z1, Z2, Z3, Z4, Z5, Z6, Z7, Z8, Z9, Z0] at s5_2
     refine WL.q (oq_move rfl) rfl rfl rfl ?_
     refine WL.q (oq_eql rfl rfl) rfl rfl rfl ?_
     refine WL.q (oq_pick_f rfl rfl) rfl rfl rfl ?_
     refine WL.q (oq_move rfl) rfl rfl rfl ?_
     refine WL.split 17 rfl (fun s5_6 => ?_) (fun s5_6 => ?_)
     ·
      try simp only [Z1, Z2, Z3, Z4, Z5, Z6, Z7, Z8, Z9, Z0] at s5_6
      refine WL.skip rfl rfl rfl ?_
      refine WL.skip rfl rfl rfl ?_
      refine WL.q (oq_pick_t rfl rfl) rfl rfl rfl ?_
      refine WL.q (oq_move rfl) rfl rfl rfl ?_
      refine WL.skip rfl rfl rfl ?_
      refine WL.skip rfl rfl rfl ?_
      refine WL.q (oq_pick_t rfl rfl) rfl rfl rfl ?_
      refine WL.nil (WE.then_normal (WC.sub (fr' := [(0, _), (3, _), (4, _), (24, _)]) ?_ ⟨rfl, rfl, rfl, rfl, trivial⟩))
      refine WC.cond_t rfl ?_
      refine WC.region ?_
      refine WL.q (oq_move rfl) rfl rfl rfl ?_
      refine WL.q (oq_concat rfl rfl (by (first | omega | (simp only [List.length_cons, List.length_nil, List.length_append, List.length_drop, List.length_take]; omega)))) rfl rfl rfl ?_
      refine WL.q (oq_assign rfl) rfl rfl rfl ?_
      refine WL.nil ?_
      refine WE.meet _ ?_ ⟨rfl, rfl, rfl, trivial⟩ (List.Perm.refl _)
      try dsimp only
      first | exact ⟨by rw [if_pos (by omega)], by rw [List.length_append]; simp; omega⟩ | exact ⟨by rw [if_neg (by omega), List.append_nil], by omega⟩
     ·
      try simp only [Z1, Z2, Z3, Z4, Z5, Z6, Z7, Z8, Z9, Z0] at s5_6
      refine WL.q (oq_move rfl) rfl rfl rfl ?_
      refine WL.q (oq_eql rfl rfl) rfl rfl rfl ?_
      refine WL.q (oq_pick_f rfl rfl) rfl rfl rfl ?_
      refine WL.q (oq_move rfl) rfl rfl rfl ?_
      refine WL.split 21 rfl (fun s5_10 => ?_) (fun s5_10 => ?_)
      ·
       try simp only [Z1, Z2, Z3, Z4, Z5, Z6, Z7, Z8, Z9, Z0] at s5_10
       refine WL.skip rfl rfl rfl ?_
       refine WL.skip rfl rfl rfl ?_
       refine WL.q (oq_pick_t rfl rfl) rfl rfl rfl ?_
       refine WL.nil (WE.then_normal (WC.sub (fr' := [(0, _), (3, _), (4, _), (24, _)]) ?_ ⟨rfl, rfl, rfl, rfl, trivial⟩))
       refine WC.cond_t rfl ?_
       refine WC.region ?_
       refine WL.q (oq_move rfl) rfl rfl rfl ?_
       refine WL.q (oq_concat rfl rfl (by (first | omega | (simp only [List.length_cons, List.length_nil, List.length_append, List.length_drop, List.length_take]; omega)))) rfl rfl rfl ?_
       refine WL.q (oq_assign rfl) rfl rfl rfl ?_
       refine WL.nil ?_
       refine WE.meet _ ?_ ⟨rfl, rfl, rfl, trivial⟩ (List.Perm.refl _)
       try dsimp only
       first | exact ⟨by rw [if_pos (by omega)], by rw [List.length_append]; simp; omega⟩ | exact ⟨by rw [if_neg (by omega), List.append_nil], by omega⟩
      ·
       try simp only [Z1, Z2, Z3, Z4, Z5, Z6, Z7, Z8, Z9, Z0] at s5_10
       refine WL.q (oq_move rfl) rfl rfl rfl ?_
       refine WL.q (oq_eql rfl rfl) rfl rfl rfl ?_
       refine WL.q (oq_pick_f rfl rfl) rfl rfl rfl ?_
       refine WL.nil (WE.then_normal (WC.sub (fr' := [(0, _), (3, _), (4, _), (24, _)]) ?_ ⟨rfl, rfl, rfl, rfl, trivial⟩))
       refine WC.cond rfl (fun q5 => ?_) (fun q5 => ?_)
       ·
        try simp only [Z1, Z2, Z3, Z4, Z5, Z6, Z7, Z8, Z9, Z0] at q5
        refine WC.region ?_
        refine WL.q (oq_move rfl) rfl rfl rfl ?_
        refine WL.q (oq_concat rfl rfl (by (first | omega | (simp only [List.length_cons, List.length_nil, List.length_append, List.length_drop, List.length_take]; omega)))) rfl rfl rfl ?_
        refine WL.q (oq_assign rfl) rfl rfl rfl ?_
        refine WL.nil ?_
        refine WE.meet _ ?_ ⟨rfl, rfl, rfl, trivial⟩ (List.Perm.refl _)
        try dsimp only
        first | exact ⟨by rw [if_pos (by omega)], by rw [List.length_append]; simp; omega⟩ | exact ⟨by rw [if_neg (by omega), List.append_nil], by omega⟩
       ·
        try simp only [Z1, Z2, Z3, Z4, Z5, Z6, Z7, Z8, Z9, Z0] at q5
        refine WC.skip ?_
        refine WE.meet _ ?_ ⟨rfl, rfl, rfl, trivial⟩ (List.Perm.refl _)
        try dsimp only
        first | exact ⟨by rw [if_pos (by omega)], by rw [List.length_append]; simp; omega⟩ | exact ⟨by rw [if_neg (by omega), List.append_nil], by omega⟩
   ·rintro o2 hp
    try dsimp only at hp
    obtain ⟨ho2, hl2⟩ := hp
    show WC _ _ _ _ _ _ ([(0, S l), (3, S o2), (4, I (i : Int))]) ([])
    have hlt : i < l.length := by omega
    refine WC.quiet (by kernel_rfl) (by kernel_rfl) ?_
    refine WQ.q (oq_move rfl) rfl rfl rfl ?_
    refine WQ.q (oq_move rfl) rfl rfl rfl ?_
    refine WQ.q (oq_move rfl) rfl rfl rfl ?_
    refine WQ.index_s Tryz.underlying9 rfl rfl (by (first | omega | (simp only [List.length_cons, List.length_nil, List.length_append, List.length_drop, List.length_take]; omega))) rfl rfl fun c7_3 hc7_3 hc7_3l hc7_3u => ?_
    refine WQ.q (oq_shrl 16 rfl rfl (by decide) (by decide)) rfl rfl rfl ?_
    refine WQ.q (oq_move rfl) rfl rfl rfl ?_
    refine WQ.q (oq_move rfl) rfl rfl rfl ?_
    refine WQ.index_s Tryz.underlying9 rfl rfl (by (first | omega | (simp only [List.length_cons, List.length_nil, List.length_append, List.length_drop, List.length_take]; omega))) rfl rfl fun c7_7 hc7_7 hc7_7l hc7_7u => ?_
    refine WQ.q (oq_shrl 16 rfl rfl (by decide) (by decide)) rfl rfl rfl ?_
    refine WQ.q (oq_add rfl rfl (by rw [u8_lo, u8_hi]; (first | omega | (simp only [List.length_cons, List.length_nil, List.length_append, List.length_drop, List.length_take]; omega)))) rfl rfl rfl ?_
    refine WQ.q (oq_slice_s2 Tryz.underlying9 rfl rfl rfl (by (first | omega | (simp only [List.length_cons, List.length_nil, List.length_append, List.length_drop, List.length_take]; omega)))) rfl rfl rfl ?_
    obtain rfl : c7_7 = c7_3 := by rw [hc7_3, hc7_7]
    rw [cutH (c7_7 / 16) (by omega)]
    refine WQ.q (oq_concat rfl rfl (by (first | omega | (simp only [List.length_cons, List.length_nil, List.length_append, List.length_drop, List.length_take]; omega)))) rfl rfl rfl ?_
    refine WQ.q (oq_move rfl) rfl rfl rfl ?_
    refine WQ.q (oq_move rfl) rfl rfl rfl ?_
    refine WQ.index_s Tryz.underlying9 rfl rfl (by (first | omega | (simp only [List.length_cons, List.length_nil, List.length_append, List.length_drop, List.length_take]; omega))) rfl rfl fun c7_14 hc7_14 hc7_14l hc7_14u => ?_
    refine WQ.q (oq_mask 4 16 rfl rfl (by rw [u8_hi]; omega) (by decide) (by decide) (by decide)) rfl rfl rfl ?_
    refine WQ.q (oq_move rfl) rfl rfl rfl ?_
    refine WQ.q (oq_move rfl) rfl rfl rfl ?_
    refine WQ.index_s Tryz.underlying9 rfl rfl (by (first | omega | (simp only [List.length_cons, List.length_nil, List.length_append, List.length_drop, List.length_take]; omega))) rfl rfl fun c7_18 hc7_18 hc7_18l hc7_18u => ?_
    refine WQ.q (oq_mask 4 16 rfl rfl (by rw [u8_hi]; omega) (by decide) (by decide) (by decide)) rfl rfl rfl ?_
    refine WQ.q (oq_add rfl rfl (by rw [u8_lo, u8_hi]; (first | omega | (simp only [List.length_cons, List.length_nil, List.length_append, List.length_drop, List.length_take]; omega)))) rfl rfl rfl ?_
    refine WQ.q (oq_slice_s2 Tryz.underlying9 rfl rfl rfl (by (first | omega | (simp only [List.length_cons, List.length_nil, List.length_append, List.length_drop, List.length_take]; omega)))) rfl rfl rfl ?_
    obtain rfl : c7_18 = c7_14 := by rw [hc7_14, hc7_18]
    rw [cutH (c7_18 % 16) (by omega)]
    refine WQ.q (oq_concat rfl rfl (by (first | omega | (simp only [List.length_cons, List.length_nil, List.length_append, List.length_drop, List.length_take]; omega)))) rfl rfl rfl ?_
    refine WQ.q (oq_assign rfl) rfl rfl rfl ?_
    refine WQ.nil (WE.block_normal (WE.then_normal (WC.sub (fr' := [(0, _), (3, _), (4, _)]) ?_ ⟨rfl, rfl, rfl, trivial⟩)))
    refine WC.region ?_
    refine WL.q (oq_move rfl) rfl rfl rfl ?_
    refine WL.q (oq_add rfl rfl (by rw [i64_lo, i64_hi]; (first | omega | (simp only [List.length_cons, List.length_nil, List.length_append, List.length_drop, List.length_take]; omega)))) rfl rfl rfl ?_
    refine WL.q (oq_assign rfl) rfl rfl rfl ?_
    refine WL.nil ?_
    refine WE.again (i + 1, _) ?_ ?_ ⟨rfl, rfl, rfl, trivial⟩ (List.Perm.refl _)
    ·try dsimp only
     exact ⟨by omega, by rw [ho2, ho]; exact sf_step hc7_3 hc7_14⟩
    ·(try dsimp only); omega
  ·
   try simp only [Z1, Z2, Z3, Z4, Z5, Z6, Z7, Z8, Z9, Z0] at q3
   refine WC.exit (WE.then_exit (WE.then_exit (WE.block_same (WE.then_normal (WC.sub (fr' := [(3, _)]) ?_ ⟨rfl, trivial⟩)))))
   refine WC.seq (WC.region ?_)
   refine WL.q (oq_move rfl) rfl rfl rfl ?_
   refine WL.q (oq_assign rfl) rfl rfl rfl ?_
   refine WL.nil (WE.then_normal (WC.sub (fr' := [(2, _)]) ?_ ⟨rfl, trivial⟩))
   refine WC.ret ?_
   refine WE.end0 (.inl rfl) (res1 Tryz.results14 rfl) ?_
   obtain rfl : i = l.length := by omega
   rw [ho]
theorem xBase64 (l : List UInt8) (hl : l.length ≤ 400000) : Fn0 Tryz.prog 12 [S l] (S (b64 l)) := by
 refine Fn0.enter (n := 60) Tryz.func12 rfl rfl fun w0 => ?_
 refine WC.sub (fr' := [(0, _)]) ?_ ⟨rfl, trivial⟩
 refine WC.seq (WC.region ?_)
 refine WL.q (oq_assign rfl) rfl rfl rfl ?_
 refine WL.nil (WE.then_normal (WC.sub (fr' := [(0, _)]) ?_ ⟨rfl, trivial⟩))
 refine WC.seq (WC.region ?_)
 refine WL.q (oq_assign rfl) rfl rfl rfl ?_
 refine WL.nil (WE.then_normal (WC.sub (fr' := [(0, _), (3, _)]) ?_ ⟨rfl, rfl, trivial⟩))
 refine WC.seq (WC.seq (WC.region ?_))
 refine WL.q (oq_assign rfl) rfl rfl rfl ?_
 refine WL.nil (WE.then_normal (WC.sub (fr' := [(0, _), (3, _), (4, _)]) ?_ ⟨rfl, rfl, rfl, trivial⟩))
 refine WC.block ?_
 refine WC.loop (ι := Nat × (List UInt8)) (fun i_ => (fun (i : Nat) (out : List UInt8) => [(0, S l), (3, S out), (4, I (i : Int))]) i_.1 i_.2) (fun i_ => (fun (i : Nat) (out : List UInt8) => []) i_.1 i_.2) (fun i_ => (fun (i : Nat) (out : List UInt8) => i ≤ l.length + 2 ∧ out ++ b64 (l.drop i) = b64 l ∧ out.length ≤ 2 * i) i_.1 i_.2) (fun i_ => (fun (i : Nat) (out : List UInt8) => l.length + 3 - i) i_.1 i_.2) ((0, [])) ?_ ⟨rfl, rfl, rfl, trivial⟩ (List.Perm.refl _) ?_
 ·try dsimp only
  exact ⟨by omega, rfl, by simp⟩
 ·rintro ⟨i, out⟩ hp
  try dsimp only at hp
  obtain ⟨hi, ho, hol⟩ := hp
  show WC _ _ _ _ _ _ ([(0, S l), (3, S out), (4, I (i : Int))]) ([])
  refine WC.seq (WC.seq (WC.region ?_))
  refine WL.q (oq_move rfl) rfl rfl rfl ?_
  refine WL.q (oq_move rfl) rfl rfl rfl ?_
  refine WL.q (oq_len_s Tryz.underlying9 rfl) rfl rfl rfl ?_
  refine WL.q (oq_lss rfl rfl) rfl rfl rfl ?_
  refine WL.nil (WE.then_normal (WC.sub (fr' := [(0, _), (3, _), (4, _), (13, _)]) ?_ ⟨rfl, rfl, rfl, rfl, trivial⟩))
  refine WC.cond rfl (fun q3 => ?_) (fun q3 => ?_)
  ·
   try simp only [Z1, Z2, Z3, Z4, Z5, Z6, Z7, Z8, Z9, Z0] at q3
   refine WC.skip (WE.then_normal (WC.sub (fr' := [(0, _), (3, _), (4, _)]) ?_ ⟨rfl, rfl, rfl, trivial⟩))
   refine WC.seq (WC.block (WC.seq (WC.region ?_)))
   refine WL.q (oq_assign rfl) rfl rfl rfl ?_
   refine WL.q (oq_assign rfl) rfl rfl rfl ?_
   refine WL.nil (WE.then_normal (WC.sub (fr' := [(0, _), (3, _), (4, _), (5, _), (6, _)]) ?_ ⟨rfl, rfl, rfl, rfl, rfl, trivial⟩))
   refine WC.seq (WC.seq (WC.region ?_))
   refine WL.q (oq_assign rfl) rfl rfl rfl ?_
   refine WL.nil (WE.then_normal (WC.sub (fr' := [(0, _), (3, _), (4, _), (5, _), (6, _), (7, _)]) ?_ ⟨rfl, rfl, rfl, rfl, rfl, rfl, trivial⟩))
   refine WC.block ?_
   refine WC.loop (ι := Nat × Nat × Nat) (fun i_ => (fun (k : Nat) (m : Nat) (hv : Nat) => [(0, S l), (3, S out), (4, I (i : Int)), (5, I (m : Int)), (6, I (hv : Int)), (7, I (k : Int))]) i_.1 i_.2.1 i_.2.2) (fun i_ => (fun (k : Nat) (m : Nat) (hv : Nat) => []) i_.1 i_.2.1 i_.2.2) (fun i_ => (fun (k : Nat) (m : Nat) (hv : Nat) => k ≤ 3 ∧ m = pn (l.drop i) k ∧ hv = min k (l.length - i) ∧ m < 256 ^ k) i_.1 i_.2.1 i_.2.2) (fun i_ => (fun (k : Nat) (m : Nat) (hv : Nat) => 3 - k) i_.1 i_.2.1 i_.2.2) ((0, 0, 0)) ?_ ⟨rfl, rfl, rfl, rfl, rfl, rfl, trivial⟩ (List.Perm.refl _) ?_
   ·try dsimp only
    exact ⟨by omega, rfl, by omega, by decide⟩
   ·rintro ⟨k, m, hv⟩ hp
    try dsimp only at hp
    obtain ⟨hk, hm, hh, hmb⟩ := hp
    show WC _ _ _ _ _ _ ([(0, S l), (3, S out), (4, I (i : Int)), (5, I (m : Int)), (6, I (hv : Int)), (7, I (k : Int))]) ([])
    refine WC.seq (WC.seq (WC.region ?_))
    refine WL.q (oq_move rfl) rfl rfl rfl ?_
    refine WL.q (oq_lss rfl rfl) rfl rfl rfl ?_
    refine WL.nil (WE.then_normal (WC.sub (fr' := [(0, _), (3, _), (4, _), (5, _), (6, _), (7, _), (17, _)]) ?_ ⟨rfl, rfl, rfl, rfl, rfl, rfl, rfl, trivial⟩))
    refine WC.cond rfl (fun q7 => ?_) (fun q7 => ?_)
    ·
     try simp only [Z1, Z2, Z3, Z4, Z5, Z6, Z7, Z8, Z9, Z0] at q7
     refine WC.skip (WE.then_normal (WC.sub (fr' := [(0, _), (3, _), (4, _), (5, _), (6, _), (7, _)]) ?_ ⟨rfl, rfl, rfl, rfl, rfl, rfl, trivial⟩))
     refine WC.seq (WC.block (WC.seq ?_))
     have hk3 : k < 3 := by omega
     have h256 : 256 ^ k ≤ 65536 := by rcases (show k = 0 ∨ k = 1 ∨ k = 2 by omega) with rfl | rfl | rfl <;> decide
     refine WC.region ?_
     refine WL.q (oq_move rfl) rfl rfl rfl ?_
     refine WL.q (oq_mul rfl rfl (by rw [i64_lo, i64_hi]; (first | omega | (simp only [List.length_cons, List.length_nil, List.length_append, List.length_drop, List.length_take]; omega)))) rfl rfl rfl ?_
     refine WL.q (oq_assign rfl) rfl rfl rfl ?_
     refine WL.nil (WE.then_normal (WC.sub (fr' := [(0, _), (3, _), (4, _), (5, _), (6, _), (7, _)]) ?_ ⟨rfl, rfl, rfl, rfl, rfl, rfl, trivial⟩))
     refine WC.seq (WC.region ?_)
     refine WL.q (oq_move rfl) rfl rfl rfl ?_
     refine WL.q (oq_move rfl) rfl rfl rfl ?_
     refine WL.q (oq_add rfl rfl (by rw [i64_lo, i64_hi]; (first | omega | (simp only [List.length_cons, List.length_nil, List.length_append, List.length_drop, List.length_take]; omega)))) rfl rfl rfl ?_
     refine WL.q (oq_move rfl) rfl rfl rfl ?_
     refine WL.q (oq_len_s Tryz.underlying9 rfl) rfl rfl rfl ?_
     refine WL.q (oq_lss rfl rfl) rfl rfl rfl ?_
     refine WL.nil (WE.then_normal (WC.sub (fr' := [(0, _), (3, _), (4, _), (5, _), (6, _), (7, _), (27, _)]) ?_ ⟨rfl, rfl, rfl, rfl, rfl, rfl, rfl, trivial⟩))
     refine WC.cond rfl (fun q10 => ?_) (fun q10 => ?_)
     ·
      try simp only [Z1, Z2, Z3, Z4, Z5, Z6, Z7, Z8, Z9, Z0] at q10
      refine WC.seq (WC.region ?_)
      refine WL.q (oq_move rfl) rfl rfl rfl ?_
      refine WL.q (oq_move rfl) rfl rfl rfl ?_
      refine WL.q (oq_move rfl) rfl rfl rfl ?_
      refine WL.q (oq_move rfl) rfl rfl rfl ?_
      refine WL.q (oq_add rfl rfl (by rw [i64_lo, i64_hi]; (first | omega | (simp only [List.length_cons, List.length_nil, List.length_append, List.length_drop, List.length_take]; omega)))) rfl rfl rfl ?_
      refine WL.index_s Tryz.underlying9 rfl rfl (by (first | omega | (simp only [List.length_cons, List.length_nil, List.length_append, List.length_drop, List.length_take]; omega))) rfl rfl fun c11_5 hc11_5 hc11_5l hc11_5u => ?_
      refine WL.q (oq_conv Tryz.underlying5 Tryz.underlying3 rfl (by rw [i64_lo, i64_hi]; (first | omega | (simp only [List.length_cons, List.length_nil, List.length_append, List.length_drop, List.length_take]; omega)))) rfl rfl rfl ?_
      obtain rfl : c11_5 = (((l.drop i).getD k 0).toNat : Int) := by rw [hc11_5, drop_getD]; rfl
      refine WL.q (oq_add rfl rfl (by rw [i64_lo, i64_hi]; (first | omega | (simp only [List.length_cons, List.length_nil, List.length_append, List.length_drop, List.length_take]; omega)))) rfl rfl rfl ?_
      refine WL.q (oq_assign rfl) rfl rfl rfl ?_
      refine WL.nil (WE.then_normal (WC.sub (fr' := [(0, _), (3, _), (4, _), (5, _), (6, _), (7, _)]) ?_ ⟨rfl, rfl, rfl, rfl, rfl, rfl, trivial⟩))
      refine WC.region ?_
      refine WL.q (oq_move rfl) rfl rfl rfl ?_
      refine WL.q (oq_add rfl rfl (by rw [i64_lo, i64_hi]; (first | omega | (simp only [List.length_cons, List.length_nil, List.length_append, List.length_drop, List.length_take]; omega)))) rfl rfl rfl ?_
      refine WL.q (oq_assign rfl) rfl rfl rfl ?_
      refine WL.nil (WE.block_normal (WE.then_normal (WC.sub (fr' := [(0, _), (3, _), (4, _), (5, _), (6, _), (7, _)]) ?_ ⟨rfl, rfl, rfl, rfl, rfl, rfl, trivial⟩)))
      refine WC.region ?_
      refine WL.q (oq_move rfl) rfl rfl rfl ?_
      refine WL.q (oq_add rfl rfl (by rw [i64_lo, i64_hi]; (first | omega | (simp only [List.length_cons, List.length_nil, List.length_append, List.length_drop, List.length_take]; omega)))) rfl rfl rfl ?_
      refine WL.q (oq_assign rfl) rfl rfl rfl ?_
      refine WL.nil ?_
      refine WE.again (k + 1, m * 256 + ((l.drop i).getD k 0).toNat, hv + 1) ?_ ?_ ⟨rfl, rfl, rfl, rfl, rfl, rfl, trivial⟩ (List.Perm.refl _)
      ·try dsimp only
       refine ⟨by omega, by rw [hm]; rfl, by omega, ?_⟩
       have hx := ((l.drop i).getD k 0).toNat_lt
       rw [Nat.pow_succ]
       omega
      ·(try dsimp only); omega
     ·
      try simp only [Z1, Z2, Z3, Z4, Z5, Z6, Z7, Z8, Z9, Z0] at q10
      refine WC.skip (WE.block_normal (WE.then_normal (WC.sub (fr' := [(0, _), (3, _), (4, _), (5, _), (6, _), (7, _)]) ?_ ⟨rfl, rfl, rfl, rfl, rfl, rfl, trivial⟩)))
      refine WC.region ?_
      refine WL.q (oq_move rfl) rfl rfl rfl ?_
      refine WL.q (oq_add rfl rfl (by rw [i64_lo, i64_hi]; (first | omega | (simp only [List.length_cons, List.length_nil, List.length_append, List.length_drop, List.length_take]; omega)))) rfl rfl rfl ?_
      refine WL.q (oq_assign rfl) rfl rfl rfl ?_
      refine WL.nil ?_
      refine WE.again (k + 1, m * 256, hv) ?_ ?_ ⟨rfl, rfl, rfl, rfl, rfl, rfl, trivial⟩ (List.Perm.refl _)
      ·try dsimp only
       refine ⟨by omega, ?_, by omega, by rw [Nat.pow_succ]; omega⟩
       rw [hm]
       show _ = pn (l.drop i) k * 256 + ((l.drop i).getD k 0).toNat
       rw [getD_no (g := (l.drop i)) (k := k) (by rw [List.length_drop]; omega)]
       rfl
      ·(try dsimp only); omega
    ·
     try simp only [Z1, Z2, Z3, Z4, Z5, Z6, Z7, Z8, Z9, Z0] at q7
     refine WC.exit (WE.then_exit (WE.then_exit (WE.block_same (WE.then_normal (WC.sub (fr' := [(0, _), (3, _), (4, _), (5, _), (6, _)]) ?_ ⟨rfl, rfl, rfl, rfl, rfl, trivial⟩)))))
     refine WC.seq ?_
     obtain rfl : k = 3 := by omega
     rw [pn3] at hm
     have hmb2 : m < 16777216 := by rw [hm]; exact num3_lt _
     have hhv : hv = ((l.drop i).take 3).length := by rw [List.length_take, List.length_drop]; omega
     refine WC.region ?_
     refine WL.q (oq_assign rfl) rfl rfl rfl ?_
     refine WL.nil (WE.then_normal (WC.sub (fr' := [(0, _), (3, _), (4, _), (5, _), (6, _), (8, _)]) ?_ ⟨rfl, rfl, rfl, rfl, rfl, rfl, trivial⟩))
     refine WC.block ?_
     refine WC.loop (ι := Nat × (List UInt8)) (fun i_ => (fun (k : Nat) (o : List UInt8) => [(0, S l), (3, S o), (4, I (i : Int)), (5, I (m : Int)), (6, I (hv : Int)), (8, I (k : Int))]) i_.1 i_.2) (fun i_ => (fun (k : Nat) (o : List UInt8) => []) i_.1 i_.2) (fun i_ => (fun (k : Nat) (o : List UInt8) => k ≤ 4 ∧ o = out ++ (out4 ((l.drop i).take 3)).take k ∧ o.length = out.length + k) i_.1 i_.2) (fun i_ => (fun (k : Nat) (o : List UInt8) => 4 - k) i_.1 i_.2) ((0, out)) ?_ ⟨rfl, rfl, rfl, rfl, rfl, rfl, trivial⟩ (List.Perm.refl _) ?_
     ·try dsimp only
      exact ⟨by omega, by simp, rfl⟩
     ·rintro ⟨k, o⟩ hp
      try dsimp only at hp
      obtain ⟨hk4, ho4, hol4⟩ := hp
      show WC _ _ _ _ _ _ ([(0, S l), (3, S o), (4, I (i : Int)), (5, I (m : Int)), (6, I (hv : Int)), (8, I (k : Int))]) ([])
      refine WC.seq (WC.seq (WC.region ?_))
      refine WL.q (oq_move rfl) rfl rfl rfl ?_
      refine WL.q (oq_lss rfl rfl) rfl rfl rfl ?_
      refine WL.nil (WE.then_normal (WC.sub (fr' := [(0, _), (3, _), (4, _), (5, _), (6, _), (8, _), (39, _)]) ?_ ⟨rfl, rfl, rfl, rfl, rfl, rfl, rfl, trivial⟩))
      refine WC.cond rfl (fun q14 => ?_) (fun q14 => ?_)
      ·
       try simp only [Z1, Z2, Z3, Z4, Z5, Z6, Z7, Z8, Z9, Z0] at q14
       refine WC.skip (WE.then_normal (WC.sub (fr' := [(0, _), (3, _), (4, _), (5, _), (6, _), (8, _)]) ?_ ⟨rfl, rfl, rfl, rfl, rfl, rfl, trivial⟩))
       refine WC.seq (WC.block (WC.seq (WC.region ?_)))
       refine WL.q (oq_move rfl) rfl rfl rfl ?_
       refine WL.q (oq_move rfl) rfl rfl rfl ?_
       refine WL.q (oq_mul rfl rfl (by rw [i64_lo, i64_hi]; (first | omega | (simp only [List.length_cons, List.length_nil, List.length_append, List.length_drop, List.length_take]; omega)))) rfl rfl rfl ?_
       refine WL.q (oq_sub rfl rfl (by rw [i64_lo, i64_hi]; (first | omega | (simp only [List.length_cons, List.length_nil, List.length_append, List.length_drop, List.length_take]; omega)))) rfl rfl rfl ?_
       refine WL.q (oq_sh6 m k (by omega) rfl rfl) rfl rfl rfl ?_
       have hdv := Nat.div_le_self m (64 ^ (3 - k))
       refine WL.q (oq_a63 _ (by omega) rfl rfl) rfl rfl rfl ?_
       refine WL.q (oq_assign rfl) rfl rfl rfl ?_
       refine WL.nil (WE.then_normal (WC.sub (fr' := [(0, _), (3, _), (4, _), (5, _), (6, _), (8, _), (9, _)]) ?_ ⟨rfl, rfl, rfl, rfl, rfl, rfl, rfl, trivial⟩))
       refine WC.seq (WC.region ?_)
       refine WL.q (oq_move rfl) rfl rfl rfl ?_
       refine WL.q (oq_move rfl) rfl rfl rfl ?_
       refine WL.q (oq_gtr rfl rfl) rfl rfl rfl ?_
       refine WL.nil (WE.then_normal (WC.sub (fr' := [(0, _), (3, _), (4, _), (5, _), (6, _), (8, _), (9, _), (50, _)]) ?_ ⟨rfl, rfl, rfl, rfl, rfl, rfl, rfl, rfl, trivial⟩))
       refine WC.cond rfl (fun q17 => ?_) (fun q17 => ?_)
       ·
        try simp only [Z1, Z2, Z3, Z4, Z5, Z6, Z7, Z8, Z9, Z0] at q17
        refine WC.region ?_
        refine WL.q (oq_move rfl) rfl rfl rfl ?_
        refine WL.q (oq_concat rfl rfl (by (first | omega | (simp only [List.length_cons, List.length_nil, List.length_append, List.length_drop, List.length_take]; omega)))) rfl rfl rfl ?_
        refine WL.q (oq_assign rfl) rfl rfl rfl ?_
        refine WL.nil (WE.block_normal (WE.then_normal (WC.sub (fr' := [(0, _), (3, _), (4, _), (5, _), (6, _), (8, _)]) ?_ ⟨rfl, rfl, rfl, rfl, rfl, rfl, trivial⟩)))
        refine WC.region ?_
        refine WL.q (oq_move rfl) rfl rfl rfl ?_
        refine WL.q (oq_add rfl rfl (by rw [i64_lo, i64_hi]; (first | omega | (simp only [List.length_cons, List.length_nil, List.length_append, List.length_drop, List.length_take]; omega)))) rfl rfl rfl ?_
        refine WL.q (oq_assign rfl) rfl rfl rfl ?_
        refine WL.nil ?_
        refine WE.again (k + 1, _) ?_ ?_ ⟨rfl, rfl, rfl, rfl, rfl, rfl, trivial⟩ (List.Perm.refl _)
        ·try dsimp only
         refine ⟨by omega, ?_, by rw [List.length_append]; simp; omega⟩
         rw [ho4, out4_take _ (by omega), sign_pad hhv (by omega), List.append_assoc]
        ·(try dsimp only); omega
       ·
        try simp only [Z1, Z2, Z3, Z4, Z5, Z6, Z7, Z8, Z9, Z0] at q17
        refine WC.region ?_
        refine WL.q (oq_move rfl) rfl rfl rfl ?_
        refine WL.q (oq_move rfl) rfl rfl rfl ?_
        refine WL.q (oq_move rfl) rfl rfl rfl ?_
        refine WL.q (oq_add rfl rfl (by rw [i64_lo, i64_hi]; (first | omega | (simp only [List.length_cons, List.length_nil, List.length_append, List.length_drop, List.length_take]; omega)))) rfl rfl rfl ?_
        refine WL.q (oq_slice_s2 Tryz.underlying9 rfl rfl rfl (by (first | omega | (simp only [List.length_cons, List.length_nil, List.length_append, List.length_drop, List.length_take]; omega)))) rfl rfl rfl ?_
        rw [cutS (m / 64 ^ (3 - k) % 64) (Nat.mod_lt _ (by decide))]
        refine WL.q (oq_concat rfl rfl (by (first | omega | (simp only [List.length_cons, List.length_nil, List.length_append, List.length_drop, List.length_take]; omega)))) rfl rfl rfl ?_
        refine WL.q (oq_assign rfl) rfl rfl rfl ?_
        refine WL.nil (WE.block_normal (WE.then_normal (WC.sub (fr' := [(0, _), (3, _), (4, _), (5, _), (6, _), (8, _)]) ?_ ⟨rfl, rfl, rfl, rfl, rfl, rfl, trivial⟩)))
        refine WC.region ?_
        refine WL.q (oq_move rfl) rfl rfl rfl ?_
        refine WL.q (oq_add rfl rfl (by rw [i64_lo, i64_hi]; (first | omega | (simp only [List.length_cons, List.length_nil, List.length_append, List.length_drop, List.length_take]; omega)))) rfl rfl rfl ?_
        refine WL.q (oq_assign rfl) rfl rfl rfl ?_
        refine WL.nil ?_
        refine WE.again (k + 1, _) ?_ ?_ ⟨rfl, rfl, rfl, rfl, rfl, rfl, trivial⟩ (List.Perm.refl _)
        ·try dsimp only
         refine ⟨by omega, ?_, by rw [List.length_append]; simp; omega⟩
         rw [ho4, out4_take _ (by omega), sign_dg hhv (by omega) hm, List.append_assoc]
        ·(try dsimp only); omega
      ·
       try simp only [Z1, Z2, Z3, Z4, Z5, Z6, Z7, Z8, Z9, Z0] at q14
       refine WC.exit (WE.then_exit (WE.then_exit (WE.block_same (WE.block_normal (WE.then_normal (WC.sub (fr' := [(0, _), (3, _), (4, _)]) ?_ ⟨rfl, rfl, rfl, trivial⟩))))))
       obtain rfl : k = 4 := by omega
       have h4 : o = out ++ out4 ((l.drop i).take 3) := ho4
       refine WC.region ?_
       refine WL.q (oq_move rfl) rfl rfl rfl ?_
       refine WL.q (oq_add rfl rfl (by rw [i64_lo, i64_hi]; (first | omega | (simp only [List.length_cons, List.length_nil, List.length_append, List.length_drop, List.length_take]; omega)))) rfl rfl rfl ?_
       refine WL.q (oq_assign rfl) rfl rfl rfl ?_
       refine WL.nil ?_
       refine WE.again (i + 3, _) ?_ ?_ ⟨rfl, rfl, rfl, trivial⟩ (List.Perm.refl _)
       ·try dsimp only
        refine ⟨by omega, ?_, by omega⟩
        rw [h4, ← ho, b64_step (l := (l.drop i)) (fun e => by have := congrArg List.length e; rw [List.length_drop] at this; simp at this; omega), List.drop_drop, List.append_assoc]
       ·(try dsimp only); omega
  ·
   try simp only [Z1, Z2, Z3, Z4, Z5, Z6, Z7, Z8, Z9, Z0] at q3
   refine WC.exit (WE.then_exit (WE.then_exit (WE.block_same (WE.then_normal (WC.sub (fr' := [(3, _)]) ?_ ⟨rfl, trivial⟩)))))
   refine WC.seq (WC.region ?_)
   refine WL.q (oq_move rfl) rfl rfl rfl ?_
   refine WL.q (oq_assign rfl) rfl rfl rfl ?_
   refine WL.nil (WE.then_normal (WC.sub (fr' := [(2, _)]) ?_ ⟨rfl, trivial⟩))
   refine WC.ret ?_
   refine WE.end0 (.inl rfl) (res1 Tryz.results12 rfl) ?_
   rw [List.drop_eq_nil_of_le (by omega), b64_nil, List.append_nil] at ho
   rw [ho]
end TB
end Go.Proofs.YtinkaobaboffcaaGreatDoor
/- The engine, part 18: package variables that hold sentinels, or tables of numbers; slices of bytes that come in. Over any program. -/
namespace Go.Proofs.YtinkaobaboffcaaGreatDoor.V
open Go Go.RowKit Go.ChangeShapes Go.WideShapes
set_option linter.unusedSimpArgs false
set_option linter.unusedVariables false
theorem var_heap {P : Program} {w : World} {n : String} {g : Nat} {cs : Array Value} (hg : P.globalNamed n = some g) (hv : w.var? P n = some cs) : ∃ t f, w.heap[g]? = some (.cells cs t f) := by
 simp only [World.var?, hg, Option.bind_some] at hv
 split at hv
 ·rename_i c t f h; simp at hv; subst hv; exact ⟨_, _, h⟩
 ·cases hv
section
variable {H : Type} {enc : TypeId × Value → H} {P : Program} {w : World} {base : Nat}
end
end Go.Proofs.YtinkaobaboffcaaGreatDoor.V
/- The engine, part 29: sentinels that are told apart, fields of own elements, told worlds at a function's begin. Over any program. -/
namespace Go.Proofs.YtinkaobaboffcaaGreatDoor.V
open Go Go.RowKit
set_option linter.unusedSimpArgs false
set_option linter.unusedVariables false
section
variable {P : Program} {n : Nat} {w0 : World} {ds : List Deferred} {fr : Fr} {H : List Hp} {dst : Option Tmp} {ty : TypeId} {pos : String} {aft : Array Edge} {g : Option (Nat × Bool)} {ops : Array Oper} {Q : Post} {rest : List Oper}
def putB (L : List UInt8) (off : Nat) (x : List UInt8) : List UInt8 := L.take off ++ x ++ L.drop (off + x.length)
theorem putB_nil (L : List UInt8) (off : Nat) : putB L off [] = L := by unfold putB; simp
theorem putB_len {L x : List UInt8} {off : Nat} (h : off + x.length ≤ L.length) : (putB L off x).length = L.length := by unfold putB; simp; omega
theorem putB_two {L x y : List UInt8} {off : Nat} (h : off + x.length + y.length ≤ L.length) : putB (putB L off x) (off + x.length) y = putB L off (x ++ y) := by
 unfold putB
 have h1 : (L.take off ++ x).length = off + x.length := by simp; omega
 rw [List.take_left' h1, ← List.drop_drop, List.drop_left' h1, List.drop_drop, List.length_append, Nat.add_assoc]
 simp
end
end Go.Proofs.YtinkaobaboffcaaGreatDoor.V
/- Walks of a buffer of bytes. -/
namespace Go.Proofs.YtinkaobaboffcaaGreatDoor
open Go Go.RowKit V
set_option linter.unusedSimpArgs false
set_option linter.unusedVariables false
set_option maxRecDepth 10000
namespace EA
theorem call26 : Callable Tryz.prog 26 := ⟨_, Tryz.func26, rfl, by kernel_rfl⟩
theorem call68 : Callable Tryz.prog 68 := ⟨_, Tryz.func68, rfl, by kernel_rfl⟩
theorem call69 : Callable Tryz.prog 69 := ⟨_, Tryz.func69, rfl, by kernel_rfl⟩
theorem call70 : Callable Tryz.prog 70 := ⟨_, Tryz.func70, rfl, by kernel_rfl⟩
theorem flat3 : Flat Tryz.prog 3 := ⟨_, Tryz.underlying3, by simp⟩
theorem flat31 : Flat Tryz.prog 31 := ⟨_, Tryz.underlying31, by simp⟩
theorem ty3 : Ty Tryz.prog 3 (.int .i64 0) 1 8 := ty_of (by kernel_rfl)
theorem ty5 : Ty Tryz.prog 5 (.int .u8 0) 1 1 := ty_of (by kernel_rfl)
theorem ty31 : Ty Tryz.prog 31 (.slice none 0 0) 1 24 := ty_of (by kernel_rfl)
theorem ty45 : Ty Tryz.prog 45 (.int .i8 0) 1 1 := ty_of (by kernel_rfl)
theorem fld47_0 : Fld Tryz.prog 47 0 0 31 := fld_of Tryz.underlying47 rfl rfl rfl ty31 (by decide)
theorem fld47_1 : Fld Tryz.prog 47 1 1 3 := fld_of Tryz.underlying47 rfl rfl rfl ty3 (by decide)
theorem fld47_2 : Fld Tryz.prog 47 2 2 45 := fld_of Tryz.underlying47 rfl rfl rfl ty45 (by decide)
abbrev BB (bb : Nat) (v : Value) (lr : Int) : Hp := [(bb, .cells #[v, I 0, .int .i8 lr] 47 (0, 0))]
def Buf (base : Nat) (v : Value) (A : Hp) (acc : List UInt8) : Prop :=
 (v = .slice none 0 0 ∧ A = [] ∧ acc = []) ∨ ∃ B cap L, v = Sl B 0 acc.length cap ∧ A = Bf B 5 L ∧ base ≤ B ∧ L.length = cap ∧ acc.length ≤ cap ∧ 0 < cap ∧ cap ≤ maxLen ∧ L.take acc.length = acc
def Grown (n base bb : Nat) (lr : Int) (acc : List UInt8) (r : Value) (Hs : List Hp) : Prop :=
 ∃ B cap L, r = I (acc.length : Int) ∧ Hs = [BB bb (Sl B 0 (acc.length + n) cap) lr, Bf B 5 L] ∧ base ≤ B ∧ L.length = cap ∧ acc.length + n ≤ cap ∧ cap ≤ maxLen ∧ L.take acc.length = acc
def NewRow (n : Nat) (l : List UInt8) (v : Value) (N : Hp) : Prop := ∃ B cap L, v = Sl B 0 l.length cap ∧ N = Bf B 5 L ∧ L.length = cap ∧ l.length + n ≤ cap ∧ cap ≤ maxLen ∧ L.take l.length = l
theorem Buf.fresh {base : Nat} {v : Value} {A : Hp} {acc : List UInt8} (h : Buf base v A acc) : ∀ b o, (b, o) ∈ A → base ≤ b := by
 rcases h with ⟨_, rfl, _⟩ | ⟨B, cap, L, _, rfl, hB, _⟩
 ·exact fun _ _ h => nomatch h
 ·exact fresh1 hB
theorem rec_ret {w0 w : World} {H : List Hp} (hw : St w0 H.flatten w) :
 CallsD Tryz.prog 70 #[] .returning w fun e u' w' => e = .returned (.tuple #[]) ∧ u' = .returning ∧ St w0 H.flatten w' := by
 refine callsD_of_wpS Tryz.func70 rfl fun c₀ cs hm => ?_
 refine wpS_seq (wpS_region ?_)
 refine (?_ : WS Tryz.prog 3 w0 _ _ [0, 1] [] (c₀ :: cs) H) _ _ (args_fit (args := []) rfl) hw
 refine WS.recover0 rfl rfl (recoverD_none hm) ?_
 refine WS.q (oq_ineq Tryz.underlying20 rfl (.inl rfl)) rfl rfl rfl rfl ?_
 refine WS.cond (b := false) rfl ?_
 refine WC.skip ?_
 exact WE.endS (.inr rfl) (by rw [← hm]) (res0 Tryz.results70) fun w hw => ⟨rfl, rfl, hw⟩
theorem growSlice (p : Option Addr) (c n : Nat) (A : Hp) (l : List UInt8) (hr : RdS 1 (.slice p l.length c) A l.length (bytesV l)) (hl : l.length + n ≤ 1000000) (hn : 0 < n) (hc : c ≤ 3000000) : FnA Tryz.prog 69 [.slice p l.length c, I (n : Int)] A (NewRow n l) := by
 refine FnA.enterD (n := 28) Tryz.func69 rfl rfl fun w0 => ?_
 refine WC.sub (fr' := [(0, _), (1, _)]) ?_ ⟨rfl, rfl, trivial⟩
 refine WC.seq (WC.region ?_)
 refine WL.q (oq_assign rfl) rfl rfl rfl ?_
 refine WL.nil (WE.then_normal (WC.sub (fr' := [(0, _), (1, _)]) ?_ ⟨rfl, rfl, trivial⟩))
 refine WC.seq (WC.region ?_)
 refine WL.defer (first := []) rfl rfl rfl ?_
 refine WL.nil (WE.then_normal (WC.sub (fr' := [(0, _), (1, _)]) ?_ ⟨rfl, rfl, trivial⟩))
 refine WC.seq (WC.region ?_)
 refine WL.q (oq_move rfl) rfl rfl rfl ?_
 refine WL.q (oq_len_sl Tryz.underlying31 rfl) rfl rfl rfl ?_
 refine WL.q (oq_move rfl) rfl rfl rfl ?_
 refine WL.q (oq_add rfl rfl (by rw [i64_lo, i64_hi]; (first | omega | (simp only [List.length_cons, List.length_nil, List.length_append, List.length_drop, List.length_take]; omega)))) rfl rfl rfl ?_
 refine WL.q (oq_assign rfl) rfl rfl rfl ?_
 refine WL.nil (WE.then_normal (WC.sub (fr' := [(0, _), (5, _)]) ?_ ⟨rfl, rfl, trivial⟩))
 refine WC.cut (ι := Nat) (fun (k : Nat) => [(0, .slice p l.length c), (5, I (k : Int))]) (fun (k : Nat) => [A]) (fun (k : Nat) => l.length + n ≤ k ∧ k ≤ 7000000) ?_ ?_
 ·
  refine WC.seq (WC.region ?_)
  refine WL.q (oq_move rfl) rfl rfl rfl ?_
  refine WL.q (oq_move rfl) rfl rfl rfl ?_
  refine WL.q (oq_cap_sl Tryz.underlying31 rfl) rfl rfl rfl ?_
  refine WL.q (oq_mul rfl rfl (by rw [i64_lo, i64_hi]; (first | omega | (simp only [List.length_cons, List.length_nil, List.length_append, List.length_drop, List.length_take]; omega)))) rfl rfl rfl ?_
  refine WL.q (oq_lss rfl rfl) rfl rfl rfl ?_
  refine WL.nil (WE.then_normal (WC.sub (fr' := [(0, _), (5, _), (16, _)]) ?_ ⟨rfl, rfl, rfl, trivial⟩))
  refine WC.cond rfl (fun q3 => ?_) (fun q3 => ?_)
  ·
   try simp only [Z1, Z2, Z3, Z4, Z5, Z6, Z7, Z8, Z9, Z0] at q3
   refine WC.region ?_
   refine WL.q (oq_move rfl) rfl rfl rfl ?_
   refine WL.q (oq_cap_sl Tryz.underlying31 rfl) rfl rfl rfl ?_
   refine WL.q (oq_mul rfl rfl (by rw [i64_lo, i64_hi]; (first | omega | (simp only [List.length_cons, List.length_nil, List.length_append, List.length_drop, List.length_take]; omega)))) rfl rfl rfl ?_
   refine WL.q (oq_assign rfl) rfl rfl rfl ?_
   refine WL.nil ?_
   refine WE.meet (2 * c) ?_ ⟨rfl, rfl, trivial⟩ (List.Perm.refl _)
   try dsimp only
   exact ⟨by omega, by omega⟩
  ·
   try simp only [Z1, Z2, Z3, Z4, Z5, Z6, Z7, Z8, Z9, Z0] at q3
   refine WC.skip ?_
   refine WE.meet (l.length + n) ?_ ⟨rfl, rfl, trivial⟩ (List.Perm.refl _)
   try dsimp only
   exact ⟨by omega, by omega⟩
 ·rintro k hp
  try dsimp only at hp
  obtain ⟨hk1, hk2⟩ := hp
  show WC _ _ _ _ _ _ ([(0, .slice p l.length c), (5, I (k : Int))]) ([A])
  refine WC.seq (WC.region ?_)
  refine WL.q (oq_move rfl) rfl rfl rfl ?_
  refine WL.appendMade Tryz.underlying31 Tryz.underlying3 ty5 rfl (by omega) (by decide) (by omega) (by unfold maxLen; omega) rfl rfl fun nb nbc hnb hnbc hnbm => ?_
  refine WL.q (oq_assign rfl) rfl rfl rfl ?_
  refine WL.nil (WE.then_normal (WC.sub (fr' := [(0, _), (6, _)]) ?_ ⟨rfl, rfl, trivial⟩))
  refine WC.seq (WC.region ?_)
  refine WL.q (oq_move rfl) rfl rfl rfl ?_
  refine WL.q (oq_move rfl) rfl rfl rfl ?_
  refine WL.copyB Tryz.underlying31 ty5 rfl rfl hr (.head _) (by (first | omega | (simp only [List.length_replicate]; omega))) rfl rfl ?_
  refine WL.q (oq_assign rfl) rfl rfl rfl ?_
  refine WL.nil (WE.then_normal (WC.sub (fr' := [(6, _), (7, _)]) ?_ ⟨rfl, rfl, trivial⟩))
  refine WC.seq (WC.region ?_)
  refine WL.q (oq_move rfl) rfl rfl rfl ?_
  refine WL.q (oq_move rfl) rfl rfl rfl ?_
  refine WL.q (oq_sliceSl Tryz.underlying31 ty5 rfl (by (first | omega | (simp only [List.length_replicate]; omega))) rfl ⟨_, rfl⟩ (by (first | omega | (simp only [List.length_replicate]; omega))) (by (first | omega | (simp only [List.length_replicate]; omega)))) rfl rfl rfl ?_
  refine WL.q (oq_assign rfl) rfl rfl rfl ?_
  refine WL.nil (WE.then_normal (WC.sub (fr' := [(4, _)]) ?_ ⟨rfl, trivial⟩))
  refine WC.ret ?_
  refine WE.deferred (args := []) (cap := []) (.inl rfl) call70 fun a w hf hw => ?_
  refine (rec_ret hw).mono fun e u w2 h => ?_
  obtain ⟨rfl, rfl, hw2⟩ := h
  refine ⟨_, rfl, rfl, _, (res1 Tryz.results69 rfl) a w2 hf hw2, _, Bf nb 5 _, rfl, ⟨nb, nbc, _, ?_, rfl, ?_, by omega, hnbm, ?_⟩, fresh1 hnb, by simpa using hw2⟩
  ·rw [show min l.length k - 0 = l.length by omega]; rfl
  ·simp; omega
  ·rw [show min l.length k = l.length by omega, List.take_length]; simp
theorem bufLen (bb len cap : Nat) (p : Option Addr) (lr : Int) (hl : len ≤ 9223372036854775807) : FnR Tryz.prog 26 [Pt bb 0] [(bb, .cells #[.slice p len cap, I 0, .int .i8 lr] 47 (0, 0))] (I (len : Int)) := by
 refine FnR.enter (n := 13) Tryz.func26 rfl rfl fun w0 => ?_
 refine WC.sub (fr' := [(0, _)]) ?_ ⟨rfl, trivial⟩
 refine WC.seq (WC.region ?_)
 refine WL.q (oq_assign rfl) rfl rfl rfl ?_
 refine WL.nil (WE.then_normal (WC.sub (fr' := [(0, _)]) ?_ ⟨rfl, trivial⟩))
 refine WC.seq (WC.quiet (by kernel_rfl) (by kernel_rfl) ?_)
 refine WQ.q (oq_move rfl) rfl rfl rfl ?_
 refine WQ.q (oq_nilCheck rfl) rfl rfl rfl ?_
 refine WQ.q (oq_fieldAddr fld47_0 rfl) rfl rfl rfl ?_
 refine WQ.q (oq_load flat31 rfl (.head _) (List.mem_singleton.2 rfl) rfl) rfl rfl rfl ?_
 refine WQ.q (oq_len_sl Tryz.underlying31 rfl) rfl rfl rfl ?_
 refine WQ.q (oq_move rfl) rfl rfl rfl ?_
 refine WQ.q (oq_nilCheck rfl) rfl rfl rfl ?_
 refine WQ.q (oq_fieldAddr fld47_1 rfl) rfl rfl rfl ?_
 refine WQ.q (oq_load flat3 rfl (.head _) (List.mem_singleton.2 rfl) rfl) rfl rfl rfl ?_
 refine WQ.q (oq_sub rfl rfl (by rw [i64_lo, i64_hi]; (first | omega | (simp only [List.length_cons, List.length_nil, List.length_append, List.length_drop, List.length_take]; omega)))) rfl rfl rfl ?_
 refine WQ.q (oq_assign rfl) rfl rfl rfl ?_
 refine WQ.nil (WE.then_normal (WC.sub (fr' := [(2, _)]) ?_ ⟨rfl, trivial⟩))
 refine WC.ret ?_
 refine WE.endR (.inl rfl) (res1 Tryz.results26 rfl) ?_
 rw [Int.sub_zero]
theorem reset1 (base bb : Nat) (lr off : Int) (B m cap : Nat) (hmc : m ≤ cap) (h0 : 0 < cap) : FnW Tryz.prog 23 [Pt bb 0] base [[(bb, .cells #[Sl B 0 m cap, I off, .int .i8 lr] 47 (0, 0))]] (fun w Hs => w = .tuple #[] ∧ Hs = [BB bb (Sl B 0 0 cap) 0]) := by
 refine FnW.enter (n := 16) Tryz.func23 rfl rfl fun w0 R0 hbase => ?_
 subst hbase
 show WC _ _ _ _ _ _ _ ([[(bb, .cells #[Sl B 0 m cap, I off, .int .i8 lr] 47 (0, 0))], R0])
 refine WC.sub (fr' := [(0, _)]) ?_ ⟨rfl, trivial⟩
 refine WC.seq (WC.region ?_)
 refine WL.q (oq_move rfl) rfl rfl rfl ?_
 refine WL.q (oq_move rfl) rfl rfl rfl ?_
 refine WL.q (oq_nilCheck rfl) rfl rfl rfl ?_
 refine WL.q (oq_fieldAddr fld47_0 rfl) rfl rfl rfl ?_
 refine WL.q (oq_load flat31 rfl (.head _) (List.mem_singleton.2 rfl) rfl) rfl rfl rfl ?_
 refine WL.q (oq_sliceSl (j := 0) Tryz.underlying31 ty5 rfl (by omega) rfl ⟨_, rfl⟩ (by omega) (by omega)) rfl rfl rfl ?_
 refine WL.q (oq_nilCheck rfl) rfl rfl rfl ?_
 refine WL.q (oq_fieldAddr fld47_0 rfl) rfl rfl rfl ?_
 refine WL.store1 #[_, _, _] ty31 rfl rfl (by first | rfl | exact OwS.one one_) (Nat.lt_of_lt_of_le (Nat.lt_succ_self _) (Nat.le_of_ble_eq_true rfl)) rfl rfl ?_
 refine WL.nil (WE.then_normal (WC.sub (fr' := [(0, _)]) ?_ ⟨rfl, trivial⟩))
 refine WC.seq (WC.region ?_)
 refine WL.q (oq_move rfl) rfl rfl rfl ?_
 refine WL.q (oq_nilCheck rfl) rfl rfl rfl ?_
 refine WL.q (oq_fieldAddr fld47_1 rfl) rfl rfl rfl ?_
 refine WL.store1 #[_, _, _] ty3 rfl rfl (by first | rfl | exact OwS.one one_) (Nat.lt_of_lt_of_le (Nat.lt_succ_self _) (Nat.le_of_ble_eq_true rfl)) rfl rfl ?_
 refine WL.nil (WE.then_normal (WC.sub (fr' := [(0, _)]) ?_ ⟨rfl, trivial⟩))
 refine WC.region ?_
 refine WL.q (oq_move rfl) rfl rfl rfl ?_
 refine WL.q (oq_nilCheck rfl) rfl rfl rfl ?_
 refine WL.q (oq_fieldAddr fld47_2 rfl) rfl rfl rfl ?_
 refine WL.store1 #[_, _, _] ty45 rfl rfl (by first | rfl | exact OwS.one one_) (Nat.lt_of_lt_of_le (Nat.lt_succ_self _) (Nat.le_of_ble_eq_true rfl)) rfl rfl ?_
 refine WL.nil ?_
 refine WE.endW1 (.inr rfl) (res0 Tryz.results23) ?_
 exact ⟨rfl, rfl⟩
theorem reset0 (base bb : Nat) (lr off : Int) : FnW Tryz.prog 23 [Pt bb 0] base [[(bb, .cells #[.slice none 0 0, I off, .int .i8 lr] 47 (0, 0))]] (fun w Hs => w = .tuple #[] ∧ Hs = [BB bb (.slice none 0 0) 0]) := by
 refine FnW.enter (n := 16) Tryz.func23 rfl rfl fun w0 R0 hbase => ?_
 subst hbase
 show WC _ _ _ _ _ _ _ ([[(bb, .cells #[.slice none 0 0, I off, .int .i8 lr] 47 (0, 0))], R0])
 refine WC.sub (fr' := [(0, _)]) ?_ ⟨rfl, trivial⟩
 refine WC.seq (WC.region ?_)
 refine WL.q (oq_move rfl) rfl rfl rfl ?_
 refine WL.q (oq_move rfl) rfl rfl rfl ?_
 refine WL.q (oq_nilCheck rfl) rfl rfl rfl ?_
 refine WL.q (oq_fieldAddr fld47_0 rfl) rfl rfl rfl ?_
 refine WL.q (oq_load flat31 rfl (.head _) (List.mem_singleton.2 rfl) rfl) rfl rfl rfl ?_
 refine WL.q (oq_sliceNil0 Tryz.underlying31 ty5 rfl rfl) rfl rfl rfl ?_
 refine WL.q (oq_nilCheck rfl) rfl rfl rfl ?_
 refine WL.q (oq_fieldAddr fld47_0 rfl) rfl rfl rfl ?_
 refine WL.store1 #[_, _, _] ty31 rfl rfl (by first | rfl | exact OwS.one one_) (Nat.lt_of_lt_of_le (Nat.lt_succ_self _) (Nat.le_of_ble_eq_true rfl)) rfl rfl ?_
 refine WL.nil (WE.then_normal (WC.sub (fr' := [(0, _)]) ?_ ⟨rfl, trivial⟩))
 refine WC.seq (WC.region ?_)
 refine WL.q (oq_move rfl) rfl rfl rfl ?_
 refine WL.q (oq_nilCheck rfl) rfl rfl rfl ?_
 refine WL.q (oq_fieldAddr fld47_1 rfl) rfl rfl rfl ?_
 refine WL.store1 #[_, _, _] ty3 rfl rfl (by first | rfl | exact OwS.one one_) (Nat.lt_of_lt_of_le (Nat.lt_succ_self _) (Nat.le_of_ble_eq_true rfl)) rfl rfl ?_
 refine WL.nil (WE.then_normal (WC.sub (fr' := [(0, _)]) ?_ ⟨rfl, trivial⟩))
 refine WC.region ?_
 refine WL.q (oq_move rfl) rfl rfl rfl ?_
 refine WL.q (oq_nilCheck rfl) rfl rfl rfl ?_
 refine WL.q (oq_fieldAddr fld47_2 rfl) rfl rfl rfl ?_
 refine WL.store1 #[_, _, _] ty45 rfl rfl (by first | rfl | exact OwS.one one_) (Nat.lt_of_lt_of_le (Nat.lt_succ_self _) (Nat.le_of_ble_eq_true rfl)) rfl rfl ?_
 refine WL.nil ?_
 refine WE.endW1 (.inr rfl) (res0 Tryz.results23) ?_
 exact ⟨rfl, rfl⟩
theorem tryGrow1 (base bb B len cap n : Nat) (lr : Int) (hlc : len ≤ cap) (hl : len + n ≤ 1000000) (hmx : cap ≤ maxLen) (h0 : 0 < cap) : FnW Tryz.prog 68 [Pt bb 0, I (n : Int)] base [[(bb, .cells #[Sl B 0 len cap, I 0, .int .i8 lr] 47 (0, 0))]] (fun w Hs => w = .tuple #[I ((if len + n ≤ cap then len else 0 : Nat) : Int), .bool (decide (len + n ≤ cap))] ∧ Hs = [BB bb (Sl B 0 (if len + n ≤ cap then len + n else len) cap) lr]) := by
 have hmx : maxLen ≤ 9223372036854775807 := by unfold maxLen; omega
 refine FnW.enter (n := 33) Tryz.func68 rfl rfl fun w0 R0 hbase => ?_
 subst hbase
 show WC _ _ _ _ _ _ _ ([[(bb, .cells #[Sl B 0 len cap, I 0, .int .i8 lr] 47 (0, 0))], R0])
 refine WC.sub (fr' := [(0, _), (1, _)]) ?_ ⟨rfl, rfl, trivial⟩
 refine WC.seq (WC.region ?_)
 refine WL.q (oq_assign rfl) rfl rfl rfl ?_
 refine WL.q (oq_assign rfl) rfl rfl rfl ?_
 refine WL.nil (WE.then_normal (WC.sub (fr' := [(0, _), (1, _)]) ?_ ⟨rfl, rfl, trivial⟩))
 refine WC.seq (WC.seq (WC.region ?_))
 refine WL.q (oq_move rfl) rfl rfl rfl ?_
 refine WL.q (oq_nilCheck rfl) rfl rfl rfl ?_
 refine WL.q (oq_fieldAddr fld47_0 rfl) rfl rfl rfl ?_
 refine WL.q (oq_load flat31 rfl (.head _) (List.mem_singleton.2 rfl) rfl) rfl rfl rfl ?_
 refine WL.q (oq_len_sl Tryz.underlying31 rfl) rfl rfl rfl ?_
 refine WL.q (oq_assign rfl) rfl rfl rfl ?_
 refine WL.nil (WE.then_normal (WC.sub (fr' := [(0, _), (1, _), (6, _)]) ?_ ⟨rfl, rfl, rfl, trivial⟩))
 refine WC.seq (WC.region ?_)
 refine WL.q (oq_move rfl) rfl rfl rfl ?_
 refine WL.q (oq_move rfl) rfl rfl rfl ?_
 refine WL.q (oq_nilCheck rfl) rfl rfl rfl ?_
 refine WL.q (oq_fieldAddr fld47_0 rfl) rfl rfl rfl ?_
 refine WL.q (oq_load flat31 rfl (.head _) (List.mem_singleton.2 rfl) rfl) rfl rfl rfl ?_
 refine WL.q (oq_cap_sl Tryz.underlying31 rfl) rfl rfl rfl ?_
 refine WL.q (oq_move rfl) rfl rfl rfl ?_
 refine WL.q (oq_sub rfl rfl (by rw [i64_lo, i64_hi]; (first | omega | (simp only [List.length_cons, List.length_nil, List.length_append, List.length_drop, List.length_take]; omega)))) rfl rfl rfl ?_
 refine WL.q (oq_leq rfl rfl) rfl rfl rfl ?_
 refine WL.nil (WE.then_normal (WC.sub (fr' := [(0, _), (1, _), (6, _), (20, _)]) ?_ ⟨rfl, rfl, rfl, rfl, trivial⟩))
 refine WC.cond rfl (fun q2 => ?_) (fun q2 => ?_)
 ·
  try simp only [Z1, Z2, Z3, Z4, Z5, Z6, Z7, Z8, Z9, Z0] at q2
  refine WC.seq (WC.region ?_)
  refine WL.q (oq_move rfl) rfl rfl rfl ?_
  refine WL.q (oq_move rfl) rfl rfl rfl ?_
  refine WL.q (oq_nilCheck rfl) rfl rfl rfl ?_
  refine WL.q (oq_fieldAddr fld47_0 rfl) rfl rfl rfl ?_
  refine WL.q (oq_load flat31 rfl (.head _) (List.mem_singleton.2 rfl) rfl) rfl rfl rfl ?_
  refine WL.q (oq_move rfl) rfl rfl rfl ?_
  refine WL.q (oq_move rfl) rfl rfl rfl ?_
  refine WL.q (oq_add rfl rfl (by rw [i64_lo, i64_hi]; (first | omega | (simp only [List.length_cons, List.length_nil, List.length_append, List.length_drop, List.length_take]; omega)))) rfl rfl rfl ?_
  refine WL.q (oq_sliceSl (j := (len + n)) Tryz.underlying31 ty5 rfl (by omega) rfl ⟨_, rfl⟩ (by omega) (by omega)) rfl rfl rfl ?_
  refine WL.q (oq_nilCheck rfl) rfl rfl rfl ?_
  refine WL.q (oq_fieldAddr fld47_0 rfl) rfl rfl rfl ?_
  refine WL.store1 #[_, _, _] ty31 rfl rfl (by first | rfl | exact OwS.one one_) (Nat.lt_of_lt_of_le (Nat.lt_succ_self _) (Nat.le_of_ble_eq_true rfl)) rfl rfl ?_
  refine WL.nil (WE.then_normal (WC.sub (fr' := [(6, _)]) ?_ ⟨rfl, trivial⟩))
  refine WC.seq (WC.region ?_)
  refine WL.q (oq_move rfl) rfl rfl rfl ?_
  refine WL.q (oq_assign rfl) rfl rfl rfl ?_
  refine WL.q (oq_assign rfl) rfl rfl rfl ?_
  refine WL.nil (WE.then_normal (WC.sub (fr' := [(4, _), (5, _)]) ?_ ⟨rfl, rfl, trivial⟩))
  refine WC.ret (WE.then_ret ?_)
  refine WE.endW1 (.inl rfl) (res2 Tryz.results68 rfl rfl) ?_
  exact ⟨by rw [if_pos (by omega), decide_eq_true (by omega)], by rw [if_pos (by omega)]; rfl⟩
 ·
  try simp only [Z1, Z2, Z3, Z4, Z5, Z6, Z7, Z8, Z9, Z0] at q2
  refine WC.skip (WE.then_normal (WC.sub (fr' := []) ?_ trivial))
  refine WC.seq (WC.region ?_)
  refine WL.q (oq_assign rfl) rfl rfl rfl ?_
  refine WL.q (oq_assign rfl) rfl rfl rfl ?_
  refine WL.nil (WE.then_normal (WC.sub (fr' := [(4, _), (5, _)]) ?_ ⟨rfl, rfl, trivial⟩))
  refine WC.ret ?_
  refine WE.endW1 (.inl rfl) (res2 Tryz.results68 rfl rfl) ?_
  exact ⟨by rw [if_neg (by omega), decide_eq_false (by omega)]; rfl, by rw [if_neg (by omega)]⟩
theorem tryGrow0 (base bb n : Nat) (lr : Int) (hn : 0 < n) : FnW Tryz.prog 68 [Pt bb 0, I (n : Int)] base [[(bb, .cells #[.slice none 0 0, I 0, .int .i8 lr] 47 (0, 0))]] (fun w Hs => w = .tuple #[I 0, .bool false] ∧ Hs = [BB bb (.slice none 0 0) lr]) := by
 refine FnW.enter (n := 33) Tryz.func68 rfl rfl fun w0 R0 hbase => ?_
 subst hbase
 show WC _ _ _ _ _ _ _ ([[(bb, .cells #[.slice none 0 0, I 0, .int .i8 lr] 47 (0, 0))], R0])
 refine WC.sub (fr' := [(0, _), (1, _)]) ?_ ⟨rfl, rfl, trivial⟩
 refine WC.seq (WC.region ?_)
 refine WL.q (oq_assign rfl) rfl rfl rfl ?_
 refine WL.q (oq_assign rfl) rfl rfl rfl ?_
 refine WL.nil (WE.then_normal (WC.sub (fr' := [(0, _), (1, _)]) ?_ ⟨rfl, rfl, trivial⟩))
 refine WC.seq (WC.seq (WC.region ?_))
 refine WL.q (oq_move rfl) rfl rfl rfl ?_
 refine WL.q (oq_nilCheck rfl) rfl rfl rfl ?_
 refine WL.q (oq_fieldAddr fld47_0 rfl) rfl rfl rfl ?_
 refine WL.q (oq_load flat31 rfl (.head _) (List.mem_singleton.2 rfl) rfl) rfl rfl rfl ?_
 refine WL.q (oq_len_sl Tryz.underlying31 rfl) rfl rfl rfl ?_
 refine WL.q (oq_assign rfl) rfl rfl rfl ?_
 refine WL.nil (WE.then_normal (WC.sub (fr' := [(0, _), (1, _), (6, _)]) ?_ ⟨rfl, rfl, rfl, trivial⟩))
 refine WC.seq (WC.region ?_)
 refine WL.q (oq_move rfl) rfl rfl rfl ?_
 refine WL.q (oq_move rfl) rfl rfl rfl ?_
 refine WL.q (oq_nilCheck rfl) rfl rfl rfl ?_
 refine WL.q (oq_fieldAddr fld47_0 rfl) rfl rfl rfl ?_
 refine WL.q (oq_load flat31 rfl (.head _) (List.mem_singleton.2 rfl) rfl) rfl rfl rfl ?_
 refine WL.q (oq_cap_sl Tryz.underlying31 rfl) rfl rfl rfl ?_
 refine WL.q (oq_move rfl) rfl rfl rfl ?_
 refine WL.q (oq_sub rfl rfl (by rw [i64_lo, i64_hi]; (first | omega | (simp only [List.length_cons, List.length_nil, List.length_append, List.length_drop, List.length_take]; omega)))) rfl rfl rfl ?_
 refine WL.q (oq_leq rfl rfl) rfl rfl rfl ?_
 refine WL.nil (WE.then_normal (WC.sub (fr' := [(0, _), (1, _), (6, _), (20, _)]) ?_ ⟨rfl, rfl, rfl, rfl, trivial⟩))
 refine WC.cond rfl (fun q2 => ?_) (fun q2 => ?_)
 ·
  try simp only [Z1, Z2, Z3, Z4, Z5, Z6, Z7, Z8, Z9, Z0] at q2
  refine WC.seq ?_
  exfalso; omega
 ·
  try simp only [Z1, Z2, Z3, Z4, Z5, Z6, Z7, Z8, Z9, Z0] at q2
  refine WC.skip (WE.then_normal (WC.sub (fr' := []) ?_ trivial))
  refine WC.seq (WC.region ?_)
  refine WL.q (oq_assign rfl) rfl rfl rfl ?_
  refine WL.q (oq_assign rfl) rfl rfl rfl ?_
  refine WL.nil (WE.then_normal (WC.sub (fr' := [(4, _), (5, _)]) ?_ ⟨rfl, rfl, trivial⟩))
  refine WC.ret ?_
  refine WE.endW1 (.inl rfl) (res2 Tryz.results68 rfl rfl) ?_
  exact ⟨rfl, rfl⟩
theorem grow0 (base bb n : Nat) (lr : Int) (hn : 0 < n) (hl : n ≤ 1000000) : FnW Tryz.prog 67 [Pt bb 0, I (n : Int)] base [[(bb, .cells #[.slice none 0 0, I 0, .int .i8 lr] 47 (0, 0))]] (Grown n base bb lr []) := by
 have hmx : maxLen ≤ 9223372036854775807 := by unfold maxLen; omega
 refine FnW.enter (n := 110) Tryz.func67 rfl rfl fun w0 R0 hbase => ?_
 subst hbase
 show WC _ _ _ _ _ _ _ ([[(bb, .cells #[.slice none 0 0, I 0, .int .i8 lr] 47 (0, 0))], R0])
 refine WC.sub (fr' := [(0, _), (1, _)]) ?_ ⟨rfl, rfl, trivial⟩
 refine WC.seq (WC.region ?_)
 refine WL.q (oq_assign rfl) rfl rfl rfl ?_
 refine WL.nil (WE.then_normal (WC.sub (fr' := [(0, _), (1, _)]) ?_ ⟨rfl, rfl, trivial⟩))
 refine WC.seq (WC.region ?_)
 refine WL.q (oq_move rfl) rfl rfl rfl ?_
 refine WL.qc (oq_callRm (bufLen bb 0 0 none lr (by omega)) (.head _) call26 rfl) rfl rfl rfl ?_
 refine WL.q (oq_assign rfl) rfl rfl rfl ?_
 refine WL.nil (WE.then_normal (WC.sub (fr' := [(0, _), (1, _), (5, _)]) ?_ ⟨rfl, rfl, rfl, trivial⟩))
 refine WC.cut (ι := Unit) (fun _ => [(0, Pt bb 0), (1, I (n : Int)), (5, I 0)]) (fun _ => [[(bb, .cells #[.slice none 0 0, I 0, .int .i8 lr] 47 (0, 0))], R0]) (fun _ => True) ?_ ?_
 ·
  refine WC.seq (WC.region ?_)
  refine WL.q (oq_move rfl) rfl rfl rfl ?_
  refine WL.q (oq_eql rfl rfl) rfl rfl rfl ?_
  refine WL.q (oq_move rfl) rfl rfl rfl ?_
  refine WL.split 13 rfl (fun s2_2 => ?_) (fun s2_2 => ?_)
  ·
   try simp only [Z1, Z2, Z3, Z4, Z5, Z6, Z7, Z8, Z9, Z0] at s2_2
   refine WL.q (oq_move rfl) rfl rfl rfl ?_
   refine WL.q (oq_nilCheck rfl) rfl rfl rfl ?_
   refine WL.q (oq_fieldAddr fld47_1 rfl) rfl rfl rfl ?_
   refine WL.q (oq_load flat3 rfl (.head _) (List.mem_singleton.2 rfl) rfl) rfl rfl rfl ?_
   refine WL.q (oq_neq rfl rfl) rfl rfl rfl ?_
   refine WL.q (oq_pick_t rfl rfl) rfl rfl rfl ?_
   refine WL.nil (WE.then_normal (WC.sub (fr' := [(0, _), (1, _), (5, _), (19, _)]) ?_ ⟨rfl, rfl, rfl, rfl, trivial⟩))
   refine WC.cond rfl (fun q2 => ?_) (fun q2 => ?_)
   ·
    try simp only [Z1, Z2, Z3, Z4, Z5, Z6, Z7, Z8, Z9, Z0] at q2
    first | contradiction | (exfalso; omega) | (exfalso; simp_all; done)
   ·
    try simp only [Z1, Z2, Z3, Z4, Z5, Z6, Z7, Z8, Z9, Z0] at q2
    refine WC.skip ?_
    refine WE.meet () ?_ ⟨rfl, rfl, rfl, trivial⟩ (List.Perm.refl _)
    try dsimp only
    all_goals trivial
  ·
   try simp only [Z1, Z2, Z3, Z4, Z5, Z6, Z7, Z8, Z9, Z0] at s2_2
   refine WL.skip rfl rfl rfl ?_
   refine WL.skip rfl rfl rfl ?_
   refine WL.skip rfl rfl rfl ?_
   refine WL.skip rfl rfl rfl ?_
   refine WL.skip rfl rfl rfl ?_
   refine WL.q (oq_pick_f rfl rfl) rfl rfl rfl ?_
   refine WL.nil (WE.then_normal (WC.sub (fr' := [(0, _), (1, _), (5, _), (19, _)]) ?_ ⟨rfl, rfl, rfl, rfl, trivial⟩))
   refine WC.cond_f rfl ?_
   refine WC.skip ?_
   refine WE.meet () ?_ ⟨rfl, rfl, rfl, trivial⟩ (List.Perm.refl _)
   try dsimp only
   all_goals trivial
 ·rintro _ hp
  try dsimp only at hp
  show WC _ _ _ _ _ _ ([(0, Pt bb 0), (1, I (n : Int)), (5, I 0)]) ([[(bb, .cells #[.slice none 0 0, I 0, .int .i8 lr] 47 (0, 0))], R0])
  refine WC.seq (WC.seq (WC.region ?_))
  refine WL.q (oq_move rfl) rfl rfl rfl ?_
  refine WL.q (oq_move rfl) rfl rfl rfl ?_
  refine WL.callW1 (tryGrow0 _ bb n lr hn) call68 rfl rfl rfl fun v4_2 Hs4_2 hR4_2 => ?_
  obtain ⟨rfl, rfl⟩ := hR4_2
  refine WL.to1 ?_
  refine WL.q (oq_move rfl) rfl rfl rfl ?_
  refine WL.q (oq_extract rfl rfl) rfl rfl rfl ?_
  refine WL.q (oq_extract rfl rfl) rfl rfl rfl ?_
  refine WL.q (oq_assign rfl) rfl rfl rfl ?_
  refine WL.q (oq_assign rfl) rfl rfl rfl ?_
  refine WL.nil (WE.then_normal (WC.sub (fr' := [(0, _), (1, _), (5, _), (6, _), (7, _)]) ?_ ⟨rfl, rfl, rfl, rfl, rfl, trivial⟩))
  refine WC.seq (WC.region ?_)
  refine WL.q (oq_move rfl) rfl rfl rfl ?_
  refine WL.nil (WE.then_normal (WC.sub (fr' := [(0, _), (1, _), (5, _), (6, _), (28, _)]) ?_ ⟨rfl, rfl, rfl, rfl, rfl, trivial⟩))
  refine WC.cond rfl (fun q5 => ?_) (fun q5 => ?_)
  ·
   try simp only [Z1, Z2, Z3, Z4, Z5, Z6, Z7, Z8, Z9, Z0] at q5
   refine WC.seq ?_
   first | contradiction | (exfalso; omega) | (exfalso; simp_all; done)
  ·
   try simp only [Z1, Z2, Z3, Z4, Z5, Z6, Z7, Z8, Z9, Z0] at q5
   refine WC.skip (WE.then_normal (WC.sub (fr' := [(0, _), (1, _), (5, _)]) ?_ ⟨rfl, rfl, rfl, trivial⟩))
   refine WC.seq (WC.seq (WC.region ?_))
   refine WL.q (oq_move rfl) rfl rfl rfl ?_
   refine WL.q (oq_nilCheck rfl) rfl rfl rfl ?_
   refine WL.q (oq_fieldAddr fld47_0 rfl) rfl rfl rfl ?_
   refine WL.q (oq_load flat31 rfl (.head _) (List.mem_singleton.2 rfl) rfl) rfl rfl rfl ?_
   refine WL.q (oq_sleql Tryz.underlying31 rfl rfl) rfl rfl rfl ?_
   refine WL.q (oq_move rfl) rfl rfl rfl ?_
   refine WL.split 35 rfl (fun s7_5 => ?_) (fun s7_5 => ?_)
   ·
    try simp only [Z1, Z2, Z3, Z4, Z5, Z6, Z7, Z8, Z9, Z0] at s7_5
    refine WL.q (oq_move rfl) rfl rfl rfl ?_
    refine WL.q (oq_leq rfl rfl) rfl rfl rfl ?_
    refine WL.q (oq_pick_t rfl rfl) rfl rfl rfl ?_
    refine WL.nil (WE.then_normal (WC.sub (fr' := [(0, _), (1, _), (5, _), (38, _)]) ?_ ⟨rfl, rfl, rfl, rfl, trivial⟩))
    refine WC.cond rfl (fun q7 => ?_) (fun q7 => ?_)
    ·
     try simp only [Z1, Z2, Z3, Z4, Z5, Z6, Z7, Z8, Z9, Z0] at q7
     refine WC.seq (WC.region ?_)
     refine WL.q (oq_move rfl) rfl rfl rfl ?_
     refine WL.q (oq_move rfl) rfl rfl rfl ?_
     refine WL.makeBc (k := n) (c := 64) Tryz.underlying31 ty5 rfl rfl (by omega) (by omega) (by unfold maxLen; omega) rfl rfl fun sb hsb => ?_
     refine WL.q (oq_nilCheck rfl) rfl rfl rfl ?_
     refine WL.q (oq_fieldAddr fld47_0 rfl) rfl rfl rfl ?_
     refine WL.f1 ?_
     refine WL.store1 #[_, _, _] ty31 rfl rfl (by first | rfl | exact OwS.one one_) (Nat.lt_of_lt_of_le (Nat.lt_succ_self _) (Nat.le_of_ble_eq_true rfl)) rfl rfl ?_
     refine WL.nil (WE.then_normal (WC.sub (fr' := []) ?_ trivial))
     refine WC.seq (WC.region ?_)
     refine WL.q (oq_assign rfl) rfl rfl rfl ?_
     refine WL.nil (WE.then_normal (WC.sub (fr' := [(4, _)]) ?_ ⟨rfl, trivial⟩))
     refine WC.ret (WE.then_ret ?_)
     refine WE.endW2 (.inl rfl) (res1 Tryz.results67 rfl) ?_
     exact ⟨sb, 64, _, rfl, by rw [List.length_nil, Nat.zero_add], hsb, by simp, by simp only [List.length_nil]; omega, by unfold maxLen; omega, by simp⟩
    ·
     try simp only [Z1, Z2, Z3, Z4, Z5, Z6, Z7, Z8, Z9, Z0] at q7
     refine WC.skip (WE.then_normal (WC.sub (fr' := [(0, _), (1, _), (5, _)]) ?_ ⟨rfl, rfl, rfl, trivial⟩))
     refine WC.seq (WC.region ?_)
     refine WL.q (oq_move rfl) rfl rfl rfl ?_
     refine WL.q (oq_nilCheck rfl) rfl rfl rfl ?_
     refine WL.q (oq_fieldAddr fld47_0 rfl) rfl rfl rfl ?_
     refine WL.q (oq_load flat31 rfl (.head _) (List.mem_singleton.2 rfl) rfl) rfl rfl rfl ?_
     refine WL.q (oq_cap_sl Tryz.underlying31 rfl) rfl rfl rfl ?_
     refine WL.q (oq_assign rfl) rfl rfl rfl ?_
     refine WL.nil (WE.then_normal (WC.sub (fr' := [(0, _), (1, _), (5, _), (8, _)]) ?_ ⟨rfl, rfl, rfl, rfl, trivial⟩))
     refine WC.seq (WC.seq (WC.region ?_))
     refine WL.q (oq_move rfl) rfl rfl rfl ?_
     refine WL.q (oq_move rfl) rfl rfl rfl ?_
     refine WL.q (oq_quo rfl rfl (by rw [i64_hi]; omega)) rfl rfl rfl ?_
     refine WL.q (oq_move rfl) rfl rfl rfl ?_
     refine WL.q (oq_sub rfl rfl (by rw [i64_lo, i64_hi]; (first | omega | (simp only [List.length_cons, List.length_nil, List.length_append, List.length_drop, List.length_take]; omega)))) rfl rfl rfl ?_
     refine WL.q (oq_leq rfl rfl) rfl rfl rfl ?_
     refine WL.nil (WE.then_normal (WC.sub (fr' := [(0, _), (1, _), (5, _), (8, _), (54, _)]) ?_ ⟨rfl, rfl, rfl, rfl, rfl, trivial⟩))
     refine WC.cond rfl (fun q11 => ?_) (fun q11 => ?_)
     ·
      try simp only [Z1, Z2, Z3, Z4, Z5, Z6, Z7, Z8, Z9, Z0] at q11
      first | contradiction | (exfalso; omega) | (exfalso; simp_all; done)
     ·
      try simp only [Z1, Z2, Z3, Z4, Z5, Z6, Z7, Z8, Z9, Z0] at q11
      refine WC.seq (WC.region ?_)
      refine WL.q (oq_move rfl) rfl rfl rfl ?_
      refine WL.q (oq_move rfl) rfl rfl rfl ?_
      refine WL.q (oq_sub rfl rfl (by rw [i64_lo, i64_hi]; (first | omega | (simp only [List.length_cons, List.length_nil, List.length_append, List.length_drop, List.length_take]; omega)))) rfl rfl rfl ?_
      refine WL.q (oq_move rfl) rfl rfl rfl ?_
      refine WL.q (oq_sub rfl rfl (by rw [i64_lo, i64_hi]; (first | omega | (simp only [List.length_cons, List.length_nil, List.length_append, List.length_drop, List.length_take]; omega)))) rfl rfl rfl ?_
      refine WL.q (oq_gtr rfl rfl) rfl rfl rfl ?_
      refine WL.nil (WE.then_normal (WC.sub (fr' := [(0, _), (1, _), (5, _), (74, _)]) ?_ ⟨rfl, rfl, rfl, rfl, trivial⟩))
      refine WC.cond rfl (fun q13 => ?_) (fun q13 => ?_)
      ·
       try simp only [Z1, Z2, Z3, Z4, Z5, Z6, Z7, Z8, Z9, Z0] at q13
       first | contradiction | (exfalso; omega) | (exfalso; simp_all; done)
      ·
       try simp only [Z1, Z2, Z3, Z4, Z5, Z6, Z7, Z8, Z9, Z0] at q13
       refine WC.tailM (pl := [_]) (ql := [_, _, _, _, _, _, _, _, _, _, _, _, _, _, _]) (tl := [_, _, _, _]) [0] [1, 2, 3, 4, 5, 6, 7, 8, 9, 10, 11, 12, 13, 14, 15] 16 [17, 18, 19] (by kernel_rfl) (by kernel_rfl) (by kernel_rfl) (by kernel_rfl) (by kernel_rfl) (by kernel_rfl) (by decide) rfl rfl rfl (by decide) (by repeat (first | with_reducible exact QOk.body | with_reducible apply QOk.then | with_reducible apply QOk.block | exact QOk.body | apply QOk.then | apply QOk.block)) ?_
       refine WM.q (fun w0 => oq_move rfl) rfl rfl rfl ?_
       refine WM.nil ?_
       refine WY.q (oq_move rfl) rfl rfl rfl ?_
       refine WY.q (oq_nilCheck rfl) rfl rfl rfl ?_
       refine WY.q (oq_fieldAddr fld47_0 rfl) rfl rfl rfl ?_
       refine WY.q (oq_load flat31 rfl (.head _) (List.mem_singleton.2 rfl) rfl) rfl rfl rfl ?_
       refine WY.q (oq_move rfl) rfl rfl rfl ?_
       refine WY.q (oq_nilCheck rfl) rfl rfl rfl ?_
       refine WY.q (oq_fieldAddr fld47_1 rfl) rfl rfl rfl ?_
       refine WY.q (oq_load flat3 rfl (.head _) (List.mem_singleton.2 rfl) rfl) rfl rfl rfl ?_
       refine WY.q (oq_sliceNil Tryz.underlying31 ty5 rfl rfl) rfl rfl rfl ?_
       refine WY.q (oq_move rfl) rfl rfl rfl ?_
       refine WY.q (oq_nilCheck rfl) rfl rfl rfl ?_
       refine WY.q (oq_fieldAddr fld47_1 rfl) rfl rfl rfl ?_
       refine WY.q (oq_load flat3 rfl (.head _) (List.mem_singleton.2 rfl) rfl) rfl rfl rfl ?_
       refine WY.q (oq_move rfl) rfl rfl rfl ?_
       refine WY.q (oq_add rfl rfl (by rw [i64_lo, i64_hi]; (first | omega | (simp only [List.length_cons, List.length_nil, List.length_append, List.length_drop, List.length_take]; omega)))) rfl rfl rfl ?_
       refine WY.nil ?_
       refine WL.callA0 (growSlice none 0 n [] [] ⟨rfl, .inl ⟨rfl, _, _, rfl⟩⟩ (by simp only [List.length_nil]; omega) hn (by omega)) call69 (by rw [Int.zero_add]; rfl) rfl rfl fun v15_16 N15_16 hR15_16 hN15_16 => ?_
       obtain ⟨B2, cap2, L2, rfl, rfl, hL2, hc2, hm2, ht2⟩ := hR15_16
       have hB2 := hN15_16 _ _ (List.mem_singleton.2 rfl)
       refine WL.q (oq_nilCheck rfl) rfl rfl rfl ?_
       refine WL.q (oq_fieldAddr fld47_0 rfl) rfl rfl rfl ?_
       refine WL.f1 ?_
       refine WL.store1 #[_, _, _] ty31 rfl rfl (by first | rfl | exact OwS.one one_) (Nat.lt_of_lt_of_le (Nat.lt_succ_self _) (Nat.le_of_ble_eq_true rfl)) rfl rfl ?_
       refine WL.nil (WE.then_normal (WC.sub (fr' := [(0, _), (1, _), (5, _)]) ?_ ⟨rfl, rfl, rfl, trivial⟩))
       refine WC.seq (WC.region ?_)
       refine WL.q (oq_move rfl) rfl rfl rfl ?_
       refine WL.q (oq_nilCheck rfl) rfl rfl rfl ?_
       refine WL.q (oq_fieldAddr fld47_1 rfl) rfl rfl rfl ?_
       refine WL.store1 #[_, _, _] ty3 rfl rfl (by first | rfl | exact OwS.one one_) (Nat.lt_of_lt_of_le (Nat.lt_succ_self _) (Nat.le_of_ble_eq_true rfl)) rfl rfl ?_
       refine WL.nil (WE.then_normal (WC.sub (fr' := [(0, _), (1, _), (5, _)]) ?_ ⟨rfl, rfl, rfl, trivial⟩))
       refine WC.seq (WC.region ?_)
       refine WL.q (oq_move rfl) rfl rfl rfl ?_
       refine WL.q (oq_move rfl) rfl rfl rfl ?_
       refine WL.q (oq_nilCheck rfl) rfl rfl rfl ?_
       refine WL.q (oq_fieldAddr fld47_0 rfl) rfl rfl rfl ?_
       refine WL.q (oq_load flat31 rfl (.head _) (List.mem_singleton.2 rfl) rfl) rfl rfl rfl ?_
       refine WL.q (oq_move rfl) rfl rfl rfl ?_
       refine WL.q (oq_move rfl) rfl rfl rfl ?_
       refine WL.q (oq_add rfl rfl (by rw [i64_lo, i64_hi]; (first | omega | (simp only [List.length_cons, List.length_nil, List.length_append, List.length_drop, List.length_take]; omega)))) rfl rfl rfl ?_
       refine WL.q (oq_sliceSl (j := (0 + n)) Tryz.underlying31 ty5 rfl (by (first | omega | (simp only [List.length_nil]; omega))) rfl ⟨_, rfl⟩ (by (first | omega | (simp only [List.length_nil]; omega))) (by (first | omega | (simp only [List.length_nil]; omega)))) rfl rfl rfl ?_
       refine WL.q (oq_nilCheck rfl) rfl rfl rfl ?_
       refine WL.q (oq_fieldAddr fld47_0 rfl) rfl rfl rfl ?_
       refine WL.store1 #[_, _, _] ty31 rfl rfl (by first | rfl | exact OwS.one one_) (Nat.lt_of_lt_of_le (Nat.lt_succ_self _) (Nat.le_of_ble_eq_true rfl)) rfl rfl ?_
       refine WL.nil (WE.then_normal (WC.sub (fr' := [(5, _)]) ?_ ⟨rfl, trivial⟩))
       refine WC.seq (WC.region ?_)
       refine WL.q (oq_move rfl) rfl rfl rfl ?_
       refine WL.q (oq_assign rfl) rfl rfl rfl ?_
       refine WL.nil (WE.then_normal (WC.sub (fr' := [(4, _)]) ?_ ⟨rfl, trivial⟩))
       refine WC.ret ?_
       refine WE.endW2 (.inl rfl) (res1 Tryz.results67 rfl) ?_
       refine ⟨B2, cap2, L2, rfl, ?_, hB2, hL2, hc2, hm2, ht2⟩
       rw [List.length_nil, Nat.zero_add, Nat.zero_add]; rfl
   ·
    try simp only [Z1, Z2, Z3, Z4, Z5, Z6, Z7, Z8, Z9, Z0] at s7_5
    refine WL.skip rfl rfl rfl ?_
    refine WL.skip rfl rfl rfl ?_
    refine WL.q (oq_pick_f rfl rfl) rfl rfl rfl ?_
    refine WL.nil (WE.then_normal (WC.sub (fr' := [(0, _), (1, _), (5, _), (38, _)]) ?_ ⟨rfl, rfl, rfl, rfl, trivial⟩))
    refine WC.cond_f rfl ?_
    refine WC.skip (WE.then_normal (WC.sub (fr' := [(0, _), (1, _), (5, _)]) ?_ ⟨rfl, rfl, rfl, trivial⟩))
    refine WC.seq (WC.region ?_)
    refine WL.q (oq_move rfl) rfl rfl rfl ?_
    refine WL.q (oq_nilCheck rfl) rfl rfl rfl ?_
    refine WL.q (oq_fieldAddr fld47_0 rfl) rfl rfl rfl ?_
    refine WL.q (oq_load flat31 rfl (.head _) (List.mem_singleton.2 rfl) rfl) rfl rfl rfl ?_
    refine WL.q (oq_cap_sl Tryz.underlying31 rfl) rfl rfl rfl ?_
    refine WL.q (oq_assign rfl) rfl rfl rfl ?_
    refine WL.nil (WE.then_normal (WC.sub (fr' := [(0, _), (1, _), (5, _), (8, _)]) ?_ ⟨rfl, rfl, rfl, rfl, trivial⟩))
    refine WC.seq (WC.seq (WC.region ?_))
    refine WL.q (oq_move rfl) rfl rfl rfl ?_
    refine WL.q (oq_move rfl) rfl rfl rfl ?_
    refine WL.q (oq_quo rfl rfl (by rw [i64_hi]; omega)) rfl rfl rfl ?_
    refine WL.q (oq_move rfl) rfl rfl rfl ?_
    refine WL.q (oq_sub rfl rfl (by rw [i64_lo, i64_hi]; (first | omega | (simp only [List.length_cons, List.length_nil, List.length_append, List.length_drop, List.length_take]; omega)))) rfl rfl rfl ?_
    refine WL.q (oq_leq rfl rfl) rfl rfl rfl ?_
    refine WL.nil (WE.then_normal (WC.sub (fr' := [(0, _), (1, _), (5, _), (8, _), (54, _)]) ?_ ⟨rfl, rfl, rfl, rfl, rfl, trivial⟩))
    refine WC.cond rfl (fun q11 => ?_) (fun q11 => ?_)
    ·
     try simp only [Z1, Z2, Z3, Z4, Z5, Z6, Z7, Z8, Z9, Z0] at q11
     first | contradiction | (exfalso; omega) | (exfalso; simp_all; done)
    ·
     try simp only [Z1, Z2, Z3, Z4, Z5, Z6, Z7, Z8, Z9, Z0] at q11
     refine WC.seq (WC.region ?_)
     refine WL.q (oq_move rfl) rfl rfl rfl ?_
     refine WL.q (oq_move rfl) rfl rfl rfl ?_
     refine WL.q (oq_sub rfl rfl (by rw [i64_lo, i64_hi]; (first | omega | (simp only [List.length_cons, List.length_nil, List.length_append, List.length_drop, List.length_take]; omega)))) rfl rfl rfl ?_
     refine WL.q (oq_move rfl) rfl rfl rfl ?_
     refine WL.q (oq_sub rfl rfl (by rw [i64_lo, i64_hi]; (first | omega | (simp only [List.length_cons, List.length_nil, List.length_append, List.length_drop, List.length_take]; omega)))) rfl rfl rfl ?_
     refine WL.q (oq_gtr rfl rfl) rfl rfl rfl ?_
     refine WL.nil (WE.then_normal (WC.sub (fr' := [(0, _), (1, _), (5, _), (74, _)]) ?_ ⟨rfl, rfl, rfl, rfl, trivial⟩))
     refine WC.cond rfl (fun q13 => ?_) (fun q13 => ?_)
     ·
      try simp only [Z1, Z2, Z3, Z4, Z5, Z6, Z7, Z8, Z9, Z0] at q13
      first | contradiction | (exfalso; omega) | (exfalso; simp_all; done)
     ·
      try simp only [Z1, Z2, Z3, Z4, Z5, Z6, Z7, Z8, Z9, Z0] at q13
      refine WC.tailM (pl := [_]) (ql := [_, _, _, _, _, _, _, _, _, _, _, _, _, _, _]) (tl := [_, _, _, _]) [0] [1, 2, 3, 4, 5, 6, 7, 8, 9, 10, 11, 12, 13, 14, 15] 16 [17, 18, 19] (by kernel_rfl) (by kernel_rfl) (by kernel_rfl) (by kernel_rfl) (by kernel_rfl) (by kernel_rfl) (by decide) rfl rfl rfl (by decide) (by repeat (first | with_reducible exact QOk.body | with_reducible apply QOk.then | with_reducible apply QOk.block | exact QOk.body | apply QOk.then | apply QOk.block)) ?_
      refine WM.q (fun w0 => oq_move rfl) rfl rfl rfl ?_
      refine WM.nil ?_
      refine WY.q (oq_move rfl) rfl rfl rfl ?_
      refine WY.q (oq_nilCheck rfl) rfl rfl rfl ?_
      refine WY.q (oq_fieldAddr fld47_0 rfl) rfl rfl rfl ?_
      refine WY.q (oq_load flat31 rfl (.head _) (List.mem_singleton.2 rfl) rfl) rfl rfl rfl ?_
      refine WY.q (oq_move rfl) rfl rfl rfl ?_
      refine WY.q (oq_nilCheck rfl) rfl rfl rfl ?_
      refine WY.q (oq_fieldAddr fld47_1 rfl) rfl rfl rfl ?_
      refine WY.q (oq_load flat3 rfl (.head _) (List.mem_singleton.2 rfl) rfl) rfl rfl rfl ?_
      refine WY.q (oq_sliceNil Tryz.underlying31 ty5 rfl rfl) rfl rfl rfl ?_
      refine WY.q (oq_move rfl) rfl rfl rfl ?_
      refine WY.q (oq_nilCheck rfl) rfl rfl rfl ?_
      refine WY.q (oq_fieldAddr fld47_1 rfl) rfl rfl rfl ?_
      refine WY.q (oq_load flat3 rfl (.head _) (List.mem_singleton.2 rfl) rfl) rfl rfl rfl ?_
      refine WY.q (oq_move rfl) rfl rfl rfl ?_
      refine WY.q (oq_add rfl rfl (by rw [i64_lo, i64_hi]; (first | omega | (simp only [List.length_cons, List.length_nil, List.length_append, List.length_drop, List.length_take]; omega)))) rfl rfl rfl ?_
      refine WY.nil ?_
      refine WL.callA0 (growSlice none 0 n [] [] ⟨rfl, .inl ⟨rfl, _, _, rfl⟩⟩ (by simp only [List.length_nil]; omega) hn (by omega)) call69 (by rw [Int.zero_add]; rfl) rfl rfl fun v15_16 N15_16 hR15_16 hN15_16 => ?_
      obtain ⟨B2, cap2, L2, rfl, rfl, hL2, hc2, hm2, ht2⟩ := hR15_16
      have hB2 := hN15_16 _ _ (List.mem_singleton.2 rfl)
      refine WL.q (oq_nilCheck rfl) rfl rfl rfl ?_
      refine WL.q (oq_fieldAddr fld47_0 rfl) rfl rfl rfl ?_
      refine WL.f1 ?_
      refine WL.store1 #[_, _, _] ty31 rfl rfl (by first | rfl | exact OwS.one one_) (Nat.lt_of_lt_of_le (Nat.lt_succ_self _) (Nat.le_of_ble_eq_true rfl)) rfl rfl ?_
      refine WL.nil (WE.then_normal (WC.sub (fr' := [(0, _), (1, _), (5, _)]) ?_ ⟨rfl, rfl, rfl, trivial⟩))
      refine WC.seq (WC.region ?_)
      refine WL.q (oq_move rfl) rfl rfl rfl ?_
      refine WL.q (oq_nilCheck rfl) rfl rfl rfl ?_
      refine WL.q (oq_fieldAddr fld47_1 rfl) rfl rfl rfl ?_
      refine WL.store1 #[_, _, _] ty3 rfl rfl (by first | rfl | exact OwS.one one_) (Nat.lt_of_lt_of_le (Nat.lt_succ_self _) (Nat.le_of_ble_eq_true rfl)) rfl rfl ?_
      refine WL.nil (WE.then_normal (WC.sub (fr' := [(0, _), (1, _), (5, _)]) ?_ ⟨rfl, rfl, rfl, trivial⟩))
      refine WC.seq (WC.region ?_)
      refine WL.q (oq_move rfl) rfl rfl rfl ?_
      refine WL.q (oq_move rfl) rfl rfl rfl ?_
      refine WL.q (oq_nilCheck rfl) rfl rfl rfl ?_
      refine WL.q (oq_fieldAddr fld47_0 rfl) rfl rfl rfl ?_
      refine WL.q (oq_load flat31 rfl (.head _) (List.mem_singleton.2 rfl) rfl) rfl rfl rfl ?_
      refine WL.q (oq_move rfl) rfl rfl rfl ?_
      refine WL.q (oq_move rfl) rfl rfl rfl ?_
      refine WL.q (oq_add rfl rfl (by rw [i64_lo, i64_hi]; (first | omega | (simp only [List.length_cons, List.length_nil, List.length_append, List.length_drop, List.length_take]; omega)))) rfl rfl rfl ?_
      refine WL.q (oq_sliceSl (j := (0 + n)) Tryz.underlying31 ty5 rfl (by (first | omega | (simp only [List.length_nil]; omega))) rfl ⟨_, rfl⟩ (by (first | omega | (simp only [List.length_nil]; omega))) (by (first | omega | (simp only [List.length_nil]; omega)))) rfl rfl rfl ?_
      refine WL.q (oq_nilCheck rfl) rfl rfl rfl ?_
      refine WL.q (oq_fieldAddr fld47_0 rfl) rfl rfl rfl ?_
      refine WL.store1 #[_, _, _] ty31 rfl rfl (by first | rfl | exact OwS.one one_) (Nat.lt_of_lt_of_le (Nat.lt_succ_self _) (Nat.le_of_ble_eq_true rfl)) rfl rfl ?_
      refine WL.nil (WE.then_normal (WC.sub (fr' := [(5, _)]) ?_ ⟨rfl, trivial⟩))
      refine WC.seq (WC.region ?_)
      refine WL.q (oq_move rfl) rfl rfl rfl ?_
      refine WL.q (oq_assign rfl) rfl rfl rfl ?_
      refine WL.nil (WE.then_normal (WC.sub (fr' := [(4, _)]) ?_ ⟨rfl, trivial⟩))
      refine WC.ret ?_
      refine WE.endW2 (.inl rfl) (res1 Tryz.results67 rfl) ?_
      refine ⟨B2, cap2, L2, rfl, ?_, hB2, hL2, hc2, hm2, ht2⟩
      rw [List.length_nil, Nat.zero_add, Nat.zero_add]; rfl
theorem grow1 (base bb B cap n : Nat) (lr : Int) (L acc : List UInt8) (hB : base ≤ B) (hLc : L.length = cap) (hac : acc.length ≤ cap) (hc0 : 0 < cap) (hmx : cap ≤ maxLen) (hLt : L.take acc.length = acc) (hn : 0 < n) (hal : acc.length + n ≤ 1000000) : FnW Tryz.prog 67 [Pt bb 0, I (n : Int)] base [[(bb, .cells #[Sl B 0 acc.length cap, I 0, .int .i8 lr] 47 (0, 0))], Bf B 5 L] (Grown n base bb lr acc) := by
 have hmy : maxLen ≤ 9223372036854775807 := by unfold maxLen; omega
 have hrd : RdS 1 (Sl B 0 acc.length cap) (Bf B 5 L) acc.length (bytesV acc) := by have := Sl.rd (b := B) (off := 0) (n := acc.length) (c := cap) (e := 5) (l := L) (by omega) hac; rw [List.drop_zero, hLt] at this; exact this
 refine FnW.enter (n := 110) Tryz.func67 rfl rfl fun w0 R0 hbase => ?_
 subst hbase
 show WC _ _ _ _ _ _ _ ([[(bb, .cells #[Sl B 0 acc.length cap, I 0, .int .i8 lr] 47 (0, 0))], Bf B 5 L, R0])
 refine WC.sub (fr' := [(0, _), (1, _)]) ?_ ⟨rfl, rfl, trivial⟩
 refine WC.seq (WC.region ?_)
 refine WL.q (oq_assign rfl) rfl rfl rfl ?_
 refine WL.nil (WE.then_normal (WC.sub (fr' := [(0, _), (1, _)]) ?_ ⟨rfl, rfl, trivial⟩))
 refine WC.seq (WC.region ?_)
 refine WL.q (oq_move rfl) rfl rfl rfl ?_
 refine WL.qc (oq_callRm (bufLen bb acc.length cap (some ⟨B, 0, none⟩) lr (by omega)) (.head _) call26 rfl) rfl rfl rfl ?_
 refine WL.q (oq_assign rfl) rfl rfl rfl ?_
 refine WL.nil (WE.then_normal (WC.sub (fr' := [(0, _), (1, _), (5, _)]) ?_ ⟨rfl, rfl, rfl, trivial⟩))
 refine WC.cut (ι := Unit) (fun _ => [(0, Pt bb 0), (1, I (n : Int)), (5, I (acc.length : Int))]) (fun _ => [[(bb, .cells #[Sl B 0 acc.length cap, I 0, .int .i8 lr] 47 (0, 0))], Bf B 5 L, R0]) (fun _ => True) ?_ ?_
 ·
  refine WC.seq (WC.region ?_)
  refine WL.q (oq_move rfl) rfl rfl rfl ?_
  refine WL.q (oq_eql rfl rfl) rfl rfl rfl ?_
  refine WL.q (oq_move rfl) rfl rfl rfl ?_
  refine WL.split 13 rfl (fun s2_2 => ?_) (fun s2_2 => ?_)
  ·
   try simp only [Z1, Z2, Z3, Z4, Z5, Z6, Z7, Z8, Z9, Z0] at s2_2
   refine WL.q (oq_move rfl) rfl rfl rfl ?_
   refine WL.q (oq_nilCheck rfl) rfl rfl rfl ?_
   refine WL.q (oq_fieldAddr fld47_1 rfl) rfl rfl rfl ?_
   refine WL.q (oq_load flat3 rfl (.head _) (List.mem_singleton.2 rfl) rfl) rfl rfl rfl ?_
   refine WL.q (oq_neq rfl rfl) rfl rfl rfl ?_
   refine WL.q (oq_pick_t rfl rfl) rfl rfl rfl ?_
   refine WL.nil (WE.then_normal (WC.sub (fr' := [(0, _), (1, _), (5, _), (19, _)]) ?_ ⟨rfl, rfl, rfl, rfl, trivial⟩))
   refine WC.cond rfl (fun q2 => ?_) (fun q2 => ?_)
   ·
    try simp only [Z1, Z2, Z3, Z4, Z5, Z6, Z7, Z8, Z9, Z0] at q2
    first | contradiction | (exfalso; omega) | (exfalso; simp_all; done)
   ·
    try simp only [Z1, Z2, Z3, Z4, Z5, Z6, Z7, Z8, Z9, Z0] at q2
    refine WC.skip ?_
    refine WE.meet () ?_ ⟨rfl, rfl, rfl, trivial⟩ (List.Perm.refl _)
    try dsimp only
    all_goals trivial
  ·
   try simp only [Z1, Z2, Z3, Z4, Z5, Z6, Z7, Z8, Z9, Z0] at s2_2
   refine WL.skip rfl rfl rfl ?_
   refine WL.skip rfl rfl rfl ?_
   refine WL.skip rfl rfl rfl ?_
   refine WL.skip rfl rfl rfl ?_
   refine WL.skip rfl rfl rfl ?_
   refine WL.q (oq_pick_f rfl rfl) rfl rfl rfl ?_
   refine WL.nil (WE.then_normal (WC.sub (fr' := [(0, _), (1, _), (5, _), (19, _)]) ?_ ⟨rfl, rfl, rfl, rfl, trivial⟩))
   refine WC.cond_f rfl ?_
   refine WC.skip ?_
   refine WE.meet () ?_ ⟨rfl, rfl, rfl, trivial⟩ (List.Perm.refl _)
   try dsimp only
   all_goals trivial
 ·rintro _ hp
  try dsimp only at hp
  show WC _ _ _ _ _ _ ([(0, Pt bb 0), (1, I (n : Int)), (5, I (acc.length : Int))]) ([[(bb, .cells #[Sl B 0 acc.length cap, I 0, .int .i8 lr] 47 (0, 0))], Bf B 5 L, R0])
  refine WC.seq (WC.seq (WC.region ?_))
  refine WL.q (oq_move rfl) rfl rfl rfl ?_
  refine WL.q (oq_move rfl) rfl rfl rfl ?_
  refine WL.callW1 (tryGrow1 _ bb B acc.length cap n lr hac (by omega) hmx hc0) call68 rfl rfl rfl fun v4_2 Hs4_2 hR4_2 => ?_
  obtain ⟨rfl, rfl⟩ := hR4_2
  refine WL.to1 ?_
  refine WL.q (oq_move rfl) rfl rfl rfl ?_
  refine WL.q (oq_extract rfl rfl) rfl rfl rfl ?_
  refine WL.q (oq_extract rfl rfl) rfl rfl rfl ?_
  refine WL.q (oq_assign rfl) rfl rfl rfl ?_
  refine WL.q (oq_assign rfl) rfl rfl rfl ?_
  refine WL.nil (WE.then_normal (WC.sub (fr' := [(0, _), (1, _), (5, _), (6, _), (7, _)]) ?_ ⟨rfl, rfl, rfl, rfl, rfl, trivial⟩))
  refine WC.seq (WC.region ?_)
  refine WL.q (oq_move rfl) rfl rfl rfl ?_
  refine WL.nil (WE.then_normal (WC.sub (fr' := [(0, _), (1, _), (5, _), (6, _), (28, _)]) ?_ ⟨rfl, rfl, rfl, rfl, rfl, trivial⟩))
  refine WC.cond rfl (fun q5 => ?_) (fun q5 => ?_)
  ·
   try simp only [Z1, Z2, Z3, Z4, Z5, Z6, Z7, Z8, Z9, Z0] at q5
   refine WC.seq (WC.region ?_)
   refine WL.q (oq_move rfl) rfl rfl rfl ?_
   refine WL.q (oq_assign rfl) rfl rfl rfl ?_
   refine WL.nil (WE.then_normal (WC.sub (fr' := [(4, _)]) ?_ ⟨rfl, trivial⟩))
   refine WC.ret (WE.then_ret ?_)
   refine WE.endW2 (.inl rfl) (res1 Tryz.results67 rfl) ?_
   rw [if_pos (by omega), if_pos (by omega)]
   exact ⟨B, cap, L, rfl, rfl, hB, hLc, by omega, hmx, hLt⟩
  ·
   try simp only [Z1, Z2, Z3, Z4, Z5, Z6, Z7, Z8, Z9, Z0] at q5
   refine WC.skip (WE.then_normal (WC.sub (fr' := [(0, _), (1, _), (5, _)]) ?_ ⟨rfl, rfl, rfl, trivial⟩))
   refine WC.seq (WC.seq ?_)
   rw [if_neg (show ¬ (acc.length + n ≤ cap) by omega)]
   refine WC.region ?_
   refine WL.q (oq_move rfl) rfl rfl rfl ?_
   refine WL.q (oq_nilCheck rfl) rfl rfl rfl ?_
   refine WL.q (oq_fieldAddr fld47_0 rfl) rfl rfl rfl ?_
   refine WL.q (oq_load flat31 rfl (.head _) (List.mem_singleton.2 rfl) rfl) rfl rfl rfl ?_
   refine WL.q (oq_sleql Tryz.underlying31 rfl rfl) rfl rfl rfl ?_
   refine WL.q (oq_move rfl) rfl rfl rfl ?_
   refine WL.split 35 rfl (fun s7_5 => ?_) (fun s7_5 => ?_)
   ·
    try simp only [Z1, Z2, Z3, Z4, Z5, Z6, Z7, Z8, Z9, Z0] at s7_5
    refine WL.q (oq_move rfl) rfl rfl rfl ?_
    refine WL.q (oq_leq rfl rfl) rfl rfl rfl ?_
    refine WL.q (oq_pick_t rfl rfl) rfl rfl rfl ?_
    refine WL.nil (WE.then_normal (WC.sub (fr' := [(0, _), (1, _), (5, _), (38, _)]) ?_ ⟨rfl, rfl, rfl, rfl, trivial⟩))
    refine WC.cond rfl (fun q7 => ?_) (fun q7 => ?_)
    ·
     try simp only [Z1, Z2, Z3, Z4, Z5, Z6, Z7, Z8, Z9, Z0] at q7
     refine WC.seq ?_
     first | contradiction | (exfalso; omega) | (exfalso; simp_all; done)
    ·
     try simp only [Z1, Z2, Z3, Z4, Z5, Z6, Z7, Z8, Z9, Z0] at q7
     refine WC.skip (WE.then_normal (WC.sub (fr' := [(0, _), (1, _), (5, _)]) ?_ ⟨rfl, rfl, rfl, trivial⟩))
     refine WC.seq (WC.region ?_)
     refine WL.q (oq_move rfl) rfl rfl rfl ?_
     refine WL.q (oq_nilCheck rfl) rfl rfl rfl ?_
     refine WL.q (oq_fieldAddr fld47_0 rfl) rfl rfl rfl ?_
     refine WL.q (oq_load flat31 rfl (.head _) (List.mem_singleton.2 rfl) rfl) rfl rfl rfl ?_
     refine WL.q (oq_cap_sl Tryz.underlying31 rfl) rfl rfl rfl ?_
     refine WL.q (oq_assign rfl) rfl rfl rfl ?_
     refine WL.nil (WE.then_normal (WC.sub (fr' := [(0, _), (1, _), (5, _), (8, _)]) ?_ ⟨rfl, rfl, rfl, rfl, trivial⟩))
     refine WC.seq (WC.seq (WC.region ?_))
     refine WL.q (oq_move rfl) rfl rfl rfl ?_
     refine WL.q (oq_move rfl) rfl rfl rfl ?_
     refine WL.q (oq_quo rfl rfl (by rw [i64_hi]; omega)) rfl rfl rfl ?_
     refine WL.q (oq_move rfl) rfl rfl rfl ?_
     refine WL.q (oq_sub rfl rfl (by rw [i64_lo, i64_hi]; (first | omega | (simp only [List.length_cons, List.length_nil, List.length_append, List.length_drop, List.length_take]; omega)))) rfl rfl rfl ?_
     refine WL.q (oq_leq rfl rfl) rfl rfl rfl ?_
     refine WL.nil (WE.then_normal (WC.sub (fr' := [(0, _), (1, _), (5, _), (8, _), (54, _)]) ?_ ⟨rfl, rfl, rfl, rfl, rfl, trivial⟩))
     refine WC.cond rfl (fun q11 => ?_) (fun q11 => ?_)
     ·
      try simp only [Z1, Z2, Z3, Z4, Z5, Z6, Z7, Z8, Z9, Z0] at q11
      first | contradiction | (exfalso; omega) | (exfalso; simp_all; done)
     ·
      try simp only [Z1, Z2, Z3, Z4, Z5, Z6, Z7, Z8, Z9, Z0] at q11
      refine WC.seq (WC.region ?_)
      refine WL.q (oq_move rfl) rfl rfl rfl ?_
      refine WL.q (oq_move rfl) rfl rfl rfl ?_
      refine WL.q (oq_sub rfl rfl (by rw [i64_lo, i64_hi]; (first | omega | (simp only [List.length_cons, List.length_nil, List.length_append, List.length_drop, List.length_take]; omega)))) rfl rfl rfl ?_
      refine WL.q (oq_move rfl) rfl rfl rfl ?_
      refine WL.q (oq_sub rfl rfl (by rw [i64_lo, i64_hi]; (first | omega | (simp only [List.length_cons, List.length_nil, List.length_append, List.length_drop, List.length_take]; omega)))) rfl rfl rfl ?_
      refine WL.q (oq_gtr rfl rfl) rfl rfl rfl ?_
      refine WL.nil (WE.then_normal (WC.sub (fr' := [(0, _), (1, _), (5, _), (74, _)]) ?_ ⟨rfl, rfl, rfl, rfl, trivial⟩))
      refine WC.cond rfl (fun q13 => ?_) (fun q13 => ?_)
      ·
       try simp only [Z1, Z2, Z3, Z4, Z5, Z6, Z7, Z8, Z9, Z0] at q13
       first | contradiction | (exfalso; omega) | (exfalso; simp_all; done)
      ·
       try simp only [Z1, Z2, Z3, Z4, Z5, Z6, Z7, Z8, Z9, Z0] at q13
       refine WC.tailM (pl := [_]) (ql := [_, _, _, _, _, _, _, _, _, _, _, _, _, _, _]) (tl := [_, _, _, _]) [0] [1, 2, 3, 4, 5, 6, 7, 8, 9, 10, 11, 12, 13, 14, 15] 16 [17, 18, 19] (by kernel_rfl) (by kernel_rfl) (by kernel_rfl) (by kernel_rfl) (by kernel_rfl) (by kernel_rfl) (by decide) rfl rfl rfl (by decide) (by repeat (first | with_reducible exact QOk.body | with_reducible apply QOk.then | with_reducible apply QOk.block | exact QOk.body | apply QOk.then | apply QOk.block)) ?_
       refine WM.q (fun w0 => oq_move rfl) rfl rfl rfl ?_
       refine WM.nil ?_
       refine WY.q (oq_move rfl) rfl rfl rfl ?_
       refine WY.q (oq_nilCheck rfl) rfl rfl rfl ?_
       refine WY.q (oq_fieldAddr fld47_0 rfl) rfl rfl rfl ?_
       refine WY.q (oq_load flat31 rfl (.head _) (List.mem_singleton.2 rfl) rfl) rfl rfl rfl ?_
       refine WY.q (oq_move rfl) rfl rfl rfl ?_
       refine WY.q (oq_nilCheck rfl) rfl rfl rfl ?_
       refine WY.q (oq_fieldAddr fld47_1 rfl) rfl rfl rfl ?_
       refine WY.q (oq_load flat3 rfl (.head _) (List.mem_singleton.2 rfl) rfl) rfl rfl rfl ?_
       refine WY.q (oq_sliceSl (i := 0) Tryz.underlying31 ty5 rfl (by omega) ⟨_, rfl⟩ rfl (by omega) (by omega)) rfl rfl rfl ?_
       refine WY.q (oq_move rfl) rfl rfl rfl ?_
       refine WY.q (oq_nilCheck rfl) rfl rfl rfl ?_
       refine WY.q (oq_fieldAddr fld47_1 rfl) rfl rfl rfl ?_
       refine WY.q (oq_load flat3 rfl (.head _) (List.mem_singleton.2 rfl) rfl) rfl rfl rfl ?_
       refine WY.q (oq_move rfl) rfl rfl rfl ?_
       refine WY.q (oq_add rfl rfl (by rw [i64_lo, i64_hi]; (first | omega | (simp only [List.length_cons, List.length_nil, List.length_append, List.length_drop, List.length_take]; omega)))) rfl rfl rfl ?_
       refine WY.nil ?_
       refine WL.f1 ?_
       refine WL.callA (growSlice (some ⟨B, 0, none⟩) cap n (Bf B 5 L) acc hrd (by omega) hn (by omega)) call69 (by rw [Int.zero_add]; rfl) rfl rfl fun v15_16 N15_16 hR15_16 hN15_16 => ?_
       obtain ⟨B2, cap2, L2, rfl, rfl, hL2, hc2, hm2, ht2⟩ := hR15_16
       have hB2 := hN15_16 _ _ (List.mem_singleton.2 rfl)
       refine WL.q (oq_nilCheck rfl) rfl rfl rfl ?_
       refine WL.q (oq_fieldAddr fld47_0 rfl) rfl rfl rfl ?_
       refine WL.f2 ?_
       refine WL.store1 #[_, _, _] ty31 rfl rfl (by first | rfl | exact OwS.one one_) (Nat.lt_of_lt_of_le (Nat.lt_succ_self _) (Nat.le_of_ble_eq_true rfl)) rfl rfl ?_
       refine WL.nil (WE.then_normal (WC.sub (fr' := [(0, _), (1, _), (5, _)]) ?_ ⟨rfl, rfl, rfl, trivial⟩))
       refine WC.seq (WC.region ?_)
       refine WL.q (oq_move rfl) rfl rfl rfl ?_
       refine WL.q (oq_nilCheck rfl) rfl rfl rfl ?_
       refine WL.q (oq_fieldAddr fld47_1 rfl) rfl rfl rfl ?_
       refine WL.store1 #[_, _, _] ty3 rfl rfl (by first | rfl | exact OwS.one one_) (Nat.lt_of_lt_of_le (Nat.lt_succ_self _) (Nat.le_of_ble_eq_true rfl)) rfl rfl ?_
       refine WL.nil (WE.then_normal (WC.sub (fr' := [(0, _), (1, _), (5, _)]) ?_ ⟨rfl, rfl, rfl, trivial⟩))
       refine WC.seq (WC.region ?_)
       refine WL.q (oq_move rfl) rfl rfl rfl ?_
       refine WL.q (oq_move rfl) rfl rfl rfl ?_
       refine WL.q (oq_nilCheck rfl) rfl rfl rfl ?_
       refine WL.q (oq_fieldAddr fld47_0 rfl) rfl rfl rfl ?_
       refine WL.q (oq_load flat31 rfl (.head _) (List.mem_singleton.2 rfl) rfl) rfl rfl rfl ?_
       refine WL.q (oq_move rfl) rfl rfl rfl ?_
       refine WL.q (oq_move rfl) rfl rfl rfl ?_
       refine WL.q (oq_add rfl rfl (by rw [i64_lo, i64_hi]; (first | omega | (simp only [List.length_cons, List.length_nil, List.length_append, List.length_drop, List.length_take]; omega)))) rfl rfl rfl ?_
       refine WL.q (oq_sliceSl (j := (acc.length + n)) Tryz.underlying31 ty5 rfl (by omega) rfl ⟨_, rfl⟩ (by omega) (by omega)) rfl rfl rfl ?_
       refine WL.q (oq_nilCheck rfl) rfl rfl rfl ?_
       refine WL.q (oq_fieldAddr fld47_0 rfl) rfl rfl rfl ?_
       refine WL.store1 #[_, _, _] ty31 rfl rfl (by first | rfl | exact OwS.one one_) (Nat.lt_of_lt_of_le (Nat.lt_succ_self _) (Nat.le_of_ble_eq_true rfl)) rfl rfl ?_
       refine WL.nil (WE.then_normal (WC.sub (fr' := [(5, _)]) ?_ ⟨rfl, trivial⟩))
       refine WC.seq (WC.region ?_)
       refine WL.q (oq_move rfl) rfl rfl rfl ?_
       refine WL.q (oq_assign rfl) rfl rfl rfl ?_
       refine WL.nil (WE.then_normal (WC.sub (fr' := [(4, _)]) ?_ ⟨rfl, trivial⟩))
       refine WC.ret ?_
       refine WE.f2 ?_
       refine WE.lose hB ?_
       refine WE.endW2 (.inl rfl) (res1 Tryz.results67 rfl) ?_
       exact ⟨B2, cap2, L2, rfl, rfl, hB2, hL2, hc2, hm2, ht2⟩
   ·
    try simp only [Z1, Z2, Z3, Z4, Z5, Z6, Z7, Z8, Z9, Z0] at s7_5
    refine WL.skip rfl rfl rfl ?_
    refine WL.skip rfl rfl rfl ?_
    refine WL.q (oq_pick_f rfl rfl) rfl rfl rfl ?_
    refine WL.nil (WE.then_normal (WC.sub (fr' := [(0, _), (1, _), (5, _), (38, _)]) ?_ ⟨rfl, rfl, rfl, rfl, trivial⟩))
    refine WC.cond_f rfl ?_
    refine WC.skip (WE.then_normal (WC.sub (fr' := [(0, _), (1, _), (5, _)]) ?_ ⟨rfl, rfl, rfl, trivial⟩))
    refine WC.seq (WC.region ?_)
    refine WL.q (oq_move rfl) rfl rfl rfl ?_
    refine WL.q (oq_nilCheck rfl) rfl rfl rfl ?_
    refine WL.q (oq_fieldAddr fld47_0 rfl) rfl rfl rfl ?_
    refine WL.q (oq_load flat31 rfl (.head _) (List.mem_singleton.2 rfl) rfl) rfl rfl rfl ?_
    refine WL.q (oq_cap_sl Tryz.underlying31 rfl) rfl rfl rfl ?_
    refine WL.q (oq_assign rfl) rfl rfl rfl ?_
    refine WL.nil (WE.then_normal (WC.sub (fr' := [(0, _), (1, _), (5, _), (8, _)]) ?_ ⟨rfl, rfl, rfl, rfl, trivial⟩))
    refine WC.seq (WC.seq (WC.region ?_))
    refine WL.q (oq_move rfl) rfl rfl rfl ?_
    refine WL.q (oq_move rfl) rfl rfl rfl ?_
    refine WL.q (oq_quo rfl rfl (by rw [i64_hi]; omega)) rfl rfl rfl ?_
    refine WL.q (oq_move rfl) rfl rfl rfl ?_
    refine WL.q (oq_sub rfl rfl (by rw [i64_lo, i64_hi]; (first | omega | (simp only [List.length_cons, List.length_nil, List.length_append, List.length_drop, List.length_take]; omega)))) rfl rfl rfl ?_
    refine WL.q (oq_leq rfl rfl) rfl rfl rfl ?_
    refine WL.nil (WE.then_normal (WC.sub (fr' := [(0, _), (1, _), (5, _), (8, _), (54, _)]) ?_ ⟨rfl, rfl, rfl, rfl, rfl, trivial⟩))
    refine WC.cond rfl (fun q11 => ?_) (fun q11 => ?_)
    ·
     try simp only [Z1, Z2, Z3, Z4, Z5, Z6, Z7, Z8, Z9, Z0] at q11
     first | contradiction | (exfalso; omega) | (exfalso; simp_all; done)
    ·
     try simp only [Z1, Z2, Z3, Z4, Z5, Z6, Z7, Z8, Z9, Z0] at q11
     refine WC.seq (WC.region ?_)
     refine WL.q (oq_move rfl) rfl rfl rfl ?_
     refine WL.q (oq_move rfl) rfl rfl rfl ?_
     refine WL.q (oq_sub rfl rfl (by rw [i64_lo, i64_hi]; (first | omega | (simp only [List.length_cons, List.length_nil, List.length_append, List.length_drop, List.length_take]; omega)))) rfl rfl rfl ?_
     refine WL.q (oq_move rfl) rfl rfl rfl ?_
     refine WL.q (oq_sub rfl rfl (by rw [i64_lo, i64_hi]; (first | omega | (simp only [List.length_cons, List.length_nil, List.length_append, List.length_drop, List.length_take]; omega)))) rfl rfl rfl ?_
     refine WL.q (oq_gtr rfl rfl) rfl rfl rfl ?_
     refine WL.nil (WE.then_normal (WC.sub (fr' := [(0, _), (1, _), (5, _), (74, _)]) ?_ ⟨rfl, rfl, rfl, rfl, trivial⟩))
     refine WC.cond rfl (fun q13 => ?_) (fun q13 => ?_)
     ·
      try simp only [Z1, Z2, Z3, Z4, Z5, Z6, Z7, Z8, Z9, Z0] at q13
      first | contradiction | (exfalso; omega) | (exfalso; simp_all; done)
     ·
      try simp only [Z1, Z2, Z3, Z4, Z5, Z6, Z7, Z8, Z9, Z0] at q13
      refine WC.tailM (pl := [_]) (ql := [_, _, _, _, _, _, _, _, _, _, _, _, _, _, _]) (tl := [_, _, _, _]) [0] [1, 2, 3, 4, 5, 6, 7, 8, 9, 10, 11, 12, 13, 14, 15] 16 [17, 18, 19] (by kernel_rfl) (by kernel_rfl) (by kernel_rfl) (by kernel_rfl) (by kernel_rfl) (by kernel_rfl) (by decide) rfl rfl rfl (by decide) (by repeat (first | with_reducible exact QOk.body | with_reducible apply QOk.then | with_reducible apply QOk.block | exact QOk.body | apply QOk.then | apply QOk.block)) ?_
      refine WM.q (fun w0 => oq_move rfl) rfl rfl rfl ?_
      refine WM.nil ?_
      refine WY.q (oq_move rfl) rfl rfl rfl ?_
      refine WY.q (oq_nilCheck rfl) rfl rfl rfl ?_
      refine WY.q (oq_fieldAddr fld47_0 rfl) rfl rfl rfl ?_
      refine WY.q (oq_load flat31 rfl (.head _) (List.mem_singleton.2 rfl) rfl) rfl rfl rfl ?_
      refine WY.q (oq_move rfl) rfl rfl rfl ?_
      refine WY.q (oq_nilCheck rfl) rfl rfl rfl ?_
      refine WY.q (oq_fieldAddr fld47_1 rfl) rfl rfl rfl ?_
      refine WY.q (oq_load flat3 rfl (.head _) (List.mem_singleton.2 rfl) rfl) rfl rfl rfl ?_
      refine WY.q (oq_sliceSl (i := 0) Tryz.underlying31 ty5 rfl (by omega) ⟨_, rfl⟩ rfl (by omega) (by omega)) rfl rfl rfl ?_
      refine WY.q (oq_move rfl) rfl rfl rfl ?_
      refine WY.q (oq_nilCheck rfl) rfl rfl rfl ?_
      refine WY.q (oq_fieldAddr fld47_1 rfl) rfl rfl rfl ?_
      refine WY.q (oq_load flat3 rfl (.head _) (List.mem_singleton.2 rfl) rfl) rfl rfl rfl ?_
      refine WY.q (oq_move rfl) rfl rfl rfl ?_
      refine WY.q (oq_add rfl rfl (by rw [i64_lo, i64_hi]; (first | omega | (simp only [List.length_cons, List.length_nil, List.length_append, List.length_drop, List.length_take]; omega)))) rfl rfl rfl ?_
      refine WY.nil ?_
      refine WL.f1 ?_
      refine WL.callA (growSlice (some ⟨B, 0, none⟩) cap n (Bf B 5 L) acc hrd (by omega) hn (by omega)) call69 (by rw [Int.zero_add]; rfl) rfl rfl fun v15_16 N15_16 hR15_16 hN15_16 => ?_
      obtain ⟨B2, cap2, L2, rfl, rfl, hL2, hc2, hm2, ht2⟩ := hR15_16
      have hB2 := hN15_16 _ _ (List.mem_singleton.2 rfl)
      refine WL.q (oq_nilCheck rfl) rfl rfl rfl ?_
      refine WL.q (oq_fieldAddr fld47_0 rfl) rfl rfl rfl ?_
      refine WL.f2 ?_
      refine WL.store1 #[_, _, _] ty31 rfl rfl (by first | rfl | exact OwS.one one_) (Nat.lt_of_lt_of_le (Nat.lt_succ_self _) (Nat.le_of_ble_eq_true rfl)) rfl rfl ?_
      refine WL.nil (WE.then_normal (WC.sub (fr' := [(0, _), (1, _), (5, _)]) ?_ ⟨rfl, rfl, rfl, trivial⟩))
      refine WC.seq (WC.region ?_)
      refine WL.q (oq_move rfl) rfl rfl rfl ?_
      refine WL.q (oq_nilCheck rfl) rfl rfl rfl ?_
      refine WL.q (oq_fieldAddr fld47_1 rfl) rfl rfl rfl ?_
      refine WL.store1 #[_, _, _] ty3 rfl rfl (by first | rfl | exact OwS.one one_) (Nat.lt_of_lt_of_le (Nat.lt_succ_self _) (Nat.le_of_ble_eq_true rfl)) rfl rfl ?_
      refine WL.nil (WE.then_normal (WC.sub (fr' := [(0, _), (1, _), (5, _)]) ?_ ⟨rfl, rfl, rfl, trivial⟩))
      refine WC.seq (WC.region ?_)
      refine WL.q (oq_move rfl) rfl rfl rfl ?_
      refine WL.q (oq_move rfl) rfl rfl rfl ?_
      refine WL.q (oq_nilCheck rfl) rfl rfl rfl ?_
      refine WL.q (oq_fieldAddr fld47_0 rfl) rfl rfl rfl ?_
      refine WL.q (oq_load flat31 rfl (.head _) (List.mem_singleton.2 rfl) rfl) rfl rfl rfl ?_
      refine WL.q (oq_move rfl) rfl rfl rfl ?_
      refine WL.q (oq_move rfl) rfl rfl rfl ?_
      refine WL.q (oq_add rfl rfl (by rw [i64_lo, i64_hi]; (first | omega | (simp only [List.length_cons, List.length_nil, List.length_append, List.length_drop, List.length_take]; omega)))) rfl rfl rfl ?_
      refine WL.q (oq_sliceSl (j := (acc.length + n)) Tryz.underlying31 ty5 rfl (by omega) rfl ⟨_, rfl⟩ (by omega) (by omega)) rfl rfl rfl ?_
      refine WL.q (oq_nilCheck rfl) rfl rfl rfl ?_
      refine WL.q (oq_fieldAddr fld47_0 rfl) rfl rfl rfl ?_
      refine WL.store1 #[_, _, _] ty31 rfl rfl (by first | rfl | exact OwS.one one_) (Nat.lt_of_lt_of_le (Nat.lt_succ_self _) (Nat.le_of_ble_eq_true rfl)) rfl rfl ?_
      refine WL.nil (WE.then_normal (WC.sub (fr' := [(5, _)]) ?_ ⟨rfl, trivial⟩))
      refine WC.seq (WC.region ?_)
      refine WL.q (oq_move rfl) rfl rfl rfl ?_
      refine WL.q (oq_assign rfl) rfl rfl rfl ?_
      refine WL.nil (WE.then_normal (WC.sub (fr' := [(4, _)]) ?_ ⟨rfl, trivial⟩))
      refine WC.ret ?_
      refine WE.f2 ?_
      refine WE.lose hB ?_
      refine WE.endW2 (.inl rfl) (res1 Tryz.results67 rfl) ?_
      exact ⟨B2, cap2, L2, rfl, rfl, hB2, hL2, hc2, hm2, ht2⟩
end EA
end Go.Proofs.YtinkaobaboffcaaGreatDoor
/- Writing into a buffer of bytes. -/
namespace Go.Proofs.YtinkaobaboffcaaGreatDoor
open Go Go.RowKit V EA
set_option linter.unusedSimpArgs false
set_option linter.unusedVariables false
set_option maxRecDepth 10000
namespace EB
theorem call67 : Callable Tryz.prog 67 := ⟨_, Tryz.func67, rfl, by kernel_rfl⟩
theorem call68 : Callable Tryz.prog 68 := ⟨_, Tryz.func68, rfl, by kernel_rfl⟩
theorem flat31 : Flat Tryz.prog 31 := ⟨_, Tryz.underlying31, by simp⟩
theorem ty5 : Ty Tryz.prog 5 (.int .u8 0) 1 1 := ty_of (by kernel_rfl)
theorem ty31 : Ty Tryz.prog 31 (.slice none 0 0) 1 24 := ty_of (by kernel_rfl)
theorem ty45 : Ty Tryz.prog 45 (.int .i8 0) 1 1 := ty_of (by kernel_rfl)
theorem fld47_0 : Fld Tryz.prog 47 0 0 31 := fld_of Tryz.underlying47 rfl rfl rfl ty31 (by decide)
theorem fld47_2 : Fld Tryz.prog 47 2 2 45 := fld_of Tryz.underlying47 rfl rfl rfl ty45 (by decide)
theorem tryYes (base bb B len cap n : Nat) (lr : Int) (hlc : len ≤ cap) (hl : len + n ≤ 1000000) (hmx : cap ≤ maxLen) (h0 : 0 < cap) (hf : len + n ≤ cap) : FnW Tryz.prog 68 [Pt bb 0, I (n : Int)] base [BB bb (Sl B 0 len cap) lr] (fun w Hs => w = .tuple #[I (len : Int), .bool true] ∧ Hs = [BB bb (Sl B 0 (len + n) cap) lr]) := by
 refine (tryGrow1 base bb B len cap n lr hlc hl hmx h0).mono ?_
 rintro v Hs ⟨rfl, rfl⟩
 rw [if_pos hf, if_pos hf, decide_eq_true hf]
 exact ⟨rfl, rfl⟩
theorem tryNo (base bb B len cap n : Nat) (lr : Int) (hlc : len ≤ cap) (hl : len + n ≤ 1000000) (hmx : cap ≤ maxLen) (h0 : 0 < cap) (hf : ¬ len + n ≤ cap) : FnW Tryz.prog 68 [Pt bb 0, I (n : Int)] base [BB bb (Sl B 0 len cap) lr] (fun w Hs => w = .tuple #[I 0, .bool false] ∧ Hs = [BB bb (Sl B 0 len cap) lr]) := by
 refine (tryGrow1 base bb B len cap n lr hlc hl hmx h0).mono ?_
 rintro v Hs ⟨rfl, rfl⟩
 rw [if_neg hf, if_neg hf, decide_eq_false hf]
 exact ⟨rfl, rfl⟩
def Wrote (base bb : Nat) (acc data : List UInt8) (C : List Hp) (w : Value) (Hs : List Hp) : Prop :=
 ∃ v A, w = .tuple #[I (data.length : Int), .nilIface] ∧ Hs = BB bb v 0 :: A :: C ∧ Buf base v A (acc ++ data)
theorem wrote_of {base bb B cap : Nat} {acc data L : List UInt8} {C : List Hp} {k : Int} {v : Value} {A : Hp} (hB : base ≤ B) (hL : L.length = cap) (hc : acc.length + data.length ≤ cap) (h0 : 0 < cap) (hm : cap ≤ maxLen) (ht : L.take acc.length = acc)
  (hk : k = (data.length : Int)) (hv : v = Sl B 0 (acc.length + data.length) cap) (hA : A = Bf B 5 (L.take acc.length ++ data ++ L.drop (acc.length + data.length))) : Wrote base bb acc data C (.tuple #[I k, .nilIface]) (BB bb v 0 :: A :: C) := by
 subst hk hv hA
 refine ⟨_, _, rfl, rfl, .inr ⟨B, cap, _, by rw [List.length_append], rfl, hB, ?_, by rw [List.length_append]; exact hc, h0, hm, ?_⟩⟩
 ·simp; omega
 ·rw [ht, List.take_left' rfl]
theorem writeY (base bb : Nat) (lr : Int) (data : List UInt8) (B cap : Nat) (L acc : List UInt8) (hB : base ≤ B) (hLc : L.length = cap) (hac : acc.length ≤ cap) (hc0 : 0 < cap) (hmx : cap ≤ maxLen) (hLt : L.take acc.length = acc) (hal : acc.length + data.length ≤ 1000000) (s : Value) (C : Hp) (hr : RdS 1 s C data.length (bytesV data)) (hfit : acc.length + data.length ≤ cap) (hlc : acc.length < cap) : FnW Tryz.prog 64 [Pt bb 0, s] base [[(bb, .cells #[Sl B 0 acc.length cap, I 0, .int .i8 lr] 47 (0, 0))], Bf B 5 L, C] (Wrote base bb acc data [C]) := by
 have hmz : maxLen ≤ 9223372036854775807 := by unfold maxLen; omega
 refine FnW.enter (n := 32) Tryz.func64 rfl rfl fun w0 R0 hbase => ?_
 subst hbase
 show WC _ _ _ _ _ _ _ ([[(bb, .cells #[Sl B 0 acc.length cap, I 0, .int .i8 lr] 47 (0, 0))], Bf B 5 L, C, R0])
 refine WC.sub (fr' := [(0, _), (1, _)]) ?_ ⟨rfl, rfl, trivial⟩
 refine WC.seq (WC.region ?_)
 refine WL.q (oq_assign rfl) rfl rfl rfl ?_
 refine WL.q (oq_assign rfl) rfl rfl rfl ?_
 refine WL.nil (WE.then_normal (WC.sub (fr' := [(0, _), (1, _)]) ?_ ⟨rfl, rfl, trivial⟩))
 refine WC.seq (WC.region ?_)
 refine WL.q (oq_move rfl) rfl rfl rfl ?_
 refine WL.q (oq_nilCheck rfl) rfl rfl rfl ?_
 refine WL.q (oq_fieldAddr fld47_2 rfl) rfl rfl rfl ?_
 refine WL.store1 #[_, _, _] ty45 rfl rfl (by first | rfl | exact OwS.one one_) (Nat.lt_of_lt_of_le (Nat.lt_succ_self _) (Nat.le_of_ble_eq_true rfl)) rfl rfl ?_
 refine WL.nil (WE.then_normal (WC.sub (fr' := [(0, _), (1, _)]) ?_ ⟨rfl, rfl, trivial⟩))
 refine WC.seq (WC.region ?_)
 refine WL.q (oq_move rfl) rfl rfl rfl ?_
 refine WL.q (oq_move rfl) rfl rfl rfl ?_
 refine WL.q (oq_len_rd hr Tryz.underlying31 rfl) rfl rfl rfl ?_
 refine WL.callW1 (tryYes _ bb B acc.length cap data.length 0 hac hal hmx hc0 hfit) call68 rfl rfl rfl fun v2_3 Hs2_3 hR2_3 => ?_
 obtain ⟨rfl, rfl⟩ := hR2_3
 refine WL.to1 ?_
 refine WL.q (oq_move rfl) rfl rfl rfl ?_
 refine WL.q (oq_extract rfl rfl) rfl rfl rfl ?_
 refine WL.q (oq_extract rfl rfl) rfl rfl rfl ?_
 refine WL.q (oq_assign rfl) rfl rfl rfl ?_
 refine WL.q (oq_assign rfl) rfl rfl rfl ?_
 refine WL.nil (WE.then_normal (WC.sub (fr' := [(0, _), (1, _), (6, _), (7, _)]) ?_ ⟨rfl, rfl, rfl, rfl, trivial⟩))
 refine WC.seq (WC.seq (WC.region ?_))
 refine WL.q (oq_move rfl) rfl rfl rfl ?_
 refine WL.q (oq_not rfl) rfl rfl rfl ?_
 refine WL.nil (WE.then_normal (WC.sub (fr' := [(0, _), (1, _), (6, _), (19, _)]) ?_ ⟨rfl, rfl, rfl, rfl, trivial⟩))
 refine WC.cond rfl (fun q3 => ?_) (fun q3 => ?_)
 ·
  try simp only [Z1, Z2, Z3, Z4, Z5, Z6, Z7, Z8, Z9, Z0] at q3
  first | contradiction | (exfalso; omega) | (exfalso; simp_all; done)
 ·
  try simp only [Z1, Z2, Z3, Z4, Z5, Z6, Z7, Z8, Z9, Z0] at q3
  refine WC.skip (WE.then_normal (WC.sub (fr' := [(0, _), (1, _), (6, _)]) ?_ ⟨rfl, rfl, rfl, trivial⟩))
  refine WC.seq (WC.region ?_)
  refine WL.q (oq_move rfl) rfl rfl rfl ?_
  refine WL.q (oq_nilCheck rfl) rfl rfl rfl ?_
  refine WL.q (oq_fieldAddr fld47_0 rfl) rfl rfl rfl ?_
  refine WL.q (oq_load flat31 rfl (.head _) (List.mem_singleton.2 rfl) rfl) rfl rfl rfl ?_
  refine WL.q (oq_move rfl) rfl rfl rfl ?_
  refine WL.q (oq_sliceSl (i := acc.length) Tryz.underlying31 ty5 rfl (by (first | (simp only [List.length_nil]; omega) | omega)) ⟨_, rfl⟩ rfl (by (first | (simp only [List.length_nil]; omega) | omega)) (by (first | (simp only [List.length_nil]; omega) | omega))) rfl rfl rfl ?_
  refine WL.q (oq_move rfl) rfl rfl rfl ?_
  refine WL.f1 ?_
  refine WL.copyB Tryz.underlying31 ty5 rfl rfl hr (.tail _ (.head _)) (by (first | (simp only [List.length_nil]; omega) | omega)) rfl rfl ?_
  refine WL.q (oq_assign rfl) rfl rfl rfl ?_
  refine WL.q (oq_assign rfl) rfl rfl rfl ?_
  refine WL.nil (WE.then_normal (WC.sub (fr' := [(4, _), (5, _)]) ?_ ⟨rfl, rfl, trivial⟩))
  refine WC.ret ?_
  refine WE.f3 ?_
  refine WE.f3 ?_
  refine WE.f2 ?_
  refine WE.f3 ?_
  refine WE.endW3 (.inl rfl) (res2 Tryz.results64 rfl rfl) ?_
  refine wrote_of hB hLc hfit hc0 hmx hLt (by omega) rfl ?_
  rw [show min data.length (acc.length + data.length - acc.length) = data.length by omega, Nat.zero_add, List.take_length]
theorem writeF (base bb : Nat) (lr : Int) (B : Nat) (L acc : List UInt8) (hB : base ≤ B) (hLc : L.length = acc.length) (hc0 : 0 < acc.length) (hmx : acc.length ≤ maxLen) (hLt : L.take acc.length = acc) (hal : acc.length + ([] : List UInt8).length ≤ 1000000) (s : Value) (C : Hp) (hr : RdS 1 s C ([] : List UInt8).length (bytesV ([] : List UInt8))) : FnW Tryz.prog 64 [Pt bb 0, s] base [[(bb, .cells #[Sl B 0 acc.length acc.length, I 0, .int .i8 lr] 47 (0, 0))], Bf B 5 L, C] (Wrote base bb acc ([] : List UInt8) [C]) := by
 have hac : acc.length ≤ acc.length := Nat.le_refl _
 have hfit : acc.length + ([] : List UInt8).length ≤ acc.length := Nat.le_refl _
 have hmz : maxLen ≤ 9223372036854775807 := by unfold maxLen; omega
 refine FnW.enter (n := 32) Tryz.func64 rfl rfl fun w0 R0 hbase => ?_
 subst hbase
 show WC _ _ _ _ _ _ _ ([[(bb, .cells #[Sl B 0 acc.length acc.length, I 0, .int .i8 lr] 47 (0, 0))], Bf B 5 L, C, R0])
 refine WC.sub (fr' := [(0, _), (1, _)]) ?_ ⟨rfl, rfl, trivial⟩
 refine WC.seq (WC.region ?_)
 refine WL.q (oq_assign rfl) rfl rfl rfl ?_
 refine WL.q (oq_assign rfl) rfl rfl rfl ?_
 refine WL.nil (WE.then_normal (WC.sub (fr' := [(0, _), (1, _)]) ?_ ⟨rfl, rfl, trivial⟩))
 refine WC.seq (WC.region ?_)
 refine WL.q (oq_move rfl) rfl rfl rfl ?_
 refine WL.q (oq_nilCheck rfl) rfl rfl rfl ?_
 refine WL.q (oq_fieldAddr fld47_2 rfl) rfl rfl rfl ?_
 refine WL.store1 #[_, _, _] ty45 rfl rfl (by first | rfl | exact OwS.one one_) (Nat.lt_of_lt_of_le (Nat.lt_succ_self _) (Nat.le_of_ble_eq_true rfl)) rfl rfl ?_
 refine WL.nil (WE.then_normal (WC.sub (fr' := [(0, _), (1, _)]) ?_ ⟨rfl, rfl, trivial⟩))
 refine WC.seq (WC.region ?_)
 refine WL.q (oq_move rfl) rfl rfl rfl ?_
 refine WL.q (oq_move rfl) rfl rfl rfl ?_
 refine WL.q (oq_len_rd hr Tryz.underlying31 rfl) rfl rfl rfl ?_
 refine WL.callW1 (tryYes _ bb B acc.length acc.length ([] : List UInt8).length 0 hac hal hmx hc0 hfit) call68 rfl rfl rfl fun v2_3 Hs2_3 hR2_3 => ?_
 obtain ⟨rfl, rfl⟩ := hR2_3
 refine WL.to1 ?_
 refine WL.q (oq_move rfl) rfl rfl rfl ?_
 refine WL.q (oq_extract rfl rfl) rfl rfl rfl ?_
 refine WL.q (oq_extract rfl rfl) rfl rfl rfl ?_
 refine WL.q (oq_assign rfl) rfl rfl rfl ?_
 refine WL.q (oq_assign rfl) rfl rfl rfl ?_
 refine WL.nil (WE.then_normal (WC.sub (fr' := [(0, _), (1, _), (6, _), (7, _)]) ?_ ⟨rfl, rfl, rfl, rfl, trivial⟩))
 refine WC.seq (WC.seq (WC.region ?_))
 refine WL.q (oq_move rfl) rfl rfl rfl ?_
 refine WL.q (oq_not rfl) rfl rfl rfl ?_
 refine WL.nil (WE.then_normal (WC.sub (fr' := [(0, _), (1, _), (6, _), (19, _)]) ?_ ⟨rfl, rfl, rfl, rfl, trivial⟩))
 refine WC.cond rfl (fun q3 => ?_) (fun q3 => ?_)
 ·
  try simp only [Z1, Z2, Z3, Z4, Z5, Z6, Z7, Z8, Z9, Z0] at q3
  first | contradiction | (exfalso; omega) | (exfalso; simp_all; done)
 ·
  try simp only [Z1, Z2, Z3, Z4, Z5, Z6, Z7, Z8, Z9, Z0] at q3
  refine WC.skip (WE.then_normal (WC.sub (fr' := [(0, _), (1, _), (6, _)]) ?_ ⟨rfl, rfl, rfl, trivial⟩))
  refine WC.seq (WC.region ?_)
  refine WL.q (oq_move rfl) rfl rfl rfl ?_
  refine WL.q (oq_nilCheck rfl) rfl rfl rfl ?_
  refine WL.q (oq_fieldAddr fld47_0 rfl) rfl rfl rfl ?_
  refine WL.q (oq_load flat31 rfl (.head _) (List.mem_singleton.2 rfl) rfl) rfl rfl rfl ?_
  refine WL.q (oq_move rfl) rfl rfl rfl ?_
  refine WL.q (oq_sliceEnd (b := B) (off := 0) (c := acc.length) Tryz.underlying31 ty5 rfl rfl) rfl rfl rfl ?_
  refine WL.q (oq_move rfl) rfl rfl rfl ?_
  refine WL.f1 ?_
  refine WL.copyB Tryz.underlying31 ty5 rfl rfl hr (.tail _ (.head _)) (by (first | (simp only [List.length_nil]; omega) | omega)) rfl rfl ?_
  refine WL.q (oq_assign rfl) rfl rfl rfl ?_
  refine WL.q (oq_assign rfl) rfl rfl rfl ?_
  refine WL.nil (WE.then_normal (WC.sub (fr' := [(4, _), (5, _)]) ?_ ⟨rfl, rfl, trivial⟩))
  refine WC.ret ?_
  refine WE.f3 ?_
  refine WE.f3 ?_
  refine WE.f2 ?_
  refine WE.f3 ?_
  refine WE.endW3 (.inl rfl) (res2 Tryz.results64 rfl rfl) ?_
  refine wrote_of (data := []) hB hLc hfit hc0 hmx hLt ?_ rfl ?_
  ·simp
  ·simp
theorem writeSF (base bb : Nat) (lr : Int) (B : Nat) (L acc : List UInt8) (hB : base ≤ B) (hLc : L.length = acc.length) (hc0 : 0 < acc.length) (hmx : acc.length ≤ maxLen) (hLt : L.take acc.length = acc) (hal : acc.length + ([] : List UInt8).length ≤ 1000000) (hsl : ([] : List UInt8).length ≤ maxLen) : FnW Tryz.prog 135 [Pt bb 0, S ([] : List UInt8)] base [[(bb, .cells #[Sl B 0 acc.length acc.length, I 0, .int .i8 lr] 47 (0, 0))], Bf B 5 L] (Wrote base bb acc ([] : List UInt8) []) := by
 have hac : acc.length ≤ acc.length := Nat.le_refl _
 have hfit : acc.length + ([] : List UInt8).length ≤ acc.length := Nat.le_refl _
 have hmz : maxLen ≤ 9223372036854775807 := by unfold maxLen; omega
 refine FnW.enter (n := 32) Tryz.func135 rfl rfl fun w0 R0 hbase => ?_
 subst hbase
 show WC _ _ _ _ _ _ _ ([[(bb, .cells #[Sl B 0 acc.length acc.length, I 0, .int .i8 lr] 47 (0, 0))], Bf B 5 L, R0])
 refine WC.sub (fr' := [(0, _), (1, _)]) ?_ ⟨rfl, rfl, trivial⟩
 refine WC.seq (WC.region ?_)
 refine WL.q (oq_assign rfl) rfl rfl rfl ?_
 refine WL.q (oq_assign rfl) rfl rfl rfl ?_
 refine WL.nil (WE.then_normal (WC.sub (fr' := [(0, _), (1, _)]) ?_ ⟨rfl, rfl, trivial⟩))
 refine WC.seq (WC.region ?_)
 refine WL.q (oq_move rfl) rfl rfl rfl ?_
 refine WL.q (oq_nilCheck rfl) rfl rfl rfl ?_
 refine WL.q (oq_fieldAddr fld47_2 rfl) rfl rfl rfl ?_
 refine WL.store1 #[_, _, _] ty45 rfl rfl (by first | rfl | exact OwS.one one_) (Nat.lt_of_lt_of_le (Nat.lt_succ_self _) (Nat.le_of_ble_eq_true rfl)) rfl rfl ?_
 refine WL.nil (WE.then_normal (WC.sub (fr' := [(0, _), (1, _)]) ?_ ⟨rfl, rfl, trivial⟩))
 refine WC.seq (WC.region ?_)
 refine WL.q (oq_move rfl) rfl rfl rfl ?_
 refine WL.q (oq_move rfl) rfl rfl rfl ?_
 refine WL.q (oq_len_s Tryz.underlying9 rfl) rfl rfl rfl ?_
 refine WL.callW1 (tryYes _ bb B acc.length acc.length ([] : List UInt8).length 0 hac hal hmx hc0 hfit) call68 rfl rfl rfl fun v2_3 Hs2_3 hR2_3 => ?_
 obtain ⟨rfl, rfl⟩ := hR2_3
 refine WL.to1 ?_
 refine WL.q (oq_move rfl) rfl rfl rfl ?_
 refine WL.q (oq_extract rfl rfl) rfl rfl rfl ?_
 refine WL.q (oq_extract rfl rfl) rfl rfl rfl ?_
 refine WL.q (oq_assign rfl) rfl rfl rfl ?_
 refine WL.q (oq_assign rfl) rfl rfl rfl ?_
 refine WL.nil (WE.then_normal (WC.sub (fr' := [(0, _), (1, _), (6, _), (7, _)]) ?_ ⟨rfl, rfl, rfl, rfl, trivial⟩))
 refine WC.seq (WC.seq (WC.region ?_))
 refine WL.q (oq_move rfl) rfl rfl rfl ?_
 refine WL.q (oq_not rfl) rfl rfl rfl ?_
 refine WL.nil (WE.then_normal (WC.sub (fr' := [(0, _), (1, _), (6, _), (19, _)]) ?_ ⟨rfl, rfl, rfl, rfl, trivial⟩))
 refine WC.cond rfl (fun q3 => ?_) (fun q3 => ?_)
 ·
  try simp only [Z1, Z2, Z3, Z4, Z5, Z6, Z7, Z8, Z9, Z0] at q3
  first | contradiction | (exfalso; omega) | (exfalso; simp_all; done)
 ·
  try simp only [Z1, Z2, Z3, Z4, Z5, Z6, Z7, Z8, Z9, Z0] at q3
  refine WC.skip (WE.then_normal (WC.sub (fr' := [(0, _), (1, _), (6, _)]) ?_ ⟨rfl, rfl, rfl, trivial⟩))
  refine WC.seq (WC.region ?_)
  refine WL.q (oq_move rfl) rfl rfl rfl ?_
  refine WL.q (oq_nilCheck rfl) rfl rfl rfl ?_
  refine WL.q (oq_fieldAddr fld47_0 rfl) rfl rfl rfl ?_
  refine WL.q (oq_load flat31 rfl (.head _) (List.mem_singleton.2 rfl) rfl) rfl rfl rfl ?_
  refine WL.q (oq_move rfl) rfl rfl rfl ?_
  refine WL.q (oq_sliceEnd (b := B) (off := 0) (c := acc.length) Tryz.underlying31 ty5 rfl rfl) rfl rfl rfl ?_
  refine WL.q (oq_move rfl) rfl rfl rfl ?_
  refine WL.f1 ?_
  refine WL.copyBS Tryz.underlying31 ty5 rfl rfl (by (first | (simp only [List.length_nil]; omega) | omega)) rfl rfl ?_
  refine WL.q (oq_assign rfl) rfl rfl rfl ?_
  refine WL.q (oq_assign rfl) rfl rfl rfl ?_
  refine WL.nil (WE.then_normal (WC.sub (fr' := [(4, _), (5, _)]) ?_ ⟨rfl, rfl, trivial⟩))
  refine WC.ret ?_
  refine WE.f2 ?_
  refine WE.f1 ?_
  refine WE.f2 ?_
  refine WE.endW2 (.inl rfl) (res2 Tryz.results135 rfl rfl) ?_
  refine wrote_of (data := []) hB hLc hfit hc0 hmx hLt ?_ rfl ?_
  ·simp
  ·simp
theorem writeN (base bb : Nat) (lr : Int) (data : List UInt8) (B cap : Nat) (L acc : List UInt8) (hB : base ≤ B) (hLc : L.length = cap) (hac : acc.length ≤ cap) (hc0 : 0 < cap) (hmx : cap ≤ maxLen) (hLt : L.take acc.length = acc) (hal : acc.length + data.length ≤ 1000000) (s : Value) (C : Hp) (hr : RdS 1 s C data.length (bytesV data)) (hfit : ¬ acc.length + data.length ≤ cap) : FnW Tryz.prog 64 [Pt bb 0, s] base [[(bb, .cells #[Sl B 0 acc.length cap, I 0, .int .i8 lr] 47 (0, 0))], Bf B 5 L, C] (Wrote base bb acc data [C]) := by
 have hmz : maxLen ≤ 9223372036854775807 := by unfold maxLen; omega
 refine FnW.enter (n := 32) Tryz.func64 rfl rfl fun w0 R0 hbase => ?_
 subst hbase
 show WC _ _ _ _ _ _ _ ([[(bb, .cells #[Sl B 0 acc.length cap, I 0, .int .i8 lr] 47 (0, 0))], Bf B 5 L, C, R0])
 refine WC.sub (fr' := [(0, _), (1, _)]) ?_ ⟨rfl, rfl, trivial⟩
 refine WC.seq (WC.region ?_)
 refine WL.q (oq_assign rfl) rfl rfl rfl ?_
 refine WL.q (oq_assign rfl) rfl rfl rfl ?_
 refine WL.nil (WE.then_normal (WC.sub (fr' := [(0, _), (1, _)]) ?_ ⟨rfl, rfl, trivial⟩))
 refine WC.seq (WC.region ?_)
 refine WL.q (oq_move rfl) rfl rfl rfl ?_
 refine WL.q (oq_nilCheck rfl) rfl rfl rfl ?_
 refine WL.q (oq_fieldAddr fld47_2 rfl) rfl rfl rfl ?_
 refine WL.store1 #[_, _, _] ty45 rfl rfl (by first | rfl | exact OwS.one one_) (Nat.lt_of_lt_of_le (Nat.lt_succ_self _) (Nat.le_of_ble_eq_true rfl)) rfl rfl ?_
 refine WL.nil (WE.then_normal (WC.sub (fr' := [(0, _), (1, _)]) ?_ ⟨rfl, rfl, trivial⟩))
 refine WC.seq (WC.region ?_)
 refine WL.q (oq_move rfl) rfl rfl rfl ?_
 refine WL.q (oq_move rfl) rfl rfl rfl ?_
 refine WL.q (oq_len_rd hr Tryz.underlying31 rfl) rfl rfl rfl ?_
 refine WL.callW1 (tryNo _ bb B acc.length cap data.length 0 hac hal hmx hc0 hfit) call68 rfl rfl rfl fun v2_3 Hs2_3 hR2_3 => ?_
 obtain ⟨rfl, rfl⟩ := hR2_3
 refine WL.to1 ?_
 refine WL.q (oq_move rfl) rfl rfl rfl ?_
 refine WL.q (oq_extract rfl rfl) rfl rfl rfl ?_
 refine WL.q (oq_extract rfl rfl) rfl rfl rfl ?_
 refine WL.q (oq_assign rfl) rfl rfl rfl ?_
 refine WL.q (oq_assign rfl) rfl rfl rfl ?_
 refine WL.nil (WE.then_normal (WC.sub (fr' := [(0, _), (1, _), (6, _), (7, _)]) ?_ ⟨rfl, rfl, rfl, rfl, trivial⟩))
 refine WC.seq (WC.seq (WC.region ?_))
 refine WL.q (oq_move rfl) rfl rfl rfl ?_
 refine WL.q (oq_not rfl) rfl rfl rfl ?_
 refine WL.nil (WE.then_normal (WC.sub (fr' := [(0, _), (1, _), (6, _), (19, _)]) ?_ ⟨rfl, rfl, rfl, rfl, trivial⟩))
 refine WC.cond rfl (fun q3 => ?_) (fun q3 => ?_)
 ·
  try simp only [Z1, Z2, Z3, Z4, Z5, Z6, Z7, Z8, Z9, Z0] at q3
  refine WC.region ?_
  refine WL.q (oq_move rfl) rfl rfl rfl ?_
  refine WL.q (oq_move rfl) rfl rfl rfl ?_
  refine WL.q (oq_len_rd hr Tryz.underlying31 rfl) rfl rfl rfl ?_
  refine WL.f1 ?_
  refine WL.f1 ?_
  refine WL.callW2 (grow1 _ bb B cap data.length 0 L acc hB hLc hac hc0 hmx hLt (by omega) hal) call67 rfl rfl rfl fun v4_3 Hs4_3 hR4_3 => ?_
  obtain ⟨B2, cap2, L2, rfl, rfl, hB2, hL2, hc2, hm2, ht2⟩ := hR4_3
  refine WL.to2 ?_
  refine WL.q (oq_assign rfl) rfl rfl rfl ?_
  refine WL.nil (WE.then_normal (WC.sub (fr' := [(0, _), (1, _), (6, _)]) ?_ ⟨rfl, rfl, rfl, trivial⟩))
  refine WC.seq (WC.region ?_)
  refine WL.q (oq_move rfl) rfl rfl rfl ?_
  refine WL.q (oq_nilCheck rfl) rfl rfl rfl ?_
  refine WL.q (oq_fieldAddr fld47_0 rfl) rfl rfl rfl ?_
  refine WL.q (oq_load flat31 rfl (.head _) (List.mem_singleton.2 rfl) rfl) rfl rfl rfl ?_
  refine WL.q (oq_move rfl) rfl rfl rfl ?_
  refine WL.q (oq_sliceSl (i := acc.length) Tryz.underlying31 ty5 rfl (by (first | (simp only [List.length_nil]; omega) | omega)) ⟨_, rfl⟩ rfl (by (first | (simp only [List.length_nil]; omega) | omega)) (by (first | (simp only [List.length_nil]; omega) | omega))) rfl rfl rfl ?_
  refine WL.q (oq_move rfl) rfl rfl rfl ?_
  refine WL.f1 ?_
  refine WL.copyB Tryz.underlying31 ty5 rfl rfl hr (.tail _ (.head _)) (by (first | (simp only [List.length_nil]; omega) | omega)) rfl rfl ?_
  refine WL.q (oq_assign rfl) rfl rfl rfl ?_
  refine WL.q (oq_assign rfl) rfl rfl rfl ?_
  refine WL.nil (WE.then_normal (WC.sub (fr' := [(4, _), (5, _)]) ?_ ⟨rfl, rfl, trivial⟩))
  refine WC.ret ?_
  refine WE.f3 ?_
  refine WE.f3 ?_
  refine WE.f2 ?_
  refine WE.f3 ?_
  refine WE.endW3 (.inl rfl) (res2 Tryz.results64 rfl rfl) ?_
  refine wrote_of hB2 hL2 hc2 (by omega) hm2 ht2 (by omega) rfl ?_
  rw [show min data.length (acc.length + data.length - acc.length) = data.length by omega, Nat.zero_add, List.take_length]
 ·
  try simp only [Z1, Z2, Z3, Z4, Z5, Z6, Z7, Z8, Z9, Z0] at q3
  first | contradiction | (exfalso; omega) | (exfalso; simp_all; done)
theorem write0 (base bb : Nat) (lr : Int) (data : List UInt8) (hal : data.length ≤ 1000000) (hne : 0 < data.length) (s : Value) (C : Hp) (hr : RdS 1 s C data.length (bytesV data)) : FnW Tryz.prog 64 [Pt bb 0, s] base [[(bb, .cells #[.slice none 0 0, I 0, .int .i8 lr] 47 (0, 0))], C] (Wrote base bb [] data [C]) := by
 have hmz : maxLen ≤ 9223372036854775807 := by unfold maxLen; omega
 refine FnW.enter (n := 32) Tryz.func64 rfl rfl fun w0 R0 hbase => ?_
 subst hbase
 show WC _ _ _ _ _ _ _ ([[(bb, .cells #[.slice none 0 0, I 0, .int .i8 lr] 47 (0, 0))], C, R0])
 refine WC.sub (fr' := [(0, _), (1, _)]) ?_ ⟨rfl, rfl, trivial⟩
 refine WC.seq (WC.region ?_)
 refine WL.q (oq_assign rfl) rfl rfl rfl ?_
 refine WL.q (oq_assign rfl) rfl rfl rfl ?_
 refine WL.nil (WE.then_normal (WC.sub (fr' := [(0, _), (1, _)]) ?_ ⟨rfl, rfl, trivial⟩))
 refine WC.seq (WC.region ?_)
 refine WL.q (oq_move rfl) rfl rfl rfl ?_
 refine WL.q (oq_nilCheck rfl) rfl rfl rfl ?_
 refine WL.q (oq_fieldAddr fld47_2 rfl) rfl rfl rfl ?_
 refine WL.store1 #[_, _, _] ty45 rfl rfl (by first | rfl | exact OwS.one one_) (Nat.lt_of_lt_of_le (Nat.lt_succ_self _) (Nat.le_of_ble_eq_true rfl)) rfl rfl ?_
 refine WL.nil (WE.then_normal (WC.sub (fr' := [(0, _), (1, _)]) ?_ ⟨rfl, rfl, trivial⟩))
 refine WC.seq (WC.region ?_)
 refine WL.q (oq_move rfl) rfl rfl rfl ?_
 refine WL.q (oq_move rfl) rfl rfl rfl ?_
 refine WL.q (oq_len_rd hr Tryz.underlying31 rfl) rfl rfl rfl ?_
 refine WL.callW1 (tryGrow0 _ bb data.length 0 hne) call68 rfl rfl rfl fun v2_3 Hs2_3 hR2_3 => ?_
 obtain ⟨rfl, rfl⟩ := hR2_3
 refine WL.to1 ?_
 refine WL.q (oq_move rfl) rfl rfl rfl ?_
 refine WL.q (oq_extract rfl rfl) rfl rfl rfl ?_
 refine WL.q (oq_extract rfl rfl) rfl rfl rfl ?_
 refine WL.q (oq_assign rfl) rfl rfl rfl ?_
 refine WL.q (oq_assign rfl) rfl rfl rfl ?_
 refine WL.nil (WE.then_normal (WC.sub (fr' := [(0, _), (1, _), (6, _), (7, _)]) ?_ ⟨rfl, rfl, rfl, rfl, trivial⟩))
 refine WC.seq (WC.seq (WC.region ?_))
 refine WL.q (oq_move rfl) rfl rfl rfl ?_
 refine WL.q (oq_not rfl) rfl rfl rfl ?_
 refine WL.nil (WE.then_normal (WC.sub (fr' := [(0, _), (1, _), (6, _), (19, _)]) ?_ ⟨rfl, rfl, rfl, rfl, trivial⟩))
 refine WC.cond rfl (fun q3 => ?_) (fun q3 => ?_)
 ·
  try simp only [Z1, Z2, Z3, Z4, Z5, Z6, Z7, Z8, Z9, Z0] at q3
  refine WC.region ?_
  refine WL.q (oq_move rfl) rfl rfl rfl ?_
  refine WL.q (oq_move rfl) rfl rfl rfl ?_
  refine WL.q (oq_len_rd hr Tryz.underlying31 rfl) rfl rfl rfl ?_
  refine WL.callW1 (grow0 _ bb data.length 0 hne hal) call67 rfl rfl rfl fun v4_3 Hs4_3 hR4_3 => ?_
  obtain ⟨B2, cap2, L2, rfl, rfl, hB2, hL2, hc2, hm2, ht2⟩ := hR4_3
  refine WL.to2 ?_
  refine WL.q (oq_assign rfl) rfl rfl rfl ?_
  refine WL.nil (WE.then_normal (WC.sub (fr' := [(0, _), (1, _), (6, _)]) ?_ ⟨rfl, rfl, rfl, trivial⟩))
  refine WC.seq (WC.region ?_)
  refine WL.q (oq_move rfl) rfl rfl rfl ?_
  refine WL.q (oq_nilCheck rfl) rfl rfl rfl ?_
  refine WL.q (oq_fieldAddr fld47_0 rfl) rfl rfl rfl ?_
  refine WL.q (oq_load flat31 rfl (.head _) (List.mem_singleton.2 rfl) rfl) rfl rfl rfl ?_
  refine WL.q (oq_move rfl) rfl rfl rfl ?_
  refine WL.q (oq_sliceSl (i := 0) Tryz.underlying31 ty5 rfl (by (first | (simp only [List.length_nil]; omega) | omega)) ⟨_, rfl⟩ rfl (by (first | (simp only [List.length_nil]; omega) | omega)) (by (first | (simp only [List.length_nil]; omega) | omega))) rfl rfl rfl ?_
  refine WL.q (oq_move rfl) rfl rfl rfl ?_
  refine WL.f1 ?_
  refine WL.copyB Tryz.underlying31 ty5 rfl rfl hr (.tail _ (.head _)) (by (first | (simp only [List.length_nil]; omega) | omega)) rfl rfl ?_
  refine WL.q (oq_assign rfl) rfl rfl rfl ?_
  refine WL.q (oq_assign rfl) rfl rfl rfl ?_
  refine WL.nil (WE.then_normal (WC.sub (fr' := [(4, _), (5, _)]) ?_ ⟨rfl, rfl, trivial⟩))
  refine WC.ret ?_
  refine WE.f3 ?_
  refine WE.f3 ?_
  refine WE.f2 ?_
  refine WE.f3 ?_
  refine WE.endW3 (.inl rfl) (res2 Tryz.results64 rfl rfl) ?_
  refine wrote_of hB2 hL2 hc2 (by simp only [List.length_nil] at hc2; omega) hm2 ht2 (by simp only [List.length_nil]; omega) rfl ?_
  rw [show min data.length ([].length + data.length - 0) = data.length by simp, List.take_length]; rfl
 ·
  try simp only [Z1, Z2, Z3, Z4, Z5, Z6, Z7, Z8, Z9, Z0] at q3
  first | contradiction | (exfalso; omega) | (exfalso; simp_all; done)
theorem writeSY (base bb : Nat) (lr : Int) (data : List UInt8) (B cap : Nat) (L acc : List UInt8) (hB : base ≤ B) (hLc : L.length = cap) (hac : acc.length ≤ cap) (hc0 : 0 < cap) (hmx : cap ≤ maxLen) (hLt : L.take acc.length = acc) (hal : acc.length + data.length ≤ 1000000) (hsl : data.length ≤ maxLen) (hfit : acc.length + data.length ≤ cap) (hlc : acc.length < cap) : FnW Tryz.prog 135 [Pt bb 0, S data] base [[(bb, .cells #[Sl B 0 acc.length cap, I 0, .int .i8 lr] 47 (0, 0))], Bf B 5 L] (Wrote base bb acc data []) := by
 have hmz : maxLen ≤ 9223372036854775807 := by unfold maxLen; omega
 refine FnW.enter (n := 32) Tryz.func135 rfl rfl fun w0 R0 hbase => ?_
 subst hbase
 show WC _ _ _ _ _ _ _ ([[(bb, .cells #[Sl B 0 acc.length cap, I 0, .int .i8 lr] 47 (0, 0))], Bf B 5 L, R0])
 refine WC.sub (fr' := [(0, _), (1, _)]) ?_ ⟨rfl, rfl, trivial⟩
 refine WC.seq (WC.region ?_)
 refine WL.q (oq_assign rfl) rfl rfl rfl ?_
 refine WL.q (oq_assign rfl) rfl rfl rfl ?_
 refine WL.nil (WE.then_normal (WC.sub (fr' := [(0, _), (1, _)]) ?_ ⟨rfl, rfl, trivial⟩))
 refine WC.seq (WC.region ?_)
 refine WL.q (oq_move rfl) rfl rfl rfl ?_
 refine WL.q (oq_nilCheck rfl) rfl rfl rfl ?_
 refine WL.q (oq_fieldAddr fld47_2 rfl) rfl rfl rfl ?_
 refine WL.store1 #[_, _, _] ty45 rfl rfl (by first | rfl | exact OwS.one one_) (Nat.lt_of_lt_of_le (Nat.lt_succ_self _) (Nat.le_of_ble_eq_true rfl)) rfl rfl ?_
 refine WL.nil (WE.then_normal (WC.sub (fr' := [(0, _), (1, _)]) ?_ ⟨rfl, rfl, trivial⟩))
 refine WC.seq (WC.region ?_)
 refine WL.q (oq_move rfl) rfl rfl rfl ?_
 refine WL.q (oq_move rfl) rfl rfl rfl ?_
 refine WL.q (oq_len_s Tryz.underlying9 rfl) rfl rfl rfl ?_
 refine WL.callW1 (tryYes _ bb B acc.length cap data.length 0 hac hal hmx hc0 hfit) call68 rfl rfl rfl fun v2_3 Hs2_3 hR2_3 => ?_
 obtain ⟨rfl, rfl⟩ := hR2_3
 refine WL.to1 ?_
 refine WL.q (oq_move rfl) rfl rfl rfl ?_
 refine WL.q (oq_extract rfl rfl) rfl rfl rfl ?_
 refine WL.q (oq_extract rfl rfl) rfl rfl rfl ?_
 refine WL.q (oq_assign rfl) rfl rfl rfl ?_
 refine WL.q (oq_assign rfl) rfl rfl rfl ?_
 refine WL.nil (WE.then_normal (WC.sub (fr' := [(0, _), (1, _), (6, _), (7, _)]) ?_ ⟨rfl, rfl, rfl, rfl, trivial⟩))
 refine WC.seq (WC.seq (WC.region ?_))
 refine WL.q (oq_move rfl) rfl rfl rfl ?_
 refine WL.q (oq_not rfl) rfl rfl rfl ?_
 refine WL.nil (WE.then_normal (WC.sub (fr' := [(0, _), (1, _), (6, _), (19, _)]) ?_ ⟨rfl, rfl, rfl, rfl, trivial⟩))
 refine WC.cond rfl (fun q3 => ?_) (fun q3 => ?_)
 ·
  try simp only [Z1, Z2, Z3, Z4, Z5, Z6, Z7, Z8, Z9, Z0] at q3
  first | contradiction | (exfalso; omega) | (exfalso; simp_all; done)
 ·
  try simp only [Z1, Z2, Z3, Z4, Z5, Z6, Z7, Z8, Z9, Z0] at q3
  refine WC.skip (WE.then_normal (WC.sub (fr' := [(0, _), (1, _), (6, _)]) ?_ ⟨rfl, rfl, rfl, trivial⟩))
  refine WC.seq (WC.region ?_)
  refine WL.q (oq_move rfl) rfl rfl rfl ?_
  refine WL.q (oq_nilCheck rfl) rfl rfl rfl ?_
  refine WL.q (oq_fieldAddr fld47_0 rfl) rfl rfl rfl ?_
  refine WL.q (oq_load flat31 rfl (.head _) (List.mem_singleton.2 rfl) rfl) rfl rfl rfl ?_
  refine WL.q (oq_move rfl) rfl rfl rfl ?_
  refine WL.q (oq_sliceSl (i := acc.length) Tryz.underlying31 ty5 rfl (by (first | (simp only [List.length_nil]; omega) | omega)) ⟨_, rfl⟩ rfl (by (first | (simp only [List.length_nil]; omega) | omega)) (by (first | (simp only [List.length_nil]; omega) | omega))) rfl rfl rfl ?_
  refine WL.q (oq_move rfl) rfl rfl rfl ?_
  refine WL.f1 ?_
  refine WL.copyBS Tryz.underlying31 ty5 rfl rfl (by (first | (simp only [List.length_nil]; omega) | omega)) rfl rfl ?_
  refine WL.q (oq_assign rfl) rfl rfl rfl ?_
  refine WL.q (oq_assign rfl) rfl rfl rfl ?_
  refine WL.nil (WE.then_normal (WC.sub (fr' := [(4, _), (5, _)]) ?_ ⟨rfl, rfl, trivial⟩))
  refine WC.ret ?_
  refine WE.f2 ?_
  refine WE.f1 ?_
  refine WE.f2 ?_
  refine WE.endW2 (.inl rfl) (res2 Tryz.results135 rfl rfl) ?_
  refine wrote_of hB hLc hfit hc0 hmx hLt (by omega) rfl ?_
  rw [show min data.length (acc.length + data.length - acc.length) = data.length by omega, Nat.zero_add, List.take_length]
theorem writeSN (base bb : Nat) (lr : Int) (data : List UInt8) (B cap : Nat) (L acc : List UInt8) (hB : base ≤ B) (hLc : L.length = cap) (hac : acc.length ≤ cap) (hc0 : 0 < cap) (hmx : cap ≤ maxLen) (hLt : L.take acc.length = acc) (hal : acc.length + data.length ≤ 1000000) (hsl : data.length ≤ maxLen) (hfit : ¬ acc.length + data.length ≤ cap) : FnW Tryz.prog 135 [Pt bb 0, S data] base [[(bb, .cells #[Sl B 0 acc.length cap, I 0, .int .i8 lr] 47 (0, 0))], Bf B 5 L] (Wrote base bb acc data []) := by
 have hmz : maxLen ≤ 9223372036854775807 := by unfold maxLen; omega
 refine FnW.enter (n := 32) Tryz.func135 rfl rfl fun w0 R0 hbase => ?_
 subst hbase
 show WC _ _ _ _ _ _ _ ([[(bb, .cells #[Sl B 0 acc.length cap, I 0, .int .i8 lr] 47 (0, 0))], Bf B 5 L, R0])
 refine WC.sub (fr' := [(0, _), (1, _)]) ?_ ⟨rfl, rfl, trivial⟩
 refine WC.seq (WC.region ?_)
 refine WL.q (oq_assign rfl) rfl rfl rfl ?_
 refine WL.q (oq_assign rfl) rfl rfl rfl ?_
 refine WL.nil (WE.then_normal (WC.sub (fr' := [(0, _), (1, _)]) ?_ ⟨rfl, rfl, trivial⟩))
 refine WC.seq (WC.region ?_)
 refine WL.q (oq_move rfl) rfl rfl rfl ?_
 refine WL.q (oq_nilCheck rfl) rfl rfl rfl ?_
 refine WL.q (oq_fieldAddr fld47_2 rfl) rfl rfl rfl ?_
 refine WL.store1 #[_, _, _] ty45 rfl rfl (by first | rfl | exact OwS.one one_) (Nat.lt_of_lt_of_le (Nat.lt_succ_self _) (Nat.le_of_ble_eq_true rfl)) rfl rfl ?_
 refine WL.nil (WE.then_normal (WC.sub (fr' := [(0, _), (1, _)]) ?_ ⟨rfl, rfl, trivial⟩))
 refine WC.seq (WC.region ?_)
 refine WL.q (oq_move rfl) rfl rfl rfl ?_
 refine WL.q (oq_move rfl) rfl rfl rfl ?_
 refine WL.q (oq_len_s Tryz.underlying9 rfl) rfl rfl rfl ?_
 refine WL.callW1 (tryNo _ bb B acc.length cap data.length 0 hac hal hmx hc0 hfit) call68 rfl rfl rfl fun v2_3 Hs2_3 hR2_3 => ?_
 obtain ⟨rfl, rfl⟩ := hR2_3
 refine WL.to1 ?_
 refine WL.q (oq_move rfl) rfl rfl rfl ?_
 refine WL.q (oq_extract rfl rfl) rfl rfl rfl ?_
 refine WL.q (oq_extract rfl rfl) rfl rfl rfl ?_
 refine WL.q (oq_assign rfl) rfl rfl rfl ?_
 refine WL.q (oq_assign rfl) rfl rfl rfl ?_
 refine WL.nil (WE.then_normal (WC.sub (fr' := [(0, _), (1, _), (6, _), (7, _)]) ?_ ⟨rfl, rfl, rfl, rfl, trivial⟩))
 refine WC.seq (WC.seq (WC.region ?_))
 refine WL.q (oq_move rfl) rfl rfl rfl ?_
 refine WL.q (oq_not rfl) rfl rfl rfl ?_
 refine WL.nil (WE.then_normal (WC.sub (fr' := [(0, _), (1, _), (6, _), (19, _)]) ?_ ⟨rfl, rfl, rfl, rfl, trivial⟩))
 refine WC.cond rfl (fun q3 => ?_) (fun q3 => ?_)
 ·
  try simp only [Z1, Z2, Z3, Z4, Z5, Z6, Z7, Z8, Z9, Z0] at q3
  refine WC.region ?_
  refine WL.q (oq_move rfl) rfl rfl rfl ?_
  refine WL.q (oq_move rfl) rfl rfl rfl ?_
  refine WL.q (oq_len_s Tryz.underlying9 rfl) rfl rfl rfl ?_
  refine WL.f1 ?_
  refine WL.f1 ?_
  refine WL.callW2 (grow1 _ bb B cap data.length 0 L acc hB hLc hac hc0 hmx hLt (by omega) hal) call67 rfl rfl rfl fun v4_3 Hs4_3 hR4_3 => ?_
  obtain ⟨B2, cap2, L2, rfl, rfl, hB2, hL2, hc2, hm2, ht2⟩ := hR4_3
  refine WL.to2 ?_
  refine WL.q (oq_assign rfl) rfl rfl rfl ?_
  refine WL.nil (WE.then_normal (WC.sub (fr' := [(0, _), (1, _), (6, _)]) ?_ ⟨rfl, rfl, rfl, trivial⟩))
  refine WC.seq (WC.region ?_)
  refine WL.q (oq_move rfl) rfl rfl rfl ?_
  refine WL.q (oq_nilCheck rfl) rfl rfl rfl ?_
  refine WL.q (oq_fieldAddr fld47_0 rfl) rfl rfl rfl ?_
  refine WL.q (oq_load flat31 rfl (.head _) (List.mem_singleton.2 rfl) rfl) rfl rfl rfl ?_
  refine WL.q (oq_move rfl) rfl rfl rfl ?_
  refine WL.q (oq_sliceSl (i := acc.length) Tryz.underlying31 ty5 rfl (by (first | (simp only [List.length_nil]; omega) | omega)) ⟨_, rfl⟩ rfl (by (first | (simp only [List.length_nil]; omega) | omega)) (by (first | (simp only [List.length_nil]; omega) | omega))) rfl rfl rfl ?_
  refine WL.q (oq_move rfl) rfl rfl rfl ?_
  refine WL.f1 ?_
  refine WL.copyBS Tryz.underlying31 ty5 rfl rfl (by (first | (simp only [List.length_nil]; omega) | omega)) rfl rfl ?_
  refine WL.q (oq_assign rfl) rfl rfl rfl ?_
  refine WL.q (oq_assign rfl) rfl rfl rfl ?_
  refine WL.nil (WE.then_normal (WC.sub (fr' := [(4, _), (5, _)]) ?_ ⟨rfl, rfl, trivial⟩))
  refine WC.ret ?_
  refine WE.f2 ?_
  refine WE.f1 ?_
  refine WE.f2 ?_
  refine WE.endW2 (.inl rfl) (res2 Tryz.results135 rfl rfl) ?_
  refine wrote_of hB2 hL2 hc2 (by omega) hm2 ht2 (by omega) rfl ?_
  rw [show min data.length (acc.length + data.length - acc.length) = data.length by omega, Nat.zero_add, List.take_length]
 ·
  try simp only [Z1, Z2, Z3, Z4, Z5, Z6, Z7, Z8, Z9, Z0] at q3
  first | contradiction | (exfalso; omega) | (exfalso; simp_all; done)
theorem writeS0 (base bb : Nat) (lr : Int) (data : List UInt8) (hal : data.length ≤ 1000000) (hne : 0 < data.length) (hsl : data.length ≤ maxLen) : FnW Tryz.prog 135 [Pt bb 0, S data] base [[(bb, .cells #[.slice none 0 0, I 0, .int .i8 lr] 47 (0, 0))]] (Wrote base bb [] data []) := by
 have hmz : maxLen ≤ 9223372036854775807 := by unfold maxLen; omega
 refine FnW.enter (n := 32) Tryz.func135 rfl rfl fun w0 R0 hbase => ?_
 subst hbase
 show WC _ _ _ _ _ _ _ ([[(bb, .cells #[.slice none 0 0, I 0, .int .i8 lr] 47 (0, 0))], R0])
 refine WC.sub (fr' := [(0, _), (1, _)]) ?_ ⟨rfl, rfl, trivial⟩
 refine WC.seq (WC.region ?_)
 refine WL.q (oq_assign rfl) rfl rfl rfl ?_
 refine WL.q (oq_assign rfl) rfl rfl rfl ?_
 refine WL.nil (WE.then_normal (WC.sub (fr' := [(0, _), (1, _)]) ?_ ⟨rfl, rfl, trivial⟩))
 refine WC.seq (WC.region ?_)
 refine WL.q (oq_move rfl) rfl rfl rfl ?_
 refine WL.q (oq_nilCheck rfl) rfl rfl rfl ?_
 refine WL.q (oq_fieldAddr fld47_2 rfl) rfl rfl rfl ?_
 refine WL.store1 #[_, _, _] ty45 rfl rfl (by first | rfl | exact OwS.one one_) (Nat.lt_of_lt_of_le (Nat.lt_succ_self _) (Nat.le_of_ble_eq_true rfl)) rfl rfl ?_
 refine WL.nil (WE.then_normal (WC.sub (fr' := [(0, _), (1, _)]) ?_ ⟨rfl, rfl, trivial⟩))
 refine WC.seq (WC.region ?_)
 refine WL.q (oq_move rfl) rfl rfl rfl ?_
 refine WL.q (oq_move rfl) rfl rfl rfl ?_
 refine WL.q (oq_len_s Tryz.underlying9 rfl) rfl rfl rfl ?_
 refine WL.callW1 (tryGrow0 _ bb data.length 0 hne) call68 rfl rfl rfl fun v2_3 Hs2_3 hR2_3 => ?_
 obtain ⟨rfl, rfl⟩ := hR2_3
 refine WL.to1 ?_
 refine WL.q (oq_move rfl) rfl rfl rfl ?_
 refine WL.q (oq_extract rfl rfl) rfl rfl rfl ?_
 refine WL.q (oq_extract rfl rfl) rfl rfl rfl ?_
 refine WL.q (oq_assign rfl) rfl rfl rfl ?_
 refine WL.q (oq_assign rfl) rfl rfl rfl ?_
 refine WL.nil (WE.then_normal (WC.sub (fr' := [(0, _), (1, _), (6, _), (7, _)]) ?_ ⟨rfl, rfl, rfl, rfl, trivial⟩))
 refine WC.seq (WC.seq (WC.region ?_))
 refine WL.q (oq_move rfl) rfl rfl rfl ?_
 refine WL.q (oq_not rfl) rfl rfl rfl ?_
 refine WL.nil (WE.then_normal (WC.sub (fr' := [(0, _), (1, _), (6, _), (19, _)]) ?_ ⟨rfl, rfl, rfl, rfl, trivial⟩))
 refine WC.cond rfl (fun q3 => ?_) (fun q3 => ?_)
 ·
  try simp only [Z1, Z2, Z3, Z4, Z5, Z6, Z7, Z8, Z9, Z0] at q3
  refine WC.region ?_
  refine WL.q (oq_move rfl) rfl rfl rfl ?_
  refine WL.q (oq_move rfl) rfl rfl rfl ?_
  refine WL.q (oq_len_s Tryz.underlying9 rfl) rfl rfl rfl ?_
  refine WL.callW1 (grow0 _ bb data.length 0 hne hal) call67 rfl rfl rfl fun v4_3 Hs4_3 hR4_3 => ?_
  obtain ⟨B2, cap2, L2, rfl, rfl, hB2, hL2, hc2, hm2, ht2⟩ := hR4_3
  refine WL.to2 ?_
  refine WL.q (oq_assign rfl) rfl rfl rfl ?_
  refine WL.nil (WE.then_normal (WC.sub (fr' := [(0, _), (1, _), (6, _)]) ?_ ⟨rfl, rfl, rfl, trivial⟩))
  refine WC.seq (WC.region ?_)
  refine WL.q (oq_move rfl) rfl rfl rfl ?_
  refine WL.q (oq_nilCheck rfl) rfl rfl rfl ?_
  refine WL.q (oq_fieldAddr fld47_0 rfl) rfl rfl rfl ?_
  refine WL.q (oq_load flat31 rfl (.head _) (List.mem_singleton.2 rfl) rfl) rfl rfl rfl ?_
  refine WL.q (oq_move rfl) rfl rfl rfl ?_
  refine WL.q (oq_sliceSl (i := 0) Tryz.underlying31 ty5 rfl (by (first | (simp only [List.length_nil]; omega) | omega)) ⟨_, rfl⟩ rfl (by (first | (simp only [List.length_nil]; omega) | omega)) (by (first | (simp only [List.length_nil]; omega) | omega))) rfl rfl rfl ?_
  refine WL.q (oq_move rfl) rfl rfl rfl ?_
  refine WL.f1 ?_
  refine WL.copyBS Tryz.underlying31 ty5 rfl rfl (by (first | (simp only [List.length_nil]; omega) | omega)) rfl rfl ?_
  refine WL.q (oq_assign rfl) rfl rfl rfl ?_
  refine WL.q (oq_assign rfl) rfl rfl rfl ?_
  refine WL.nil (WE.then_normal (WC.sub (fr' := [(4, _), (5, _)]) ?_ ⟨rfl, rfl, trivial⟩))
  refine WC.ret ?_
  refine WE.f2 ?_
  refine WE.f1 ?_
  refine WE.f2 ?_
  refine WE.endW2 (.inl rfl) (res2 Tryz.results135 rfl rfl) ?_
  refine wrote_of hB2 hL2 hc2 (by simp only [List.length_nil] at hc2; omega) hm2 ht2 (by simp only [List.length_nil]; omega) rfl ?_
  rw [show min data.length ([].length + data.length - 0) = data.length by simp, List.take_length]; rfl
 ·
  try simp only [Z1, Z2, Z3, Z4, Z5, Z6, Z7, Z8, Z9, Z0] at q3
  first | contradiction | (exfalso; omega) | (exfalso; simp_all; done)
theorem bufWrite (base bb : Nat) (lr : Int) (v : Value) (A : Hp) (acc data : List UInt8) (hb : Buf base v A acc) (s : Value) (C : Hp) (hr : RdS 1 s C data.length (bytesV data)) (hal : acc.length + data.length ≤ 1000000) (hne : 0 < acc.length + data.length) :
  FnW Tryz.prog 64 [Pt bb 0, s] base [BB bb v lr, A, C] (Wrote base bb acc data [C]) := by
 rcases hb with ⟨rfl, rfl, rfl⟩ | ⟨B, cap, L, rfl, rfl, hB, hL, hc, hc0, hm, ht⟩
 ·have h := write0 base bb lr data (by simpa using hal) (by simpa using hne) s C hr
  intro w0 R0 w hbase hw
  exact h w0 R0 w hbase (by simpa using hw)
 ·by_cases hf : acc.length + data.length ≤ cap
  ·rcases Nat.lt_or_ge acc.length cap with hl | hl
   ·exact writeY base bb lr data B cap L acc hB hL hc hc0 hm ht hal s C hr hf hl
   ·obtain rfl : cap = acc.length := by omega
    obtain rfl : data = [] := List.eq_nil_of_length_eq_zero (by omega)
    exact writeF base bb lr B L acc hB hL hc0 hm ht hal s C hr
  ·exact writeN base bb lr data B cap L acc hB hL hc hc0 hm ht hal s C hr hf
theorem bufWriteS (base bb : Nat) (lr : Int) (v : Value) (A : Hp) (acc data : List UInt8) (hb : Buf base v A acc) (hal : acc.length + data.length ≤ 1000000) (hne : 0 < acc.length + data.length) :
  FnW Tryz.prog 135 [Pt bb 0, S data] base [BB bb v lr, A] (Wrote base bb acc data []) := by
 have hsl : data.length ≤ maxLen := by unfold maxLen; omega
 rcases hb with ⟨rfl, rfl, rfl⟩ | ⟨B, cap, L, rfl, rfl, hB, hL, hc, hc0, hm, ht⟩
 ·have h := writeS0 base bb lr data (by simpa using hal) (by simpa using hne) hsl
  intro w0 R0 w hbase hw
  exact h w0 R0 w hbase (by simpa using hw)
 ·by_cases hf : acc.length + data.length ≤ cap
  ·rcases Nat.lt_or_ge acc.length cap with hl | hl
   ·exact writeSY base bb lr data B cap L acc hB hL hc hc0 hm ht hal hsl hf hl
   ·obtain rfl : cap = acc.length := by omega
    obtain rfl : data = [] := List.eq_nil_of_length_eq_zero (by omega)
    exact writeSF base bb lr B L acc hB hL hc0 hm ht hal hsl
  ·exact writeSN base bb lr data B cap L acc hB hL hc hc0 hm ht hal hsl hf
end EB
end Go.Proofs.YtinkaobaboffcaaGreatDoor
/- The sum of a stream. -/
namespace Go.Proofs.YtinkaobaboffcaaGreatDoor
open Go Go.RowKit V EA EB
set_option linter.unusedSimpArgs false
set_option linter.unusedVariables false
set_option maxRecDepth 10000
namespace EC
theorem flat5 : Flat Tryz.prog 5 := ⟨_, Tryz.underlying5, by simp⟩
theorem flat82 : Flat Tryz.prog 82 := ⟨_, Tryz.underlying82, by simp⟩
theorem ty5 : Ty Tryz.prog 5 (.int .u8 0) 1 1 := ty_of (by kernel_rfl)
theorem ty82 : Ty Tryz.prog 82 (.int .u32 0) 1 4 := ty_of (by kernel_rfl)
theorem fld84_0 : Fld Tryz.prog 84 0 0 82 := fld_of Tryz.underlying84 rfl rfl rfl ty82 (by decide)
theorem crcWrite (base hb : Nat) (acc : List UInt8) (v : Value) (A : Hp) (l : List UInt8) (hr : RdS 1 v A l.length (bytesV l)) (hl : l.length ≤ 1000000) : FnW Tryz.prog 124 [Pt hb 0, v] base [[(hb, .cells #[U32 (crc acc)] 84 (0, 0))], A] (fun w Hs => w = .tuple #[I (l.length : Int), .nilIface] ∧ Hs = [[(hb, .cells #[U32 (crc (acc ++ l))] 84 (0, 0))], A]) := by
 refine FnW.enter (n := 43) Tryz.func124 rfl rfl fun w0 R0 hbase => ?_
 subst hbase
 show WC _ _ _ _ _ _ _ ([[(hb, .cells #[U32 (crc acc)] 84 (0, 0))], A, R0])
 refine WC.sub (fr' := [(0, _), (1, _)]) ?_ ⟨rfl, rfl, trivial⟩
 refine WC.seq (WC.region ?_)
 refine WL.q (oq_assign rfl) rfl rfl rfl ?_
 refine WL.q (oq_assign rfl) rfl rfl rfl ?_
 refine WL.nil (WE.then_normal (WC.sub (fr' := [(0, _), (1, _)]) ?_ ⟨rfl, rfl, trivial⟩))
 refine WC.seq (WC.region ?_)
 refine WL.q (oq_move rfl) rfl rfl rfl ?_
 refine WL.q (oq_nilCheck rfl) rfl rfl rfl ?_
 refine WL.q (oq_fieldAddr fld84_0 rfl) rfl rfl rfl ?_
 refine WL.q (oq_load flat82 rfl (.head _) (List.mem_singleton.2 rfl) rfl) rfl rfl rfl ?_
 refine WL.q (oq_c32 _ rfl) rfl rfl rfl ?_
 refine WL.q (oq_assign rfl) rfl rfl rfl ?_
 refine WL.nil (WE.then_normal (WC.sub (fr' := [(0, _), (1, _), (6, _)]) ?_ ⟨rfl, rfl, rfl, trivial⟩))
 refine WC.seq (WC.seq (WC.region ?_))
 refine WL.q (oq_move rfl) rfl rfl rfl ?_
 refine WL.q (oq_len_rd hr Tryz.underlying31 rfl) rfl rfl rfl ?_
 refine WL.q (oq_move rfl) rfl rfl rfl ?_
 refine WL.nil (WE.then_normal (WC.sub (fr' := [(0, _), (1, _), (6, _), (14, _), (15, _), (16, _)]) ?_ ⟨rfl, rfl, rfl, rfl, rfl, rfl, trivial⟩))
 refine WC.block ?_
 refine WC.loop (ι := Nat) (fun (i : Nat) => [(0, Pt hb 0), (1, v), (6, U32 (crcRaw (~~~ crc acc) (l.take i))), (14, v), (15, I (l.length : Int)), (16, I (i : Int))]) (fun (i : Nat) => [[(hb, .cells #[U32 (crc acc)] 84 (0, 0))], A, R0]) (fun (i : Nat) => i ≤ l.length) (fun (i : Nat) => l.length - i) (0) ?_ ⟨rfl, rfl, rfl, rfl, rfl, rfl, trivial⟩ (List.Perm.refl _) ?_
 ·try dsimp only
  omega
 ·rintro i hp
  try dsimp only at hp
  obtain hi := hp
  show WC _ _ _ _ _ _ ([(0, Pt hb 0), (1, v), (6, U32 (crcRaw (~~~ crc acc) (l.take i))), (14, v), (15, I (l.length : Int)), (16, I (i : Int))]) ([[(hb, .cells #[U32 (crc acc)] 84 (0, 0))], A, R0])
  refine WC.seq (WC.region ?_)
  refine WL.q (oq_lss rfl rfl) rfl rfl rfl ?_
  refine WL.nil (WE.then_normal (WC.sub (fr' := [(0, _), (1, _), (6, _), (14, _), (15, _), (16, _), (17, _)]) ?_ ⟨rfl, rfl, rfl, rfl, rfl, rfl, rfl, trivial⟩))
  refine WC.seq ?_
  refine WC.cond rfl (fun q3 => ?_) (fun q3 => ?_)
  ·
   try simp only [Z1, Z2, Z3, Z4, Z5, Z6, Z7, Z8, Z9, Z0] at q3
   refine WC.skip (WE.then_normal (WC.sub (fr' := [(0, _), (1, _), (6, _), (14, _), (15, _), (16, _)]) ?_ ⟨rfl, rfl, rfl, rfl, rfl, rfl, trivial⟩))
   refine WC.seq (WC.block (WC.seq ?_))
   have hlt : i < l.length := by omega
   refine WC.region ?_
   refine WL.q (oq_ixaddr hr Tryz.underlying31 ty5 rfl rfl (by (first | omega | (simp only [List.length_cons, List.length_nil, List.length_append, List.length_drop, List.length_take]; omega)))) rfl rfl rfl ?_
   refine WL.load_byte hr (.tail _ (.head _)) flat5 rfl (by (first | omega | (simp only [List.length_cons, List.length_nil, List.length_append, List.length_drop, List.length_take]; omega))) rfl rfl fun c4_1 hc4_1 hc4_1l hc4_1u => ?_
   refine WL.q (oq_assign rfl) rfl rfl rfl ?_
   refine WL.nil (WE.then_normal (WC.sub (fr' := [(0, _), (1, _), (6, _), (8, _), (14, _), (15, _), (16, _)]) ?_ ⟨rfl, rfl, rfl, rfl, rfl, rfl, rfl, trivial⟩))
   refine WC.seq (WC.region ?_)
   refine WL.q (oq_move rfl) rfl rfl rfl ?_
   refine WL.q (oq_move rfl) rfl rfl rfl ?_
   refine WL.q (oq_conv Tryz.underlying5 Tryz.underlying82 rfl (by rw [u32_lo, u32_hi]; (first | omega | (simp only [List.length_cons, List.length_nil, List.length_append, List.length_drop, List.length_take]; omega)))) rfl rfl rfl ?_
   refine WL.q (oq_x32 _ (BitVec.ofNat 32 l[i].toNat) rfl rfl rfl (by rw [byte32, hc4_1, byteAt_get hlt])) rfl rfl rfl ?_
   refine WL.q (oq_assign rfl) rfl rfl rfl ?_
   refine WL.nil (WE.then_normal (WC.sub (fr' := [(0, _), (1, _), (6, _), (14, _), (15, _), (16, _)]) ?_ ⟨rfl, rfl, rfl, rfl, rfl, rfl, trivial⟩))
   refine WC.seq (WC.region ?_)
   refine WL.q (oq_move rfl) rfl rfl rfl ?_
   refine WL.nil (WE.then_normal (WC.sub (fr' := [(0, _), (1, _), (6, _), (14, _), (15, _), (16, _), (24, _)]) ?_ ⟨rfl, rfl, rfl, rfl, rfl, rfl, rfl, trivial⟩))
   refine WC.block ?_
   refine WC.loop (ι := Nat) (fun (k : Nat) => [(0, Pt hb 0), (1, v), (6, U32 (crcBits k (crcRaw (~~~ crc acc) (l.take i) ^^^ BitVec.ofNat 32 l[i].toNat))), (14, v), (15, I (l.length : Int)), (16, I (i : Int)), (24, I (k : Int))]) (fun (k : Nat) => [[(hb, .cells #[U32 (crc acc)] 84 (0, 0))], A, R0]) (fun (k : Nat) => k ≤ 8) (fun (k : Nat) => 8 - k) (0) ?_ ⟨rfl, rfl, rfl, rfl, rfl, rfl, rfl, trivial⟩ (List.Perm.refl _) ?_
   ·try dsimp only
    omega
   ·rintro k hp
    try dsimp only at hp
    obtain hk := hp
    show WC _ _ _ _ _ _ ([(0, Pt hb 0), (1, v), (6, U32 (crcBits k (crcRaw (~~~ crc acc) (l.take i) ^^^ BitVec.ofNat 32 l[i].toNat))), (14, v), (15, I (l.length : Int)), (16, I (i : Int)), (24, I (k : Int))]) ([[(hb, .cells #[U32 (crc acc)] 84 (0, 0))], A, R0])
    refine WC.seq (WC.region ?_)
    refine WL.q (oq_lss rfl rfl) rfl rfl rfl ?_
    refine WL.nil (WE.then_normal (WC.sub (fr' := [(0, _), (1, _), (6, _), (14, _), (15, _), (16, _), (24, _), (25, _)]) ?_ ⟨rfl, rfl, rfl, rfl, rfl, rfl, rfl, rfl, trivial⟩))
    refine WC.seq ?_
    refine WC.cond rfl (fun q7 => ?_) (fun q7 => ?_)
    ·
     try simp only [Z1, Z2, Z3, Z4, Z5, Z6, Z7, Z8, Z9, Z0] at q7
     refine WC.skip (WE.then_normal (WC.sub (fr' := [(0, _), (1, _), (6, _), (14, _), (15, _), (16, _), (24, _)]) ?_ ⟨rfl, rfl, rfl, rfl, rfl, rfl, rfl, trivial⟩))
     refine WC.seq (WC.block (WC.seq (WC.region ?_)))
     refine WL.q (oq_move rfl) rfl rfl rfl ?_
     refine WL.q (oq_a32 _ 1#32 rfl rfl rfl rfl) rfl rfl rfl ?_
     refine WL.q (oq_neq rfl rfl) rfl rfl rfl ?_
     refine WL.nil (WE.then_normal (WC.sub (fr' := [(0, _), (1, _), (6, _), (14, _), (15, _), (16, _), (24, _), (28, _)]) ?_ ⟨rfl, rfl, rfl, rfl, rfl, rfl, rfl, rfl, trivial⟩))
     refine WC.cond rfl (fun q8 => ?_) (fun q8 => ?_)
     ·
      try simp only [Z1, Z2, Z3, Z4, Z5, Z6, Z7, Z8, Z9, Z0] at q8
      refine WC.region ?_
      refine WL.q (oq_move rfl) rfl rfl rfl ?_
      refine WL.q (oq_s32 _ rfl rfl) rfl rfl rfl ?_
      refine WL.q ((oq_x32 _ 3988292384#32 rfl rfl rfl rfl).to (crcBits_odd q8)) rfl rfl rfl ?_
      refine WL.q (oq_assign rfl) rfl rfl rfl ?_
      refine WL.nil (WE.block_normal (WE.then_normal (WC.sub (fr' := [(0, _), (1, _), (6, _), (14, _), (15, _), (16, _), (24, _)]) ?_ ⟨rfl, rfl, rfl, rfl, rfl, rfl, rfl, trivial⟩)))
      refine WC.region ?_
      refine WL.q (oq_add rfl rfl (by rw [i64_lo, i64_hi]; (first | omega | (simp only [List.length_cons, List.length_nil, List.length_append, List.length_drop, List.length_take]; omega)))) rfl rfl rfl ?_
      refine WL.q (oq_move rfl) rfl rfl rfl ?_
      refine WL.nil ?_
      refine WE.again (k + 1) ?_ ?_ ⟨rfl, rfl, rfl, rfl, rfl, rfl, rfl, trivial⟩ (List.Perm.refl _)
      ·try dsimp only
       omega
      ·(try dsimp only); omega
     ·
      try simp only [Z1, Z2, Z3, Z4, Z5, Z6, Z7, Z8, Z9, Z0] at q8
      refine WC.region ?_
      refine WL.q (oq_move rfl) rfl rfl rfl ?_
      refine WL.q ((oq_s32 _ rfl rfl).to (crcBits_even q8)) rfl rfl rfl ?_
      refine WL.q (oq_assign rfl) rfl rfl rfl ?_
      refine WL.nil (WE.block_normal (WE.then_normal (WC.sub (fr' := [(0, _), (1, _), (6, _), (14, _), (15, _), (16, _), (24, _)]) ?_ ⟨rfl, rfl, rfl, rfl, rfl, rfl, rfl, trivial⟩)))
      refine WC.region ?_
      refine WL.q (oq_add rfl rfl (by rw [i64_lo, i64_hi]; (first | omega | (simp only [List.length_cons, List.length_nil, List.length_append, List.length_drop, List.length_take]; omega)))) rfl rfl rfl ?_
      refine WL.q (oq_move rfl) rfl rfl rfl ?_
      refine WL.nil ?_
      refine WE.again (k + 1) ?_ ?_ ⟨rfl, rfl, rfl, rfl, rfl, rfl, rfl, trivial⟩ (List.Perm.refl _)
      ·try dsimp only
       omega
      ·(try dsimp only); omega
    ·
     try simp only [Z1, Z2, Z3, Z4, Z5, Z6, Z7, Z8, Z9, Z0] at q7
     refine WC.exit (WE.then_exit (WE.then_exit (WE.block_same (WE.block_normal (WE.then_normal (WC.sub (fr' := [(0, _), (1, _), (6, _), (14, _), (15, _), (16, _)]) ?_ ⟨rfl, rfl, rfl, rfl, rfl, rfl, trivial⟩))))))
     obtain rfl : k = 8 := by omega
     rw [show crcBits 8 (crcRaw (~~~ crc acc) (l.take i) ^^^ BitVec.ofNat 32 l[i].toNat) = crcRaw (~~~ crc acc) (l.take (i + 1)) from (crcRaw_step _ l i _).symm]
     refine WC.region ?_
     refine WL.q (oq_add rfl rfl (by rw [i64_lo, i64_hi]; (first | omega | (simp only [List.length_cons, List.length_nil, List.length_append, List.length_drop, List.length_take]; omega)))) rfl rfl rfl ?_
     refine WL.q (oq_move rfl) rfl rfl rfl ?_
     refine WL.nil ?_
     refine WE.again (i + 1) ?_ ?_ ⟨rfl, rfl, rfl, rfl, rfl, rfl, trivial⟩ (List.Perm.refl _)
     ·try dsimp only
      omega
     ·(try dsimp only); omega
  ·
   try simp only [Z1, Z2, Z3, Z4, Z5, Z6, Z7, Z8, Z9, Z0] at q3
   refine WC.exit (WE.then_exit (WE.then_exit (WE.block_same (WE.then_normal (WC.sub (fr' := [(0, _), (1, _), (6, _)]) ?_ ⟨rfl, rfl, rfl, trivial⟩)))))
   refine WC.seq ?_
   obtain rfl : i = l.length := by omega
   rw [List.take_length]
   refine WC.region ?_
   refine WL.q (oq_move rfl) rfl rfl rfl ?_
   refine WL.q (oq_move rfl) rfl rfl rfl ?_
   refine WL.q (oq_c32 _ rfl) rfl rfl rfl ?_
   refine WL.q (oq_nilCheck rfl) rfl rfl rfl ?_
   refine WL.q (oq_fieldAddr fld84_0 rfl) rfl rfl rfl ?_
   refine WL.store ty82 rfl rfl rfl (by exact Nat.zero_lt_one) (by simp) rfl ?_
   refine WL.nil (WE.then_normal (WC.sub (fr' := [(1, _)]) ?_ ⟨rfl, trivial⟩))
   refine WC.seq (WC.region ?_)
   refine WL.q (oq_move rfl) rfl rfl rfl ?_
   refine WL.q (oq_len_rd hr Tryz.underlying31 rfl) rfl rfl rfl ?_
   refine WL.q (oq_assign rfl) rfl rfl rfl ?_
   refine WL.q (oq_assign rfl) rfl rfl rfl ?_
   refine WL.nil (WE.then_normal (WC.sub (fr' := [(4, _), (5, _)]) ?_ ⟨rfl, rfl, trivial⟩))
   refine WC.ret ?_
   refine WE.endW2 (.inl rfl) (res2 Tryz.results124 rfl rfl) ?_
   exact ⟨rfl, by rw [crc_append]; rfl⟩
theorem sum32 (hb : Nat) (c : BitVec 32) : FnR Tryz.prog 29 [Pt hb 0] [(hb, .cells #[U32 c] 84 (0, 0))] (U32 c) := by
 refine FnR.enter (n := 7) Tryz.func29 rfl rfl fun w0 => ?_
 refine WC.sub (fr' := [(0, _)]) ?_ ⟨rfl, trivial⟩
 refine WC.seq (WC.region ?_)
 refine WL.q (oq_assign rfl) rfl rfl rfl ?_
 refine WL.nil (WE.then_normal (WC.sub (fr' := [(0, _)]) ?_ ⟨rfl, trivial⟩))
 refine WC.seq (WC.region ?_)
 refine WL.q (oq_move rfl) rfl rfl rfl ?_
 refine WL.q (oq_nilCheck rfl) rfl rfl rfl ?_
 refine WL.q (oq_fieldAddr fld84_0 rfl) rfl rfl rfl ?_
 refine WL.q (oq_load flat82 rfl (.head _) (List.mem_singleton.2 rfl) rfl) rfl rfl rfl ?_
 refine WL.q (oq_assign rfl) rfl rfl rfl ?_
 refine WL.nil (WE.then_normal (WC.sub (fr' := [(2, _)]) ?_ ⟨rfl, trivial⟩))
 refine WC.ret ?_
 refine WE.endR (.inl rfl) (res1 Tryz.results29 rfl) ?_
 rfl
end EC
end Go.Proofs.YtinkaobaboffcaaGreatDoor
/- The texts of the program. -/
namespace Go.Proofs.YtinkaobaboffcaaGreatDoor
open Go Go.RowKit V TA TB EC
set_option linter.unusedSimpArgs false
set_option linter.unusedVariables false
set_option maxRecDepth 10000
namespace TC
theorem flat5 : Flat Tryz.prog 5 := ⟨_, Tryz.underlying5, by simp⟩
theorem ty5 : Ty Tryz.prog 5 (.int .u8 0) 1 1 := ty_of (by kernel_rfl)
theorem sg_at {x : Int} {n : Nat} (h : x = (n : Int)) : byteAt [65, 66, 67, 68, 69, 70, 71, 72, 73, 74, 75, 76, 77, 78, 79, 80, 81, 82, 83, 84, 85, 86, 87, 88, 89, 90, 97, 98, 99, 100, 101, 102, 103, 104, 105, 106, 107, 108, 109, 110, 111, 112, 113, 114, 115, 116, 117, 118, 119, 120, 121, 122, 48, 49, 50, 51, 52, 53, 54, 55, 56, 57, 43, 47] x = ((dg n).toNat : Int) := by subst h; rfl
theorem sgA {c x : Int} {g : List UInt8} {k : Nat} (hk : k ≤ g.length) (hc : c = byteAt [65, 66, 67, 68, 69, 70, 71, 72, 73, 74, 75, 76, 77, 78, 79, 80, 81, 82, 83, 84, 85, 86, 87, 88, 89, 90, 97, 98, 99, 100, 101, 102, 103, 104, 105, 106, 107, 108, 109, 110, 111, 112, 113, 114, 115, 116, 117, 118, 119, 120, 121, 122, 48, 49, 50, 51, 52, 53, 54, 55, 56, 57, 43, 47] x) (hx : x = ((num3 g / 64 ^ (3 - k) % 64 : Nat) : Int)) : c = ((sign4 g k).toNat : Int) := by
 rw [hc, sg_at hx]; unfold sign4; rw [if_neg (by omega)]
theorem sl_b {v : Value} {A : Hp} {l : List UInt8} {i j : Int} (x : List UInt8) (hr : RdS 1 v A l.length (bytesV l)) (h : 0 ≤ i ∧ i ≤ j ∧ j ≤ l.length) (hx : (l.take j.toNat).drop i.toNat = x) : ∃ v', RdS 1 v' A x.length (bytesV x) ∧
  ∀ {n : Nat} {w0 : World} {ds : List Deferred} {fr : Fr} {H : List Hp} {dst : Option Tmp} {ty : TypeId} {pos : String} {aft : Array Edge} {g : Option (Nat × Bool)} {t : TypeId} {x : Operand} {lo hi : Option Operand}, Tryz.prog.underlying t = some (.slice 5) → ev fr x = some v →
   (match lo with | none => i = 0 | some y => ∃ k, ev fr y = some (.int k i)) → (match hi with | none => j = l.length | some y => ∃ k, ev fr y = some (.int k j)) → OV Tryz.prog n w0 ⟨dst, .slice t x lo hi none, ty, pos, aft, g⟩ v' ds fr H := by
 obtain ⟨v', h1, h2⟩ := slice_val (i := i) (j := j) hr ty5 h
 refine ⟨v', ?_, h2⟩
 rw [cut_bytes] at h1
 have e : cut l (i * ((1 : Nat) : Int)) (j * ((1 : Nat) : Int)) = x := by
  unfold cut
  rw [show (j * ((1 : Nat) : Int)).toNat = j.toNat by omega, show (i * ((1 : Nat) : Int)).toNat = i.toNat by omega]
  exact hx
 rw [e] at h1
 have hl : x.length = (j - i).toNat := by rw [← hx, List.length_drop, List.length_take]; omega
 rw [hl]; exact h1
theorem own_4 {base : Nat} {u : Value} {B : Hp} {out g : List UInt8} {c0 c1 c2 c3 : Int} {m : Nat} {xs : List Value} (h : OwS base 5 1 u B m xs) (hm : m = out.length + 4) (hx : xs = bytesV out ++ [.int .u8 c0, .int .u8 c1, .int .u8 c2, .int .u8 c3]) (h0 : c0 = ((sign4 g 0).toNat : Int)) (h1 : c1 = ((sign4 g 1).toNat : Int)) (h2 : c2 = ((sign4 g 2).toNat : Int)) (h3 : c3 = ((sign4 g 3).toNat : Int)) : OwS base 5 1 u B (out ++ out4 g).length (bytesV (out ++ out4 g)) := by
 subst hm hx h0 h1 h2 h3
 have e : bytesV (out ++ out4 g) = bytesV out ++ [.int .u8 ((sign4 g 0).toNat : Int), .int .u8 ((sign4 g 1).toNat : Int), .int .u8 ((sign4 g 2).toNat : Int), .int .u8 ((sign4 g 3).toNat : Int)] := by simp [bytesV, out4]
 rw [e, List.length_append]; exact h
theorem zzEncode (v0 : Value) (A : Hp) (l : List UInt8) (hr0 : RdS 1 v0 A l.length (bytesV l)) (hl : l.length ≤ 400000) : FnR Tryz.prog 95 [v0] A (S (b64 l)) := by
 refine FnR.enter (n := 93) Tryz.func95 rfl rfl fun w0 => ?_
 refine WC.sub (fr' := [(0, _)]) ?_ ⟨rfl, trivial⟩
 refine WC.seq (WC.region ?_)
 refine WL.q (oq_assign rfl) rfl rfl rfl ?_
 refine WL.nil (WE.then_normal (WC.sub (fr' := [(0, _)]) ?_ ⟨rfl, trivial⟩))
 refine WC.seq ?_
 refine WC.add0 ?_
 refine WC.region ?_
 refine WL.q (oq_assign rfl) rfl rfl rfl ?_
 refine WL.nil (WE.then_normal (WC.sub (fr' := [(0, _), (3, _)]) ?_ ⟨rfl, rfl, trivial⟩))
 refine WC.seq (WC.block ?_)
 refine WC.loop (ι := Value × Value × Hp × (List UInt8) × (List UInt8)) (fun i_ => (fun (v1 : Value) (u : Value) (B : Hp) (rs : List UInt8) (out : List UInt8) => [(0, v1), (3, u)]) i_.1 i_.2.1 i_.2.2.1 i_.2.2.2.1 i_.2.2.2.2) (fun i_ => (fun (v1 : Value) (u : Value) (B : Hp) (rs : List UInt8) (out : List UInt8) => [B, A]) i_.1 i_.2.1 i_.2.2.1 i_.2.2.2.1 i_.2.2.2.2) (fun i_ => (fun (v1 : Value) (u : Value) (B : Hp) (rs : List UInt8) (out : List UInt8) => RdS 1 v1 A rs.length (bytesV rs) ∧ OwS w0.heap.size 5 1 u B out.length (bytesV out) ∧ out ++ b64 rs = b64 l ∧ out.length + 2 * rs.length ≤ 2 * l.length) i_.1 i_.2.1 i_.2.2.1 i_.2.2.2.1 i_.2.2.2.2) (fun i_ => (fun (v1 : Value) (u : Value) (B : Hp) (rs : List UInt8) (out : List UInt8) => rs.length) i_.1 i_.2.1 i_.2.2.1 i_.2.2.2.1 i_.2.2.2.2) ((_, _, _, l, [])) ?_ ⟨rfl, rfl, trivial⟩ (List.Perm.refl _) ?_
 ·try dsimp only
  exact ⟨hr0, OwS.nil _ _ _, rfl, by simp⟩
 ·rintro ⟨v1, u, B, rs, out⟩ hp
  try dsimp only at hp
  obtain ⟨hv, ho, hb, hol⟩ := hp
  show WC _ _ _ _ _ _ ([(0, v1), (3, u)]) ([B, A])
  refine WC.seq (WC.seq (WC.region ?_))
  refine WL.q (oq_move rfl) rfl rfl rfl ?_
  refine WL.q (oq_len_rd hv Tryz.underlying31 rfl) rfl rfl rfl ?_
  refine WL.q (oq_geq rfl rfl) rfl rfl rfl ?_
  refine WL.nil (WE.then_normal (WC.sub (fr' := [(0, _), (3, _), (9, _)]) ?_ ⟨rfl, rfl, rfl, trivial⟩))
  refine WC.cond rfl (fun q2 => ?_) (fun q2 => ?_)
  ·
   try simp only [Z1, Z2, Z3, Z4, Z5, Z6, Z7, Z8, Z9, Z0] at q2
   refine WC.skip (WE.then_normal (WC.sub (fr' := [(0, _), (3, _)]) ?_ ⟨rfl, rfl, trivial⟩))
   refine WC.block (WC.seq ?_)
   obtain ⟨a, b, c, r, rfl⟩ : ∃ a b c r, rs = a :: b :: c :: r := by
    match rs, q2 with
    | a :: b :: c :: r, _ =>
     exact ⟨a, b, c, r, rfl⟩
    | [], h =>
     exfalso; simp at h
    | [_], h =>
     exfalso; simp at h
    | [_, _], h =>
     exfalso; simp at h
   have ha := a.toNat_lt
   have hb2 := b.toNat_lt
   have hc2 := c.toNat_lt
   have hlr : (a :: b :: c :: r).length = r.length + 3 := rfl
   have hnum : num3 [a, b, c] = a.toNat * 65536 + b.toNat * 256 + c.toNat := rfl
   refine WC.quiet (by kernel_rfl) (by kernel_rfl) ?_
   refine WQ.q (oq_move rfl) rfl rfl rfl ?_
   refine WQ.q (oq_ixaddr hv Tryz.underlying31 ty5 rfl rfl (by first | omega | exact ⟨by omega, Int.lt_of_lt_of_le (b := 64) (by omega) (by decide)⟩)) rfl rfl rfl ?_
   refine WQ.load_byte hv (.tail _ (.head _)) flat5 rfl (by first | omega | exact ⟨by omega, Int.lt_of_lt_of_le (b := 64) (by omega) (by decide)⟩) rfl rfl fun c3_2 hc3_2 hc3_2l hc3_2u => ?_
   refine WQ.q (oq_conv Tryz.underlying5 Tryz.underlying74 rfl (by rw [u64_lo, u64_hi]; (first | omega | (simp only [List.length_cons, List.length_nil, List.length_append, List.length_drop, List.length_take]; omega)))) rfl rfl rfl ?_
   refine WQ.q (oq_shll 65536 rfl rfl (by decide) (by decide) (by rw [u64_lo, u64_hi]; (first | omega | (simp only [List.length_cons, List.length_nil, List.length_append, List.length_drop, List.length_take]; omega)))) rfl rfl rfl ?_
   refine WQ.q (oq_move rfl) rfl rfl rfl ?_
   refine WQ.q (oq_ixaddr hv Tryz.underlying31 ty5 rfl rfl (by first | omega | exact ⟨by omega, Int.lt_of_lt_of_le (b := 64) (by omega) (by decide)⟩)) rfl rfl rfl ?_
   refine WQ.load_byte hv (.tail _ (.head _)) flat5 rfl (by first | omega | exact ⟨by omega, Int.lt_of_lt_of_le (b := 64) (by omega) (by decide)⟩) rfl rfl fun c3_7 hc3_7 hc3_7l hc3_7u => ?_
   refine WQ.q (oq_conv Tryz.underlying5 Tryz.underlying74 rfl (by rw [u64_lo, u64_hi]; (first | omega | (simp only [List.length_cons, List.length_nil, List.length_append, List.length_drop, List.length_take]; omega)))) rfl rfl rfl ?_
   refine WQ.q (oq_shll 256 rfl rfl (by decide) (by decide) (by rw [u64_lo, u64_hi]; (first | omega | (simp only [List.length_cons, List.length_nil, List.length_append, List.length_drop, List.length_take]; omega)))) rfl rfl rfl ?_
   refine WQ.q (oq_orl 16 rfl rfl (by omega) (by omega) (by omega) (by rw [u64_hi]; omega)) rfl rfl rfl ?_
   refine WQ.q (oq_move rfl) rfl rfl rfl ?_
   refine WQ.q (oq_ixaddr hv Tryz.underlying31 ty5 rfl rfl (by first | omega | exact ⟨by omega, Int.lt_of_lt_of_le (b := 64) (by omega) (by decide)⟩)) rfl rfl rfl ?_
   refine WQ.load_byte hv (.tail _ (.head _)) flat5 rfl (by first | omega | exact ⟨by omega, Int.lt_of_lt_of_le (b := 64) (by omega) (by decide)⟩) rfl rfl fun c3_13 hc3_13 hc3_13l hc3_13u => ?_
   refine WQ.q (oq_conv Tryz.underlying5 Tryz.underlying74 rfl (by rw [u64_lo, u64_hi]; (first | omega | (simp only [List.length_cons, List.length_nil, List.length_append, List.length_drop, List.length_take]; omega)))) rfl rfl rfl ?_
   refine WQ.q (oq_orl 8 rfl rfl (by omega) (by omega) (by omega) (by rw [u64_hi]; omega)) rfl rfl rfl ?_
   refine WQ.q (oq_assign rfl) rfl rfl rfl ?_
   refine WQ.nil (WE.then_normal (WC.sub (fr' := [(0, _), (3, _), (4, _)]) ?_ ⟨rfl, rfl, rfl, trivial⟩))
   refine WC.seq ?_
   obtain rfl : c3_2 = (a.toNat : Int) := hc3_2
   obtain rfl : c3_7 = (b.toNat : Int) := hc3_7
   obtain rfl : c3_13 = (c.toNat : Int) := hc3_13
   refine WC.tailM (pl := [_]) (ql := [_, _, _, _, _, _, _, _, _, _, _, _, _, _]) (tl := [_, _, _]) [0] [1, 2, 3, 4, 5, 6, 7, 8, 9, 10, 11, 12, 13, 14] 15 [16, 17] (by kernel_rfl) (by kernel_rfl) (by kernel_rfl) (by kernel_rfl) (by kernel_rfl) (by kernel_rfl) (by decide) rfl rfl rfl (by decide) (by repeat (first | with_reducible exact QOk.body | with_reducible apply QOk.then | with_reducible apply QOk.block | exact QOk.body | apply QOk.then | apply QOk.block)) ?_
   refine WM.q (fun w0 => oq_move rfl) rfl rfl rfl ?_
   refine WM.nil ?_
   refine WY.q (oq_move rfl) rfl rfl rfl ?_
   refine WY.q (oq_shrl 262144 rfl rfl (by decide) (by decide)) rfl rfl rfl ?_
   refine WY.index_s Tryz.underlying9 rfl rfl (by first | omega | exact ⟨by omega, Int.lt_of_lt_of_le (b := 64) (by omega) (by decide)⟩) rfl rfl fun c4_3 hc4_3 hc4_3l hc4_3u => ?_
   refine WY.q (oq_move rfl) rfl rfl rfl ?_
   refine WY.q (oq_shrl 4096 rfl rfl (by decide) (by decide)) rfl rfl rfl ?_
   refine WY.q (oq_mask 6 64 rfl rfl (by rw [u64_hi]; omega) (by decide) (by decide) (by decide)) rfl rfl rfl ?_
   refine WY.index_s Tryz.underlying9 rfl rfl (by first | omega | exact ⟨by omega, Int.lt_of_lt_of_le (b := 64) (by omega) (by decide)⟩) rfl rfl fun c4_7 hc4_7 hc4_7l hc4_7u => ?_
   refine WY.q (oq_move rfl) rfl rfl rfl ?_
   refine WY.q (oq_shrl 64 rfl rfl (by decide) (by decide)) rfl rfl rfl ?_
   refine WY.q (oq_mask 6 64 rfl rfl (by rw [u64_hi]; omega) (by decide) (by decide) (by decide)) rfl rfl rfl ?_
   refine WY.index_s Tryz.underlying9 rfl rfl (by first | omega | exact ⟨by omega, Int.lt_of_lt_of_le (b := 64) (by omega) (by decide)⟩) rfl rfl fun c4_11 hc4_11 hc4_11l hc4_11u => ?_
   refine WY.q (oq_move rfl) rfl rfl rfl ?_
   refine WY.q (oq_mask 6 64 rfl rfl (by rw [u64_hi]; omega) (by decide) (by decide) (by decide)) rfl rfl rfl ?_
   refine WY.index_s Tryz.underlying9 rfl rfl (by first | omega | exact ⟨by omega, Int.lt_of_lt_of_le (b := 64) (by omega) (by decide)⟩) rfl rfl fun c4_14 hc4_14 hc4_14l hc4_14u => ?_
   refine WY.nil ?_
   refine WL.buildSS (#[.int .u8 c4_3, .int .u8 c4_7, .int .u8 c4_11, .int .u8 c4_14]) Tryz.underlying31 ty5 rfl (by decide) (by decide) (by kernel_rfl) (by kernel_rfl) rfl rfl fun v4_15 A4_15 ho4_15 hne4_15 => ?_
   refine WL.f1 ?_
   refine WL.appendS ho Tryz.underlying31 ty5 rfl (by decide) rfl rfl ho4_15.rd (.head _) ((by intro u hu; simp at hu; rcases hu with rfl | rfl | rfl | rfl <;> rfl)) (by unfold maxLen; omega) (by omega) rfl rfl fun v4b A4b ho4b hne4b => ?_
   refine WL.q (oq_assign rfl) rfl rfl rfl ?_
   refine WL.nil (WE.then_normal (WC.sub (fr' := [(0, _), (3, _)]) ?_ ⟨rfl, rfl, trivial⟩))
   obtain ⟨v5, h5, o5⟩ := sl_b (i := 3) (j := ((a :: b :: c :: r).length : Int)) r hv (by omega) (by rw [Int.toNat_natCast, List.take_length]; rfl)
   refine WC.region ?_
   refine WL.q (oq_move rfl) rfl rfl rfl ?_
   refine WL.q (o5 Tryz.underlying31 rfl ⟨_, rfl⟩ rfl) rfl rfl rfl ?_
   refine WL.q (oq_assign rfl) rfl rfl rfl ?_
   refine WL.nil (WE.block_normal ?_)
   refine WE.f1 ?_
   refine WE.forget ho4_15.fresh ?_
   refine WE.again (_, _, _, r, out ++ out4 [a, b, c]) ?_ ?_ ⟨rfl, rfl, trivial⟩ (List.Perm.refl _)
   ·try dsimp only
    refine ⟨h5, own_4 ho4b rfl rfl (sgA (by simp) hc4_3 ?_) (sgA (by simp) hc4_7 ?_) (sgA (by simp) hc4_11 ?_) (sgA (by simp) hc4_14 ?_), ?_, ?_⟩
    ·show _ = ((num3 [a, b, c] / 262144 % 64 : Nat) : Int)
     rw [hnum]; omega
    ·show _ = ((num3 [a, b, c] / 4096 % 64 : Nat) : Int)
     rw [hnum]; omega
    ·show _ = ((num3 [a, b, c] / 64 % 64 : Nat) : Int)
     rw [hnum]; omega
    ·show _ = ((num3 [a, b, c] / 1 % 64 : Nat) : Int)
     rw [hnum]; omega
    ·rw [← hb, b64_step (l := a :: b :: c :: r) (by simp), List.append_assoc]; rfl
    ·rw [List.length_append, out4_len]; omega
   ·(try dsimp only); omega
  ·
   try simp only [Z1, Z2, Z3, Z4, Z5, Z6, Z7, Z8, Z9, Z0] at q2
   refine WC.exit (WE.then_exit (WE.then_exit (WE.block_same (WE.then_normal (WC.sub (fr' := [(0, _), (3, _)]) ?_ ⟨rfl, rfl, trivial⟩)))))
   refine WC.cut (ι := Value × Hp × (List UInt8)) (fun i_ => (fun (u2 : Value) (B2 : Hp) (o2 : List UInt8) => [(3, u2)]) i_.1 i_.2.1 i_.2.2) (fun i_ => (fun (u2 : Value) (B2 : Hp) (o2 : List UInt8) => [B2, A]) i_.1 i_.2.1 i_.2.2) (fun i_ => (fun (u2 : Value) (B2 : Hp) (o2 : List UInt8) => OwS w0.heap.size 5 1 u2 B2 o2.length (bytesV o2) ∧ o2 = b64 l) i_.1 i_.2.1 i_.2.2) ?_ ?_
   ·
    refine WC.seq (WC.region ?_)
    refine WL.q (oq_move rfl) rfl rfl rfl ?_
    refine WL.q (oq_len_rd hv Tryz.underlying31 rfl) rfl rfl rfl ?_
    refine WL.nil (WE.then_normal (WC.sub (fr' := [(0, _), (3, _), (46, _)]) ?_ ⟨rfl, rfl, rfl, trivial⟩))
    refine WC.block (WC.seq (WC.region ?_))
    refine WL.q (oq_eql rfl rfl) rfl rfl rfl ?_
    refine WL.q (oq_assign rfl) rfl rfl rfl ?_
    refine WL.nil (WE.then_normal (WC.sub (fr' := [(0, _), (3, _), (46, _), (47, _)]) ?_ ⟨rfl, rfl, rfl, rfl, trivial⟩))
    refine WC.cond rfl (fun q7 => ?_) (fun q7 => ?_)
    ·
     try simp only [Z1, Z2, Z3, Z4, Z5, Z6, Z7, Z8, Z9, Z0] at q7
     refine WC.seq ?_
     obtain ⟨a, rfl⟩ : ∃ a, rs = [a] := List.length_eq_one_iff.1 (by omega)
     have ha := a.toNat_lt
     have hl1 : ([a] : List UInt8).length = 1 := rfl
     have hnum : num3 [a] = a.toNat * 65536 := by simp [num3]
     refine WC.region ?_
     refine WL.q (oq_move rfl) rfl rfl rfl ?_
     refine WL.q (oq_ixaddr hv Tryz.underlying31 ty5 rfl rfl (by first | omega | exact ⟨by omega, Int.lt_of_lt_of_le (b := 64) (by omega) (by decide)⟩)) rfl rfl rfl ?_
     refine WL.load_byte hv (.tail _ (.head _)) flat5 rfl (by first | omega | exact ⟨by omega, Int.lt_of_lt_of_le (b := 64) (by omega) (by decide)⟩) rfl rfl fun c8_2 hc8_2 hc8_2l hc8_2u => ?_
     refine WL.q (oq_conv Tryz.underlying5 Tryz.underlying74 rfl (by rw [u64_lo, u64_hi]; (first | omega | (simp only [List.length_cons, List.length_nil, List.length_append, List.length_drop, List.length_take]; omega)))) rfl rfl rfl ?_
     refine WL.q (oq_shll 65536 rfl rfl (by decide) (by decide) (by rw [u64_lo, u64_hi]; (first | omega | (simp only [List.length_cons, List.length_nil, List.length_append, List.length_drop, List.length_take]; omega)))) rfl rfl rfl ?_
     refine WL.q (oq_assign rfl) rfl rfl rfl ?_
     refine WL.nil (WE.then_normal (WC.sub (fr' := [(3, _), (5, _)]) ?_ ⟨rfl, rfl, trivial⟩))
     obtain rfl : c8_2 = (a.toNat : Int) := hc8_2
     refine WC.tailM (pl := [_]) (ql := [_, _, _, _, _, _, _]) (tl := [_, _, _]) [0] [1, 2, 3, 4, 5, 6, 7] 8 [9, 10] (by kernel_rfl) (by kernel_rfl) (by kernel_rfl) (by kernel_rfl) (by kernel_rfl) (by kernel_rfl) (by decide) rfl rfl rfl (by decide) (by repeat (first | with_reducible exact QOk.body | with_reducible apply QOk.then | with_reducible apply QOk.block | exact QOk.body | apply QOk.then | apply QOk.block)) ?_
     refine WM.q (fun w0 => oq_move rfl) rfl rfl rfl ?_
     refine WM.nil ?_
     refine WY.q (oq_move rfl) rfl rfl rfl ?_
     refine WY.q (oq_shrl 262144 rfl rfl (by decide) (by decide)) rfl rfl rfl ?_
     refine WY.index_s Tryz.underlying9 rfl rfl (by first | omega | exact ⟨by omega, Int.lt_of_lt_of_le (b := 64) (by omega) (by decide)⟩) rfl rfl fun c9_3 hc9_3 hc9_3l hc9_3u => ?_
     refine WY.q (oq_move rfl) rfl rfl rfl ?_
     refine WY.q (oq_shrl 4096 rfl rfl (by decide) (by decide)) rfl rfl rfl ?_
     refine WY.q (oq_mask 6 64 rfl rfl (by rw [u64_hi]; omega) (by decide) (by decide) (by decide)) rfl rfl rfl ?_
     refine WY.index_s Tryz.underlying9 rfl rfl (by first | omega | exact ⟨by omega, Int.lt_of_lt_of_le (b := 64) (by omega) (by decide)⟩) rfl rfl fun c9_7 hc9_7 hc9_7l hc9_7u => ?_
     refine WY.nil ?_
     refine WL.buildSS (#[.int .u8 c9_3, .int .u8 c9_7, .int .u8 61, .int .u8 61]) Tryz.underlying31 ty5 rfl (by decide) (by decide) (by kernel_rfl) (by kernel_rfl) rfl rfl fun v9_8 A9_8 ho9_8 hne9_8 => ?_
     refine WL.f1 ?_
     refine WL.appendS ho Tryz.underlying31 ty5 rfl (by decide) rfl rfl ho9_8.rd (.head _) ((by intro u hu; simp at hu; rcases hu with rfl | rfl | rfl | rfl <;> rfl)) (by unfold maxLen; omega) (by omega) rfl rfl fun v9b A9b ho9b hne9b => ?_
     refine WL.q (oq_assign rfl) rfl rfl rfl ?_
     refine WL.nil (WE.block_normal ?_)
     have hz := own_4 (out := out) (g := [a]) ho9b rfl rfl (sgA (by simp) hc9_3 (by show _ = ((num3 [a] / 262144 % 64 : Nat) : Int); rw [hnum]; omega)) (sgA (by simp) hc9_7 (by show _ = ((num3 [a] / 4096 % 64 : Nat) : Int); rw [hnum]; omega)) rfl rfl
     have hy : out ++ out4 [a] = b64 l := by
      rw [← hb, b64_step (l := [a]) (by simp)]
      show _ = out ++ (out4 [a] ++ b64 [])
      rw [b64_nil, List.append_nil]
     refine WE.f1 ?_
     refine WE.forget ho9_8.fresh ?_
     refine WE.meet (_, _, out ++ out4 [a]) ?_ ⟨rfl, trivial⟩ (List.Perm.refl _)
     try dsimp only
     exact ⟨hz, hy⟩
    ·
     try simp only [Z1, Z2, Z3, Z4, Z5, Z6, Z7, Z8, Z9, Z0] at q7
     refine WC.seq (WC.region ?_)
     refine WL.q (oq_eql rfl rfl) rfl rfl rfl ?_
     refine WL.q (oq_assign rfl) rfl rfl rfl ?_
     refine WL.nil (WE.then_normal (WC.sub (fr' := [(0, _), (3, _), (64, _)]) ?_ ⟨rfl, rfl, rfl, trivial⟩))
     refine WC.cond rfl (fun q10 => ?_) (fun q10 => ?_)
     ·
      try simp only [Z1, Z2, Z3, Z4, Z5, Z6, Z7, Z8, Z9, Z0] at q10
      refine WC.seq ?_
      obtain ⟨a, b, rfl⟩ : ∃ a b, rs = [a, b] := by
       match rs, q10 with
       | [a, b], _ =>
        exact ⟨a, b, rfl⟩
       | [], h =>
        exfalso; simp at h
       | [_], h =>
        exfalso; simp at h
       | _ :: _ :: _ :: _, h =>
        exfalso; simp at h; omega
      have ha := a.toNat_lt
      have hb2 := b.toNat_lt
      have hl1 : ([a, b] : List UInt8).length = 2 := rfl
      have hnum : num3 [a, b] = a.toNat * 65536 + b.toNat * 256 := by simp [num3]
      refine WC.quiet (by kernel_rfl) (by kernel_rfl) ?_
      refine WQ.q (oq_move rfl) rfl rfl rfl ?_
      refine WQ.q (oq_ixaddr hv Tryz.underlying31 ty5 rfl rfl (by first | omega | exact ⟨by omega, Int.lt_of_lt_of_le (b := 64) (by omega) (by decide)⟩)) rfl rfl rfl ?_
      refine WQ.load_byte hv (.tail _ (.head _)) flat5 rfl (by first | omega | exact ⟨by omega, Int.lt_of_lt_of_le (b := 64) (by omega) (by decide)⟩) rfl rfl fun c11_2 hc11_2 hc11_2l hc11_2u => ?_
      refine WQ.q (oq_conv Tryz.underlying5 Tryz.underlying74 rfl (by rw [u64_lo, u64_hi]; (first | omega | (simp only [List.length_cons, List.length_nil, List.length_append, List.length_drop, List.length_take]; omega)))) rfl rfl rfl ?_
      refine WQ.q (oq_shll 65536 rfl rfl (by decide) (by decide) (by rw [u64_lo, u64_hi]; (first | omega | (simp only [List.length_cons, List.length_nil, List.length_append, List.length_drop, List.length_take]; omega)))) rfl rfl rfl ?_
      refine WQ.q (oq_move rfl) rfl rfl rfl ?_
      refine WQ.q (oq_ixaddr hv Tryz.underlying31 ty5 rfl rfl (by first | omega | exact ⟨by omega, Int.lt_of_lt_of_le (b := 64) (by omega) (by decide)⟩)) rfl rfl rfl ?_
      refine WQ.load_byte hv (.tail _ (.head _)) flat5 rfl (by first | omega | exact ⟨by omega, Int.lt_of_lt_of_le (b := 64) (by omega) (by decide)⟩) rfl rfl fun c11_7 hc11_7 hc11_7l hc11_7u => ?_
      refine WQ.q (oq_conv Tryz.underlying5 Tryz.underlying74 rfl (by rw [u64_lo, u64_hi]; (first | omega | (simp only [List.length_cons, List.length_nil, List.length_append, List.length_drop, List.length_take]; omega)))) rfl rfl rfl ?_
      refine WQ.q (oq_shll 256 rfl rfl (by decide) (by decide) (by rw [u64_lo, u64_hi]; (first | omega | (simp only [List.length_cons, List.length_nil, List.length_append, List.length_drop, List.length_take]; omega)))) rfl rfl rfl ?_
      refine WQ.q (oq_orl 16 rfl rfl (by omega) (by omega) (by omega) (by rw [u64_hi]; omega)) rfl rfl rfl ?_
      refine WQ.q (oq_assign rfl) rfl rfl rfl ?_
      refine WQ.nil (WE.then_normal (WC.sub (fr' := [(3, _), (6, _)]) ?_ ⟨rfl, rfl, trivial⟩))
      obtain rfl : c11_2 = (a.toNat : Int) := hc11_2
      obtain rfl : c11_7 = (b.toNat : Int) := hc11_7
      refine WC.tailM (pl := [_]) (ql := [_, _, _, _, _, _, _, _, _, _, _]) (tl := [_, _, _]) [0] [1, 2, 3, 4, 5, 6, 7, 8, 9, 10, 11] 12 [13, 14] (by kernel_rfl) (by kernel_rfl) (by kernel_rfl) (by kernel_rfl) (by kernel_rfl) (by kernel_rfl) (by decide) rfl rfl rfl (by decide) (by repeat (first | with_reducible exact QOk.body | with_reducible apply QOk.then | with_reducible apply QOk.block | exact QOk.body | apply QOk.then | apply QOk.block)) ?_
      refine WM.q (fun w0 => oq_move rfl) rfl rfl rfl ?_
      refine WM.nil ?_
      refine WY.q (oq_move rfl) rfl rfl rfl ?_
      refine WY.q (oq_shrl 262144 rfl rfl (by decide) (by decide)) rfl rfl rfl ?_
      refine WY.index_s Tryz.underlying9 rfl rfl (by first | omega | exact ⟨by omega, Int.lt_of_lt_of_le (b := 64) (by omega) (by decide)⟩) rfl rfl fun c12_3 hc12_3 hc12_3l hc12_3u => ?_
      refine WY.q (oq_move rfl) rfl rfl rfl ?_
      refine WY.q (oq_shrl 4096 rfl rfl (by decide) (by decide)) rfl rfl rfl ?_
      refine WY.q (oq_mask 6 64 rfl rfl (by rw [u64_hi]; omega) (by decide) (by decide) (by decide)) rfl rfl rfl ?_
      refine WY.index_s Tryz.underlying9 rfl rfl (by first | omega | exact ⟨by omega, Int.lt_of_lt_of_le (b := 64) (by omega) (by decide)⟩) rfl rfl fun c12_7 hc12_7 hc12_7l hc12_7u => ?_
      refine WY.q (oq_move rfl) rfl rfl rfl ?_
      refine WY.q (oq_shrl 64 rfl rfl (by decide) (by decide)) rfl rfl rfl ?_
      refine WY.q (oq_mask 6 64 rfl rfl (by rw [u64_hi]; omega) (by decide) (by decide) (by decide)) rfl rfl rfl ?_
      refine WY.index_s Tryz.underlying9 rfl rfl (by first | omega | exact ⟨by omega, Int.lt_of_lt_of_le (b := 64) (by omega) (by decide)⟩) rfl rfl fun c12_11 hc12_11 hc12_11l hc12_11u => ?_
      refine WY.nil ?_
      refine WL.buildSS (#[.int .u8 c12_3, .int .u8 c12_7, .int .u8 c12_11, .int .u8 61]) Tryz.underlying31 ty5 rfl (by decide) (by decide) (by kernel_rfl) (by kernel_rfl) rfl rfl fun v12_12 A12_12 ho12_12 hne12_12 => ?_
      refine WL.f1 ?_
      refine WL.appendS ho Tryz.underlying31 ty5 rfl (by decide) rfl rfl ho12_12.rd (.head _) ((by intro u hu; simp at hu; rcases hu with rfl | rfl | rfl | rfl <;> rfl)) (by unfold maxLen; omega) (by omega) rfl rfl fun vcb Acb hocb hnecb => ?_
      refine WL.q (oq_assign rfl) rfl rfl rfl ?_
      refine WL.nil (WE.block_normal ?_)
      have hz := own_4 (out := out) (g := [a, b]) hocb rfl rfl (sgA (by simp) hc12_3 (by show _ = ((num3 [a, b] / 262144 % 64 : Nat) : Int); rw [hnum]; omega)) (sgA (by simp) hc12_7 (by show _ = ((num3 [a, b] / 4096 % 64 : Nat) : Int); rw [hnum]; omega)) (sgA (by simp) hc12_11 (by show _ = ((num3 [a, b] / 64 % 64 : Nat) : Int); rw [hnum]; omega)) rfl
      have hy : out ++ out4 [a, b] = b64 l := by
       rw [← hb, b64_step (l := [a, b]) (by simp)]
       show _ = out ++ (out4 [a, b] ++ b64 [])
       rw [b64_nil, List.append_nil]
      refine WE.f1 ?_
      refine WE.forget ho12_12.fresh ?_
      refine WE.meet (_, _, out ++ out4 [a, b]) ?_ ⟨rfl, trivial⟩ (List.Perm.refl _)
      try dsimp only
      exact ⟨hz, hy⟩
     ·
      try simp only [Z1, Z2, Z3, Z4, Z5, Z6, Z7, Z8, Z9, Z0] at q10
      refine WC.skip (WE.block_normal ?_)
      obtain rfl : rs = [] := List.eq_nil_of_length_eq_zero (by omega)
      rw [b64_nil, List.append_nil] at hb
      refine WE.meet (_, _, out) ?_ ⟨rfl, trivial⟩ (List.Perm.refl _)
      try dsimp only
      exact ⟨ho, hb⟩
   ·rintro ⟨u2, B2, o2⟩ hp
    try dsimp only at hp
    obtain ⟨ho2, hb3⟩ := hp
    show WC _ _ _ _ _ _ ([(3, u2)]) ([B2, A])
    refine WC.seq (WC.region ?_)
    refine WL.q (oq_move rfl) rfl rfl rfl ?_
    refine WL.q (oq_bytesStr ho2.rd (.head _) Tryz.underlying9 Tryz.underlying31 Tryz.underlying5 rfl) rfl rfl rfl ?_
    refine WL.q (oq_assign rfl) rfl rfl rfl ?_
    refine WL.nil (WE.then_normal (WC.sub (fr' := [(2, _)]) ?_ ⟨rfl, trivial⟩))
    refine WC.ret ?_
    refine WE.forget ho2.fresh ?_
    refine WE.endR (.inl rfl) (res1 Tryz.results95 rfl) ?_
    rw [hb3]
end TC
end Go.Proofs.YtinkaobaboffcaaGreatDoor
/- Sixteen signs into a buffer. -/
namespace Go.Proofs.YtinkaobaboffcaaGreatDoor
open Go Go.RowKit V TA TB TC
set_option linter.unusedSimpArgs false
set_option linter.unusedVariables false
set_option maxRecDepth 10000
namespace TD
theorem flat5 : Flat Tryz.prog 5 := ⟨_, Tryz.underlying5, by simp⟩
theorem ty5 : Ty Tryz.prog 5 (.int .u8 0) 1 1 := ty_of (by kernel_rfl)
theorem hx_at {x : Int} {n : Nat} (h : x = (n : Int)) : byteAt [48, 49, 50, 51, 52, 53, 54, 55, 56, 57, 97, 98, 99, 100, 101, 102] x = ((hx n).toNat : Int) := by subst h; rfl
theorem hexB_step {l : List UInt8} {i : Nat} (h : i < l.length) : hexB (l.take (i + 1)) = hexB (l.take i) ++ [hx ((l.getD i 0).toNat / 16), hx ((l.getD i 0).toNat % 16)] := by
 unfold hexB
 rw [List.take_add_one, List.getElem?_eq_getElem h, List.flatMap_append, List.getD_eq_getElem?_getD, List.getElem?_eq_getElem h]; rfl
theorem hexB_len : ∀ l : List UInt8, (hexB l).length = 2 * l.length
 | [] => rfl
 | b :: l => by
  have := hexB_len l
  have e : hexB (b :: l) = hx (b.toNat / 16) :: hx (b.toNat % 16) :: hexB l := rfl
  rw [e, List.length_cons, List.length_cons, this, List.length_cons]; omega
theorem set_two (L : List UInt8) (k : Nat) (x y : UInt8) (h : k + 1 < L.length) : (L.set k x).set (k + 1) y = putB L k [x, y] := by
 unfold putB
 apply List.ext_getElem?
 intro j
 show _ = (L.take k ++ [x, y] ++ L.drop (k + 2))[j]?
 rw [List.append_assoc, List.getElem?_append, List.getElem?_append, List.length_take, Nat.min_eq_left (by omega), List.getElem?_set, List.getElem?_set, List.getElem?_take, List.getElem?_drop, List.length_set]
 by_cases h1 : j < k
 ·rw [if_neg (by omega), if_neg (by omega), if_pos h1, if_pos h1]
 ·rw [if_neg h1]
  by_cases h2 : j = k
  ·subst h2; simp; omega
  ·by_cases h3 : j = k + 1
   ·subst h3; simp; omega
   ·rw [if_neg (by omega), if_neg (by omega), if_neg (by simp; omega)]
    congr 1; simp; omega
theorem zzHex (base sb off m c : Nat) (e : TypeId) (L src : List UInt8) (vs : Value) (X : Hp) (hr : RdS 1 vs X src.length (bytesV src)) (hm : 2 * src.length ≤ m) (hL : off + m ≤ L.length) (hs : src.length ≤ 1000) : FnW Tryz.prog 116 [Sl sb off m c, vs] base [Bf sb e L, X] (fun w Hs => w = I ((2 * src.length : Nat) : Int) ∧ Hs = [Bf sb e (putB L off (hexB src)), X]) := by
 refine FnW.enter (n := 33) Tryz.func116 rfl rfl fun w0 R0 hbase => ?_
 subst hbase
 show WC _ _ _ _ _ _ _ ([Bf sb e L, X, R0])
 refine WC.sub (fr' := [(0, _), (1, _)]) ?_ ⟨rfl, rfl, trivial⟩
 refine WC.seq (WC.region ?_)
 refine WL.q (oq_assign rfl) rfl rfl rfl ?_
 refine WL.nil (WE.then_normal (WC.sub (fr' := [(0, _), (1, _)]) ?_ ⟨rfl, rfl, trivial⟩))
 refine WC.seq (WC.seq (WC.region ?_))
 refine WL.q (oq_move rfl) rfl rfl rfl ?_
 refine WL.q (oq_len_rd hr Tryz.underlying31 rfl) rfl rfl rfl ?_
 refine WL.q (oq_move rfl) rfl rfl rfl ?_
 refine WL.nil (WE.then_normal (WC.sub (fr' := [(0, _), (1, _), (7, _), (8, _), (9, _)]) ?_ ⟨rfl, rfl, rfl, rfl, rfl, trivial⟩))
 refine WC.block ?_
 refine WC.loop (ι := Nat × (List UInt8)) (fun i_ => (fun (i : Nat) (L1 : List UInt8) => [(0, Sl sb off m c), (1, vs), (7, vs), (8, I (src.length : Int)), (9, I (i : Int))]) i_.1 i_.2) (fun i_ => (fun (i : Nat) (L1 : List UInt8) => [Bf sb e L1, X, R0]) i_.1 i_.2) (fun i_ => (fun (i : Nat) (L1 : List UInt8) => i ≤ src.length ∧ L1 = putB L off (hexB (src.take i)) ∧ L1.length = L.length) i_.1 i_.2) (fun i_ => (fun (i : Nat) (L1 : List UInt8) => src.length - i) i_.1 i_.2) ((0, L)) ?_ ⟨rfl, rfl, rfl, rfl, rfl, trivial⟩ (List.Perm.refl _) ?_
 ·try dsimp only
  exact ⟨by omega, (putB_nil L off).symm, rfl⟩
 ·rintro ⟨i, L1⟩ hp
  try dsimp only at hp
  obtain ⟨hi, hL1, hLl⟩ := hp
  show WC _ _ _ _ _ _ ([(0, Sl sb off m c), (1, vs), (7, vs), (8, I (src.length : Int)), (9, I (i : Int))]) ([Bf sb e L1, X, R0])
  refine WC.seq (WC.region ?_)
  refine WL.q (oq_lss rfl rfl) rfl rfl rfl ?_
  refine WL.nil (WE.then_normal (WC.sub (fr' := [(0, _), (1, _), (7, _), (8, _), (9, _), (10, _)]) ?_ ⟨rfl, rfl, rfl, rfl, rfl, rfl, trivial⟩))
  refine WC.seq ?_
  refine WC.cond rfl (fun q2 => ?_) (fun q2 => ?_)
  ·
   try simp only [Z1, Z2, Z3, Z4, Z5, Z6, Z7, Z8, Z9, Z0] at q2
   refine WC.skip (WE.then_normal (WC.sub (fr' := [(0, _), (1, _), (7, _), (8, _), (9, _)]) ?_ ⟨rfl, rfl, rfl, rfl, rfl, trivial⟩))
   refine WC.seq (WC.block (WC.seq ?_))
   have hlt : i < src.length := by omega
   refine WC.region ?_
   refine WL.q (oq_move rfl) rfl rfl rfl ?_
   refine WL.q (oq_ixaddr hr Tryz.underlying31 ty5 rfl rfl (by first | omega | exact ⟨by omega, Int.lt_of_lt_of_le (b := 16) (by omega) (by decide)⟩)) rfl rfl rfl ?_
   refine WL.load_byte hr (.tail _ (.head _)) flat5 rfl (by first | omega | exact ⟨by omega, Int.lt_of_lt_of_le (b := 16) (by omega) (by decide)⟩) rfl rfl fun c3_2 hc3_2 hc3_2l hc3_2u => ?_
   refine WL.q (oq_assign rfl) rfl rfl rfl ?_
   refine WL.q (oq_assign rfl) rfl rfl rfl ?_
   refine WL.nil (WE.then_normal (WC.sub (fr' := [(0, _), (1, _), (5, _), (6, _), (7, _), (8, _), (9, _)]) ?_ ⟨rfl, rfl, rfl, rfl, rfl, rfl, rfl, trivial⟩))
   refine WC.tailM (pl := [_, _, _, _, _, _, _]) (ql := [_, _, _, _, _, _, _]) (tl := [_, _, _]) [3, 4, 5, 6, 10, 11, 12] [0, 1, 2, 7, 8, 9, 13] 14 [15, 16] (by kernel_rfl) (by kernel_rfl) (by kernel_rfl) (by kernel_rfl) (by kernel_rfl) (by kernel_rfl) (by decide) rfl rfl rfl (by decide) (by repeat (first | with_reducible exact QOk.body | with_reducible apply QOk.then | with_reducible apply QOk.block | exact QOk.body | apply QOk.then | apply QOk.block)) ?_
   refine WM.q (fun w0 => oq_move rfl) rfl rfl rfl ?_
   refine WM.q (fun w0 => oq_move rfl) rfl rfl rfl ?_
   refine WM.q (fun w0 => oq_mul rfl rfl (by rw [i64_lo, i64_hi]; (first | omega | (simp only [List.length_cons, List.length_nil, List.length_append, List.length_drop, List.length_take]; omega)))) rfl rfl rfl ?_
   refine WM.q (fun w0 => oq_add rfl rfl (by rw [i64_lo, i64_hi]; (first | omega | (simp only [List.length_cons, List.length_nil, List.length_append, List.length_drop, List.length_take]; omega)))) rfl rfl rfl ?_
   refine WM.q (fun w0 => oq_move rfl) rfl rfl rfl ?_
   refine WM.q (fun w0 => oq_mask 4 16 rfl rfl (by rw [u8_hi]; omega) (by decide) (by decide) (by decide)) rfl rfl rfl ?_
   refine WM.index_s Tryz.underlying9 rfl rfl (by first | omega | exact ⟨by omega, Int.lt_of_lt_of_le (b := 16) (by omega) (by decide)⟩) rfl rfl fun c4_12 hc4_12 hc4_12l hc4_12u => ?_
   refine WM.nil ?_
   refine WY.q (oq_move rfl) rfl rfl rfl ?_
   refine WY.q (oq_move rfl) rfl rfl rfl ?_
   refine WY.q (oq_mul rfl rfl (by rw [i64_lo, i64_hi]; (first | omega | (simp only [List.length_cons, List.length_nil, List.length_append, List.length_drop, List.length_take]; omega)))) rfl rfl rfl ?_
   refine WY.q (oq_move rfl) rfl rfl rfl ?_
   refine WY.q (oq_shrl 16 rfl rfl (by decide) (by decide)) rfl rfl rfl ?_
   refine WY.index_s Tryz.underlying9 rfl rfl (by first | omega | exact ⟨by omega, Int.lt_of_lt_of_le (b := 16) (by omega) (by decide)⟩) rfl rfl fun c4_9 hc4_9 hc4_9l hc4_9u => ?_
   refine WY.q (oq_ixSl (i := (2 * i)) Tryz.underlying31 ty5 rfl rfl (by first | omega | (norm_cast; omega) | (simp only [List.length_set]; norm_cast; omega))) rfl rfl rfl ?_
   refine WY.nil ?_
   refine WL.storeB ty5 rfl rfl (by omega) (by first | omega | (norm_cast; omega) | (simp only [List.length_set]; norm_cast; omega)) rfl ?_
   refine WL.q (oq_ixSl (i := (2 * i + 1)) Tryz.underlying31 ty5 rfl rfl (by first | omega | (norm_cast; omega) | (simp only [List.length_set]; norm_cast; omega))) rfl rfl rfl ?_
   refine WL.storeB ty5 rfl rfl (by omega) (by first | omega | (norm_cast; omega) | (simp only [List.length_set]; norm_cast; omega)) rfl ?_
   refine WL.nil (WE.block_normal (WE.then_normal (WC.sub (fr' := [(0, _), (1, _), (7, _), (8, _), (9, _)]) ?_ ⟨rfl, rfl, rfl, rfl, rfl, trivial⟩)))
   refine WC.region ?_
   refine WL.q (oq_add rfl rfl (by rw [i64_lo, i64_hi]; (first | omega | (simp only [List.length_cons, List.length_nil, List.length_append, List.length_drop, List.length_take]; omega)))) rfl rfl rfl ?_
   refine WL.q (oq_move rfl) rfl rfl rfl ?_
   refine WL.nil ?_
   refine WE.again (i + 1, _) ?_ ?_ ⟨rfl, rfl, rfl, rfl, rfl, trivial⟩ (List.Perm.refl _)
   ·try dsimp only
    have hx := hexB_step hlt
    have hbl := hexB_len (src.take i)
    rw [List.length_take, Nat.min_eq_left hi] at hbl
    refine ⟨by omega, ?_, by simp [hLl]⟩
    rw [hx, ← putB_two (by rw [hbl]; show _ + 2 ≤ _; omega), ← hL1, hbl, hc4_9, hc4_12, hx_at (n := (src.getD i 0).toNat / 16) (by rw [hc3_2]; unfold byteAt; rw [Int.toNat_natCast]; omega), hx_at (n := (src.getD i 0).toNat % 16) (by rw [hc3_2]; unfold byteAt; rw [Int.toNat_natCast]; omega), Int.toNat_natCast, Int.toNat_natCast, UInt8.ofNat_toNat, UInt8.ofNat_toNat]
    exact set_two _ _ _ _ (by omega)
   ·(try dsimp only); omega
  ·
   try simp only [Z1, Z2, Z3, Z4, Z5, Z6, Z7, Z8, Z9, Z0] at q2
   refine WC.exit (WE.then_exit (WE.then_exit (WE.block_same (WE.then_normal (WC.sub (fr' := [(1, _)]) ?_ ⟨rfl, trivial⟩)))))
   refine WC.seq (WC.region ?_)
   refine WL.q (oq_move rfl) rfl rfl rfl ?_
   refine WL.q (oq_len_rd hr Tryz.underlying31 rfl) rfl rfl rfl ?_
   refine WL.q (oq_mul rfl rfl (by rw [i64_lo, i64_hi]; (first | omega | (simp only [List.length_cons, List.length_nil, List.length_append, List.length_drop, List.length_take]; omega)))) rfl rfl rfl ?_
   refine WL.q (oq_assign rfl) rfl rfl rfl ?_
   refine WL.nil (WE.then_normal (WC.sub (fr' := [(4, _)]) ?_ ⟨rfl, trivial⟩))
   refine WC.ret ?_
   refine WE.endW2 (.inl rfl) (res1 Tryz.results116 rfl) ?_
   obtain rfl : i = src.length := by omega
   rw [List.take_length] at hL1
   subst hL1
   exact ⟨by congr 1, rfl⟩
end TD
end Go.Proofs.YtinkaobaboffcaaGreatDoor
/- A UUID's text. -/
namespace Go.Proofs.YtinkaobaboffcaaGreatDoor
open Go Go.RowKit V TA TB TC TD
set_option linter.unusedSimpArgs false
set_option linter.unusedVariables false
set_option maxRecDepth 10000
namespace TE
theorem call116 : Callable Tryz.prog 116 := ⟨_, Tryz.func116, rfl, by kernel_rfl⟩
theorem ty5 : Ty Tryz.prog 5 (.int .u8 0) 1 1 := ty_of (by kernel_rfl)
theorem ty177 : Ty Tryz.prog 177 (.agg #[(.int .u8 0), (.int .u8 0), (.int .u8 0), (.int .u8 0), (.int .u8 0), (.int .u8 0), (.int .u8 0), (.int .u8 0), (.int .u8 0), (.int .u8 0), (.int .u8 0), (.int .u8 0), (.int .u8 0), (.int .u8 0), (.int .u8 0), (.int .u8 0), (.int .u8 0), (.int .u8 0), (.int .u8 0), (.int .u8 0), (.int .u8 0), (.int .u8 0), (.int .u8 0), (.int .u8 0), (.int .u8 0), (.int .u8 0), (.int .u8 0), (.int .u8 0), (.int .u8 0), (.int .u8 0), (.int .u8 0), (.int .u8 0), (.int .u8 0), (.int .u8 0), (.int .u8 0), (.int .u8 0)]) 36 36 := ty_of (by kernel_rfl)
theorem uu_rd {xb e a n c : Nat} {u : List UInt8} (h : a + n ≤ u.length) (hc : n ≤ c) : RdS 1 (Sl xb a n c) (Bf xb e u) ((u.drop a).take n).length (bytesV ((u.drop a).take n)) := by
 have h1 := Sl.rd (b := xb) (off := a) (n := n) (c := c) (e := e) (l := u) h hc
 have : ((u.drop a).take n).length = n := by rw [List.length_take, List.length_drop]; omega
 rw [this]; exact h1
theorem zzHexE (base sb off m c : Nat) (e : TypeId) (L : List UInt8) (xb e2 a n c2 : Nat) (u : List UInt8) (hu : u.length = 16) (h : a + n ≤ 16) (hc : n ≤ c2) (hm : 2 * n = m) (hL : off + m ≤ L.length) : FnW Tryz.prog 116 [Sl sb off m c, Sl xb a n c2] base [Bf sb e L, Bf xb e2 u] (fun w Hs => ∃ L2, w = I ((2 * n : Nat) : Int) ∧ Hs = [Bf sb e L2, Bf xb e2 u] ∧ L2.length = L.length ∧ L2 = putB L off (hexB ((u.drop a).take n))) := by
 have hn : ((u.drop a).take n).length = n := by rw [List.length_take, List.length_drop]; omega
 intro w0 R0 w hb hw
 refine (zzHex base sb off m c e L ((u.drop a).take n) (Sl xb a n c2) (Bf xb e2 u) (uu_rd (by omega) hc) (by omega) hL (by omega) w0 R0 w hb hw).mono ?_
 rintro en w' ⟨v, Hs, he, ⟨rfl, rfl⟩, hst⟩
 refine ⟨_, _, he, ⟨_, by rw [hn], rfl, putB_len (by rw [hexB_len, hn]; omega), rfl⟩, hst⟩
theorem uu_plain : ∀ (u : List UInt8), u.length = 16 → putB ((putB ((putB ((putB ((putB (List.replicate 36 0) 0 (hexB (List.take 4 (List.drop 0 u)))).set (0 + 8) (UInt8.ofNat (Int.toNat 45))) 9 (hexB (List.take 2 (List.drop 4 u)))).set (0 + 13) (UInt8.ofNat (Int.toNat 45))) 14 (hexB (List.take 2 (List.drop 6 u)))).set (0 + 18) (UInt8.ofNat (Int.toNat 45))) 19 (hexB (List.take 2 (List.drop 8 u)))).set (0 + 23) (UInt8.ofNat (Int.toNat 45))) 24 (hexB (List.take 6 (List.drop 10 u))) = sf u 16
 | [a0, a1, a2, a3, a4, a5, a6, a7, a8, a9, a10, a11, a12, a13, a14, a15], _ => by kernel_rfl
theorem uuidText (u : List UInt8) (hu : u.length = 16) : Fn0 Tryz.prog 113 [.agg (bytesV u).toArray] (S (sf u 16)) := by
 refine Fn0.enter (n := 25) Tryz.func113 rfl rfl fun w0 => ?_
 refine WC.sub (fr' := [(0, _)]) ?_ ⟨rfl, trivial⟩
 refine WC.seq (WC.region ?_)
 refine WL.box rfl rfl rfl fun xb hxb => ?_
 refine WL.asB (u) rfl ?_
 refine WL.q (oq_assign rfl) rfl rfl rfl ?_
 refine WL.nil (WE.then_normal (WC.sub (fr' := [(1, _)]) ?_ ⟨rfl, trivial⟩))
 refine WC.seq (WC.region ?_)
 refine WL.alloc ty177 rfl rfl fun sb hsb => ?_
 refine WL.asB (List.replicate 36 0) rfl ?_
 refine WL.nil (WE.then_normal (WC.sub (fr' := [(1, _), (3, _)]) ?_ ⟨rfl, rfl, trivial⟩))
 refine WC.seq ?_
 refine WC.tailM (pl := []) (ql := [_, _]) (tl := [_]) [] [0, 1] 2 [] (by kernel_rfl) (by kernel_rfl) (by kernel_rfl) (by kernel_rfl) (by kernel_rfl) (by kernel_rfl) (by decide) rfl rfl rfl (by decide) (by repeat (first | with_reducible exact QOk.body | with_reducible apply QOk.then | with_reducible apply QOk.block | exact QOk.body | apply QOk.then | apply QOk.block)) ?_
 refine WM.nil ?_
 refine WY.q (oq_sliceArr (j := 8) Tryz.underlying177 ty5 rfl rfl ⟨_, rfl⟩ (by first | omega | (rw [List.length_set]; omega) | (simp; done)) (by first | omega | (rw [List.length_set]; omega) | (simp; done))) rfl rfl rfl ?_
 refine WY.q (oq_sliceArr (i := 0) (j := 4) Tryz.underlying72 ty5 rfl ⟨_, rfl⟩ ⟨_, rfl⟩ (by first | omega | (rw [List.length_set]; omega) | (simp; done)) (by first | omega | (rw [List.length_set]; omega) | (simp; done))) rfl rfl rfl ?_
 refine WY.nil ?_
 refine WL.f1 ?_
 refine WL.f1 ?_
 refine WL.callW2 (zzHexE _ sb 0 8 36 _ _ xb 72 0 4 16 u hu (by decide) (by decide) (by decide) (by first | (simp; done) | (rw [List.length_set]; omega))) call116 rfl rfl rfl fun v2_2 Hs2_2 hR2_2 => ?_
 obtain ⟨L2, rfl, rfl, hl2, he2⟩ := hR2_2
 try rw [List.length_set] at hl2
 try rw [List.length_replicate] at hl2
 refine WL.to2 ?_
 refine WL.nil (WE.then_normal (WC.sub (fr' := [(1, _), (3, _)]) ?_ ⟨rfl, rfl, trivial⟩))
 refine WC.seq (WC.region ?_)
 refine WL.q (oq_ixArr (i := 8) Tryz.underlying177 ty5 rfl rfl (by first | omega | (rw [List.length_set]; omega) | (simp; done))) rfl rfl rfl ?_
 refine WL.storeB ty5 rfl rfl (by omega) (by first | omega | (rw [List.length_set]; omega) | (simp; done)) rfl ?_
 refine WL.nil (WE.then_normal (WC.sub (fr' := [(1, _), (3, _)]) ?_ ⟨rfl, rfl, trivial⟩))
 refine WC.seq ?_
 refine WC.tailM (pl := []) (ql := [_, _]) (tl := [_]) [] [0, 1] 2 [] (by kernel_rfl) (by kernel_rfl) (by kernel_rfl) (by kernel_rfl) (by kernel_rfl) (by kernel_rfl) (by decide) rfl rfl rfl (by decide) (by repeat (first | with_reducible exact QOk.body | with_reducible apply QOk.then | with_reducible apply QOk.block | exact QOk.body | apply QOk.then | apply QOk.block)) ?_
 refine WM.nil ?_
 refine WY.q (oq_sliceArr (i := 9) (j := 13) Tryz.underlying177 ty5 rfl ⟨_, rfl⟩ ⟨_, rfl⟩ (by first | omega | (rw [List.length_set]; omega) | (simp; done)) (by first | omega | (rw [List.length_set]; omega) | (simp; done))) rfl rfl rfl ?_
 refine WY.q (oq_sliceArr (i := 4) (j := 6) Tryz.underlying72 ty5 rfl ⟨_, rfl⟩ ⟨_, rfl⟩ (by first | omega | (rw [List.length_set]; omega) | (simp; done)) (by first | omega | (rw [List.length_set]; omega) | (simp; done))) rfl rfl rfl ?_
 refine WY.nil ?_
 refine WL.f1 ?_
 refine WL.f1 ?_
 refine WL.callW2 (zzHexE _ sb 9 4 27 _ _ xb 72 4 2 12 u hu (by decide) (by decide) (by decide) (by first | (simp; done) | (rw [List.length_set]; omega))) call116 rfl rfl rfl fun v4_2 Hs4_2 hR4_2 => ?_
 obtain ⟨L4, rfl, rfl, hl4, he4⟩ := hR4_2
 try rw [List.length_set] at hl4
 try rw [List.length_replicate] at hl4
 refine WL.to2 ?_
 refine WL.nil (WE.then_normal (WC.sub (fr' := [(1, _), (3, _)]) ?_ ⟨rfl, rfl, trivial⟩))
 refine WC.seq (WC.region ?_)
 refine WL.q (oq_ixArr (i := 13) Tryz.underlying177 ty5 rfl rfl (by first | omega | (rw [List.length_set]; omega) | (simp; done))) rfl rfl rfl ?_
 refine WL.storeB ty5 rfl rfl (by omega) (by first | omega | (rw [List.length_set]; omega) | (simp; done)) rfl ?_
 refine WL.nil (WE.then_normal (WC.sub (fr' := [(1, _), (3, _)]) ?_ ⟨rfl, rfl, trivial⟩))
 refine WC.seq ?_
 refine WC.tailM (pl := []) (ql := [_, _]) (tl := [_]) [] [0, 1] 2 [] (by kernel_rfl) (by kernel_rfl) (by kernel_rfl) (by kernel_rfl) (by kernel_rfl) (by kernel_rfl) (by decide) rfl rfl rfl (by decide) (by repeat (first | with_reducible exact QOk.body | with_reducible apply QOk.then | with_reducible apply QOk.block | exact QOk.body | apply QOk.then | apply QOk.block)) ?_
 refine WM.nil ?_
 refine WY.q (oq_sliceArr (i := 14) (j := 18) Tryz.underlying177 ty5 rfl ⟨_, rfl⟩ ⟨_, rfl⟩ (by first | omega | (rw [List.length_set]; omega) | (simp; done)) (by first | omega | (rw [List.length_set]; omega) | (simp; done))) rfl rfl rfl ?_
 refine WY.q (oq_sliceArr (i := 6) (j := 8) Tryz.underlying72 ty5 rfl ⟨_, rfl⟩ ⟨_, rfl⟩ (by first | omega | (rw [List.length_set]; omega) | (simp; done)) (by first | omega | (rw [List.length_set]; omega) | (simp; done))) rfl rfl rfl ?_
 refine WY.nil ?_
 refine WL.f1 ?_
 refine WL.f1 ?_
 refine WL.callW2 (zzHexE _ sb 14 4 22 _ _ xb 72 6 2 10 u hu (by decide) (by decide) (by decide) (by first | (simp; done) | (rw [List.length_set]; omega))) call116 rfl rfl rfl fun v6_2 Hs6_2 hR6_2 => ?_
 obtain ⟨L6, rfl, rfl, hl6, he6⟩ := hR6_2
 try rw [List.length_set] at hl6
 try rw [List.length_replicate] at hl6
 refine WL.to2 ?_
 refine WL.nil (WE.then_normal (WC.sub (fr' := [(1, _), (3, _)]) ?_ ⟨rfl, rfl, trivial⟩))
 refine WC.seq (WC.region ?_)
 refine WL.q (oq_ixArr (i := 18) Tryz.underlying177 ty5 rfl rfl (by first | omega | (rw [List.length_set]; omega) | (simp; done))) rfl rfl rfl ?_
 refine WL.storeB ty5 rfl rfl (by omega) (by first | omega | (rw [List.length_set]; omega) | (simp; done)) rfl ?_
 refine WL.nil (WE.then_normal (WC.sub (fr' := [(1, _), (3, _)]) ?_ ⟨rfl, rfl, trivial⟩))
 refine WC.seq ?_
 refine WC.tailM (pl := []) (ql := [_, _]) (tl := [_]) [] [0, 1] 2 [] (by kernel_rfl) (by kernel_rfl) (by kernel_rfl) (by kernel_rfl) (by kernel_rfl) (by kernel_rfl) (by decide) rfl rfl rfl (by decide) (by repeat (first | with_reducible exact QOk.body | with_reducible apply QOk.then | with_reducible apply QOk.block | exact QOk.body | apply QOk.then | apply QOk.block)) ?_
 refine WM.nil ?_
 refine WY.q (oq_sliceArr (i := 19) (j := 23) Tryz.underlying177 ty5 rfl ⟨_, rfl⟩ ⟨_, rfl⟩ (by first | omega | (rw [List.length_set]; omega) | (simp; done)) (by first | omega | (rw [List.length_set]; omega) | (simp; done))) rfl rfl rfl ?_
 refine WY.q (oq_sliceArr (i := 8) (j := 10) Tryz.underlying72 ty5 rfl ⟨_, rfl⟩ ⟨_, rfl⟩ (by first | omega | (rw [List.length_set]; omega) | (simp; done)) (by first | omega | (rw [List.length_set]; omega) | (simp; done))) rfl rfl rfl ?_
 refine WY.nil ?_
 refine WL.f1 ?_
 refine WL.f1 ?_
 refine WL.callW2 (zzHexE _ sb 19 4 17 _ _ xb 72 8 2 8 u hu (by decide) (by decide) (by decide) (by first | (simp; done) | (rw [List.length_set]; omega))) call116 rfl rfl rfl fun v8_2 Hs8_2 hR8_2 => ?_
 obtain ⟨L8, rfl, rfl, hl8, he8⟩ := hR8_2
 try rw [List.length_set] at hl8
 try rw [List.length_replicate] at hl8
 refine WL.to2 ?_
 refine WL.nil (WE.then_normal (WC.sub (fr' := [(1, _), (3, _)]) ?_ ⟨rfl, rfl, trivial⟩))
 refine WC.seq (WC.region ?_)
 refine WL.q (oq_ixArr (i := 23) Tryz.underlying177 ty5 rfl rfl (by first | omega | (rw [List.length_set]; omega) | (simp; done))) rfl rfl rfl ?_
 refine WL.storeB ty5 rfl rfl (by omega) (by first | omega | (rw [List.length_set]; omega) | (simp; done)) rfl ?_
 refine WL.nil (WE.then_normal (WC.sub (fr' := [(1, _), (3, _)]) ?_ ⟨rfl, rfl, trivial⟩))
 refine WC.seq ?_
 refine WC.tailM (pl := []) (ql := [_, _]) (tl := [_]) [] [0, 1] 2 [] (by kernel_rfl) (by kernel_rfl) (by kernel_rfl) (by kernel_rfl) (by kernel_rfl) (by kernel_rfl) (by decide) rfl rfl rfl (by decide) (by repeat (first | with_reducible exact QOk.body | with_reducible apply QOk.then | with_reducible apply QOk.block | exact QOk.body | apply QOk.then | apply QOk.block)) ?_
 refine WM.nil ?_
 refine WY.q (oq_sliceArr (i := 24) Tryz.underlying177 ty5 rfl ⟨_, rfl⟩ rfl (by first | omega | (rw [List.length_set]; omega) | (simp; done)) (by first | omega | (rw [List.length_set]; omega) | (simp; done))) rfl rfl rfl ?_
 refine WY.q (oq_sliceArr (i := 10) Tryz.underlying72 ty5 rfl ⟨_, rfl⟩ rfl (by first | omega | (rw [List.length_set]; omega) | (simp; done)) (by first | omega | (rw [List.length_set]; omega) | (simp; done))) rfl rfl rfl ?_
 refine WY.nil ?_
 refine WL.f1 ?_
 refine WL.f1 ?_
 refine WL.callW2 (zzHexE _ sb 24 12 12 _ _ xb 72 10 6 6 u hu (by decide) (by decide) (by decide) (by first | (simp; done) | (rw [List.length_set]; omega))) call116 rfl rfl rfl fun v10_2 Hs10_2 hR10_2 => ?_
 obtain ⟨L10, rfl, rfl, hl10, he10⟩ := hR10_2
 try rw [List.length_set] at hl10
 try rw [List.length_replicate] at hl10
 refine WL.to2 ?_
 refine WL.nil (WE.then_normal (WC.sub (fr' := [(3, _)]) ?_ ⟨rfl, trivial⟩))
 refine WC.seq (WC.region ?_)
 refine WL.q (oq_sliceArr Tryz.underlying177 ty5 rfl rfl rfl (by first | omega | (rw [List.length_set]; omega) | (simp; done)) (by first | omega | (rw [List.length_set]; omega) | (simp; done))) rfl rfl rfl ?_
 refine WL.q (oq_bytesStr (Sl.rd (by first | omega | (rw [List.length_set]; omega) | (simp; done)) (by first | omega | (rw [List.length_set]; omega) | (simp; done))) (.head _) Tryz.underlying9 Tryz.underlying31 Tryz.underlying5 rfl) rfl rfl rfl ?_
 refine WL.q (oq_assign rfl) rfl rfl rfl ?_
 refine WL.nil (WE.then_normal (WC.sub (fr' := [(2, _)]) ?_ ⟨rfl, trivial⟩))
 refine WC.ret ?_
 refine WE.lose hsb ?_
 refine WE.lose hxb ?_
 refine WE.end0 (.inl rfl) (res1 Tryz.results113 rfl) ?_
 have h36 : List.take (36 - 0) (List.drop (0 + 0) L10) = L10 := by
  show List.take 36 (List.drop 0 L10) = L10
  rw [List.drop_zero, List.take_of_length_le (by omega)]
 rw [h36, he10, he8, he6, he4, he2]
 exact congrArg S (uu_plain u hu)
end TE
end Go.Proofs.YtinkaobaboffcaaGreatDoor
/- Signs of sixteen of a number. -/
namespace Go.Proofs.YtinkaobaboffcaaGreatDoor
open Go Go.RowKit V TA TB TC TD TE
set_option linter.unusedSimpArgs false
set_option linter.unusedVariables false
set_option maxRecDepth 10000
namespace TF
def padF : Nat → Int → List UInt8 → List UInt8
 | 0, _, s => s
 | f + 1, w, s => if (s.length : Int) < w then padF f w (48 :: s) else s
def pad (w : Int) (s : List UInt8) : List UInt8 := padF w.toNat w s
theorem pad_done {w : Int} {s : List UInt8} (h : ¬ (s.length : Int) < w) : pad w s = s := by
 unfold pad
 cases w.toNat with
 | zero => rfl
 | succ f => exact if_neg h
theorem padF_more : ∀ (f g : Nat) (w : Int) (s : List UInt8), w.toNat ≤ s.length + f → w.toNat ≤ s.length + g → padF f w s = padF g w s
 | 0, 0, _, _, _, _ => rfl
 | 0, g + 1, w, s, h, _ => by
  unfold padF; rw [if_neg (by omega)]
 | f + 1, 0, w, s, _, h => by
  unfold padF; rw [if_neg (by omega)]
 | f + 1, g + 1, w, s, h1, h2 => by
  unfold padF
  split
  ·exact padF_more f g w (48 :: s) (by rw [List.length_cons]; omega) (by rw [List.length_cons]; omega)
  ·rfl
theorem pad_step {w : Int} {s : List UInt8} (h : (s.length : Int) < w) : pad w s = pad w (48 :: s) := by
 have e : pad w s = padF (w.toNat + 1) w s := padF_more _ _ w s (by omega) (by omega)
 rw [e, padF, if_pos h]; rfl
def hexI (n : Int) (w : Int) : List UInt8 := (if n < 0 then [45] else []) ++ pad (if n < 0 then w - 1 else w) (hex n.natAbs)
end TF
end Go.Proofs.YtinkaobaboffcaaGreatDoor
/- The engine, for walks with known values: loops unrolled, numbers that wrap. Over any program. -/
namespace Go.Proofs.YtinkaobaboffcaaGreatDoor.V
open Go Go.RowKit
set_option linter.unusedSimpArgs false
set_option linter.unusedVariables false
section
variable {P : Program} {n : Nat} {w0 : World} {ds : List Deferred} {fr : Fr} {H : List Hp} {dst : Option Tmp} {ty : TypeId} {pos : String} {aft : Array Edge} {g : Option (Nat × Bool)} {Q : Post}
theorem oq_negw {t : TypeId} {x : Operand} {k : IntKind} {i : Int} (hx : ev fr x = some (.int k i)) : OV P n w0 ⟨dst, .unOp .neg t x, ty, pos, aft, g⟩ (.int k (k.wrap (-i))) ds fr H :=
 oq_of_run fun a w hf _ => by simp [execOp, hf.eval hx, Op.unary, Op.intArith]
end
end Go.Proofs.YtinkaobaboffcaaGreatDoor.V
