/- The engine, part 17: bytes as a text, arrays whole, stores into slices of the call's own. Over any program. -/
import Derived.Test.YtodlhaghdplclaaDoorVH
namespace Go.Proofs.YtodlhaghdplclaaDoor.V
open Go Go.RowKit
set_option linter.unusedSimpArgs false
set_option linter.unusedVariables false
theorem fold_push : ∀ (l s0 : List UInt8), (l.map fun c => (c.toNat : Int)).foldl (fun (r : ByteArray) n => r.push (UInt8.ofNat n.toNat)) ⟨⟨s0⟩⟩ = ⟨⟨s0 ++ l⟩⟩
  | [], s0 => by simp
  | c :: l, s0 => by
    have e : (⟨⟨s0⟩⟩ : ByteArray).push c = ⟨⟨s0 ++ [c]⟩⟩ := by
      show (⟨(⟨s0⟩ : Array UInt8).push c⟩ : ByteArray) = _
      simp
    simp only [List.map_cons, List.foldl_cons, Int.toNat_natCast]
    rw [show UInt8.ofNat c.toNat = c by simp, e, fold_push l (s0 ++ [c])]
    simp
theorem or_nat {k : IntKind} (e : Nat) {a b : Int} (h0 : 0 ≤ a) (hd : a % 2 ^ e = 0) (hb : 0 ≤ b ∧ b < 2 ^ e) (hm : a + b ≤ k.max) : ∃ c : Nat, (c : Int) = a + b ∧ ((BitVec.ofInt k.bits a) ||| (BitVec.ofInt k.bits b)).toNat = c ∧ ((BitVec.ofInt k.bits b) ||| (BitVec.ofInt k.bits a)).toNat = c := by
  have hmx : k.max < (2 : Int) ^ k.bits := by cases k <;> decide
  obtain ⟨a, rfl⟩ := Int.eq_ofNat_of_zero_le h0
  obtain ⟨b, rfl⟩ := Int.eq_ofNat_of_zero_le hb.1
  have hcast : ((2 ^ k.bits : Nat) : Int) = (2 : Int) ^ k.bits := by simp
  have hcast2 : ((2 ^ e : Nat) : Int) = (2 : Int) ^ e := by simp
  have ha : a < 2 ^ k.bits := by omega
  have hbb : b < 2 ^ k.bits := by omega
  have hbe : b < 2 ^ e := by omega
  have hda : a % 2 ^ e = 0 := by
    rw [← hcast2, ← Int.natCast_emod] at hd; omega
  have hae : a = 2 ^ e * (a / 2 ^ e) := by have := Nat.div_add_mod a (2 ^ e); omega
  refine ⟨a + b, by simp, ?_, ?_⟩
  · rw [BitVec.toNat_or, BitVec.ofInt_natCast, BitVec.ofInt_natCast, BitVec.toNat_ofNat, BitVec.toNat_ofNat, Nat.mod_eq_of_lt ha, Nat.mod_eq_of_lt hbb]
    have := Nat.two_pow_add_eq_or_of_lt hbe (a / 2 ^ e)
    rw [← hae] at this; exact this.symm
  · rw [BitVec.toNat_or, BitVec.ofInt_natCast, BitVec.ofInt_natCast, BitVec.toNat_ofNat, BitVec.toNat_ofNat, Nat.mod_eq_of_lt ha, Nat.mod_eq_of_lt hbb, Nat.or_comm]
    have := Nat.two_pow_add_eq_or_of_lt hbe (a / 2 ^ e)
    rw [← hae] at this; exact this.symm
theorem or_add {k : IntKind} (e : Nat) {a b : Int} (h0 : 0 ≤ a) (hd : a % 2 ^ e = 0) (hb : 0 ≤ b ∧ b < 2 ^ e) (hm : a + b ≤ k.max) : bitOp .or k a b = a + b := by
  obtain ⟨c, hc, h1, _⟩ := or_nat e h0 hd hb hm
  have hmn : k.min ≤ 0 := by cases k <;> decide
  show k.wrap (((BitVec.ofInt k.bits a) ||| (BitVec.ofInt k.bits b)).toNat : Int) = _
  rw [h1, hc, wrap_in ⟨by omega, by omega⟩]
theorem or_add' {k : IntKind} (e : Nat) {a b : Int} (h0 : 0 ≤ a) (hd : a % 2 ^ e = 0) (hb : 0 ≤ b ∧ b < 2 ^ e) (hm : a + b ≤ k.max) : bitOp .or k b a = b + a := by
  obtain ⟨c, hc, _, h1⟩ := or_nat e h0 hd hb hm
  have hmn : k.min ≤ 0 := by cases k <;> decide
  show k.wrap (((BitVec.ofInt k.bits b) ||| (BitVec.ofInt k.bits a)).toNat : Int) = _
  rw [h1, hc, wrap_in ⟨by omega, by omega⟩]; omega
theorem listSet_take {α : Type} : ∀ (l : List α) (n i : Nat) (x : α), i < n → (l.set i x).take n = (l.take n).set i x
  | [], n, i, x, _ => by simp
  | a :: l, 0, i, x, h => by omega
  | a :: l, n + 1, 0, x, _ => by simp
  | a :: l, n + 1, i + 1, x, h => by simp [listSet_take l n i x (by omega)]
section
variable {P : Program} {n : Nat} {w0 : World} {ds : List Deferred} {fr : Fr} {H H' : List Hp} {dst : Option Tmp} {ty : TypeId} {pos : String} {aft : Array Edge} {g : Option (Nat × Bool)}
variable {ops : Array Oper} {Q : Post} {rest : List Oper} {d : Nat}
/-- high bits with low ones; low ones with high ones -/
theorem oq_orl (e : Nat) {t t' : TypeId} {x y : Operand} {k : IntKind} {i j : Int} (hx : ev fr x = some (.int k i)) (hy : ev fr y = some (.int k j)) (h0 : 0 ≤ i) (hd : i % 2 ^ e = 0) (hb : 0 ≤ j ∧ j < 2 ^ e) (hm : i + j ≤ k.max) : OV P n w0 ⟨dst, .binOp .or t x y t', ty, pos, aft, g⟩ (.int k (i + j)) ds fr H := by
  have := oq_bits (op := .or) (P := P) (n := n) (w0 := w0) (ds := ds) (H := H) (dst := dst) (ty := ty) (pos := pos) (aft := aft) (g := g) (t := t) (t' := t') hx hy (.inr (.inl rfl))
  rwa [or_add e h0 hd hb hm] at this
theorem oq_orr (e : Nat) {t t' : TypeId} {x y : Operand} {k : IntKind} {i j : Int} (hx : ev fr x = some (.int k i)) (hy : ev fr y = some (.int k j)) (h0 : 0 ≤ j) (hd : j % 2 ^ e = 0) (hb : 0 ≤ i ∧ i < 2 ^ e) (hm : j + i ≤ k.max) : OV P n w0 ⟨dst, .binOp .or t x y t', ty, pos, aft, g⟩ (.int k (i + j)) ds fr H := by
  have := oq_bits (op := .or) (P := P) (n := n) (w0 := w0) (ds := ds) (H := H) (dst := dst) (ty := ty) (pos := pos) (aft := aft) (g := g) (t := t) (t' := t') hx hy (.inr (.inl rfl))
  rwa [or_add' e h0 hd hb hm] at this
/-- a shift to the left that loses nothing -/
theorem oq_shll (m : Int) {t t' : TypeId} {x y : Operand} {k k' : IntKind} {i j : Int} (hx : ev fr x = some (.int k i)) (hy : ev fr y = some (.int k' j)) (h : 0 ≤ j) (hm : (2 : Int) ^ (min j.toNat k.bits) = m) (hb : k.min ≤ i * m ∧ i * m ≤ k.max) : OV P n w0 ⟨dst, .binOp .shl t x y t', ty, pos, aft, g⟩ (.int k (i * m)) ds fr H := by
  have := oq_shl (P := P) (n := n) (w0 := w0) (ds := ds) (H := H) (dst := dst) (ty := ty) (pos := pos) (aft := aft) (g := g) (t := t) (t' := t') hx hy h
  rwa [hm, wrap_in hb] at this
/-- bytes made -/
theorem WL.makeB {t e : TypeId} {x y : Operand} {kl kc : IntKind} {k : Nat} {bytes : Nat} (ht : P.underlying t = some (.slice e)) (hty : Ty P e (.int .u8 0) 1 bytes) (hx : ev fr x = some (.int kl (k : Int))) (hy : ev fr y = some (.int kc (k : Int))) (hb : bytes * k ≤ 281474976710656) (h63 : k ≤ maxLen)
    (hg : gd ops fr ⟨some d, .makeSlice t x y, ty, pos, aft, g⟩ = some true) (hn : Nat.blt d n = true)
    (hk : ∀ b, w0.heap.size ≤ b → WL P n w0 ops Q rest ds ((d, Sl b 0 k k) :: fr) (Bf b e (List.replicate k 0) :: H)) : WL P n w0 ops Q (⟨some d, .makeSlice t x y, ty, pos, aft, g⟩ :: rest) ds fr H := by
  obtain ⟨i, hi, hz, hs, hby⟩ := hty
  have h63' : (k : Int) ≤ 9223372036854775807 := by have h := h63; unfold maxLen at h; omega
  have hb' : (i.bytes : Int) * (k : Int) ≤ 281474976710656 := by
    rw [hby, ← Int.natCast_mul]; omega
  refine WL.new (v := fun b => Sl b 0 k k) (obj := .cells (bytesV (List.replicate k 0)).toArray e (0, 0)) (fun a w hf _ => ?_) hg rfl hn hk
  have hr := run_make (P := P) w t e i (.int .u8 0) ht hi hz kl kc (k : Int) (k : Int) (by omega) (by omega) hb' h63'
  have hc : madeCells (Value.int .u8 0).cells (k * i.size) = (bytesV (List.replicate k 0)).toArray := by
    apply Array.toList_inj.1
    rw [hs, Nat.mul_one, show (Value.int .u8 0).cells = #[.int .u8 0] from rfl, ← one_cells (v := .int .u8 0) rfl, made_one rfl]
    simp [bytesV]
  simp only [Int.toNat_natCast, hc] at hr
  simp only [execOp, hf.eval hx, hf.eval hy, Sem.run_bind, hr, Result.andThen_ok, Sem.run_pure]
/-- bytes as a text -/
theorem oq_bytesStr {t t' e : TypeId} {x : Operand} {m : Nat} {v : Value} {A : Hp} {l : List UInt8} (hr : RdS 1 v A m (bytesV l)) (hA : A ∈ H) (hs : P.underlying t' = some .string) (ht : P.underlying t = some (.slice e)) (he : P.underlying e = some (.int .u8)) (hx : ev fr x = some v) :
    OV P n w0 ⟨dst, .convert t t' x, ty, pos, aft, g⟩ (S l) ds fr H :=
  oq_of_run fun a w hf hw => by
    have hl : l.length = m := by have := hr.1; rw [bytesV_len] at this; omega
    have key : (Conv.bytesToString v).run P w = .ok (S l) w := by
      rcases hr.2 with ⟨rfl, p, c, rfl⟩ | ⟨b, off, c, cells, e', fz, rfl, _, hb, hc⟩
      · have : l = [] := List.eq_nil_of_length_eq_zero hl
        subst this
        cases p with
        | none => simp [Conv.bytesToString]; rfl
        | some p => simp [Conv.bytesToString, loadCells, loadCellsFrom]; rfl
      · have hnow := hw.now b _ (mem_flat hA hb)
        have h2 := run_loadCells (P := P) hnow (bytesV l) fun j u hj => by
          rw [hc j (by have := (List.getElem?_eq_some_iff.1 hj).1; rw [bytesV_len] at this; omega)]; exact hj
        rw [bytesV_len, hl] at h2
        have h3 : (loadCells ⟨b, off, none⟩ m).run P w = .ok ((l.map fun c => (c.toNat : Int)).map (Value.int .u8)).toArray w := by
          rw [h2]; simp [bytesV]
        rw [run_bytesToString w _ m c _ h3]
        have := fold_push l []
        rw [List.nil_append] at this
        exact congrArg (fun s => Result.ok (Value.string s) w) this
    obtain ⟨p, c, hv⟩ := hr.shape
    subst hv
    simp only [execOp, hf.eval hx, Sem.run_bind]
    rw [run_convert_bytes_string w t t' e _ m c ht he hs, key]
    rfl
theorem WL.asB {b : Nat} {e : TypeId} {c : Array Value} {l : List Oper} (bs : List UInt8) (h : c = (bytesV bs).toArray) (hk : WL P n w0 ops Q l ds fr (Bf b e bs :: H)) : WL P n w0 ops Q l ds fr ([(b, .cells c e (0, 0))] :: H) := by subst h; exact hk
/-- an array of bytes whole -/
theorem oq_loadArr {t : TypeId} {x : Operand} {b m : Nat} {e : TypeId} {l : List UInt8} {z : Value} {bytes : Nat} (hag : Agg P t) (hty : Ty P t z m bytes) (hl : l.length = m) (hx : ev fr x = some (Pt b 0)) (hA : Bf b e l ∈ H) : OV P n w0 ⟨dst, .load t x, ty, pos, aft, g⟩ (.agg (bytesV l).toArray) ds fr H :=
  oq_loadAgg (vs := bytesV l) hag (by rw [bytesV_len, hl]; exact hty) hx hA (List.mem_singleton.2 rfl) (fun j u hj => by rw [Nat.zero_add]; simpa using hj)
/-- an empty slice written out -/
theorem WL.build0 {t e : TypeId} {z : Value} {size bytes : Nat} (ht : P.underlying t = some (.slice e)) (hty : Ty P e z size bytes) (hg : gd ops fr ⟨some d, .buildSlice t 0 #[], ty, pos, aft, g⟩ = some true) (hn : Nat.blt d n = true)
    (hk : ∀ v A, OwS w0.heap.size e size v A 0 [] → v ≠ .slice none 0 0 → WL P n w0 ops Q rest ds ((d, v) :: fr) (A :: H)) : WL P n w0 ops Q (⟨some d, .buildSlice t 0 #[], ty, pos, aft, g⟩ :: rest) ds fr H := by
  refine WL.new (v := fun b => .slice (some ⟨b, 0, none⟩) 0 0) (obj := .cells #[] e (0, 0)) (fun a w hf _ => ?_) hg rfl hn fun b hb => ?_
  · obtain ⟨i, hi, hz, hs, _⟩ := hty
    simp [execOp, Instr.buildSlice, run_underlying ht, sizeOf, typeInfo, hi, Instr.fill, newRow, Array.range_zero']
  · exact hk _ _ ⟨by simp, .inr ⟨b, 0, #[], rfl, rfl, hb, Nat.le_refl _, by unfold maxLen; omega, by simp, by simp⟩⟩ (by simp)
/-- an element of the call's own slice is written -/
theorem WL.storeOw {t e : TypeId} {x y : Operand} {m i : Nat} {v u z : Value} {A : Hp} {xs : List Value} {bytes : Nat} (ho : OwS w0.heap.size e 1 v A m xs) (hty : Ty P t z 1 bytes) (hx : ev fr x = some (elAddr 1 v (i : Int))) (hy : ev fr y = some u) (h1 : u.oneCell' = true) (hi : i < m)
    (hg : gd ops fr ⟨none, .store t x y, ty, pos, aft, g⟩ = some true) (hk : ∀ A', OwS w0.heap.size e 1 v A' m (xs.set i u) → WL P n w0 ops Q rest ds fr (A' :: H)) : WL P n w0 ops Q (⟨none, .store t x y, ty, pos, aft, g⟩ :: rest) ds fr (A :: H) := by
  rcases ho.2 with ⟨_, _, rfl⟩ | ⟨b, cap, cur, rfl, rfl, hb, hmc, hcm, hcs, hct⟩
  · omega
  · have hxa : ev fr x = some (Pt b i) := by rw [hx]; simp [elAddr]
    refine WL.store hty hxa hy h1 (by rw [hcs]; omega) (by simp) hg (hk _ ⟨by rw [List.length_set]; exact ho.1, .inr ⟨b, cap, _, rfl, rfl, hb, hmc, hcm, by simp [hcs], ?_⟩⟩)
    rw [Array.toList_setIfInBounds, listSet_take _ _ _ _ (by omega), hct]
theorem bytesV_set (l : List UInt8) (i : Nat) (c : Int) (hc : 0 ≤ c ∧ c < 256) : (bytesV l).set i (.int .u8 c) = bytesV (l.set i (UInt8.ofNat c.toNat)) := by
  have := setB l i c hc
  have := congrArg Array.toList this
  simpa [Array.toList_setIfInBounds] using this
theorem WM.index_s {t : TypeId} {x y : Operand} {l : List UInt8} {k : IntKind} {i : Int} {pl ql tl : List Oper} (ht : P.underlying t = some .string) (hx : ev fr x = some (S l)) (hy : ev fr y = some (.int k i)) (h : 0 ≤ i ∧ i < l.length) (hg : gd ops fr ⟨some d, .index t x y, ty, pos, aft, g⟩ = some true) (hn : Nat.blt d n = true)
    (hk : ∀ c, c = byteAt l i → 0 ≤ c → c < 256 → WM P n w0 ops Q pl ql tl ds ((d, .int .u8 c) :: fr) H) : WM P n w0 ops Q (⟨some d, .index t x y, ty, pos, aft, g⟩ :: pl) ql tl ds fr H :=
  WM.q (fun w0 => oq_index_s ht hx hy h) hg rfl hn (hk _ rfl (byteAt_lo _ _) (byteAt_hi _ _))
theorem byte_back (c : Int) (h0 : 0 ≤ c) (h1 : c < 256) : ((UInt8.ofNat c.toNat).toNat : Int) = c := by simp; omega
end
end Go.Proofs.YtodlhaghdplclaaDoor.V
