/- The engine, part 9: contracts of functions that change memory that their callers made; builders of texts. Over any program. -/
import Derived.Test.YtodlhaghdplclaaDoorV8
import Derived.Lib.Builder
import Derived.Lib.UnsafeStr
namespace Go.Proofs.YtodlhaghdplclaaDoor.V
open Go Go.RowKit
set_option linter.unusedSimpArgs false
set_option linter.unusedVariables false
/-- A function that is given groups of blocks, changes them, and gives groups back; 'base': where the caller's own blocks begin. -/
def FnW (P : Program) (f : FuncId) (args : List Value) (base : Nat) (Hs : List Hp) (R : Value → List Hp → Prop) : Prop :=
  ∀ (w0 : World) (R0 : Hp) (w : World), w0.heap.size = base → St w0 (Hs ++ [R0]).flatten w → Calls P f args.toArray w fun e w' => ∃ v Hs', e = .returned v ∧ R v Hs' ∧ St w0 (Hs' ++ [R0]).flatten w'
abbrev postW (w0 : World) (R0 : Hp) (R : Value → List Hp → Prop) : Ending → World → Prop := fun e w' => ∃ v Hs', e = .returned v ∧ R v Hs' ∧ St w0 (Hs' ++ [R0]).flatten w'

theorem St.frz {w0 w : World} {H : Hp} {b off n : Nat} {c : Array Value} {e : TypeId} (h : St w0 ((b, .cells c e (0, 0)) :: H) w) (hn : n ≠ 0) : St w0 ((b, .cells c e (off, off + n)) :: H) (w.freeze ⟨b, off, none⟩ n) := by
  have hnow := h.now b _ List.mem_cons_self
  refine St.upd (o := .cells c e (0, 0)) h ?_ ?_ ?_ ?_ ?_ ?_
  all_goals (unfold World.freeze; rw [if_neg hn])
  · simp
  · simp [Array.getElem?_modify, hnow]
  · intro k hk; simp only [Array.getElem?_modify]; rw [if_neg (fun e => hk e.symm)]
section
variable {P : Program} {n : Nat} {w0 : World} {ds : List Deferred} {fr : Fr} {H H' : List Hp} {dst : Option Tmp} {ty : TypeId} {pos : String} {aft : Array Edge} {g : Option (Nat × Bool)}
variable {ops : Array Oper} {Q : Post} {rest : List Oper} {d : Nat}

theorem FnW.enter {f : FuncId} {fn : Func} {c : Code} {args : List Value} {base : Nat} {Hs : List Hp} {R : Value → List Hp → Prop} {n : Nat} (hf : P.funcs[f]? = some fn) (hb : fn.body = some c) (hn : args.length + (fn.ntmps - args.length) = n)
    (h : ∀ w0 R0, w0.heap.size = base → WC P n w0 c (bodyPost P fn (postW w0 R0 R)) [] (args.zipIdx.map fun (v, i) => (i, v)) (Hs ++ [R0])) : FnW P f args base Hs R := by
  intro w0 R0 w hb0 hw
  exact calls_of_wp hf hb (h w0 R0 hb0 _ w (args_fit hn) hw)
theorem FnW.mono {f : FuncId} {args : List Value} {base : Nat} {Hs : List Hp} {R R' : Value → List Hp → Prop} (h : FnW P f args base Hs R) (hr : ∀ v Hs', R v Hs' → R' v Hs') : FnW P f args base Hs R' :=
  fun w0 R0 w hb hw => (h w0 R0 w hb hw).mono fun _ _ ⟨v, N, h1, h2, h3⟩ => ⟨v, N, h1, hr v N h2, h3⟩
theorem WE.endW0 {fn : Func} {e : Exit} {v : Value} {R : Value → List Hp → Prop} {R0 : Hp} (he : e = .ret ∨ e = .normal) (hres : ∀ a w, Fits n [] fr a → St w0 ([R0] : List Hp).flatten w → (results fn a.tmps).run P w = .ok v w) (hR : R v []) :
    WE n w0 e (bodyPost P fn (postW w0 R0 R)) [] fr [R0] :=
  WE.body he hres fun _ hw => ⟨_, [], rfl, hR, hw⟩
theorem WE.endW1 {fn : Func} {e : Exit} {v : Value} {R : Value → List Hp → Prop} {R0 A : Hp} (he : e = .ret ∨ e = .normal) (hres : ∀ a w, Fits n [] fr a → St w0 ([A, R0] : List Hp).flatten w → (results fn a.tmps).run P w = .ok v w) (hR : R v [A]) :
    WE n w0 e (bodyPost P fn (postW w0 R0 R)) [] fr [A, R0] :=
  WE.body he hres fun _ hw => ⟨_, [A], rfl, hR, hw⟩
theorem WE.endW2 {fn : Func} {e : Exit} {v : Value} {R : Value → List Hp → Prop} {R0 A B : Hp} (he : e = .ret ∨ e = .normal) (hres : ∀ a w, Fits n [] fr a → St w0 ([A, B, R0] : List Hp).flatten w → (results fn a.tmps).run P w = .ok v w) (hR : R v [A, B]) :
    WE n w0 e (bodyPost P fn (postW w0 R0 R)) [] fr [A, B, R0] :=
  WE.body he hres fun _ hw => ⟨_, [A, B], rfl, hR, hw⟩
theorem WE.endW3 {fn : Func} {e : Exit} {v : Value} {R : Value → List Hp → Prop} {R0 A B C : Hp} (he : e = .ret ∨ e = .normal) (hres : ∀ a w, Fits n [] fr a → St w0 ([A, B, C, R0] : List Hp).flatten w → (results fn a.tmps).run P w = .ok v w) (hR : R v [A, B, C]) :
    WE n w0 e (bodyPost P fn (postW w0 R0 R)) [] fr [A, B, C, R0] :=
  WE.body he hres fun _ hw => ⟨_, [A, B, C], rfl, hR, hw⟩
theorem WL.callW {f : FuncId} {xs : Array Operand} {ts : Array TypeId} {args : List Value} {R : Value → List Hp → Prop} {Hs : List Hp} (hc : FnW P f args w0.heap.size Hs R) (hf : Callable P f) (ha : evs fr xs.toList = some args) (hg : gd ops fr ⟨some d, .call ⟨.value (.func f), xs, ts⟩, ty, pos, aft, g⟩ = some true) (hn : Nat.blt d n = true)
    (hk : ∀ v Hs', R v Hs' → WL P n w0 ops Q rest ds ((d, v) :: fr) (Hs' ++ H)) :
    WL P n w0 ops Q (⟨some d, .call ⟨.value (.func f), xs, ts⟩, ty, pos, aft, g⟩ :: rest) ds fr (Hs ++ H) := by
  intro a w hfit hw
  unfold wpList
  rw [gd_wanted hfit hg, if_pos rfl]
  left
  unfold Oper.wp
  rw [run_enter hf ha hfit w, Oper.upon_enter]
  refine (hc w0 H.flatten w rfl (by simpa using hw)).mono fun e w' h => ?_
  obtain ⟨v, Hs', rfl, hR, hst⟩ := h
  exact hk v Hs' hR _ _ (hfit.put v hn) (by simpa using hst)
theorem WL.callW1 {f : FuncId} {xs : Array Operand} {ts : Array TypeId} {args : List Value} {R : Value → List Hp → Prop} {A : Hp} (hc : FnW P f args w0.heap.size [A] R) (hf : Callable P f) (ha : evs fr xs.toList = some args) (hg : gd ops fr ⟨some d, .call ⟨.value (.func f), xs, ts⟩, ty, pos, aft, g⟩ = some true) (hn : Nat.blt d n = true)
    (hk : ∀ v Hs', R v Hs' → WL P n w0 ops Q rest ds ((d, v) :: fr) (Hs' ++ H)) :
    WL P n w0 ops Q (⟨some d, .call ⟨.value (.func f), xs, ts⟩, ty, pos, aft, g⟩ :: rest) ds fr (A :: H) := WL.callW hc hf ha hg hn hk
theorem WL.callW2 {f : FuncId} {xs : Array Operand} {ts : Array TypeId} {args : List Value} {R : Value → List Hp → Prop} {A B : Hp} (hc : FnW P f args w0.heap.size [A, B] R) (hf : Callable P f) (ha : evs fr xs.toList = some args) (hg : gd ops fr ⟨some d, .call ⟨.value (.func f), xs, ts⟩, ty, pos, aft, g⟩ = some true) (hn : Nat.blt d n = true)
    (hk : ∀ v Hs', R v Hs' → WL P n w0 ops Q rest ds ((d, v) :: fr) (Hs' ++ H)) :
    WL P n w0 ops Q (⟨some d, .call ⟨.value (.func f), xs, ts⟩, ty, pos, aft, g⟩ :: rest) ds fr (A :: B :: H) := WL.callW hc hf ha hg hn hk
theorem WL.callW3 {f : FuncId} {xs : Array Operand} {ts : Array TypeId} {args : List Value} {R : Value → List Hp → Prop} {A B C : Hp} (hc : FnW P f args w0.heap.size [A, B, C] R) (hf : Callable P f) (ha : evs fr xs.toList = some args) (hg : gd ops fr ⟨some d, .call ⟨.value (.func f), xs, ts⟩, ty, pos, aft, g⟩ = some true) (hn : Nat.blt d n = true)
    (hk : ∀ v Hs', R v Hs' → WL P n w0 ops Q rest ds ((d, v) :: fr) (Hs' ++ H)) :
    WL P n w0 ops Q (⟨some d, .call ⟨.value (.func f), xs, ts⟩, ty, pos, aft, g⟩ :: rest) ds fr (A :: B :: C :: H) := WL.callW hc hf ha hg hn hk

theorem WL.to0 {l : List Oper} (h : WL P n w0 ops Q l ds fr H) : WL P n w0 ops Q l ds fr ([] ++ H) := h
theorem WL.to1 {l : List Oper} {A : Hp} (h : WL P n w0 ops Q l ds fr (A :: H)) : WL P n w0 ops Q l ds fr ([A] ++ H) := h
theorem WL.to2 {l : List Oper} {A B : Hp} (h : WL P n w0 ops Q l ds fr (A :: B :: H)) : WL P n w0 ops Q l ds fr ([A, B] ++ H) := h
theorem WL.to3 {l : List Oper} {A B C : Hp} (h : WL P n w0 ops Q l ds fr (A :: B :: C :: H)) : WL P n w0 ops Q l ds fr ([A, B, C] ++ H) := h

/-! ### Bits -/
theorem and_mask {k : IntKind} (e : Nat) {i j : Int} (h0 : 0 ≤ i) (h1 : i ≤ k.max) (he : (2 : Int) ^ e = j + 1) (hj : j ≤ k.max) : bitOp .and k i j = i % (j + 1) := by
  have hm : k.max < (2 : Int) ^ k.bits := by cases k <;> decide
  have hmn : k.min ≤ 0 := by cases k <;> decide
  have hj0 : 0 ≤ j := by
    have : (0 : Int) < 2 ^ e := Int.pow_pos (by decide)
    omega
  obtain ⟨a, rfl⟩ := Int.eq_ofNat_of_zero_le h0
  obtain ⟨b, rfl⟩ := Int.eq_ofNat_of_zero_le hj0
  have hcast : ((2 ^ k.bits : Nat) : Int) = (2 : Int) ^ k.bits := by simp
  have ha : a < 2 ^ k.bits := by omega
  have hb : b < 2 ^ k.bits := by omega
  have hbe : b = 2 ^ e - 1 := by
    have : ((2 ^ e : Nat) : Int) = (2 : Int) ^ e := by simp
    omega
  have hp : 0 < 2 ^ e := Nat.two_pow_pos e
  have e1 : ((BitVec.ofInt k.bits (a : Int)) &&& (BitVec.ofInt k.bits (b : Int))).toNat = a % 2 ^ e := by
    rw [BitVec.toNat_and, BitVec.ofInt_natCast, BitVec.ofInt_natCast, BitVec.toNat_ofNat, BitVec.toNat_ofNat, Nat.mod_eq_of_lt ha, Nat.mod_eq_of_lt hb, hbe, Nat.and_two_pow_sub_one_eq_mod]
  have hle : a % 2 ^ e ≤ a := Nat.mod_le _ _
  have e2 : ((a % 2 ^ e : Nat) : Int) = (a : Int) % ((b : Int) + 1) := by
    rw [Int.natCast_emod, show ((2 ^ e : Nat) : Int) = (b : Int) + 1 from by have : ((2 ^ e : Nat) : Int) = (2 : Int) ^ e := by simp
                                                                             omega]
  show k.wrap (((BitVec.ofInt k.bits (a : Int)) &&& (BitVec.ofInt k.bits (b : Int))).toNat : Int) = _
  rw [e1, wrap_in ⟨by omega, by omega⟩, e2]
theorem oq_mask (e : Nat) (m : Int) {t t' : TypeId} {x y : Operand} {k : IntKind} {i j : Int} (hx : ev fr x = some (.int k i)) (hy : ev fr y = some (.int k j)) (h0 : 0 ≤ i ∧ i ≤ k.max) (he : (2 : Int) ^ e = j + 1) (hj : j ≤ k.max) (hm : j + 1 = m) : OV P n w0 ⟨dst, .binOp .and t x y t', ty, pos, aft, g⟩ (.int k (i % m)) ds fr H := by
  subst hm
  have := oq_bits (op := .and) (P := P) (n := n) (w0 := w0) (ds := ds) (H := H) (dst := dst) (ty := ty) (pos := pos) (aft := aft) (g := g) (t := t) (t' := t') hx hy (.inl rfl)
  rwa [and_mask e h0.1 h0.2 he hj] at this
theorem oq_shrl (m : Int) {t t' : TypeId} {x y : Operand} {k k' : IntKind} {i j : Int} (hx : ev fr x = some (.int k i)) (hy : ev fr y = some (.int k' j)) (h : 0 ≤ j) (hm : (2 : Int) ^ (min j.toNat k.bits) = m) : OV P n w0 ⟨dst, .binOp .shr t x y t', ty, pos, aft, g⟩ (.int k (i / m)) ds fr H := by
  have := oq_shr (P := P) (n := n) (w0 := w0) (ds := ds) (H := H) (dst := dst) (ty := ty) (pos := pos) (aft := aft) (g := g) (t := t) (t' := t') hx hy h
  have hp : 0 ≤ m := by rw [← hm]; exact Int.le_of_lt (Int.pow_pos (by decide))
  rw [hm, Int.fdiv_eq_ediv_of_nonneg _ hp] at this
  exact this
/-- a text as bytes -/
theorem WL.toBytes {t t' e : TypeId} {x : Operand} {l : List UInt8} (hs : P.underlying t = some .string) (ht : P.underlying t' = some (.slice e)) (he : P.underlying e = some (.int .u8)) (hx : ev fr x = some (S l)) (hl : l.length ≤ maxLen)
    (hg : gd ops fr ⟨some d, .convert t t' x, ty, pos, aft, g⟩ = some true) (hn : Nat.blt d n = true)
    (hk : ∀ v A, RdS 1 v A l.length (bytesV l) → (∀ b o, (b, o) ∈ A → w0.heap.size ≤ b) → WL P n w0 ops Q rest ds ((d, v) :: fr) (A :: H)) :
    WL P n w0 ops Q (⟨some d, .convert t t' x, ty, pos, aft, g⟩ :: rest) ds fr H := by
  intro a w hf hw
  unfold wpList
  rw [gd_wanted hf hg, if_pos rfl]
  left
  unfold Oper.wp
  have hge := grownCap_ge w l.length 0 e
  have hsz : (⟨⟨l⟩⟩ : ByteArray).size = l.length := rfl
  have hcv : ((⟨⟨l⟩⟩ : ByteArray).data.map fun b : UInt8 => Value.int .u8 (b.toNat : Int)) = (bytesV l).toArray := by simp [bytesV]
  have hsh : ∀ (c : Array Value), (w.drew.alloc (.cells c e)).shape? w.heap.size = some (e, c.size) := fun c => by
    have : (w.drew.alloc (.cells c e)).heap[w.heap.size]? = some (.cells c e) := heap_alloc_new w.drew _
    unfold World.shape?; rw [this]
  obtain ⟨C, hC⟩ : ∃ C : Array Value, C = (bytesV l).toArray ++ Array.replicate (grownCap w l.length 0 e - l.length) (Value.int .u8 0) := ⟨_, rfl⟩
  have hr : (execOp a.eval ⟨some d, .convert t t' x, ty, pos, aft, g⟩).run P w = .ok (.value (.slice (some ⟨w.heap.size, 0, none⟩) l.length (grownCap w l.length 0 e)))
      ((w.drew.alloc (.cells C e)).freeze ⟨w.heap.size, C.size, none⟩ 1) := by
    subst hC
    simp only [execOp, hf.eval hx, convert, Sem.run_bind, run_underlying hs, run_underlying ht, run_underlying he, Result.andThen_ok, Conv.stringToBytes, hcv, hsz]
    simp [Question.forced, newRow, grownCap, markStringish]
    rw [hsh]
    simp
  rw [hr, Oper.upon_value]
  have h1 := (hw.drawn (w.drawn + 1)).alloc (Obj.cells C e)
  have h2 := St.frz (off := C.size) h1 (n := 1) (by decide)
  refine hk _ [(w.heap.size, .cells C e (C.size, C.size + 1))] ⟨by simp [bytesV], .inr ⟨w.heap.size, 0, grownCap w l.length 0 e, _, e, _, rfl, hge, List.mem_singleton.2 rfl, fun j hj => ?_⟩⟩ (fresh1 hw.size) _ _ (hf.put _ hn) ?_
  · have : j < (bytesV l).length := by simp [bytesV]; omega
    rw [hC]; simp [Array.getElem?_append, this]
  · exact h2

/-! ### Pointers -/
theorem shape_told {b : Nat} {c : Array Value} {e : TypeId} {fz : Nat × Nat} {A : Hp} {w : World} (hA : A ∈ H) (hb : (b, .cells c e fz) ∈ A) (hw : St w0 H.flatten w) : w.shape? b = some (e, c.size) := by
  have h1 := hw.now b _ (mem_flat hA hb)
  simp [World.shape?, h1]
theorem oq_pneq_same {t t' te : TypeId} {x y : Operand} {q : Addr} {z : Value} {size bytes : Nat} (ht : P.underlying t = some (.pointer te)) (hty : Ty P te z size bytes) (hx : ev fr x = some (.pointer (some q))) (hy : ev fr y = some (.pointer (some q))) : OV P n w0 ⟨dst, .binOp .neq t x y t', ty, pos, aft, g⟩ (.bool false) ds fr H :=
  oq_of_run fun a w hf _ => by
    obtain ⟨j, hj, _⟩ := hty
    have h := Go.Lib.run_neq_ptr_same (P := P) w q ht hj
    simp [execOp, hf.eval hx, hf.eval hy, eqGuard, h]
theorem oq_toUnsafe {s t te e : TypeId} {x : Operand} {b off : Nat} {c : Array Value} {fz : Nat × Nat} {A : Hp} {z : Value} {size bytes : Nat} (hs : P.underlying s = some (.pointer te)) (ht : P.underlying t = some .unsafePointer) (hty : Ty P te z size bytes) (h0 : size ≠ 0) (hx : ev fr x = some (Pt b off)) (hA : A ∈ H) (hb : (b, .cells c e fz) ∈ A) (hoff : off < c.size) :
    OV P n w0 ⟨dst, .convert s t x, ty, pos, aft, g⟩ (Pt b off) ds fr H :=
  oq_of_run fun a w hf hw => by
    obtain ⟨j, hj, _, hsz, _⟩ := hty
    have h := Go.Lib.run_to_unsafe (P := P) w ⟨b, off, none⟩ hs ht hj (by rw [hsz]; exact h0) (shape_told hA hb hw) hoff
    simp [execOp, hf.eval hx, h]
theorem oq_ofUnsafe {s t u e : TypeId} {x : Operand} {b off : Nat} {c : Array Value} {fz : Nat × Nat} {A : Hp} {z : Value} {size bytes : Nat} (hs : P.underlying s = some .unsafePointer) (ht : P.underlying t = some (.pointer u)) (hty : Ty P u z size bytes) (hx : ev fr x = some (Pt b off)) (hA : A ∈ H) (hb : (b, .cells c e fz) ∈ A) (hl : liesAt P P.depth e (c.size / P.cellsOf e) off u 1 = true) :
    OV P n w0 ⟨dst, .convert s t x, ty, pos, aft, g⟩ (Pt b off) ds fr H :=
  oq_of_run fun a w hf hw => by
    obtain ⟨j, hj, _, hsz, _⟩ := hty
    have h := Go.Lib.run_from_unsafe (P := P) w ⟨b, off, none⟩ hs ht hj (shape_told hA hb hw) hl
    simp [execOp, hf.eval hx, h]
/-- a function of the machine's own that gives its argument back -/
theorem oq_extId {f : FuncId} {fn : Func} {x : Operand} {t : TypeId} {v : Value} (hf : P.funcs[f]? = some fn) (hnm : (fn.name == "runtime.NumGoroutine") = false) (hb : fn.body.isNone = true) (h1 : Extern.findNext fn = none) (h2 : Extern.find fn = some Extern.AbiNoEscape.same) (hx : ev fr x = some v) :
    OV P n w0 ⟨dst, .call ⟨.value (.func f), #[x], #[t]⟩, ty, pos, aft, g⟩ v ds fr H :=
  oq_of_run fun a w hfit _ => by
    have ha : evs fr (#[x] : Array Operand).toList = some [v] := by simp [evs, hx]
    have e := hfit.evalsA ha
    simp only [execOp, resolve, Act.eval, Deferred.ofValue, Sem.run_bind, e]
    have hnm2 : ¬ fn.name = "runtime.NumGoroutine" := by simpa using hnm
    have hb2 : fn.body = none := by simpa using hb
    simp [invoke, callFunc, hf, hnm2, hb2, h1, h2, Go.Lib.run_noEscape]

/-! ### A buffer of bytes, and its text -/
def BufS (base : Nat) (e : TypeId) (v : Value) (A : Hp) (l : List UInt8) : Prop := OwS base e 1 v A l.length (bytesV l) ∧ (l = [] → v = .slice none 0 0)
theorem OwS.one {base : Nat} {e : TypeId} {size m : Nat} {v : Value} {A : Hp} {xs : List Value} (h : OwS base e size v A m xs) : v.oneCell' = true := by
  rcases h.2 with ⟨rfl, _⟩ | ⟨b, cap, cur, rfl, _⟩ <;> rfl
theorem BufS.nil (base : Nat) (e : TypeId) : BufS base e (.slice none 0 0) [] [] := ⟨OwS.nil _ _ _, fun _ => rfl⟩
theorem bytesV_app (l k : List UInt8) : bytesV (l ++ k) = bytesV l ++ bytesV k := by simp [bytesV]
theorem BufS.snoc {base : Nat} {e : TypeId} {v : Value} {A : Hp} {l : List UInt8} {c : Int} (h0 : 0 ≤ c) (h1 : c < 256) (h : OwS base e 1 v A (l.length + 1) (bytesV l ++ [.int .u8 c])) : BufS base e v A (l ++ [UInt8.ofNat c.toNat]) := by
  refine ⟨?_, fun e => by simp at e⟩
  have e1 : bytesV (l ++ [UInt8.ofNat c.toNat]) = bytesV l ++ [.int .u8 c] := by
    rw [bytesV_app]
    have : ((UInt8.ofNat c.toNat).toNat : Int) = c := by rw [UInt8.toNat_ofNat']; omega
    simp [bytesV]; omega
  rw [e1, List.length_append]; exact h
theorem BufS.app {base : Nat} {e : TypeId} {v v' : Value} {A A' : Hp} {l k : List UInt8} (hb : BufS base e v A l) (h : OwS base e 1 v' A' (l.length + k.length) (bytesV l ++ bytesV k)) (hv : v' = .slice none 0 0 ↔ v = .slice none 0 0 ∧ k.length = 0) : BufS base e v' A' (l ++ k) := by
  refine ⟨by rw [bytesV_app, List.length_append]; exact h, fun e => ?_⟩
  have := List.append_eq_nil_iff.1 e
  exact hv.2 ⟨hb.2 this.1, by rw [this.2]; rfl⟩
def ptOf : Value → Value
  | .slice p _ _ => .pointer p
  | v => v
theorem oq_sliceData {t : TypeId} {x : Operand} {v : Value} {A : Hp} {l : List UInt8} {base : Nat} {e : TypeId} (h : BufS base e v A l) (hx : ev fr x = some v) : OV P n w0 ⟨dst, .call ⟨.builtin .unsafeSliceData, #[x], #[t]⟩, ty, pos, aft, g⟩ (ptOf v) ds fr H :=
  oq_of_run fun a w hf _ => by
    have key : (Builtin.unsafeSliceData_ #[t] ty #[v]).run P w = .ok (ptOf v) w := by
      rcases h.1.2 with ⟨rfl, _, _⟩ | ⟨b, cap, cur, rfl, _, _, hle, _⟩
      · exact Go.Lib.run_unsafeSliceData_nil w _ _ _ _
      · have hne : l ≠ [] := fun e => by have := h.2 e; cases this
        have : 0 < l.length := List.length_pos_iff.2 hne
        exact Go.Lib.run_unsafeSliceData_row w _ _ _ _ _ (by omega)
    simp [execOp, resolve, invoke, builtin, hf.eval hx, key]
/-- the text of a buffer that is the first group; behind it nothing is said of the buffer -/
theorem WL.unsafeStr {t t' e : TypeId} {x y : Operand} {v : Value} {A : Hp} {l : List UInt8} (h : BufS w0.heap.size e v A l) (ht : P.underlying t = some (.pointer e)) (he : P.cellsOf e = 1) (hx : ev fr x = some (ptOf v)) (hy : ev fr y = some (I (l.length : Int))) (h63 : l.length ≤ 9223372036854775807)
    (hg : gd ops fr ⟨some d, .call ⟨.builtin .unsafeString, #[x, y], #[t, t']⟩, ty, pos, aft, g⟩ = some true) (hn : Nat.blt d n = true)
    (hk : WL P n w0 ops Q rest ds ((d, S l) :: fr) H) : WL P n w0 ops Q (⟨some d, .call ⟨.builtin .unsafeString, #[x, y], #[t, t']⟩, ty, pos, aft, g⟩ :: rest) ds fr (A :: H) := by
  intro a w hf hw
  have hw' : St w0 (A ++ H.flatten) w := by simpa using hw
  unfold wpList
  rw [gd_wanted hf hg, if_pos rfl]
  left
  unfold Oper.wp
  have exec : ∀ s w', (Builtin.unsafeString_ #[t, t'] ty #[ptOf v, I (l.length : Int)]).run P w = .ok s w' → (execOp a.eval ⟨some d, .call ⟨.builtin .unsafeString, #[x, y], #[t, t']⟩, ty, pos, aft, g⟩).run P w = .ok (.value s) w' := by
    intro s w' hr
    simp only [execOp, resolve, invoke, builtin, Sem.run_bind, Sem.run_pure, Result.andThen_ok, List.map_toArray, List.map_cons, List.map_nil, hf.eval hx, hf.eval hy, hr]
  by_cases hl : l = []
  · subst hl
    have hv := h.2 rfl
    subst hv
    rw [exec _ _ (Go.Lib.run_unsafeString_none (P := P) w t t' ty none), Oper.upon_value]
    exact hk _ _ (hf.put _ hn) (hw'.drop fun b o hb => .inl (h.1.fresh b o hb))
  · rcases h.1.2 with ⟨rfl, _, h0⟩ | ⟨b, cap, cur, rfl, rfl, hbb, hle, hcm, hcs, htake⟩
    · exact absurd (List.eq_nil_of_length_eq_zero h0) hl
    · have hl1 : 0 < l.length := List.length_pos_iff.2 hl
      have hnow := hw'.now b (.cells cur e (0, 0)) (by simp)
      have hr := Go.Lib.run_unsafeString_row (P := P) w t t' ty e ht he b cur.size (by simp [World.shape?, hnow]) l hl (by omega) h63 (fun j c hj => by
        rw [add_none, cell_at hnow, Nat.zero_add]
        have h2 : (bytesV l)[j]? = some (.int .u8 (c.toNat : Int)) := by simp [bytesV, hj]
        rw [← htake, List.getElem?_take] at h2
        split at h2
        · simpa using h2
        · cases h2)
      rw [exec _ _ hr, Oper.upon_value]
      refine hk _ _ (hf.put _ hn) ?_
      have hu : St w0 ((b, .cells cur e (0, 0 + l.length)) :: H.flatten) (w.freeze ⟨b, 0, none⟩ l.length) := St.frz (by simpa using hw') (by omega)
      rw [Nat.zero_add] at hu
      exact St.drop (N := [(b, .cells cur e (0, l.length))]) (by simpa using hu) fun b' o' hb' => by
        simp at hb'; exact .inl (by omega)
end
end Go.Proofs.YtodlhaghdplclaaDoor.V
