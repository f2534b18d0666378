/- The engine, part 19: asking an interface value for another interface, appending a slice that is made, the deferred end of a function that makes memory, ends with four and five groups. Over any program. -/
import Derived.Test.YtclafiglpcjhdaaGreatVI
import Derived.Lib.Bytealg
namespace Go.Proofs.YtclafiglpcjhdaaGreat.V
open Go Go.RowKit
set_option linter.unusedSimpArgs false
set_option linter.unusedVariables false
section
variable {P : Program} {n : Nat} {w0 : World} {ds : List Deferred} {fr : Fr} {H H' : List Hp} {dst : Option Tmp} {ty : TypeId} {pos : String} {aft : Array Edge} {g : Option (Nat × Bool)}
variable {ops : Array Oper} {Q : Post} {rest : List Oper} {d : Nat}
theorem WE.endW4 {fn : Func} {e : Exit} {v : Value} {R : Value → List Hp → Prop} {R0 A B C D : Hp} (he : e = .ret ∨ e = .normal) (hres : ∀ a w, Fits n [] fr a → St w0 ([A, B, C, D, R0] : List Hp).flatten w → (results fn a.tmps).run P w = .ok v w) (hR : R v [A, B, C, D]) :
    WE n w0 e (bodyPost P fn (postW w0 R0 R)) [] fr [A, B, C, D, R0] :=
  WE.body he hres fun _ hw => ⟨_, [A, B, C, D], rfl, hR, hw⟩
theorem WE.endW5 {fn : Func} {e : Exit} {v : Value} {R : Value → List Hp → Prop} {R0 A B C D E : Hp} (he : e = .ret ∨ e = .normal) (hres : ∀ a w, Fits n [] fr a → St w0 ([A, B, C, D, E, R0] : List Hp).flatten w → (results fn a.tmps).run P w = .ok v w) (hR : R v [A, B, C, D, E]) :
    WE n w0 e (bodyPost P fn (postW w0 R0 R)) [] fr [A, B, C, D, E, R0] :=
  WE.body he hres fun _ hw => ⟨_, [A, B, C, D, E], rfl, hR, hw⟩
theorem WL.callW4 {f : FuncId} {xs : Array Operand} {ts : Array TypeId} {args : List Value} {R : Value → List Hp → Prop} {A B C D : Hp} (hc : FnW P f args w0.heap.size [A, B, C, D] R) (hf : Callable P f) (ha : evs fr xs.toList = some args) (hg : gd ops fr ⟨some d, .call ⟨.value (.func f), xs, ts⟩, ty, pos, aft, g⟩ = some true) (hn : Nat.blt d n = true)
    (hk : ∀ v Hs', R v Hs' → WL P n w0 ops Q rest ds ((d, v) :: fr) (Hs' ++ H)) :
    WL P n w0 ops Q (⟨some d, .call ⟨.value (.func f), xs, ts⟩, ty, pos, aft, g⟩ :: rest) ds fr (A :: B :: C :: D :: H) := WL.callW hc hf ha hg hn hk
theorem WL.callW5 {f : FuncId} {xs : Array Operand} {ts : Array TypeId} {args : List Value} {R : Value → List Hp → Prop} {A B C D E : Hp} (hc : FnW P f args w0.heap.size [A, B, C, D, E] R) (hf : Callable P f) (ha : evs fr xs.toList = some args) (hg : gd ops fr ⟨some d, .call ⟨.value (.func f), xs, ts⟩, ty, pos, aft, g⟩ = some true) (hn : Nat.blt d n = true)
    (hk : ∀ v Hs', R v Hs' → WL P n w0 ops Q rest ds ((d, v) :: fr) (Hs' ++ H)) :
    WL P n w0 ops Q (⟨some d, .call ⟨.value (.func f), xs, ts⟩, ty, pos, aft, g⟩ :: rest) ds fr (A :: B :: C :: D :: E :: H) := WL.callW hc hf ha hg hn hk
theorem WL.to4 {l : List Oper} {A B C D : Hp} (h : WL P n w0 ops Q l ds fr (A :: B :: C :: D :: H)) : WL P n w0 ops Q l ds fr ([A, B, C, D] ++ H) := h
theorem WL.to5 {l : List Oper} {A B C D E : Hp} (h : WL P n w0 ops Q l ds fr (A :: B :: C :: D :: E :: H)) : WL P n w0 ops Q l ds fr ([A, B, C, D, E] ++ H) := h

theorem WL.f5 {a0 a1 a2 a3 a4 a5 : Hp} {r : List Hp} {l : List Oper} (h : WL P n w0 ops Q l ds fr (a5 :: a0 :: a1 :: a2 :: a3 :: a4 :: r)) : WL P n w0 ops Q l ds fr (a0 :: a1 :: a2 :: a3 :: a4 :: a5 :: r) := h.perm (List.perm_middle (l₁ := [a0, a1, a2, a3, a4]) (l₂ := r))
theorem WC.f5 {a0 a1 a2 a3 a4 a5 : Hp} {r : List Hp} {c : Code} (h : WC P n w0 c Q ds fr (a5 :: a0 :: a1 :: a2 :: a3 :: a4 :: r)) : WC P n w0 c Q ds fr (a0 :: a1 :: a2 :: a3 :: a4 :: a5 :: r) := h.perm (List.perm_middle (l₁ := [a0, a1, a2, a3, a4]) (l₂ := r))
theorem WE.f5 {a0 a1 a2 a3 a4 a5 : Hp} {r : List Hp} {e : Exit} (h : WE n w0 e Q ds fr (a5 :: a0 :: a1 :: a2 :: a3 :: a4 :: r)) : WE n w0 e Q ds fr (a0 :: a1 :: a2 :: a3 :: a4 :: a5 :: r) := h.perm (List.perm_middle (l₁ := [a0, a1, a2, a3, a4]) (l₂ := r))
theorem WL.f6 {a0 a1 a2 a3 a4 a5 a6 : Hp} {r : List Hp} {l : List Oper} (h : WL P n w0 ops Q l ds fr (a6 :: a0 :: a1 :: a2 :: a3 :: a4 :: a5 :: r)) : WL P n w0 ops Q l ds fr (a0 :: a1 :: a2 :: a3 :: a4 :: a5 :: a6 :: r) := h.perm (List.perm_middle (l₁ := [a0, a1, a2, a3, a4, a5]) (l₂ := r))
theorem WC.f6 {a0 a1 a2 a3 a4 a5 a6 : Hp} {r : List Hp} {c : Code} (h : WC P n w0 c Q ds fr (a6 :: a0 :: a1 :: a2 :: a3 :: a4 :: a5 :: r)) : WC P n w0 c Q ds fr (a0 :: a1 :: a2 :: a3 :: a4 :: a5 :: a6 :: r) := h.perm (List.perm_middle (l₁ := [a0, a1, a2, a3, a4, a5]) (l₂ := r))
theorem WE.f6 {a0 a1 a2 a3 a4 a5 a6 : Hp} {r : List Hp} {e : Exit} (h : WE n w0 e Q ds fr (a6 :: a0 :: a1 :: a2 :: a3 :: a4 :: a5 :: r)) : WE n w0 e Q ds fr (a0 :: a1 :: a2 :: a3 :: a4 :: a5 :: a6 :: r) := h.perm (List.perm_middle (l₁ := [a0, a1, a2, a3, a4, a5]) (l₂ := r))
theorem WL.f7 {a0 a1 a2 a3 a4 a5 a6 a7 : Hp} {r : List Hp} {l : List Oper} (h : WL P n w0 ops Q l ds fr (a7 :: a0 :: a1 :: a2 :: a3 :: a4 :: a5 :: a6 :: r)) : WL P n w0 ops Q l ds fr (a0 :: a1 :: a2 :: a3 :: a4 :: a5 :: a6 :: a7 :: r) := h.perm (List.perm_middle (l₁ := [a0, a1, a2, a3, a4, a5, a6]) (l₂ := r))
theorem WC.f7 {a0 a1 a2 a3 a4 a5 a6 a7 : Hp} {r : List Hp} {c : Code} (h : WC P n w0 c Q ds fr (a7 :: a0 :: a1 :: a2 :: a3 :: a4 :: a5 :: a6 :: r)) : WC P n w0 c Q ds fr (a0 :: a1 :: a2 :: a3 :: a4 :: a5 :: a6 :: a7 :: r) := h.perm (List.perm_middle (l₁ := [a0, a1, a2, a3, a4, a5, a6]) (l₂ := r))
theorem WE.f7 {a0 a1 a2 a3 a4 a5 a6 a7 : Hp} {r : List Hp} {e : Exit} (h : WE n w0 e Q ds fr (a7 :: a0 :: a1 :: a2 :: a3 :: a4 :: a5 :: a6 :: r)) : WE n w0 e Q ds fr (a0 :: a1 :: a2 :: a3 :: a4 :: a5 :: a6 :: a7 :: r) := h.perm (List.perm_middle (l₁ := [a0, a1, a2, a3, a4, a5, a6]) (l₂ := r))
theorem WL.f8 {a0 a1 a2 a3 a4 a5 a6 a7 a8 : Hp} {r : List Hp} {l : List Oper} (h : WL P n w0 ops Q l ds fr (a8 :: a0 :: a1 :: a2 :: a3 :: a4 :: a5 :: a6 :: a7 :: r)) : WL P n w0 ops Q l ds fr (a0 :: a1 :: a2 :: a3 :: a4 :: a5 :: a6 :: a7 :: a8 :: r) := h.perm (List.perm_middle (l₁ := [a0, a1, a2, a3, a4, a5, a6, a7]) (l₂ := r))
theorem WC.f8 {a0 a1 a2 a3 a4 a5 a6 a7 a8 : Hp} {r : List Hp} {c : Code} (h : WC P n w0 c Q ds fr (a8 :: a0 :: a1 :: a2 :: a3 :: a4 :: a5 :: a6 :: a7 :: r)) : WC P n w0 c Q ds fr (a0 :: a1 :: a2 :: a3 :: a4 :: a5 :: a6 :: a7 :: a8 :: r) := h.perm (List.perm_middle (l₁ := [a0, a1, a2, a3, a4, a5, a6, a7]) (l₂ := r))
theorem WE.f8 {a0 a1 a2 a3 a4 a5 a6 a7 a8 : Hp} {r : List Hp} {e : Exit} (h : WE n w0 e Q ds fr (a8 :: a0 :: a1 :: a2 :: a3 :: a4 :: a5 :: a6 :: a7 :: r)) : WE n w0 e Q ds fr (a0 :: a1 :: a2 :: a3 :: a4 :: a5 :: a6 :: a7 :: a8 :: r) := h.perm (List.perm_middle (l₁ := [a0, a1, a2, a3, a4, a5, a6, a7]) (l₂ := r))
theorem res4 {fn : Func} {t u s r : Nat} {v x y z : Value} (hr : fn.results = #[.tmp t, .tmp u, .tmp s, .tmp r]) (hv : gt fr t = some v) (hx : gt fr u = some x) (hy : gt fr s = some y) (hz : gt fr r = some z) : ∀ a w, Fits n ds fr a → St w0 H.flatten w → (results fn a.tmps).run P w = .ok (.tuple #[v, x, y, z]) w := by
  intro a w hf _
  simp [results, hr, hf.get t v hv, hf.get u x hx, hf.get s y hy, hf.get r z hz]
/-! ### min and max of two whole numbers -/
theorem oq_min {t1 t2 : TypeId} {x y : Operand} {k : IntKind} {i j : Int} (c : Int) (hx : ev fr x = some (.int k i)) (hy : ev fr y = some (.int k j)) (hc : min i j = c) : OV P n w0 ⟨dst, .call ⟨.builtin .min, #[x, y], #[t1, t2]⟩, ty, pos, aft, g⟩ (.int k c) ds fr H :=
  oq_of_run fun a w hf _ => by
    subst hc
    simp [execOp, resolve, invoke, builtin, hf.eval hx, hf.eval hy, Builtin.min_, Builtin.min2]
    split <;> omega
theorem oq_max {t1 t2 : TypeId} {x y : Operand} {k : IntKind} {i j : Int} (c : Int) (hx : ev fr x = some (.int k i)) (hy : ev fr y = some (.int k j)) (hc : max i j = c) : OV P n w0 ⟨dst, .call ⟨.builtin .max, #[x, y], #[t1, t2]⟩, ty, pos, aft, g⟩ (.int k c) ds fr H :=
  oq_of_run fun a w hf _ => by
    subst hc
    simp [execOp, resolve, invoke, builtin, hf.eval hx, hf.eval hy, Builtin.max_, Builtin.max2]
    split <;> omega
/-- the first place of a byte in a text: the runtime's own function -/
theorem oq_extIB {f : FuncId} {fn : Func} {x y : Operand} {t t' : TypeId} {l : List UInt8} {c : Int} (hf : P.funcs[f]? = some fn) (hnm : (fn.name == "runtime.NumGoroutine") = false) (hb : fn.body.isNone = true) (h1 : Extern.findNext fn = none) (h2 : Extern.find fn = some Extern.BytealgIndexByte.indexByte) (hx : ev fr x = some (S l)) (hy : ev fr y = some (.int .u8 c)) :
    OV P n w0 ⟨dst, .call ⟨.value (.func f), #[x, y], #[t, t']⟩, ty, pos, aft, g⟩ (I (Lib.indexByte l c.toNat.toUInt8)) ds fr H :=
  oq_of_run fun a w hfit _ => by
    have ha : evs fr (#[x, y] : Array Operand).toList = some [S l, .int .u8 c] := by simp [evs, hx, hy]
    have e := hfit.evalsA ha
    simp only [execOp, resolve, Act.eval, Deferred.ofValue, Sem.run_bind, e]
    have hnm2 : ¬ fn.name = "runtime.NumGoroutine" := by simpa using hnm
    have hb2 : fn.body = none := by simpa using hb
    have hr := Lib.run_indexByteString (P := P) ⟨⟨l⟩⟩ c w
    simp [invoke, callFunc, hf, hnm2, hb2, h1, h2, hr]
/-! ### Asking for an interface -/
/-- a value of type k has what the interface t wants -/
def AskYes (P : Program) (k t : TypeId) : Prop := ∀ x u w, (Instr.typeAssert (.iface k x) u t true).run P w = .ok (.tuple #[.iface k x, .bool true]) w
def AskNo (P : Program) (k t : TypeId) : Prop := ∀ x u w, (Instr.typeAssert (.iface k x) u t true).run P w = .ok (.tuple #[.nilIface, .bool false]) w
theorem least_none {l : List String} (h : Instr.least l = none) : l = [] := by
  cases l with
  | nil => rfl
  | cons a l => exact absurd h (by unfold Instr.least; simp)
theorem missing_some {want : Array (String × TypeId)} {got : Array Method} (h : (want.toList.filter fun (name, sig) => !got.any fun m => m.name == name && m.sig == sig) ≠ []) : ∃ m, Instr.missingMethod want got = some m := by
  cases hm : Instr.missingMethod want got with
  | some m => exact ⟨m, rfl⟩
  | none =>
    exfalso
    unfold Instr.missingMethod at hm
    simp only [List.partition_eq_filter_filter] at hm
    have hm2 : ∀ a b : Option String, (a <|> b) = none → a = none ∧ b = none := fun a b h => by cases a <;> cases b <;> first | exact ⟨rfl, rfl⟩ | cases h
    obtain ⟨h1, h2⟩ := hm2 _ _ hm
    have h3 := least_none h1
    have h4 := least_none h2
    rw [List.map_eq_nil_iff] at h4
    apply h
    cases hl : (want.toList.filter fun (name, sig) => !got.any fun m => m.name == name && m.sig == sig) with
    | nil => rfl
    | cons x l =>
      exfalso
      simp only [hl, List.map_cons] at h3 h4
      cases hc : x.1.contains (Char.ofNat 46) with
      | true =>
        rw [List.filter_cons_of_pos (by first | exact hc | simpa using hc)] at h4; cases h4
      | false =>
        rw [List.filter_cons_of_pos (by show (!x.1.contains (Char.ofNat 46)) = true; rw [hc]; rfl)] at h3; cases h3
theorem askNo {k t : TypeId} {want : Array (String × TypeId)} {inf i2 : TypeInfo} (ht : P.underlying t = some (.interface want)) (hi : P.info? k = some inf) (h : (want.toList.filter fun (name, sig) => !inf.methods.any fun m => m.name == name && m.sig == sig).isEmpty = false) (h2 : P.info? t = some i2) (hz : i2.zero = some .nilIface) : AskNo P k t := fun x u w => by
  obtain ⟨m, hm⟩ := missing_some (want := want) (got := inf.methods) (by intro e; rw [e] at h; cases h)
  simp [Instr.typeAssert, run_underlying ht, typeInfo, zeroValue, hi, h2, hz, hm]
theorem oq_askYes {k t u : TypeId} {x : Operand} {v : Value} (h : AskYes P k t) (hx : ev fr x = some (.iface k v)) : OV P n w0 ⟨dst, .typeAssert x u t true, ty, pos, aft, g⟩ (.tuple #[.iface k v, .bool true]) ds fr H :=
  oq_of_run fun a w hf _ => by simp only [execOp, hf.eval hx, Sem.run_bind, h v u w, Result.andThen_ok, Sem.run_pure]
theorem oq_askNo {k t u : TypeId} {x : Operand} {v : Value} (h : AskNo P k t) (hx : ev fr x = some (.iface k v)) : OV P n w0 ⟨dst, .typeAssert x u t true, ty, pos, aft, g⟩ (.tuple #[.nilIface, .bool false]) ds fr H :=
  oq_of_run fun a w hf _ => by simp only [execOp, hf.eval hx, Sem.run_bind, h v u w, Result.andThen_ok, Sem.run_pure]

/-- a slice of nothing, of nil -/
theorem oq_sliceNil {t e : TypeId} {x y : Operand} {z : Value} {bytes : Nat} (ht : P.underlying t = some (.slice e)) (hty : Ty P e z 1 bytes) (hx : ev fr x = some (.slice none 0 0)) (hy : ev fr y = some (I 0)) : OV P n w0 ⟨dst, .slice t x (some y) none none, ty, pos, aft, g⟩ (.slice none 0 0) ds fr H :=
  oq_of_run fun a w hf _ => by
    have h0 : (0 : Int) ≤ (0 : Int) ∧ (0 : Int) ≤ (0 : Int) := by omega
    have h0 : (0 : Int) ≤ (0 : Int) ∧ (0 : Int) ≤ ((0 : Nat) : Int) := by omega
    have hb : ∀ w, (Instr.sliceBound (.int .i64 0) 0 BoundsCode.sliceB).run P w = .ok 0 w := fun w => run_sliceBound h0
    simp [execOp, hf.eval hx, hf.eval hy, Instr.sliceAt, Instr.slice, Instr.sliceBounds, run_underlying ht, run_size hty, hb]
/-! ### append(nil, make(k)...) of bytes -/
theorem zero_bytes (c : Nat) : (Builtin.zeroCells (Value.int .u8 0).cells c).toList = bytesV (List.replicate c 0) := by
  have h1 : (Value.int .u8 0).oneCell' = true := rfl
  rw [one_cells h1]
  unfold Builtin.zeroCells bytesV
  apply List.ext_getElem
  · simp
  · intro i h1 h2; simp [Nat.mod_one]
theorem run_append_made {t u e : TypeId} {ki : IntKind} {bytes k : Nat} (w : World) (ht : P.underlying t = some (.slice e)) (hu : P.underlying u = some (.int ki)) (hty : Ty P e (.int .u8 0) 1 bytes) (hk0 : 0 < k) (hb0 : bytes ≠ 0) (hk : k * bytes ≤ 140737488355328) :
    (Builtin.append_ #[t, u] ty #[.slice none 0 0, .int .i64 (k : Int)]).run P w = .ok (.slice (some ⟨w.heap.size, 0, none⟩) k (grownCap w k 0 e)) (w.drew.alloc (.cells (bytesV (List.replicate (k + (grownCap w k 0 e - k)) 0)).toArray e)) := by
  obtain ⟨i, hi, hz, hs, hby⟩ := hty
  have hkb : k ≤ 140737488355328 := by
    rcases Nat.lt_or_ge 140737488355328 k with h | h
    · have h2 : k * 1 ≤ k * bytes := Nat.mul_le_mul_left _ (by omega)
      omega
    · exact h
  have hwrap : IntKind.i64.wrap (k : Int) = (k : Int) := by simp [IntKind.wrap, IntKind.min, IntKind.max, IntKind.signed, IntKind.bits]; omega
  have h1 : ¬ ((k : Int) < 0) := by omega
  have h2 : ¬ ((281474976710656 : Int) < (k : Int) * (bytes : Int)) := by
    have : ((k * bytes : Nat) : Int) = (k : Int) * (bytes : Int) := by rw [Int.natCast_mul]
    omega
  have h3 : ¬ (281474976710656 < Builtin.nextslicecap (0 + k) 0 * bytes) := by have := growslice_fits (need := 0 + k) (old := 0) (bytes := bytes) (by omega) (by rw [Nat.zero_add]; exact hk); omega
  have h4 : ¬ (k ≤ 0) := by omega
  have h5 : ¬ ((9223372036854775807 : Int) < (k : Int)) := by omega
  rw [Nat.zero_add] at h3
  have hz1 := zero_bytes k
  have hz2 := zero_bytes (grownCap w k 0 e - k)
  have e1 : (Builtin.zeroCells (Value.int .u8 0).cells k ++ Builtin.zeroCells (Value.int .u8 0).cells (grownCap w k 0 e - k)) = (bytesV (List.replicate (k + (grownCap w k 0 e - k)) 0)).toArray := by
    apply Array.ext'
    rw [Array.toList_append, hz1, hz2, ← bytesV_app, List.replicate_append_replicate]
  subst hby
  have hfc : ∀ w, (Builtin.firstCells 1 0 (.slice none 0 0)).run P w = .ok #[] w := fun w => by simp [Builtin.firstCells]
  have h6 : ¬ ((k : Int) ≤ 0) := by omega
  have h7 : ¬ ((9223372036854775807 : Int) < max (k : Int) 0) := by omega
  simp [Builtin.append_, run_underlying ht, run_underlying hu, sizeOf, typeInfo, zeroValue, hi, hz, hs, h1, h2, h3, h4, h5, hwrap, asInt, asIntOf, hfc, h6, h7, hk0, show ¬ k = 0 by omega, Question.forced, newRow, grownCap]
  exact congrArg (fun c => w.drew.alloc (Obj.cells c e)) e1
theorem WL.appendMade {t u e : TypeId} {x : Operand} {ki : IntKind} {bytes k : Nat} (ht : P.underlying t = some (.slice e)) (hu : P.underlying u = some (.int ki)) (hty : Ty P e (.int .u8 0) 1 bytes) (hx : ev fr x = some (I (k : Int))) (hk0 : 0 < k) (hb0 : bytes ≠ 0) (hkb : k * bytes ≤ 140737488355328) (h63 : k ≤ maxLen)
    (hg : gd ops fr ⟨some d, .call ⟨.builtin .append, #[.const (.slice none 0 0), x], #[t, u]⟩, ty, pos, aft, g⟩ = some true) (hn : Nat.blt d n = true)
    (hk : ∀ b cap, w0.heap.size ≤ b → k ≤ cap → cap ≤ maxLen → WL P n w0 ops Q rest ds ((d, Sl b 0 k cap) :: fr) (Bf b e (List.replicate cap 0) :: H)) :
    WL P n w0 ops Q (⟨some d, .call ⟨.builtin .append, #[.const (.slice none 0 0), x], #[t, u]⟩, ty, pos, aft, g⟩ :: rest) ds fr H := by
  intro a w hf hw
  unfold wpList
  rw [gd_wanted hf hg, if_pos rfl]
  left
  unfold Oper.wp
  have hr := run_append_made (P := P) (ty := ty) w ht hu hty hk0 hb0 hkb
  have hge := grownCap_ge w k 0 e
  have hcm := grownCap_le_maxLen w k 0 e h63
  rw [show k + (grownCap w k 0 e - k) = grownCap w k 0 e by omega] at hr
  have exec : (execOp a.eval ⟨some d, .call ⟨.builtin .append, #[.const (.slice none 0 0), x], #[t, u]⟩, ty, pos, aft, g⟩).run P w = .ok (.value (.slice (some ⟨w.heap.size, 0, none⟩) k (grownCap w k 0 e))) (w.drew.alloc (.cells (bytesV (List.replicate (grownCap w k 0 e) 0)).toArray e)) := by
    have hc : a.eval (.const (.slice none 0 0)) = .slice none 0 0 := rfl
    simp only [execOp, resolve, invoke, builtin, Sem.run_bind, Sem.run_pure, Result.andThen_ok, List.map_toArray, List.map_cons, List.map_nil, hc, hf.eval hx, hr]
  rw [exec, Oper.upon_value]
  refine hk _ _ hw.size hge hcm _ _ (hf.put _ hn) ?_
  have h1 := (hw.drawn (w.drawn + 1)).alloc (Obj.cells (bytesV (List.replicate (grownCap w k 0 e) 0)).toArray e)
  simpa using h1
theorem FnA.enterD {f : FuncId} {fn : Func} {c : Code} {args : List Value} {Hr : Hp} {R : Value → Hp → Prop} {n : Nat} (hf : P.funcs[f]? = some fn) (hb : fn.body = some c) (hn : args.length + (fn.ntmps - args.length) = n)
    (h : ∀ w0, WC P n w0 c (bodyPostD P fn (postA w0 Hr R)) [] (args.zipIdx.map fun (v, i) => (i, v)) [Hr]) : FnA P f args Hr R := by
  intro w hw
  exact calls_of_wp_defers hf hb (h w _ w (args_fit hn) (by simpa using hw.st))
end
end Go.Proofs.YtclafiglpcjhdaaGreat.V
