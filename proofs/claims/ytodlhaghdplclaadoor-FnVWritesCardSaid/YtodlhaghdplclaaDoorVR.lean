/- The engine, part 26: values within interfaces compared, maps that are nil, look-ups without an answer whether. Over any program. -/
import Derived.Test.YtodlhaghdplclaaDoorVQ
namespace Go.Proofs.YtodlhaghdplclaaDoor.V
open Go Go.RowKit
set_option linter.unusedSimpArgs false
set_option linter.unusedVariables false
theorem Fn0.toW {P : Program} {f : FuncId} {args : List Value} {v : Value} {base : Nat} (h : Fn0 P f args v) : FnW P f args base [] (fun v' Hs => v' = v ∧ Hs = []) := fun w0 R0 w hb hw =>
  (h w).mono fun e w' ⟨h1, h2⟩ => ⟨v, [], h1, ⟨rfl, rfl⟩, St.pure hw h2⟩
theorem FnR.wide {P : Program} {f : FuncId} {args : List Value} {A C D : Hp} {v : Value} (h : FnR P f args A v) (p : C.Perm (A ++ D)) : FnR P f args C v := fun w hw => by
  have hs : St w (A ++ D) w := hw.st.perm p
  refine (h w hs.has).mono fun e w' hh => ?_
  obtain ⟨h1, h2⟩ := hh
  have := hs.trans (N := []) h2 rfl (fun _ _ h => nomatch h)
  exact ⟨h1, by simpa using this.perm (by simpa using p.symm)⟩
/-- comparing two values within interfaces answers b -/
def EqI (P : Program) (t : TypeId) (x y : Value) (b : Bool) : Prop := ∀ w, (Op.equal t x y).run P w = .ok b w
theorem eqI_str {P : Program} {t st : TypeId} {ms' : Array (String × TypeId)} {i : TypeInfo} (hd : P.underlying t = some (.interface ms')) (hs : P.underlying st = some .string) (hi : P.info? st = some i) (hc : i.comparable = true) (a b : List UInt8) : EqI P t (.iface st (S a)) (.iface st (S b)) (decide (a = b)) := fun w => by
  show (Op.equalIn (9999 + 1) t _ _).run P w = _
  unfold Op.equalIn
  simp only [Sem.run_bind, run_underlying hd, Result.andThen_ok, ne_eq, not_true, if_false, typeInfo, run_program, hi, Sem.run_pure, hc, Bool.not_true, Bool.false_eq_true]
  show (Op.equalIn (9998 + 1) st _ _).run P w = _
  unfold Op.equalIn
  simp only [Sem.run_bind, run_underlying hs, Result.andThen_ok, Sem.run_pure, bytes_dec]
theorem eqI_other {P : Program} {t k k' : TypeId} {ms' : Array (String × TypeId)} (hd : P.underlying t = some (.interface ms')) (hk : k ≠ k') (v v' : Value) : EqI P t (.iface k v) (.iface k' v') false := fun w => by
  show (Op.equalIn (9999 + 1) t _ _).run P w = _
  unfold Op.equalIn
  simp only [Sem.run_bind, run_underlying hd, Result.andThen_ok, ne_eq, hk, not_false_eq_true, if_true, Sem.run_pure]
section
variable {P : Program} {n : Nat} {w0 : World} {ds : List Deferred} {fr : Fr} {H H' : List Hp} {dst : Option Tmp} {ty : TypeId} {pos : String} {aft : Array Edge} {g : Option (Nat × Bool)}
theorem oq_eqI {t t' k k' : TypeId} {x y : Operand} {v v' : Value} {b : Bool} (h : EqI P t (.iface k v) (.iface k' v') b) (hx : ev fr x = some (.iface k v)) (hy : ev fr y = some (.iface k' v')) : OV P n w0 ⟨dst, .binOp .eql t x y t', ty, pos, aft, g⟩ (.bool b) ds fr H :=
  oq_of_run fun a w hf _ => by
    have he := h w
    simp [execOp, hf.eval hx, hf.eval hy, eqGuard, binOp, he]
theorem oq_neI {t t' k k' : TypeId} {x y : Operand} {v v' : Value} {b : Bool} (h : EqI P t (.iface k v) (.iface k' v') b) (hx : ev fr x = some (.iface k v)) (hy : ev fr y = some (.iface k' v')) : OV P n w0 ⟨dst, .binOp .neq t x y t', ty, pos, aft, g⟩ (.bool (!b)) ds fr H :=
  oq_of_run fun a w hf _ => by
    have he := h w
    simp [execOp, hf.eval hx, hf.eval hy, eqGuard, binOp, he]
/-- x, ok := v.(string), of a value that may be nil -/
def optI (st : TypeId) (o : Option (List UInt8)) : Value := match o with
  | some u => .iface st (S u)
  | none => .nilIface
theorem optI_or (st : TypeId) (o : Option (List UInt8)) : optI st o = .nilIface ∨ ∃ k u, optI st o = .iface k u := by
  cases o with
  | none => exact .inl rfl
  | some u => exact .inr ⟨_, _, rfl⟩
theorem oq_askOpt {st u : TypeId} {x : Operand} {size bytes : Nat} {o : Option (List UInt8)} (hc : Conc P st) (hty : Ty P st (S []) size bytes) (hx : ev fr x = some (optI st o)) : OV P n w0 ⟨dst, .typeAssert x u st true, ty, pos, aft, g⟩ (.tuple #[S (o.getD []), .bool o.isSome]) ds fr H := by
  cases o with
  | some v => exact oq_askC hc hx
  | none => exact oq_askNil hc hty hx
/-- m == nil, m != nil -/
theorem equal_mnil {t kt et : TypeId} {p : Option Nat} (ht : P.underlying t = some (.map kt et)) (w : World) : (Op.equal t (.map p) (.map none)).run P w = .ok p.isNone w := by
  unfold Op.equal Op.maxDepth Op.equalIn
  rw [Sem.run_bind, run_underlying ht]
  cases p <;> rfl
theorem oq_meql {t t' kt et : TypeId} {x y : Operand} {p : Option Nat} (ht : P.underlying t = some (.map kt et)) (hx : ev fr x = some (.map p)) (hy : ev fr y = some (.map none)) : OV P n w0 ⟨dst, .binOp .eql t x y t', ty, pos, aft, g⟩ (.bool p.isNone) ds fr H :=
  oq_of_run fun a w hf _ => by simp [execOp, hf.eval hx, hf.eval hy, eqGuard, binOp, equal_mnil ht]
section
variable {α : Type} [DecidableEq α] {K : α → Value} {m : Nat} {ms : List (α × Value × Nat)} {clk : Nat}
theorem oq_lookup1 {t kt et : TypeId} {x y : Operand} {k : α} {z : Value} {size bytes : Nat} (v : Value) (ht : P.underlying t = some (.map kt et)) (hK : KeyOk P kt K) (hty : Ty P et z size bytes) (hx : ev fr x = some (Mp m)) (hy : ev fr y = some (K k)) (hA : MG K m ms clk ∈ H) (hv : (mget k ms).getD z = v) :
    OV P n w0 ⟨dst, .lookup t x y false, ty, pos, aft, g⟩ v ds fr H :=
  oq_of_run fun a w hf hw => by
    have hnow := hw.now m _ (mem_flat hA (List.mem_singleton.2 rfl))
    obtain ⟨j, hj, hz, _⟩ := hty
    have hfnd := hK.find k ms w
    simp only [execOp, Instr.lookup, hf.eval hx, hf.eval hy, Sem.run_bind, run_underlying ht, Result.andThen_ok, MapKept.run_getObj_map hnow, Sem.run_pure, hK.chk, hfnd]
    subst hv
    cases h1 : mget k ms with
    | some u =>
      obtain ⟨i, h2, _, _⟩ := mfind_some (K := K) ms 0 h1
      simp [h2]
    | none =>
      have h2 := (mfind_none ms 0).2 h1
      simp [h2, zeroValue, typeInfo, hj, hz]
theorem oq_lookupN {t kt et : TypeId} {x y : Operand} {k : α} {z : Value} {size bytes : Nat} {c : Bool} (ht : P.underlying t = some (.map kt et)) (hK : KeyOk P kt K) (hty : Ty P et z size bytes) (hx : ev fr x = some (.map none)) (hy : ev fr y = some (K k)) :
    OV P n w0 ⟨dst, .lookup t x y c, ty, pos, aft, g⟩ (if c then .tuple #[z, .bool false] else z) ds fr H :=
  oq_of_run fun a w hf hw => by
    obtain ⟨j, hj, hz, _⟩ := hty
    have hfnd := hK.find k [] w
    simp only [execOp, Instr.lookup, hf.eval hx, hf.eval hy, Sem.run_bind, run_underlying ht, Result.andThen_ok, Sem.run_pure, hK.chk]
    have h2 : (Instr.findKey kt (K k) (#[] : Array MapEntry).toList).run P w = .ok none w := hfnd
    rw [h2]
    cases c <;> simp [zeroValue, typeInfo, hj, hz]
end
end
end Go.Proofs.YtodlhaghdplclaaDoor.V
