/- The engine, part 7: comparisons with nil; several new groups at once. Over any program. -/
import Derived.Test.YtodlhaghdplclaaDoorV6
namespace Go.Proofs.YtodlhaghdplclaaDoor.V
open Go Go.RowKit
set_option linter.unusedSimpArgs false
set_option linter.unusedVariables false
section
variable {P : Program} {n : Nat} {w0 : World} {ds : List Deferred} {fr : Fr} {H H' : List Hp} {dst : Option Tmp} {ty : TypeId} {pos : String} {aft : Array Edge} {g : Option (Nat × Bool)}
variable {ops : Array Oper} {Q : Post} {rest : List Oper} {d : Nat}

theorem fresh0 {k : Nat} : ∀ (b : Nat) (o : Obj), (b, o) ∈ ([] : Hp) → k ≤ b := fun _ _ h => nomatch h
theorem fresh1 {k b : Nat} {o : Obj} (h : k ≤ b) : ∀ (b' : Nat) (o' : Obj), (b', o') ∈ ([(b, o)] : Hp) → k ≤ b' := fun b' o' hm => by simp at hm; omega
theorem fresh_cat {k : Nat} {A B : Hp} (ha : ∀ (b : Nat) (o : Obj), (b, o) ∈ A → k ≤ b) (hb : ∀ (b : Nat) (o : Obj), (b, o) ∈ B → k ≤ b) : ∀ (b : Nat) (o : Obj), (b, o) ∈ A ++ B → k ≤ b := fun b o hm => (List.mem_append.1 hm).elim (ha b o) (hb b o)
theorem WL.cat {l : List Oper} {A B : Hp} (h : WL P n w0 ops Q l ds fr ((A ++ B) :: H)) : WL P n w0 ops Q l ds fr (A :: B :: H) := fun a w hf hw => h a w hf (by simpa using hw)
theorem WC.cat {k : Code} {A B : Hp} (h : WC P n w0 k Q ds fr ((A ++ B) :: H)) : WC P n w0 k Q ds fr (A :: B :: H) := fun a w hf hw => h a w hf (by simpa using hw)
theorem WE.cat {e : Exit} {A B : Hp} (h : WE n w0 e Q ds fr ((A ++ B) :: H)) : WE n w0 e Q ds fr (A :: B :: H) := fun a w hf hw => h a w hf (by simpa using hw)
theorem dr_cat {A B : Hp} (h : Drops w0 ((A ++ B) :: H) H') : Drops w0 (A :: B :: H) H' := fun w hw => h w (by simpa using hw)
theorem dr_add0 (h : Drops w0 ([] :: H) H') : Drops w0 H H' := fun w hw => h w (by simpa using hw)
theorem WL.uncat {l : List Oper} {A B : Hp} (h : WL P n w0 ops Q l ds fr (A :: B :: H)) : WL P n w0 ops Q l ds fr ((A ++ B) :: H) := fun a w hf hw => h a w hf (by simpa using hw)
theorem WC.uncat {k : Code} {A B : Hp} (h : WC P n w0 k Q ds fr (A :: B :: H)) : WC P n w0 k Q ds fr ((A ++ B) :: H) := fun a w hf hw => h a w hf (by simpa using hw)
theorem WE.uncat {e : Exit} {A B : Hp} (h : WE n w0 e Q ds fr (A :: B :: H)) : WE n w0 e Q ds fr ((A ++ B) :: H) := fun a w hf hw => h a w hf (by simpa using hw)

theorem St.hasIn {A : Hp} {w : World} (hA : A ∈ H) (hw : St w0 H.flatten w) : Has A w :=
  ⟨fun b o hb => hw.now b o (mem_flat hA hb), (((List.sublist_flatten_of_mem hA).map Prod.fst).nodup hw.nodup)⟩
theorem FnR.pure {f : FuncId} {args : List Value} {v : Value} {A : Hp} (hc : FnR P f args A v) {w : World} (h : Has A w) : Calls P f args.toArray w fun e w' => e = .returned v ∧ St w [] w' :=
  (hc w h).mono fun e w' hh => ⟨hh.1, St.drop (N := A) (H := []) (by simpa using hh.2) fun b o hb => .inr (h.now b o hb)⟩
/-- a callee that reads one of the groups of blocks -/
theorem oq_callRm {f : FuncId} {xs : Array Operand} {ts : Array TypeId} {args : List Value} {v : Value} {A : Hp} (hc : FnR P f args A v) (hA : A ∈ H) (hf : Callable P f) (ha : evs fr xs.toList = some args) : OQ P n w0 ⟨dst, .call ⟨.value (.func f), xs, ts⟩, ty, pos, aft, g⟩ v ds fr H := by
  intro a hfit w hw
  unfold Oper.quietAt
  rw [run_enter hf ha hfit w]
  exact ⟨rfl, (hc.pure (hw.hasIn hA)).mono fun e w' h => ⟨h.1, hw.pure h.2⟩⟩

/-! ### Comparisons with nil -/
theorem equal_pnil {t e : TypeId} {p : Option Addr} (ht : P.underlying t = some (.pointer e)) (w : World) : (Op.equal t (.pointer p) (.pointer none)).run P w = .ok p.isNone w := by
  unfold Op.equal Op.maxDepth Op.equalIn
  rw [Sem.run_bind, run_underlying ht]
  cases p <;> rfl
theorem oq_peql {t t' e : TypeId} {x y : Operand} {p : Option Addr} (ht : P.underlying t = some (.pointer e)) (hx : ev fr x = some (.pointer p)) (hy : ev fr y = some (.pointer none)) : OV P n w0 ⟨dst, .binOp .eql t x y t', ty, pos, aft, g⟩ (.bool p.isNone) ds fr H :=
  oq_of_run fun a w hf _ => by simp [execOp, hf.eval hx, hf.eval hy, eqGuard, binOp, equal_pnil ht]
theorem oq_pneq {t t' e : TypeId} {x y : Operand} {p : Option Addr} (ht : P.underlying t = some (.pointer e)) (hx : ev fr x = some (.pointer p)) (hy : ev fr y = some (.pointer none)) : OV P n w0 ⟨dst, .binOp .neq t x y t', ty, pos, aft, g⟩ (.bool (!p.isNone)) ds fr H :=
  oq_of_run fun a w hf _ => by simp [execOp, hf.eval hx, hf.eval hy, eqGuard, binOp, equal_pnil ht]
theorem equal_snil {t e : TypeId} {p : Option Addr} {k m : Nat} (ht : P.underlying t = some (.slice e)) (w : World) : (Op.equal t (.slice p k m) (.slice none 0 0)).run P w = .ok p.isNone w := by
  unfold Op.equal Op.maxDepth Op.equalIn
  rw [Sem.run_bind, run_underlying ht]
  cases p <;> rfl
theorem oq_sleql {t t' e : TypeId} {x y : Operand} {p : Option Addr} {k m : Nat} (ht : P.underlying t = some (.slice e)) (hx : ev fr x = some (.slice p k m)) (hy : ev fr y = some (.slice none 0 0)) : OV P n w0 ⟨dst, .binOp .eql t x y t', ty, pos, aft, g⟩ (.bool p.isNone) ds fr H :=
  oq_of_run fun a w hf _ => by simp [execOp, hf.eval hx, hf.eval hy, eqGuard, binOp, equal_snil ht]
theorem oq_slneq {t t' e : TypeId} {x y : Operand} {p : Option Addr} {k m : Nat} (ht : P.underlying t = some (.slice e)) (hx : ev fr x = some (.slice p k m)) (hy : ev fr y = some (.slice none 0 0)) : OV P n w0 ⟨dst, .binOp .neq t x y t', ty, pos, aft, g⟩ (.bool (!p.isNone)) ds fr H :=
  oq_of_run fun a w hf _ => by simp [execOp, hf.eval hx, hf.eval hy, eqGuard, binOp, equal_snil ht]
def nilI : Value → Bool | .nilIface => true | _ => false
theorem equal_inil {t : TypeId} {v : Value} {ms : Array (String × TypeId)} (ht : P.underlying t = some (.interface ms)) (hv : v = .nilIface ∨ ∃ k u, v = .iface k u) (w : World) : (Op.equal t v .nilIface).run P w = .ok (nilI v) w := by
  unfold Op.equal Op.maxDepth Op.equalIn
  rw [Sem.run_bind, run_underlying ht]
  rcases hv with rfl | ⟨k, u, rfl⟩ <;> rfl
theorem oq_ieql {t t' : TypeId} {x : Operand} {v : Value} {ms : Array (String × TypeId)} (ht : P.underlying t = some (.interface ms)) (hx : ev fr x = some v) (hv : v = .nilIface ∨ ∃ k u, v = .iface k u) : OV P n w0 ⟨dst, .binOp .eql t x (.const .nilIface) t', ty, pos, aft, g⟩ (.bool (nilI v)) ds fr H :=
  oq_of_run fun a w hf _ => by
    have he := equal_inil (P := P) ht hv w
    have e1 := hf.eval hx
    have e2 : a.eval (.const .nilIface) = .nilIface := rfl
    rcases hv with rfl | ⟨k, u, rfl⟩ <;> simp [execOp, e1, e2, eqGuard, binOp, he]
theorem oq_ineq {t t' : TypeId} {x : Operand} {v : Value} {ms : Array (String × TypeId)} (ht : P.underlying t = some (.interface ms)) (hx : ev fr x = some v) (hv : v = .nilIface ∨ ∃ k u, v = .iface k u) : OV P n w0 ⟨dst, .binOp .neq t x (.const .nilIface) t', ty, pos, aft, g⟩ (.bool (!nilI v)) ds fr H :=
  oq_of_run fun a w hf _ => by
    have he := equal_inil (P := P) ht hv w
    have e1 := hf.eval hx
    have e2 : a.eval (.const .nilIface) = .nilIface := rfl
    rcases hv with rfl | ⟨k, u, rfl⟩ <;> simp [execOp, e1, e2, eqGuard, binOp, he]
end
end Go.Proofs.YtodlhaghdplclaaDoor.V
