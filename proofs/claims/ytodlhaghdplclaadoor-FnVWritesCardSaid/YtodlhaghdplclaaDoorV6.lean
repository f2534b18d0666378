/- The engine, part 6: structs; results that lie in memory. Over any program. -/
import Derived.Test.YtodlhaghdplclaaDoorV4
namespace Go.Proofs.YtodlhaghdplclaaDoor.V
open Go Go.RowKit
set_option linter.unusedSimpArgs false
set_option linter.unusedVariables false

/-- where the fields of a struct lie, and how many cells each has -/
def Str (P : Program) (t : TypeId) (places : Array (Nat × Nat)) : Prop := ∃ fields, P.underlying t = some (.struct fields) ∧ ∀ w, (fields.mapM fun f => do pure (f.offset, ← sizeOf f.type) : Sem (Array (Nat × Nat))).run P w = .ok places w
def Agg (P : Program) (t : TypeId) : Prop := ∀ w, (isAgg t).run P w = .ok true w

theorem fld_of {P : Program} {s i off : Nat} {t : TypeId} {fields : Array Field} {f : Field} {z : Value} {size bytes : Nat} (h1 : P.underlying s = some (.struct fields)) (h2 : fields[i]? = some f) (h3 : f.offset = off) (h4 : f.type = t) (hty : Ty P t z size bytes) (hs : size ≠ 0) : Fld P s i off t := by
  obtain ⟨inf, h5, _, h6, _⟩ := hty
  exact ⟨fields, f, inf, h1, h2, h3, h4, h5, by rw [h6]; exact hs⟩
theorem tdiv_b (n d : Int) (hd : 0 < d) : (0 ≤ n → n.tdiv d * d ≤ n ∧ n < n.tdiv d * d + d) ∧ (n < 0 → n ≤ n.tdiv d * d ∧ n.tdiv d * d - d < n) := by
  have e := Int.tmod_add_mul_tdiv n d
  rw [Int.mul_comm d] at e
  constructor
  · intro h
    have h1 := Int.tmod_nonneg d h
    have h2 := Int.tmod_lt_of_pos n hd
    omega
  · intro h
    have h3 : (-n).tmod d = -(n.tmod d) := Int.neg_tmod n d
    have h1 := Int.tmod_nonneg d (show 0 ≤ -n by omega)
    have h2 := Int.tmod_lt_of_pos (-n) hd
    omega

section
variable {P : Program} {n : Nat} {w0 : World} {ds : List Deferred} {fr : Fr} {H H' : List Hp} {dst : Option Tmp} {ty : TypeId} {pos : String} {aft : Array Edge} {g : Option (Nat × Bool)}
variable {ops : Array Oper} {Q : Post} {rest : List Oper} {d : Nat}

theorem agg_of {t : TypeId} {fields : Array Field} (h : P.underlying t = some (.struct fields)) : Agg P t := fun w => by simp [isAgg, run_underlying h]
theorem agg_arr {t : TypeId} {m : Nat} {e : TypeId} (h : P.underlying t = some (.array m e)) : Agg P t := fun w => by simp [isAgg, run_underlying h]

def evp2 (fr : Fr) : List (Nat × Operand) → Option (List (Nat × Value))
  | [] => some []
  | (i, x) :: ps => match ev fr x, evp2 fr ps with | some v, some vs => some ((i, v) :: vs) | _, _ => none
theorem evp2_spec {a : Act} (hf : Fits n ds fr a) : ∀ (ps : List (Nat × Operand)) (vs : List (Nat × Value)), evp2 fr ps = some vs → (ps.map fun (i, x) => (i, a.eval x)) = vs := by
  intro ps
  induction ps with
  | nil => intro vs h; exact Option.some.inj h
  | cons p ps ih =>
    intro vs h
    obtain ⟨i, x⟩ := p
    unfold evp2 at h
    cases h1 : ev fr x with
    | none => simp [h1] at h
    | some v =>
      cases h2 : evp2 fr ps with
      | none => simp [h1, h2] at h
      | some vs' =>
        simp only [h1, h2] at h
        have := Option.some.inj h
        subst this
        simp only [List.map_cons, hf.eval h1, ih vs' h2]

/-- a struct written out -/
theorem oq_build {t : TypeId} {z : Value} {size bytes : Nat} {places : Array (Nat × Nat)} {parts : Array (Nat × Operand)} {vs : List (Nat × Value)} (cells : Array Value) (hs : Str P t places) (hty : Ty P t z size bytes) (hp : evp2 fr parts.toList = some vs) (hfill : Instr.fill (places[·]?) z.cells vs = some cells) :
    OV P n w0 ⟨dst, .build t parts, ty, pos, aft, g⟩ (.agg cells) ds fr H :=
  oq_of_run fun a w hf _ => by
    obtain ⟨fields, h1, h2⟩ := hs
    obtain ⟨i, hi, hz, _, _⟩ := hty
    have e1 := evp2_spec hf parts.toList vs hp
    have e2 : (parts.map fun (i, x) => (i, a.eval x)).toList = vs := by rw [← e1]; simp
    simp only [execOp, Instr.build, Sem.run_bind, zeroValue, typeInfo, run_program, Result.andThen_ok, hi, Sem.run_pure, hz, run_underlying h1, h2, e2, hfill]

/-- a field of a struct value -/
theorem oq_field {t ft : TypeId} {x : Operand} {i off : Nat} {cells : Array Value} {v : Value} (hf : Fld P t i off ft) (hfl : Flat P ft) (hx : ev fr x = some (.agg cells)) (hv : cells[off]? = some v) : OV P n w0 ⟨dst, .field t x i, ty, pos, aft, g⟩ v ds fr H :=
  oq_of_run fun a w hfit _ => by
    obtain ⟨fields, f, inf, h1, h2, h3, h4, h5, h6⟩ := hf
    subst h3; subst h4
    simp [execOp, hfit.eval hx, Instr.field, run_underlying h1, h2, asAgg, part, run_flat hfl, hv]
theorem oq_fieldAgg {t ft : TypeId} {x : Operand} {i off size bytes : Nat} {cells : Array Value} {z : Value} (vs : Array Value) (hf : Fld P t i off ft) (hfl : Agg P ft) (hty : Ty P ft z size bytes) (hx : ev fr x = some (.agg cells)) (hv : cells.extract off (off + size) = vs) : OV P n w0 ⟨dst, .field t x i, ty, pos, aft, g⟩ (.agg vs) ds fr H :=
  oq_of_run fun a w hfit _ => by
    obtain ⟨fields, f, inf, h1, h2, h3, h4, h5, h6⟩ := hf
    subst h3; subst h4
    simp [execOp, hfit.eval hx, Instr.field, run_underlying h1, h2, asAgg, part, hfl w, run_size hty, hv]

/-- a struct loaded out of cells that are known -/
theorem oq_loadS {t : TypeId} {x : Operand} {b off size : Nat} {c : Array Value} {e : TypeId} {fz : Nat × Nat} {A : Hp} {z : Value} {bytes : Nat} (vs : List Value) (hag : Agg P t) (hty : Ty P t z size bytes) (hx : ev fr x = some (Pt b off)) (hA : A ∈ H) (hb : (b, .cells c e fz) ∈ A) (hl : vs.length = size) (hv : (c.toList.drop off).take size = vs) :
    OV P n w0 ⟨dst, .load t x, ty, pos, aft, g⟩ (.agg vs.toArray) ds fr H := by
  subst hl
  refine oq_loadAgg hag hty hx hA hb fun j u hj => ?_
  rw [← hv, List.getElem?_take] at hj
  split at hj
  · rw [List.getElem?_drop] at hj; simpa using hj
  · cases hj

/-- several cells of the first group's only block are written; what they are then is told -/
theorem WL.storeS {t : TypeId} {x y : Operand} {b off : Nat} {c : Array Value} {e : TypeId} {v z : Value} {size bytes : Nat} (c' : Array Value) (hty : Ty P t z size bytes) (hx : ev fr x = some (Pt b off)) (hy : ev fr y = some v) (hsz : v.cells.size = size) (h1 : v.cells.toList.all Value.oneCell' = true) (hc : off + size ≤ c.size) (hput : putCells c off v.cells.toList = c')
    (hg : gd ops fr ⟨none, .store t x y, ty, pos, aft, g⟩ = some true)
    (hk : WL P n w0 ops Q rest ds fr ([(b, .cells c' e (0, 0))] :: H)) : WL P n w0 ops Q (⟨none, .store t x y, ty, pos, aft, g⟩ :: rest) ds fr ([(b, .cells c e (0, 0))] :: H) :=
  WL.storeAgg hty hx hy hsz (fun u hu => List.all_eq_true.1 h1 u hu) hc rfl hg (by rw [hput]; exact hk)

/-- one cell is written; what the cells are then is told -/
theorem WL.store1 {t : TypeId} {x y : Operand} {b off : Nat} {c : Array Value} {e : TypeId} {v z : Value} {bytes : Nat} (c' : Array Value) (hty : Ty P t z 1 bytes) (hx : ev fr x = some (Pt b off)) (hy : ev fr y = some v) (h1 : v.oneCell' = true) (hc : off < c.size) (hput : c.setIfInBounds off v = c')
    (hg : gd ops fr ⟨none, .store t x y, ty, pos, aft, g⟩ = some true)
    (hk : WL P n w0 ops Q rest ds fr ([(b, .cells c' e (0, 0))] :: H)) : WL P n w0 ops Q (⟨none, .store t x y, ty, pos, aft, g⟩ :: rest) ds fr ([(b, .cells c e (0, 0))] :: H) :=
  WL.store hty hx hy h1 hc (by simp) hg (by rw [hput]; exact hk)

theorem oq_tquo {t t' : TypeId} {x y : Operand} {k : IntKind} {i j : Int} (hx : ev fr x = some (.int k i)) (hy : ev fr y = some (.int k j)) (hj : 0 < j) (h : k.min ≤ i ∧ i ≤ k.max) : OV P n w0 ⟨dst, .binOp .quo t x y t', ty, pos, aft, g⟩ (.int k (i.tdiv j)) ds fr H :=
  oq_int hx hy fun w => by
    have h1 : ¬ j = 0 := by omega
    have h5 : k.min ≤ 0 := by cases k <;> decide
    have h7 : 0 ≤ k.max := by cases k <;> decide
    have hb := tdiv_b i j hj
    have h6 : k.wrap (i.tdiv j) = i.tdiv j := by
      refine wrap_in ?_
      rcases Int.lt_or_le i 0 with hi | hi
      · have e : i.tdiv j = -((-i) / j) := by rw [← Int.tdiv_eq_ediv_of_nonneg (by omega), Int.neg_tdiv, Int.neg_neg]
        have h3 : 0 ≤ (-i) / j := Int.ediv_nonneg (by omega) (by omega)
        have h4 : (-i) / j ≤ -i := Int.ediv_le_self j (by omega)
        rw [e]; omega
      · have e : i.tdiv j = i / j := Int.tdiv_eq_ediv_of_nonneg hi
        have h3 : 0 ≤ i / j := Int.ediv_nonneg hi (by omega)
        have h4 : i / j ≤ i := Int.ediv_le_self j hi
        rw [e]; omega
    simp [binOp, Op.intDiv, h1, h6]
theorem oq_trem {t t' : TypeId} {x y : Operand} {k : IntKind} {i j : Int} (hx : ev fr x = some (.int k i)) (hy : ev fr y = some (.int k j)) (hj : 0 < j) : OV P n w0 ⟨dst, .binOp .rem t x y t', ty, pos, aft, g⟩ (.int k (i.tmod j)) ds fr H :=
  oq_int hx hy fun w => by
    have h1 : ¬ j = 0 := by omega
    simp [binOp, Op.intDiv, h1]

/-! ### Results -/
def resOf (tmps : Array Value) : ResultVar → Sem Value
  | .tmp t => pure (tmps.getD t undef)
  | .cell a t => do loadVar t (← asAddr (tmps.getD a undef))
theorem results_eq (fn : Func) (tmps : Array Value) : results fn tmps = (do let vs ← fn.results.mapM (resOf tmps); pure (if h : vs.size = 1 then vs[0] else .tuple vs)) := rfl
def RV (P : Program) (n : Nat) (w0 : World) (ds : List Deferred) (fr : Fr) (H : List Hp) (r : ResultVar) (v : Value) : Prop :=
  ∀ a w, Fits n ds fr a → St w0 H.flatten w → (resOf a.tmps r).run P w = .ok v w
theorem rv_tmp {t : Nat} {v : Value} (hv : gt fr t = some v) : RV P n w0 ds fr H (.tmp t) v := fun a w hf _ => by
  show Sem.run P (pure (a.tmps.getD t undef)) w = _
  rw [Array.getD_eq_getD_getElem?, hf.get t v hv]; rfl
theorem rv_cellS {x : Nat} {t : TypeId} {b off size : Nat} {c : Array Value} {e : TypeId} {fz : Nat × Nat} {A : Hp} {z : Value} {bytes : Nat} (vs : List Value) (hag : Agg P t) (hty : Ty P t z size bytes) (hx : gt fr x = some (Pt b off)) (hA : A ∈ H) (hb : (b, .cells c e fz) ∈ A) (hl : vs.length = size) (hv : (c.toList.drop off).take size = vs) : RV P n w0 ds fr H (.cell x t) (.agg vs.toArray) := by
  intro a w hf hw
  subst hl
  have h1 := hw.now b _ (mem_flat hA hb)
  have e1 : a.tmps.getD x undef = Pt b off := by rw [Array.getD_eq_getD_getElem?, hf.get x _ hx]; rfl
  obtain ⟨i, hi, _, hs, _⟩ := hty
  have h2 := run_loadCells (P := P) h1 vs fun j u hj => by
    rw [← hv, List.getElem?_take] at hj
    split at hj
    · rw [List.getElem?_drop] at hj; simpa using hj
    · cases hj
  simp [resOf, e1, asAddr, loadVar, hag w, sizeOf, typeInfo, hi, hs, h2]
theorem andThen_assoc' {α β γ : Type} (r : Result α) (f : α → World → Result β) (g : β → World → Result γ) : (r.andThen f).andThen g = r.andThen fun a w => (f a w).andThen g := by cases r <;> rfl
theorem rv_cell {x : Nat} {t : TypeId} {b off : Nat} {c : Array Value} {e : TypeId} {fz : Nat × Nat} {A : Hp} {v : Value} (ht : Flat P t) (hx : gt fr x = some (Pt b off)) (hA : A ∈ H) (hb : (b, .cells c e fz) ∈ A) (hv : c[off]? = some v) : RV P n w0 ds fr H (.cell x t) v := by
  intro a w hf hw
  have h1 := hw.now b _ (mem_flat hA hb)
  have h2 : w.cell? ⟨b, off, none⟩ = some v := by rw [cell_at h1, hv]
  have e1 : a.tmps.getD x undef = Pt b off := by rw [Array.getD_eq_getD_getElem?, hf.get x _ hx]; rfl
  simp [resOf, e1, asAddr, loadVar, run_flat ht, h2]

theorem run_mapM1 {α β : Type} (f : α → Sem β) {w : World} {x1 : α} {v1 : β} (h1 : (f x1).run P w = .ok v1 w) : (#[x1].mapM f).run P w = .ok #[v1] w := by simp [h1]
theorem run_mapM2 {α β : Type} (f : α → Sem β) {w : World} {x1 x2 : α} {v1 v2 : β} (h1 : (f x1).run P w = .ok v1 w) (h2 : (f x2).run P w = .ok v2 w) : (#[x1, x2].mapM f).run P w = .ok #[v1, v2] w := by simp [h1, h2]
theorem run_mapM3 {α β : Type} (f : α → Sem β) {w : World} {x1 x2 x3 : α} {v1 v2 v3 : β} (h1 : (f x1).run P w = .ok v1 w) (h2 : (f x2).run P w = .ok v2 w) (h3 : (f x3).run P w = .ok v3 w) : (#[x1, x2, x3].mapM f).run P w = .ok #[v1, v2, v3] w := by simp [h1, h2, h3]
theorem rs1 {fn : Func} {r1 : ResultVar} {v1 : Value} (hr : fn.results = #[r1]) (h1 : RV P n w0 ds fr H r1 v1) : ∀ a w, Fits n ds fr a → St w0 H.flatten w → (results fn a.tmps).run P w = .ok v1 w := by
  intro a w hf hw
  rw [results_eq, hr, Sem.run_bind, run_mapM1 (resOf a.tmps) (h1 a w hf hw)]
  rfl
theorem rs2 {fn : Func} {r1 r2 : ResultVar} {v1 v2 : Value} (hr : fn.results = #[r1, r2]) (h1 : RV P n w0 ds fr H r1 v1) (h2 : RV P n w0 ds fr H r2 v2) : ∀ a w, Fits n ds fr a → St w0 H.flatten w → (results fn a.tmps).run P w = .ok (.tuple #[v1, v2]) w := by
  intro a w hf hw
  rw [results_eq, hr, Sem.run_bind, run_mapM2 (resOf a.tmps) (h1 a w hf hw) (h2 a w hf hw)]
  rfl
theorem rs3 {fn : Func} {r1 r2 r3 : ResultVar} {v1 v2 v3 : Value} (hr : fn.results = #[r1, r2, r3]) (h1 : RV P n w0 ds fr H r1 v1) (h2 : RV P n w0 ds fr H r2 v2) (h3 : RV P n w0 ds fr H r3 v3) : ∀ a w, Fits n ds fr a → St w0 H.flatten w → (results fn a.tmps).run P w = .ok (.tuple #[v1, v2, v3]) w := by
  intro a w hf hw
  rw [results_eq, hr, Sem.run_bind, run_mapM3 (resOf a.tmps) (h1 a w hf hw) (h2 a w hf hw) (h3 a w hf hw)]
  rfl

/-! ### What is told of fewer blocks -/
def Drops (w0 : World) (H H' : List Hp) : Prop := ∀ w, St w0 H.flatten w → St w0 H'.flatten w
theorem dr_refl : Drops w0 H H := fun _ h => h
theorem dr_lose {b : Nat} {o : Obj} (hb : w0.heap.size ≤ b) (h : Drops w0 H H') : Drops w0 ([(b, o)] :: H) H' := fun w hw => h w (St.drop (N := [(b, o)]) (by simpa using hw) fun b' o' hm => by simp at hm; left; omega)
theorem dr_forget {N : Hp} (hN : ∀ b o, (b, o) ∈ N → w0.heap.size ≤ b) (h : Drops w0 H H') : Drops w0 (N :: H) H' := fun w hw => h w (St.drop (N := N) (by simpa using hw) fun b o hb => .inl (hN b o hb))
theorem dr_nil0 (h : Drops w0 H H') : Drops w0 ([] :: H) H' := fun w hw => h w (by simpa using hw)
theorem dr_perm {H1 : List Hp} (p : H.Perm H1) (h : Drops w0 H1 H') : Drops w0 H H' := fun w hw => h w (hw.perm (flatten_perm p))
theorem dr_f1 {a b : Hp} {r : List Hp} (h : Drops w0 (b :: a :: r) H') : Drops w0 (a :: b :: r) H' := dr_perm (List.Perm.swap _ _ _) h
theorem dr_f2 {a b c : Hp} {r : List Hp} (h : Drops w0 (c :: a :: b :: r) H') : Drops w0 (a :: b :: c :: r) H' := dr_perm (List.perm_middle (l₁ := [a, b]) (l₂ := r)) h
theorem dr_f3 {a b c e : Hp} {r : List Hp} (h : Drops w0 (e :: a :: b :: c :: r) H') : Drops w0 (a :: b :: c :: e :: r) H' := dr_perm (List.perm_middle (l₁ := [a, b, c]) (l₂ := r)) h
theorem dr_f4 {a b c e f : Hp} {r : List Hp} (h : Drops w0 (f :: a :: b :: c :: e :: r) H') : Drops w0 (a :: b :: c :: e :: f :: r) H' := dr_perm (List.perm_middle (l₁ := [a, b, c, e]) (l₂ := r)) h

theorem WE.endD0 {fn : Func} {e : Exit} {v v' : Value} (he : e = .ret ∨ e = .normal) (hres : ∀ a w, Fits n [] fr a → St w0 H.flatten w → (results fn a.tmps).run P w = .ok v w) (hd : Drops w0 H []) (hv : v = v') :
    WE n w0 e (bodyPost P fn fun e w' => e = .returned v' ∧ St w0 [] w') [] fr H :=
  WE.body he hres fun w hw => ⟨by rw [hv], hd w hw⟩
theorem WE.endDR {fn : Func} {e : Exit} {v v' : Value} {Hr : Hp} (he : e = .ret ∨ e = .normal) (hres : ∀ a w, Fits n [] fr a → St w0 H.flatten w → (results fn a.tmps).run P w = .ok v w) (hd : Drops w0 H [Hr]) (hv : v = v') :
    WE n w0 e (bodyPost P fn fun e w' => e = .returned v' ∧ St w0 Hr w') [] fr H :=
  WE.body he hres fun w hw => ⟨by rw [hv], by simpa using hd w hw⟩
theorem WE.endDA {fn : Func} {e : Exit} {v : Value} {R : Value → Hp → Prop} {Hr N : Hp} (he : e = .ret ∨ e = .normal) (hres : ∀ a w, Fits n [] fr a → St w0 H.flatten w → (results fn a.tmps).run P w = .ok v w) (hd : Drops w0 H [N, Hr]) (hN : ∀ b o, (b, o) ∈ N → w0.heap.size ≤ b) (hR : R v N) :
    WE n w0 e (bodyPost P fn (postA w0 Hr R)) [] fr H :=
  WE.body he hres fun w hw => ⟨_, _, rfl, hR, hN, by simpa using hd w hw⟩
theorem WE.endDA0 {fn : Func} {e : Exit} {v : Value} {R : Value → Hp → Prop} {N : Hp} (he : e = .ret ∨ e = .normal) (hres : ∀ a w, Fits n [] fr a → St w0 H.flatten w → (results fn a.tmps).run P w = .ok v w) (hd : Drops w0 H [N]) (hN : ∀ b o, (b, o) ∈ N → w0.heap.size ≤ b) (hR : R v N) :
    WE n w0 e (bodyPost P fn (postA w0 [] R)) [] fr H :=
  WE.body he hres fun w hw => ⟨_, _, rfl, hR, hN, by simpa using hd w hw⟩
theorem oq_callv0 {f : FuncId} {y : Operand} {xs : Array Operand} {ts : Array TypeId} {vs : List Value} {v : Value} (hc : Fn0 P f vs v) (hf : Callable P f) (hy : ev fr y = some (.func (.func f) #[] #[])) (ha : evs fr xs.toList = some vs) :
    OQ P n w0 ⟨dst, .call ⟨.value y, xs, ts⟩, ty, pos, aft, g⟩ v ds fr H :=
  oq_callv (first := []) (cap := []) (by simpa using hc) hf hy ha
end
end Go.Proofs.YtodlhaghdplclaaDoor.V
