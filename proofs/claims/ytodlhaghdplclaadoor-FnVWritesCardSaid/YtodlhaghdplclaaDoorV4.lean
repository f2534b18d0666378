/- The engine, part 4: regions that draw their order: operations that compute come first, whatever their order; the others wait for one another. Over any program. -/
import Derived.Test.YtodlhaghdplclaaDoorV3
import Derived.OrdersHeld
namespace Go.Proofs.YtodlhaghdplclaaDoor.V
open Go Go.RowKit
set_option linter.unusedSimpArgs false
set_option linter.unusedVariables false

/-- a panic's post does not ask what the slots hold -/
def QOk (Q : Post) : Prop := ∀ c a d v w, Q (.panic c) (Act.put a d v) w → Q (.panic c) a w
theorem Act.put_defers' (a : Act) (d : Option Tmp) (v : Value) : (a.put d v).defers = a.defers := by cases d <;> rfl
theorem QOk.body {P : Program} {fn : Func} {R : Ending → World → Prop} : QOk (bodyPost P fn R) := fun c a d v w h => by
  obtain ⟨h1, h2⟩ := h
  exact ⟨by rw [Act.put_defers'] at h1; exact h1, h2⟩
theorem QOk.then {Q : Post} {k : Act → World → Prop} (h : QOk Q) : QOk (Exit.then k Q) := fun c a d v w hq => h c a d v w hq
theorem QOk.block {Q : Post} {id : Nat} (h : QOk Q) : QOk (Exit.inBlock id Q) := fun c a d v w hq => h c a d v w hq

/-- it hands a value on -/
def movish (o : Oper) : Bool := match o.op with
  | .move _ | .assign _ | .extract _ _ => true
  | _ => false
theorem mov_step {P : Program} {o : Oper} {a : Act} {w : World} {next : Act → World → Prop} {Q : Post} (hm : movish o = true) (h : o.wp P a w next Q ∨ (o.asks P a w ∧ LetsOut Q)) : ∃ v, (∀ w', (execOp a.eval o).run P w' = .ok (.value v) w') ∧ next (a.put o.dst v) w := by
  obtain ⟨dst, op, ty, pos, aft, g⟩ := o
  have key : ∀ v, (∀ w', (execOp a.eval ⟨dst, op, ty, pos, aft, g⟩).run P w' = .ok (.value v) w') → (⟨dst, op, ty, pos, aft, g⟩ : Oper).wp P a w next Q → next (a.put dst v) w := by
    intro v hv h
    unfold Oper.wp at h
    rw [hv w, Oper.upon_value] at h
    exact h
  cases op with
  | move x =>
    have hv : ∀ w', (execOp a.eval ⟨dst, .move x, ty, pos, aft, g⟩).run P w' = .ok (.value (a.eval x)) w' := fun w' => by simp [execOp]
    rcases h with h | ⟨h, _⟩
    · exact ⟨_, hv, key _ hv h⟩
    · exfalso; unfold Oper.asks at h; exact absurd (show noRoomEvent ∈ (#[] : Array Event) from h.1) (by simp)
  | assign x =>
    have hv : ∀ w', (execOp a.eval ⟨dst, .assign x, ty, pos, aft, g⟩).run P w' = .ok (.value (a.eval x)) w' := fun w' => by simp [execOp]
    rcases h with h | ⟨h, _⟩
    · exact ⟨_, hv, key _ hv h⟩
    · exfalso; unfold Oper.asks at h; exact absurd (show noRoomEvent ∈ (#[] : Array Event) from h.1) (by simp)
  | extract x i =>
    by_cases hx : ∃ v, Instr.extract (a.eval x) i = pure v
    · obtain ⟨v, hv⟩ := hx
      have hv' : ∀ w', (execOp a.eval ⟨dst, .extract x i, ty, pos, aft, g⟩).run P w' = .ok (.value v) w' := fun w' => by simp [execOp, hv]
      rcases h with h | ⟨h, _⟩
      · exact ⟨_, hv', key _ hv' h⟩
      · exfalso; unfold Oper.asks at h; simp only [execOp, hv] at h; exact absurd (show noRoomEvent ∈ (#[] : Array Event) from h.1) (by simp)
    · exfalso
      have hs : ∃ m, Instr.extract (a.eval x) i = stuck m := by
        unfold Instr.extract at hx ⊢
        split at hx
        · split at hx
          · exact absurd ⟨_, rfl⟩ hx
          · exact ⟨_, rfl⟩
        · exact ⟨_, rfl⟩
      obtain ⟨m, hs⟩ := hs
      rcases h with h | ⟨h, _⟩
      · unfold Oper.wp at h; simp [execOp, hs, stuck, Sem.run, Oper.upon] at h
      · unfold Oper.asks at h; simp only [execOp, hs] at h; exact absurd (show noRoomEvent ∈ (#[] : Array Event) from h.1) (by simp)
  | _ => cases hm
/-- first the operations qs, each free to come first; then the operations ts, each the only one that may come, or one that hands a value on and is free to come first -/
def orderT (ops : Array Oper) : List Nat → Array Bool → Bool
  | [], l => Region.ready .any ops l == []
  | t :: ts, l => ((Region.ready .any ops l == [t]) || ((ops[t]?).any movish && Region.free .any ops l t && (Region.ready .any ops l).contains t)) && orderT ops ts (l.setIfInBounds t true)
def orderB (ops : Array Oper) : List Nat → List Nat → Array Bool → Bool
  | [], ts, l => orderT ops ts l
  | q :: qs, ts, l => Region.free .any ops l q && (Region.ready .any ops l).contains q && orderB ops qs ts (l.setIfInBounds q true)

section
variable {P : Program} {n : Nat} {w0 : World} {ds : List Deferred} {fr : Fr} {H : List Hp} {ops : Array Oper} {Q : Post}

/-- the walk: computing operations, then the rest in its order -/
def qwp (P : Program) (ops : Array Oper) (Q : Post) : List Oper → List Oper → Act → World → Prop
  | [], tl, a, w => wpList P ops Q tl a w
  | o :: ql, tl, a, w => if Region.wanted o (yielded ops a.tmps) then ∃ v, (∀ w', (execOp a.eval o).run P w' = .ok (.value v) w') ∧ qwp P ops Q ql tl (a.put o.dst v) w else qwp P ops Q ql tl (a.put o.dst undef) w

def WX (P : Program) (n : Nat) (w0 : World) (ops : Array Oper) (Q : Post) (ql tl : List Oper) (ds : List Deferred) (fr : Fr) (H : List Hp) : Prop :=
  ∀ a w, Fits n ds fr a → St w0 H.flatten w → qwp P ops Q ql tl a w

theorem WX.q {o : Oper} {ql tl : List Oper} {v : Value} {d : Nat} (h : ∀ w0, OV P n w0 o v ds fr []) (hg : gd ops fr o = some true) (hd : o.dst = some d) (hn : Nat.blt d n = true) (hk : WX P n w0 ops Q ql tl ds ((d, v) :: fr) H) : WX P n w0 ops Q (o :: ql) tl ds fr H := by
  intro a w hf hw
  unfold qwp
  rw [gd_wanted hf hg, if_pos rfl]
  exact ⟨v, fun w' => h w' a w' hf (St.refl w'), hk _ _ (by rw [hd]; exact hf.put v hn) hw⟩
theorem WX.skip {o : Oper} {ql tl : List Oper} {d : Nat} (hg : gd ops fr o = some false) (hd : o.dst = some d) (hn : Nat.blt d n = true) (hk : WX P n w0 ops Q ql tl ds ((d, undef) :: fr) H) : WX P n w0 ops Q (o :: ql) tl ds fr H := by
  intro a w hf hw
  unfold qwp
  rw [gd_wanted hf hg, if_neg (by simp)]
  exact hk _ _ (by rw [hd]; exact hf.put undef hn) hw
theorem WX.nil {tl : List Oper} (h : WL P n w0 ops Q tl ds fr H) : WX P n w0 ops Q [] tl ds fr H := h
theorem WX.split {ql tl : List Oper} (d : Nat) {b : Bool} (hv : gt fr d = some (.bool b)) (ht : b = true → WX P n w0 ops Q ql tl ds ((d, .bool true) :: fr) H) (hf : b = false → WX P n w0 ops Q ql tl ds ((d, .bool false) :: fr) H) : WX P n w0 ops Q ql tl ds fr H := by
  intro a w hfit hw
  have key : ∀ c, b = c → Fits n ds ((d, .bool c) :: fr) a := fun c hc => ⟨hfit.size, hfit.defers, fun k v hk => by
    rw [gt_cons] at hk
    by_cases e : d = k
    · rw [if_pos e] at hk; rw [← Option.some.inj hk, ← hc, ← e]; exact hfit.get d _ hv
    · rw [if_neg e] at hk; exact hfit.get k v hk⟩
  cases hb : b with
  | true => exact ht hb a w (key true hb) hw
  | false => exact hf hb a w (key false hb) hw

theorem wpAnyH_of_qwp (hsel : Region.noSelect ops = true) (hQ : QOk Q) : ∀ (qs ts : List Nat) (ql tl : List Oper) (fuel : Nat) (listed : Array Bool) (a : Act) (w : World), qs.map (ops[·]?) = ql.map some → ts.map (ops[·]?) = tl.map some → orderB ops qs ts listed = true → qs.length + ts.length ≤ fuel →
    qwp P ops Q ql tl a w → wpAnyH P .any ops Q (fun _ => True) fuel listed a w := by
  intro qs
  induction qs with
  | nil =>
    intro ts
    induction ts with
    | nil =>
      intro ql tl fuel listed a w hq ht hB _ h
      have e1 : ql = [] := by cases ql with | nil => rfl | cons _ _ => simp at hq
      have e2 : tl = [] := by cases tl with | nil => rfl | cons _ _ => simp at ht
      subst e1; subst e2
      simp only [orderB, orderT, beq_iff_eq] at hB
      exact wpAnyH_done hB h fuel
    | cons t ts ih =>
      intro ql tl fuel listed a w hq ht hB hfuel h
      have e1 : ql = [] := by cases ql with | nil => rfl | cons _ _ => simp at hq
      subst e1
      cases tl with
      | nil => simp at ht
      | cons o tl =>
        simp only [List.map_cons, List.cons.injEq] at ht
        simp only [orderB, orderT, Bool.and_eq_true, Bool.or_eq_true, beq_iff_eq] at hB
        obtain ⟨fuel, rfl⟩ : ∃ f, fuel = f + 1 := ⟨fuel - 1, by simp at hfuel; omega⟩
        have h2 : wpList P ops Q (o :: tl) a w := h
        rcases hB with ⟨hB1 | ⟨⟨hmv, hfree⟩, hready⟩, hB2⟩
        case inr =>
          rw [ht.1] at hmv
          unfold wpList at h2
          by_cases hw : Region.wanted o (yielded ops a.tmps) = true
          · rw [if_pos hw] at h2
            obtain ⟨v, hv, hk⟩ := mov_step (by simpa using hmv) h2
            exact wpAnyH_take ht.1 hsel hfree hready (fun c a w => hQ c a _ v w) (.inl ⟨hw, fun w' _ => hv w'⟩) trivial (ih [] tl fuel _ _ w rfl ht.2 hB2 (by simp at hfuel ⊢; omega) hk)
          · rw [if_neg hw] at h2
            exact wpAnyH_take ht.1 hsel hfree hready (fun c a w => hQ c a _ undef w) (.inr ⟨by simpa using hw, rfl⟩) trivial (ih [] tl fuel _ _ w rfl ht.2 hB2 (by simp at hfuel ⊢; omega) h2)
        have hB : Region.ready .any ops listed = [t] ∧ orderT ops ts (listed.setIfInBounds t true) = true := ⟨hB1, hB2⟩
        refine wpAnyH_all hB.1 (by simp) fun i hi => ?_
        obtain rfl := List.mem_singleton.1 hi
        have h' : wpList P ops Q (o :: tl) a w := h
        unfold wpList at h'
        unfold wpOp
        rw [ht.1]
        show if Region.wanted o (yielded ops a.tmps) = true then _ else _
        have go : ∀ a' w', wpList P ops Q tl a' w' → True ∧ wpAnyH P .any ops Q (fun _ => True) fuel (listed.setIfInBounds i true) a' w' := fun a' w' hl => ⟨trivial, ih [] tl fuel _ a' w' rfl ht.2 hB.2 (by simp at hfuel ⊢; omega) hl⟩
        split
        · rename_i hw; rw [if_pos hw] at h'
          rcases h' with h' | h'
          · exact .inl (Oper.wp_mono go h')
          · exact .inr h'
        · rename_i hw; rw [if_neg hw] at h'; exact go _ _ h'
  | cons q qs ih =>
    intro ts ql tl fuel listed a w hq ht hB hfuel h
    cases ql with
    | nil => simp at hq
    | cons o ql =>
      simp only [List.map_cons, List.cons.injEq] at hq
      simp only [orderB, Bool.and_eq_true] at hB
      obtain ⟨fuel, rfl⟩ : ∃ f, fuel = f + 1 := ⟨fuel - 1, by simp at hfuel; omega⟩
      unfold qwp at h
      by_cases hw : Region.wanted o (yielded ops a.tmps) = true
      · rw [if_pos hw] at h
        obtain ⟨v, hv, hk⟩ := h
        exact wpAnyH_take hq.1 hsel hB.1.1 hB.1.2 (fun c a w => hQ c a _ v w) (.inl ⟨hw, fun w' _ => hv w'⟩) trivial (ih ts ql tl fuel _ _ w hq.2 ht hB.2 (by simp at hfuel; omega) hk)
      · rw [if_neg hw] at h
        exact wpAnyH_take hq.1 hsel hB.1.1 hB.1.2 (fun c a w => hQ c a _ undef w) (.inr ⟨by simpa using hw, rfl⟩) trivial (ih ts ql tl fuel _ _ w hq.2 ht hB.2 (by simp at hfuel; omega) h)

/-- A region that draws its order: ql first, then tl. -/
theorem WC.tail {id : Nat} {ol ql tl : List Oper} (qs ts : List Nat) (hm : P.follows .mixedOrders = true) (hsel : Region.noSelect ol.toArray = true) (hB : orderB ol.toArray qs ts (Array.replicate ol.toArray.size false) = true) (hl : qs.length + ts.length ≤ ol.toArray.size)
    (hq : qs.map (ol.toArray[·]?) = ql.map some) (ht : ts.map (ol.toArray[·]?) = tl.map some) (hQ : QOk Q) (h : WX P n w0 ol.toArray Q ql tl ds fr H) : WC P n w0 (.region id ol.toArray true) Q ds fr H :=
  fun a w hf hw => wp_region_held (S := fun _ => True) hm (wpAnyH_of_qwp hsel hQ qs ts ql tl _ _ _ _ hq ht hB hl (h _ _ hf (hw.drawn _)))
theorem WX.index_s {t : TypeId} {x y : Operand} {l : List UInt8} {k : IntKind} {i : Int} {d : Nat} {ql tl : List Oper} {ty : TypeId} {pos : String} {aft : Array Edge} {g : Option (Nat × Bool)} (ht : P.underlying t = some .string) (hx : ev fr x = some (S l)) (hy : ev fr y = some (.int k i)) (h : 0 ≤ i ∧ i < l.length) (hg : gd ops fr ⟨some d, .index t x y, ty, pos, aft, g⟩ = some true) (hn : Nat.blt d n = true)
    (hk : ∀ c, c = byteAt l i → 0 ≤ c → c < 256 → WX P n w0 ops Q ql tl ds ((d, .int .u8 c) :: fr) H) : WX P n w0 ops Q (⟨some d, .index t x y, ty, pos, aft, g⟩ :: ql) tl ds fr H :=
  WX.q (fun w0 => oq_index_s ht hx hy h) hg rfl hn (hk _ rfl (byteAt_lo _ _) (byteAt_hi _ _))

/-! ### A slice written out, of elements of one cell -/
theorem fill_seq (vs : List Value) (h1 : ∀ v ∈ vs, v.oneCell' = true) : ∀ (pre zs : List Value), zs.length = vs.length → Instr.fill (fun i => some (i * 1, 1)) (pre ++ zs).toArray ((vs.zipIdx pre.length).map fun (v, i) => (i, v)) = some (pre ++ vs).toArray := by
  induction vs with
  | nil => intro pre zs hz; have : zs = [] := List.eq_nil_of_length_eq_zero (by simpa using hz); subst this; simp [Instr.fill]
  | cons v vs ih =>
    intro pre zs hz
    cases zs with
    | nil => simp at hz
    | cons z zs =>
      have e1 := one_cells (h1 v (by simp))
      have ih' := ih (fun u hu => h1 u (by simp [hu])) (pre ++ [v]) zs (by simpa using hz)
      simp only [List.length_append, List.length_cons, List.length_nil, Nat.zero_add] at ih'
      simp only [List.zipIdx_cons, List.map_cons]
      simpa [Instr.fill, e1] using ih'

def evp (fr : Fr) : List (Nat × Operand) → Nat → Option (List Value)
  | [], _ => some []
  | (i, x) :: ps, k => bif Nat.beq i k then (match ev fr x, evp fr ps (k + 1) with | some v, some vs => some (v :: vs) | _, _ => none) else none

theorem evp_spec {a : Act} (hf : Fits n ds fr a) : ∀ (ps : List (Nat × Operand)) (k : Nat) (vs : List Value), evp fr ps k = some vs → (ps.map fun (i, x) => (i, a.eval x)) = ((vs.zipIdx k).map fun (v, i) => (i, v)) := by
  intro ps
  induction ps with
  | nil => intro k vs h; have := Option.some.inj h; subst this; rfl
  | cons p ps ih =>
    intro k vs h
    obtain ⟨i, x⟩ := p
    unfold evp at h
    cases hb : Nat.beq i k with
    | false => rw [hb] at h; cases h
    | true =>
      rw [hb] at h
      have hik : i = k := Nat.eq_of_beq_eq_true hb
      subst hik
      cases h1 : ev fr x with
      | none => simp [h1] at h
      | some v =>
        cases h2 : evp fr ps (i + 1) with
        | none => simp [h1, h2] at h
        | some vs' =>
          simp only [h1, h2, cond_true] at h
          have := Option.some.inj h
          subst this
          simp only [List.map_cons, List.zipIdx_cons, hf.eval h1, ih (i + 1) vs' h2]

theorem zeros_len (z : Array Value) (m : Nat) : ((Array.range m).map (z[· % z.size]!)).toList.length = m := by simp

theorem WL.buildL {t e : TypeId} {z : Value} {bytes m d : Nat} {parts : Array (Nat × Operand)} {vs : List Value} {rest : List Oper} {ty : TypeId} {pos : String} {aft : Array Edge} {g : Option (Nat × Bool)} (ht : P.underlying t = some (.slice e)) (hty : Ty P e z 1 bytes)
    (hp : evp fr parts.toList 0 = some vs) (hm : vs.length = m) (h0 : m ≠ 0) (hsm : m ≤ 16777216) (h1' : vs.all Value.oneCell' = true)
    (hg : gd ops fr ⟨some d, .buildSlice t m parts, ty, pos, aft, g⟩ = some true) (hn : Nat.blt d n = true)
    (hk : ∀ v A, OwS w0.heap.size e 1 v A m vs → v ≠ .slice none 0 0 → WL P n w0 ops Q rest ds ((d, v) :: fr) (A :: H)) : WL P n w0 ops Q (⟨some d, .buildSlice t m parts, ty, pos, aft, g⟩ :: rest) ds fr H := by
  have h1 : ∀ v ∈ vs, v.oneCell' = true := fun v hv => List.all_eq_true.1 h1' v hv
  refine WL.buildSlice (vs := (vs.zipIdx 0).map fun (v, i) => (i, v)) (cells := vs.toArray) ht hty (fun a hf => ?_) (by omega) (by omega) ?_ hg hn fun b hb => ?_
  · have := evp_spec hf parts.toList 0 vs hp
    rw [← this]; simp
  · have := fill_seq vs h1 [] ((Array.range (m * 1)).map (z.cells[· % z.cells.size]!)).toList (by rw [zeros_len]; omega)
    simp only [List.nil_append, List.length_nil] at this
    rw [Array.toArray_toList] at this
    exact this
  · refine hk _ _ ⟨by omega, .inr ⟨b, m, vs.toArray, rfl, rfl, hb, Nat.le_refl _, by unfold maxLen; omega, by simp [hm], ?_⟩⟩ (by simp)
    simp [← hm]

/-! ### Calls of function values -/
theorem run_enterv {f : FuncId} {y : Operand} {xs : Array Operand} {ts : Array TypeId} {first vs cap : List Value} {dst : Option Tmp} {ty : TypeId} {pos : String} {aft : Array Edge} {g : Option (Nat × Bool)} (hf : Callable P f) (hy : ev fr y = some (.func (.func f) first.toArray cap.toArray)) (ha : evs fr xs.toList = some vs) {a : Act} (hfit : Fits n ds fr a) (w : World) :
    (execOp a.eval ⟨dst, .call ⟨.value y, xs, ts⟩, ty, pos, aft, g⟩).run P w = .ok (.enter f (first ++ vs ++ cap).toArray) w := by
  obtain ⟨fn, hf, hb, hnm⟩ := hf
  have e := hfit.evalsA ha
  simp only [execOp, resolve, hfit.eval hy, Deferred.ofValue, Sem.run_bind, e]
  simp only [invoke, callFunc, Sem.run_bind, run_program, Result.andThen_ok, Sem.run_pure, hf, hnm, hb, Bool.false_eq_true, ↓reduceIte, List.append_toArray]

theorem oq_callv {f : FuncId} {y : Operand} {xs : Array Operand} {ts : Array TypeId} {first vs cap : List Value} {v : Value} {dst : Option Tmp} {ty : TypeId} {pos : String} {aft : Array Edge} {g : Option (Nat × Bool)} (hc : Fn0 P f (first ++ vs ++ cap) v) (hf : Callable P f) (hy : ev fr y = some (.func (.func f) first.toArray cap.toArray)) (ha : evs fr xs.toList = some vs) :
    OQ P n w0 ⟨dst, .call ⟨.value y, xs, ts⟩, ty, pos, aft, g⟩ v ds fr H := by
  intro a hfit w hw
  unfold Oper.quietAt
  rw [run_enterv hf hy ha hfit w]
  exact ⟨rfl, (hc w).mono fun e w' h => ⟨h.1, hw.pure h.2⟩⟩
end
end Go.Proofs.YtodlhaghdplclaaDoor.V
