/- The engine, part 2: memory. Over any program. -/
import Derived.Test.YtodlhaghdplclaaDoorV1
namespace Go.Proofs.YtodlhaghdplclaaDoor.V
open Go Go.RowKit
set_option linter.unusedSimpArgs false

abbrev Pt (b off : Nat) : Value := .pointer (some ⟨b, off, none⟩)

/-! ### Worlds -/
theorem St.alloc {w0 w : World} {H : Hp} (h : St w0 H w) (o : Obj) : St w0 ((w.heap.size, o) :: H) (w.alloc o) := by
  refine ⟨h.os, h.tape, h.output, by simp; have := h.size; omega, fun k hk hno => ?_, fun b o' hb => ?_, ?_⟩
  · rw [Below.heap_alloc w o k (Nat.lt_of_lt_of_le hk h.size)]
    exact h.old k hk fun o' ho' => hno o' (List.mem_cons_of_mem _ ho')
  · rcases List.mem_cons.1 hb with e | e
    · injection e with e1 e2
      subst e1; subst e2
      show (w.heap.push o')[w.heap.size]? = _
      simp
    · rw [Below.heap_alloc w o b (h.lt e)]
      exact h.now b o' e
  · rw [List.map_cons, List.nodup_cons]
    refine ⟨fun hm => ?_, h.nodup⟩
    obtain ⟨⟨b, o'⟩, hb, e⟩ := List.mem_map.1 hm
    have := h.lt hb
    simp only at e
    omega

theorem St.upd {w0 w w' : World} {H : Hp} {b : Nat} {o o' : Obj} (h : St w0 ((b, o) :: H) w) (hos : w'.os = w.os) (htape : w'.tape = w.tape) (hout : w'.output = w.output) (hsize : w'.heap.size = w.heap.size)
    (hb : w'.heap[b]? = some o') (hother : ∀ k, k ≠ b → w'.heap[k]? = w.heap[k]?) : St w0 ((b, o') :: H) w' := by
  have hnd := h.nodup
  rw [List.map_cons, List.nodup_cons] at hnd
  refine ⟨hos.trans h.os, htape.trans h.tape, hout.trans h.output, by rw [hsize]; exact h.size, fun k hk hno => ?_, fun b' o2 hb' => ?_, ?_⟩
  · have hkb : k ≠ b := fun e => hno o' (by rw [e]; exact List.mem_cons_self)
    rw [hother k hkb]
    refine h.old k hk fun o2 ho2 => ?_
    rcases List.mem_cons.1 ho2 with e | e
    · injection e with e1 e2; exact hkb e1
    · exact hno o2 (List.mem_cons_of_mem _ e)
  · rcases List.mem_cons.1 hb' with e | e
    · injection e with e1 e2; rw [e1, e2]; exact hb
    · have hne : b' ≠ b := fun e2 => hnd.1 (by rw [← e2]; exact List.mem_map.2 ⟨_, e, rfl⟩)
      rw [hother b' hne]
      exact h.now b' o2 (List.mem_cons_of_mem _ e)
  · rw [List.map_cons, List.nodup_cons]; exact hnd

theorem cell_at {w : World} {b off : Nat} {c : Array Value} {e : TypeId} {fz : Nat × Nat} (h : w.heap[b]? = some (.cells c e fz)) : w.cell? ⟨b, off, none⟩ = c[off]? := by
  simp [World.cell?, h]

/-! ### What the program says of its types -/
/-- The zero value, the cells and the bytes of a type. -/
def Ty (P : Program) (e : TypeId) (z : Value) (size bytes : Nat) : Prop := ∃ i, P.info? e = some i ∧ i.zero = some z ∧ i.size = size ∧ i.bytes = bytes
theorem ty_of {P : Program} {e : TypeId} {z : Value} {size bytes : Nat} (h : (P.info? e).map (fun i => (i.zero, i.size, i.bytes)) = some (some z, size, bytes)) : Ty P e z size bytes := by
  cases hi : P.info? e with
  | none => rw [hi] at h; cases h
  | some i => rw [hi] at h; simp at h; exact ⟨i, hi, h.1, h.2.1, h.2.2⟩
/-- no struct and no array -/
def Flat (P : Program) (t : TypeId) : Prop := ∃ d, P.underlying t = some d ∧ (match d with | .struct _ | .array _ _ => True | _ => False) = False
/-- field i of struct s lies at cell off; its type -/
def Fld (P : Program) (s i off : Nat) (t : TypeId) : Prop := ∃ fields f inf, P.underlying s = some (.struct fields) ∧ fields[i]? = some f ∧ f.offset = off ∧ f.type = t ∧ P.info? t = some inf ∧ inf.size ≠ 0

section
variable {P : Program} {n : Nat} {w0 : World} {ds : List Deferred} {fr : Fr} {H : List Hp} {dst : Option Tmp} {ty : TypeId} {pos : String} {aft : Array Edge} {g : Option (Nat × Bool)}
variable {ops : Array Oper} {Q : Post} {rest : List Oper} {d : Nat}

theorem run_flat {t : TypeId} (h : Flat P t) (w : World) : (isAgg t).run P w = .ok false w := by
  obtain ⟨d, hd, hx⟩ := h
  cases d <;> simp_all [isAgg, run_underlying hd]

/-! ### New blocks -/
theorem WL.new {o : Oper} {v : Nat → Value} {obj : Obj} (hrun : ∀ a w, Fits n ds fr a → St w0 H.flatten w → (execOp a.eval o).run P w = .ok (.value (v w.heap.size)) (w.alloc obj)) (hg : gd ops fr o = some true) (hd : o.dst = some d) (hn : Nat.blt d n = true)
    (hk : ∀ b, w0.heap.size ≤ b → WL P n w0 ops Q rest ds ((d, v b) :: fr) ([(b, obj)] :: H)) : WL P n w0 ops Q (o :: rest) ds fr H := by
  intro a w hf hw
  unfold wpList
  rw [gd_wanted hf hg, if_pos rfl]
  left
  unfold Oper.wp
  rw [hrun a w hf hw, Oper.upon_value, hd]
  exact hk w.heap.size hw.size _ _ (hf.put _ hn) (by simpa using hw.alloc obj)

/-- a variable of its own, at its zero value -/
theorem WL.alloc {e : TypeId} {z : Value} {size bytes : Nat} (ht : Ty P e z size bytes) (hg : gd ops fr ⟨some d, .alloc e, ty, pos, aft, g⟩ = some true) (hn : Nat.blt d n = true)
    (hk : ∀ b, w0.heap.size ≤ b → WL P n w0 ops Q rest ds ((d, Pt b 0) :: fr) ([(b, .cells z.cells e (0, 0))] :: H)) : WL P n w0 ops Q (⟨some d, .alloc e, ty, pos, aft, g⟩ :: rest) ds fr H :=
  WL.new (v := fun b => Pt b 0) (fun a w _ _ => by
    obtain ⟨i, hi, hz, _⟩ := ht
    simp [execOp, Instr.alloc, zeroValue, typeInfo, hi, hz, newVar, newRow]) hg rfl hn hk

theorem WL.box {e : TypeId} {x : Operand} {v : Value} (hx : ev fr x = some v) (hg : gd ops fr ⟨some d, .box e x, ty, pos, aft, g⟩ = some true) (hn : Nat.blt d n = true)
    (hk : ∀ b, w0.heap.size ≤ b → WL P n w0 ops Q rest ds ((d, Pt b 0) :: fr) ([(b, .cells v.cells e (0, 0))] :: H)) : WL P n w0 ops Q (⟨some d, .box e x, ty, pos, aft, g⟩ :: rest) ds fr H :=
  WL.new (v := fun b => Pt b 0) (fun a w hf _ => by simp [execOp, Instr.box, hf.eval hx, newVar, newRow]) hg rfl hn hk

theorem WL.range_s {t : TypeId} {x : Operand} {l : List UInt8} (ht : P.underlying t = some .string) (hx : ev fr x = some (S l)) (hg : gd ops fr ⟨some d, .range t x, ty, pos, aft, g⟩ = some true) (hn : Nat.blt d n = true)
    (hk : ∀ b, w0.heap.size ≤ b → WL P n w0 ops Q rest ds ((d, Pt b 0) :: fr) ([(b, .stringIter ⟨⟨l⟩⟩ 0)] :: H)) : WL P n w0 ops Q (⟨some d, .range t x, ty, pos, aft, g⟩ :: rest) ds fr H :=
  WL.new (v := fun b => Pt b 0) (fun a w hf _ => by simp [execOp, Instr.range, hf.eval hx, run_underlying ht]) hg rfl hn hk

/-- a slice that is written out -/
theorem WL.buildSlice {t e : TypeId} {z : Value} {size bytes len : Nat} {parts : Array (Nat × Operand)} {vs : List (Nat × Value)} {cells : Array Value} (ht : P.underlying t = some (.slice e)) (hty : Ty P e z size bytes)
    (hp : ∀ a, Fits n ds fr a → (parts.map fun (i, x) => (i, a.eval x)).toList = vs) (hsm : len * size ≤ 16777216) (h0 : len * size ≠ 0)
    (hfill : Instr.fill (fun i => some (i * size, size)) ((Array.range (len * size)).map (z.cells[· % z.cells.size]!)) vs = some cells)
    (hg : gd ops fr ⟨some d, .buildSlice t len parts, ty, pos, aft, g⟩ = some true) (hn : Nat.blt d n = true)
    (hk : ∀ b, w0.heap.size ≤ b → WL P n w0 ops Q rest ds ((d, .slice (some ⟨b, 0, none⟩) len len) :: fr) ([(b, .cells cells e (0, 0))] :: H)) : WL P n w0 ops Q (⟨some d, .buildSlice t len parts, ty, pos, aft, g⟩ :: rest) ds fr H :=
  WL.new (v := fun b => .slice (some ⟨b, 0, none⟩) len len) (fun a w hf _ => by
    obtain ⟨i, hi, hz, hs, _⟩ := hty
    have e1 := hp a hf
    have e2 : ¬ (len * size > 2 ^ 24) := by omega
    simp only [execOp, Instr.buildSlice, Sem.run_bind, run_underlying ht, Result.andThen_ok, sizeOf, typeInfo, run_program, hi, Sem.run_pure, hs, e2, if_false, h0, zeroValue, hz, e1, hfill, newRow, run_newObj]
    rfl) hg rfl hn hk

/-! ### Loads and addresses -/
theorem mem_flat {A : Hp} (hA : A ∈ H) {b : Nat} {o : Obj} (hb : (b, o) ∈ A) : (b, o) ∈ H.flatten := List.mem_flatten.2 ⟨A, hA, hb⟩

theorem oq_load {t : TypeId} {x : Operand} {b off : Nat} {c : Array Value} {e : TypeId} {fz : Nat × Nat} {v : Value} {A : Hp} (ht : Flat P t) (hx : ev fr x = some (Pt b off)) (hA : A ∈ H) (hb : (b, .cells c e fz) ∈ A) (hv : c[off]? = some v) :
    OV P n w0 ⟨dst, .load t x, ty, pos, aft, g⟩ v ds fr H :=
  oq_of_run fun a w hf hw => by
    have h1 := hw.now b _ (mem_flat hA hb)
    have h2 : w.cell? ⟨b, off, none⟩ = some v := by rw [cell_at h1, hv]
    simp [execOp, hf.eval hx, Instr.loadAt, Instr.sureAddr, loadVar, run_flat ht, h2]

theorem add_none (b off k : Nat) : (⟨b, off, none⟩ : Addr).add k = ⟨b, off + k, none⟩ := by
  unfold Addr.add; split <;> simp_all

theorem run_loadCells {w : World} {b off : Nat} {c : Array Value} {e : TypeId} {fz : Nat × Nat} (h : w.heap[b]? = some (.cells c e fz)) (vs : List Value) (hv : ∀ j u, vs[j]? = some u → c[off + j]? = some u) : (loadCells ⟨b, off, none⟩ vs.length).run P w = .ok vs.toArray w :=
  run_loadCells_list w _ vs fun j u hu => by rw [add_none, cell_at h]; exact hv j u hu

theorem oq_loadAgg {t : TypeId} {x : Operand} {b off : Nat} {c : Array Value} {e : TypeId} {fz : Nat × Nat} {vs : List Value} {A : Hp} {z : Value} {bytes : Nat} (hag : ∀ w, (isAgg t).run P w = .ok true w) (hty : Ty P t z vs.length bytes) (hx : ev fr x = some (Pt b off)) (hA : A ∈ H) (hb : (b, .cells c e fz) ∈ A) (hv : ∀ j u, vs[j]? = some u → c[off + j]? = some u) :
    OV P n w0 ⟨dst, .load t x, ty, pos, aft, g⟩ (.agg vs.toArray) ds fr H :=
  oq_of_run fun a w hf hw => by
    have h1 := hw.now b _ (mem_flat hA hb)
    obtain ⟨i, hi, _, hs, _⟩ := hty
    simp [execOp, hf.eval hx, Instr.loadAt, Instr.sureAddr, loadVar, hag, sizeOf, typeInfo, hi, hs, run_loadCells h1 vs hv]

theorem oq_fieldAddr {s i off : Nat} {t : TypeId} {x : Operand} {b o : Nat} (hf : Fld P s i off t) (hx : ev fr x = some (Pt b o)) : OV P n w0 ⟨dst, .fieldAddr s x i, ty, pos, aft, g⟩ (Pt b (o + off)) ds fr H :=
  oq_of_run fun a w hfit _ => by
    obtain ⟨fields, f, inf, h1, h2, h3, h4, h5, h6⟩ := hf
    subst h3; subst h4
    simp [execOp, hfit.eval hx, Instr.fieldAt, Instr.sureAddr, run_underlying h1, h2, fieldPlace, sizeOf, typeInfo, h5, h6, add_none]

theorem oq_nilCheck {x : Operand} {p : Addr} (hx : ev fr x = some (.pointer (some p))) : OV P n w0 ⟨dst, .nilCheck x, ty, pos, aft, g⟩ (.pointer (some p)) ds fr H :=
  oq_of_run fun a w hf _ => by simp [execOp, hf.eval hx]

/-! ### Stores -/
theorem heap_setCell_same {w : World} {b off : Nat} {c : Array Value} {e : TypeId} {fz : Nat × Nat} (h : w.heap[b]? = some (.cells c e fz)) (v : Value) : (w.setCell ⟨b, off, none⟩ v).heap[b]? = some (.cells (c.setIfInBounds off v) e fz) := by
  simp [World.setCell, Array.getElem?_modify, h]

theorem St.setCell {w0 w : World} {H : Hp} {b off : Nat} {c : Array Value} {e : TypeId} {fz : Nat × Nat} (h : St w0 ((b, .cells c e fz) :: H) w) (v : Value) : St w0 ((b, .cells (c.setIfInBounds off v) e fz) :: H) (w.setCell ⟨b, off, none⟩ v) :=
  h.upd rfl rfl rfl (by simp [World.setCell]) (heap_setCell_same (h.now b _ List.mem_cons_self) v) (fun k hk => Below.heap_setCell w _ v k hk)

theorem run_store_at {w : World} {b off : Nat} {c : Array Value} {e : TypeId} {fz : Nat × Nat} {v : Value} (h : w.heap[b]? = some (.cells c e fz)) (hc : off < c.size) (h1 : v.oneCell' = true) (hfz : ¬ (fz.1 ≤ off ∧ off < fz.2)) : (store ⟨b, off, none⟩ v).run P w = .ok () (w.setCell ⟨b, off, none⟩ v) := by
  have h2 : w.cell? ⟨b, off, none⟩ = some c[off] := by rw [cell_at h]; simp [hc]
  have h3 : w.frozen? ⟨b, off, none⟩ = false := by
    obtain ⟨lo, hi⟩ := fz
    simp only [World.frozen?, h]
    simp only at hfz
    simpa using hfz
  rw [run_store P w _ v _ h1, h2]
  simp [h3]

theorem one_cells {v : Value} (h : v.oneCell' = true) : v.cells = #[v] := by
  cases v <;> simp_all [Value.oneCell', Value.cells]

/-- one cell of the first group's only block is written -/
theorem WL.store {t : TypeId} {x y : Operand} {b off : Nat} {c : Array Value} {e : TypeId} {fz : Nat × Nat} {v z : Value} {bytes : Nat} (hty : Ty P t z 1 bytes) (hx : ev fr x = some (Pt b off)) (hy : ev fr y = some v) (h1 : v.oneCell' = true) (hc : off < c.size) (hfz : ¬ (fz.1 ≤ off ∧ off < fz.2))
    (hg : gd ops fr ⟨none, .store t x y, ty, pos, aft, g⟩ = some true)
    (hk : WL P n w0 ops Q rest ds fr ([(b, .cells (c.setIfInBounds off v) e fz)] :: H)) : WL P n w0 ops Q (⟨none, .store t x y, ty, pos, aft, g⟩ :: rest) ds fr ([(b, .cells c e fz)] :: H) := by
  intro a w hf hw
  have hw' : St w0 ((b, .cells c e fz) :: H.flatten) w := by simpa using hw
  unfold wpList
  rw [gd_wanted hf hg, if_pos rfl]
  left
  unfold Oper.wp
  obtain ⟨i, hi, _, hs, _⟩ := hty
  have hrun : (execOp a.eval ⟨none, .store t x y, ty, pos, aft, g⟩).run P w = .ok .skip (w.setCell ⟨b, off, none⟩ v) := by
    have := run_store_at (P := P) (hw'.now b _ List.mem_cons_self) hc h1 hfz
    simp [execOp, hf.eval hx, hf.eval hy, Instr.storeAt, Instr.sureAddr, storeVar, one_cells h1, sizeOf, typeInfo, hi, hs, storeCells, add_none, this]
  rw [hrun, Oper.upon_skip]
  exact hk _ _ hf (by simpa using hw'.setCell v)

/-- cells from 'off' on -/
def putCells (c : Array Value) (off : Nat) : List Value → Array Value
  | [] => c
  | v :: vs => putCells (c.setIfInBounds off v) (off + 1) vs

theorem size_putCells (vs : List Value) : ∀ (c : Array Value) (off : Nat), (putCells c off vs).size = c.size := by
  induction vs with
  | nil => intro c off; rfl
  | cons v vs ih => intro c off; rw [putCells, ih]; simp

theorem run_storeCells_st {w0 : World} {R : Hp} {b : Nat} {e : TypeId} {fz : Nat × Nat} (vs : List Value) : ∀ (k off : Nat) (c : Array Value) (w : World), St w0 ((b, .cells c e fz) :: R) w → off + k + vs.length ≤ c.size → (∀ v ∈ vs, v.oneCell' = true) → (∀ j, off + k ≤ j → j < off + k + vs.length → ¬ (fz.1 ≤ j ∧ j < fz.2)) →
    ∃ w', (storeCells ⟨b, off, none⟩ vs k).run P w = .ok () w' ∧ St w0 ((b, .cells (putCells c (off + k) vs) e fz) :: R) w' := by
  induction vs with
  | nil => intro k off c w hw _ _ _; exact ⟨w, by simp [storeCells], hw⟩
  | cons v vs ih =>
    intro k off c w hw hl h1 hfz
    have hl' : off + k + vs.length + 1 ≤ c.size := by simpa [Nat.add_assoc] using hl
    have hs := run_store_at (P := P) (hw.now b _ List.mem_cons_self) (off := off + k) (by omega) (h1 v (by simp)) (hfz (off + k) (by omega) (by simp))
    obtain ⟨w', hr, hst⟩ := ih (k + 1) off _ _ (hw.setCell (off := off + k) v) (by simp; omega) (fun u hu => h1 u (by simp [hu])) (fun j hj1 hj2 => hfz j (by omega) (by simp; omega))
    refine ⟨w', ?_, hst⟩
    simp [storeCells, add_none, hs, hr]

/-- several cells of the first group's only block are written -/
theorem WL.storeAgg {t : TypeId} {x y : Operand} {b off : Nat} {c : Array Value} {e : TypeId} {fz : Nat × Nat} {v z : Value} {size bytes : Nat} (hty : Ty P t z size bytes) (hx : ev fr x = some (Pt b off)) (hy : ev fr y = some v) (hsz : v.cells.size = size) (h1 : ∀ u ∈ v.cells.toList, u.oneCell' = true) (hc : off + size ≤ c.size) (hfz : fz = (0, 0))
    (hg : gd ops fr ⟨none, .store t x y, ty, pos, aft, g⟩ = some true)
    (hk : WL P n w0 ops Q rest ds fr ([(b, .cells (putCells c off v.cells.toList) e fz)] :: H)) : WL P n w0 ops Q (⟨none, .store t x y, ty, pos, aft, g⟩ :: rest) ds fr ([(b, .cells c e fz)] :: H) := by
  intro a w hf hw
  have hw' : St w0 ((b, .cells c e fz) :: H.flatten) w := by simpa using hw
  unfold wpList
  rw [gd_wanted hf hg, if_pos rfl]
  left
  unfold Oper.wp
  obtain ⟨i, hi, _, hs, _⟩ := hty
  obtain ⟨w', hr, hst⟩ := run_storeCells_st (P := P) v.cells.toList 0 off c w hw' (by simp; omega) h1 (fun j _ _ => by subst hfz; simp)
  have hrun : (execOp a.eval ⟨none, .store t x y, ty, pos, aft, g⟩).run P w = .ok .skip w' := by
    have hne : ¬ (v.cells.size ≠ size) := by simp [hsz]
    simp only [execOp, hf.eval hx, hf.eval hy, Instr.storeAt, Instr.sureAddr, storeVar, Sem.run_bind, Result.andThen_ok, sizeOf, typeInfo, run_program, hi, Sem.run_pure, hs, hne, if_false]
    rw [hr]; rfl
  rw [hrun, Oper.upon_skip]
  exact hk _ _ hf (by simpa using hst)

/-! ### Which group comes first -/
theorem WL.f1 {a b : Hp} {r : List Hp} {l : List Oper} (h : WL P n w0 ops Q l ds fr (b :: a :: r)) : WL P n w0 ops Q l ds fr (a :: b :: r) := h.perm (List.Perm.swap _ _ _)
theorem WL.f2 {a b c : Hp} {r : List Hp} {l : List Oper} (h : WL P n w0 ops Q l ds fr (c :: a :: b :: r)) : WL P n w0 ops Q l ds fr (a :: b :: c :: r) := h.perm (List.perm_middle (l₁ := [a, b]) (l₂ := r))
theorem WL.f3 {a b c d' : Hp} {r : List Hp} {l : List Oper} (h : WL P n w0 ops Q l ds fr (d' :: a :: b :: c :: r)) : WL P n w0 ops Q l ds fr (a :: b :: c :: d' :: r) := h.perm (List.perm_middle (l₁ := [a, b, c]) (l₂ := r))
theorem WL.f4 {a b c d' e : Hp} {r : List Hp} {l : List Oper} (h : WL P n w0 ops Q l ds fr (e :: a :: b :: c :: d' :: r)) : WL P n w0 ops Q l ds fr (a :: b :: c :: d' :: e :: r) := h.perm (List.perm_middle (l₁ := [a, b, c, d']) (l₂ := r))
/-- the first group goes behind the second, .. -/
theorem WL.b2 {a b c : Hp} {r : List Hp} {l : List Oper} (h : WL P n w0 ops Q l ds fr (b :: c :: a :: r)) : WL P n w0 ops Q l ds fr (a :: b :: c :: r) := h.perm (List.perm_middle (l₁ := [b, c]) (l₂ := r)).symm
theorem WL.b3 {a b c d' : Hp} {r : List Hp} {l : List Oper} (h : WL P n w0 ops Q l ds fr (b :: c :: d' :: a :: r)) : WL P n w0 ops Q l ds fr (a :: b :: c :: d' :: r) := h.perm (List.perm_middle (l₁ := [b, c, d']) (l₂ := r)).symm
theorem WC.f1 {a b : Hp} {r : List Hp} {k : Code} (h : WC P n w0 k Q ds fr (b :: a :: r)) : WC P n w0 k Q ds fr (a :: b :: r) := h.perm (List.Perm.swap _ _ _)
theorem WC.f2 {a b c : Hp} {r : List Hp} {k : Code} (h : WC P n w0 k Q ds fr (c :: a :: b :: r)) : WC P n w0 k Q ds fr (a :: b :: c :: r) := h.perm (List.perm_middle (l₁ := [a, b]) (l₂ := r))
theorem WC.b2 {a b c : Hp} {r : List Hp} {k : Code} (h : WC P n w0 k Q ds fr (b :: c :: a :: r)) : WC P n w0 k Q ds fr (a :: b :: c :: r) := h.perm (List.perm_middle (l₁ := [b, c]) (l₂ := r)).symm
theorem WE.f1 {e : Exit} {a b : Hp} {r : List Hp} (h : WE n w0 e Q ds fr (b :: a :: r)) : WE n w0 e Q ds fr (a :: b :: r) := h.perm (List.Perm.swap _ _ _)
theorem WE.f2 {e : Exit} {a b c : Hp} {r : List Hp} (h : WE n w0 e Q ds fr (c :: a :: b :: r)) : WE n w0 e Q ds fr (a :: b :: c :: r) := h.perm (List.perm_middle (l₁ := [a, b]) (l₂ := r))
theorem WE.b2 {e : Exit} {a b c : Hp} {r : List Hp} (h : WE n w0 e Q ds fr (b :: c :: a :: r)) : WE n w0 e Q ds fr (a :: b :: c :: r) := h.perm (List.perm_middle (l₁ := [b, c]) (l₂ := r)).symm

theorem WC.f3 {a b c d' : Hp} {r : List Hp} {k : Code} (h : WC P n w0 k Q ds fr (d' :: a :: b :: c :: r)) : WC P n w0 k Q ds fr (a :: b :: c :: d' :: r) := h.perm (List.perm_middle (l₁ := [a, b, c]) (l₂ := r))
theorem WC.f4 {a b c d' e : Hp} {r : List Hp} {k : Code} (h : WC P n w0 k Q ds fr (e :: a :: b :: c :: d' :: r)) : WC P n w0 k Q ds fr (a :: b :: c :: d' :: e :: r) := h.perm (List.perm_middle (l₁ := [a, b, c, d']) (l₂ := r))
theorem WE.f3 {e : Exit} {a b c d' : Hp} {r : List Hp} (h : WE n w0 e Q ds fr (d' :: a :: b :: c :: r)) : WE n w0 e Q ds fr (a :: b :: c :: d' :: r) := h.perm (List.perm_middle (l₁ := [a, b, c]) (l₂ := r))
theorem WE.f4 {e : Exit} {a b c d' f : Hp} {r : List Hp} (h : WE n w0 e Q ds fr (f :: a :: b :: c :: d' :: r)) : WE n w0 e Q ds fr (a :: b :: c :: d' :: f :: r) := h.perm (List.perm_middle (l₁ := [a, b, c, d']) (l₂ := r))

/-- a new block need not be told any more -/
theorem WL.lose {l : List Oper} {b : Nat} {o : Obj} (hb : w0.heap.size ≤ b) (h : WL P n w0 ops Q l ds fr H) : WL P n w0 ops Q l ds fr ([(b, o)] :: H) :=
  h.drop fun b' o' hm => by simp at hm; left; omega
theorem WC.lose {k : Code} {b : Nat} {o : Obj} (hb : w0.heap.size ≤ b) (h : WC P n w0 k Q ds fr H) : WC P n w0 k Q ds fr ([(b, o)] :: H) :=
  h.drop fun b' o' hm => by simp at hm; left; omega
theorem WE.lose {e : Exit} {b : Nat} {o : Obj} (hb : w0.heap.size ≤ b) (h : WE n w0 e Q ds fr H) : WE n w0 e Q ds fr ([(b, o)] :: H) :=
  h.drop fun b' o' hm => by simp at hm; left; omega
theorem WC.forget {k : Code} {N : Hp} (hN : ∀ b o, (b, o) ∈ N → w0.heap.size ≤ b) (h : WC P n w0 k Q ds fr H) : WC P n w0 k Q ds fr (N :: H) := h.drop fun b o hb => .inl (hN b o hb)
theorem WL.forget {l : List Oper} {N : Hp} (hN : ∀ b o, (b, o) ∈ N → w0.heap.size ≤ b) (h : WL P n w0 ops Q l ds fr H) : WL P n w0 ops Q l ds fr (N :: H) := h.drop fun b o hb => .inl (hN b o hb)
theorem WE.forget {e : Exit} {N : Hp} (hN : ∀ b o, (b, o) ∈ N → w0.heap.size ≤ b) (h : WE n w0 e Q ds fr H) : WE n w0 e Q ds fr (N :: H) := h.drop fun b o hb => .inl (hN b o hb)
/-- an empty group comes and goes -/
theorem WL.nil0 {l : List Oper} (h : WL P n w0 ops Q l ds fr H) : WL P n w0 ops Q l ds fr ([] :: H) := h.drop fun _ _ hm => by cases hm
theorem WC.nil0 {k : Code} (h : WC P n w0 k Q ds fr H) : WC P n w0 k Q ds fr ([] :: H) := h.drop fun _ _ hm => by cases hm
theorem WE.nil0 {e : Exit} (h : WE n w0 e Q ds fr H) : WE n w0 e Q ds fr ([] :: H) := h.drop fun _ _ hm => by cases hm
theorem WL.add0 {l : List Oper} (h : WL P n w0 ops Q l ds fr ([] :: H)) : WL P n w0 ops Q l ds fr H := fun a w hf hw => h a w hf (by simpa using hw)
theorem WC.add0 {k : Code} (h : WC P n w0 k Q ds fr ([] :: H)) : WC P n w0 k Q ds fr H := fun a w hf hw => h a w hf (by simpa using hw)
theorem WE.add0 {e : Exit} (h : WE n w0 e Q ds fr ([] :: H)) : WE n w0 e Q ds fr H := fun a w hf hw => h a w hf (by simpa using hw)

/-! ### A range over a string -/
/-- the character at a place and its width -/
def decAt (l : List UInt8) (i : Nat) : Nat × Nat := Utf8.decode ⟨⟨l⟩⟩ i
theorem WL.next_s {x : Operand} {b i : Nat} {l : List UInt8} (hx : ev fr x = some (Pt b 0)) (hg : gd ops fr ⟨some d, .next x true, ty, pos, aft, g⟩ = some true) (hn : Nat.blt d n = true)
    (ht : i < l.length → WL P n w0 ops Q rest ds ((d, .tuple #[.bool true, I (i : Int), .int .i32 ((decAt l i).1 : Int)]) :: fr) ([(b, .stringIter ⟨⟨l⟩⟩ (i + (decAt l i).2))] :: H))
    (hf : l.length ≤ i → WL P n w0 ops Q rest ds ((d, .tuple #[.bool false]) :: fr) ([(b, .stringIter ⟨⟨l⟩⟩ i)] :: H)) :
    WL P n w0 ops Q (⟨some d, .next x true, ty, pos, aft, g⟩ :: rest) ds fr ([(b, .stringIter ⟨⟨l⟩⟩ i)] :: H) := by
  intro a w hfit hw
  have hw' : St w0 ((b, .stringIter ⟨⟨l⟩⟩ i) :: H.flatten) w := by simpa using hw
  have hb := hw'.now b _ List.mem_cons_self
  unfold wpList
  rw [gd_wanted hfit hg, if_pos rfl]
  left
  unfold Oper.wp
  have hlt : b < w.heap.size := hw'.lt List.mem_cons_self
  by_cases h : i < l.length
  · have h' : i < (⟨⟨l⟩⟩ : ByteArray).size := h
    have hrun : (execOp a.eval ⟨some d, .next x true, ty, pos, aft, g⟩).run P w = .ok (.value (.tuple #[.bool true, I (i : Int), .int .i32 ((decAt l i).1 : Int)])) { w with heap := w.heap.setIfInBounds b (.stringIter ⟨⟨l⟩⟩ (i + (decAt l i).2)) } := by
      simp [execOp, hfit.eval hx, Instr.next, getObj, setObj, Sem.run, hb, h', goInt, decAt, Sem.run_bind]
    rw [hrun, Oper.upon_value]
    refine ht h _ _ (hfit.put _ hn) ?_
    have := hw'.upd (w' := { w with heap := w.heap.setIfInBounds b (.stringIter ⟨⟨l⟩⟩ (i + (decAt l i).2)) }) rfl rfl rfl (by simp) (o' := .stringIter ⟨⟨l⟩⟩ (i + (decAt l i).2)) (by simp [hlt]) (fun k hk => by simp [Array.getElem?_setIfInBounds, Ne.symm hk])
    simpa using this
  · have h' : ¬ i < (⟨⟨l⟩⟩ : ByteArray).size := h
    have hrun : (execOp a.eval ⟨some d, .next x true, ty, pos, aft, g⟩).run P w = .ok (.value (.tuple #[.bool false])) w := by
      simp [execOp, hfit.eval hx, Instr.next, getObj, Sem.run, hb, h', Sem.run_bind]
    rw [hrun, Oper.upon_value]
    exact hf (by omega) _ _ (hfit.put _ hn) (by simpa using hw')
end
end Go.Proofs.YtodlhaghdplclaaDoor.V
