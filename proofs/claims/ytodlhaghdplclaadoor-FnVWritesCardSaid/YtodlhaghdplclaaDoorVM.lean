/- The engine, part 21: maps. Over any program. -/
import Derived.Test.YtodlhaghdplclaaDoorVL
import Derived.MapKept
namespace Go.Proofs.YtodlhaghdplclaaDoor.V
open Go Go.RowKit
set_option linter.unusedSimpArgs false
set_option linter.unusedVariables false
section
variable {α : Type} [DecidableEq α]
/-- the first entry of a key: its place and value -/
def mfind (x : α) : List (α × Value × Nat) → Nat → Option (Nat × Value)
  | [], _ => none
  | e :: r, i => if x = e.1 then some (i, e.2.1) else mfind x r (i + 1)
def mget (x : α) : List (α × Value × Nat) → Option Value
  | [] => none
  | e :: r => if x = e.1 then some e.2.1 else mget x r
def mset (x : α) (v : Value) : List (α × Value × Nat) → List (α × Value × Nat)
  | [] => []
  | e :: r => if x = e.1 then (e.1, v, e.2.2) :: r else e :: mset x v r
def mdel (x : α) : List (α × Value × Nat) → List (α × Value × Nat)
  | [] => []
  | e :: r => if x = e.1 then r else e :: mdel x r
def Ment (K : α → Value) (ms : List (α × Value × Nat)) : List MapEntry := ms.map fun e => { key := K e.1, val := e.2.1, born := e.2.2 }
def MG (K : α → Value) (m : Nat) (ms : List (α × Value × Nat)) (clk : Nat) : Hp := [(m, .map (Ment K ms).toArray clk)]
theorem mfind_none {x : α} : ∀ (ms : List (α × Value × Nat)) (i : Nat), mfind x ms i = none ↔ mget x ms = none
  | [], _ => by simp [mfind, mget]
  | e :: r, i => by unfold mfind mget; by_cases h : x = e.1 <;> simp [h]; exact mfind_none r (i + 1)
theorem mfind_some {K : α → Value} {x : α} {v : Value} : ∀ (ms : List (α × Value × Nat)) (i : Nat), mget x ms = some v → ∃ j, mfind x ms i = some (i + j, v) ∧ (Ment K ms)[j]? = some { key := K x, val := v, born := ((ms[j]?).map (fun e => e.2.2)).getD 0 } ∧ j < ms.length
  | [], _, h => by cases h
  | e :: r, i, h => by
    unfold mget at h
    unfold mfind
    by_cases hx : x = e.1
    · rw [if_pos hx] at h ⊢
      injection h with h
      exact ⟨0, by rw [h]; rfl, by simp [Ment, hx, h], by simp⟩
    · rw [if_neg hx] at h ⊢
      obtain ⟨j, h1, h2, h3⟩ := mfind_some (K := K) r (i + 1) h
      exact ⟨j + 1, by rw [h1]; congr 2; omega, by simpa [Ment] using h2, by simp; omega⟩
theorem ment_mset {K : α → Value} {x : α} {v : Value} : ∀ (ms : List (α × Value × Nat)) (i j : Nat) (u : Value), mfind x ms i = some (i + j, u) → (Ment K ms).modify j (fun e => { e with key := K x, val := v }) = Ment K (mset x v ms)
  | [], _, _, _, h => by cases h
  | e :: r, i, j, u, h => by
    unfold mfind at h
    unfold mset
    by_cases hx : x = e.1
    · rw [if_pos hx] at h ⊢
      injection h with h; injection h with h1 h2
      have : j = 0 := by omega
      subst this
      simp [Ment, hx]
    · rw [if_neg hx] at h ⊢
      cases j with
      | zero =>
        exfalso
        have : ∀ (r : List (α × Value × Nat)) (i k : Nat) (u : Value), mfind x r i = some (k, u) → i ≤ k := by
          intro r
          induction r with
          | nil => intro i k u h; cases h
          | cons e r ih =>
            intro i k u h
            unfold mfind at h
            split at h
            · injection h with h; injection h with h1 h2; omega
            · have := ih _ _ _ h; omega
        have := this _ _ _ _ h; omega
      | succ j =>
        have := ment_mset (K := K) (v := v) r (i + 1) j u (by rw [h]; congr 2; omega)
        simpa [Ment] using this
theorem ment_mdel {K : α → Value} {x : α} : ∀ (ms : List (α × Value × Nat)) (i j : Nat) (u : Value), mfind x ms i = some (i + j, u) → (Ment K ms).eraseIdx j = Ment K (mdel x ms)
  | [], _, _, _, h => by cases h
  | e :: r, i, j, u, h => by
    unfold mfind at h
    unfold mdel
    by_cases hx : x = e.1
    · rw [if_pos hx] at h ⊢
      injection h with h; injection h with h1 h2
      have : j = 0 := by omega
      subst this
      simp [Ment]
    · rw [if_neg hx] at h ⊢
      cases j with
      | zero =>
        exfalso
        have : ∀ (r : List (α × Value × Nat)) (i k : Nat) (u : Value), mfind x r i = some (k, u) → i ≤ k := by
          intro r
          induction r with
          | nil => intro i k u h; cases h
          | cons e r ih =>
            intro i k u h
            unfold mfind at h
            split at h
            · injection h with h; injection h with h1 h2; omega
            · have := ih _ _ _ h; omega
        have := this _ _ _ _ h; omega
      | succ j =>
        have := ment_mdel (K := K) r (i + 1) j u (by rw [h]; congr 2; omega)
        simpa [Ment] using this
theorem mdel_none {x : α} : ∀ (ms : List (α × Value × Nat)), mget x ms = none → mdel x ms = ms
  | [], _ => rfl
  | e :: r, h => by
    unfold mget at h
    unfold mdel
    by_cases hx : x = e.1
    · rw [if_pos hx] at h; cases h
    · rw [if_neg hx] at h ⊢; rw [mdel_none r h]
/-- what a map puts: in its place, or at the end -/
def mput (x : α) (v : Value) (clk : Nat) (ms : List (α × Value × Nat)) : List (α × Value × Nat) := match mget x ms with
  | some _ => mset x v ms
  | none => ms ++ [(x, v, clk)]
def mclk (x : α) (clk : Nat) (ms : List (α × Value × Nat)) : Nat := match mget x ms with
  | some _ => clk
  | none => clk + 1
/-- keys that the model takes and compares -/
structure KeyOk (P : Program) (kt : TypeId) (K : α → Value) : Prop where
  chk : ∀ (b : Bool) (x : α) (w : World), (Instr.checkKey b 10000 kt (K x)).run P w = .ok () w
  find : ∀ (x : α) (ms : List (α × Value × Nat)) (w : World), (Instr.findKey kt (K x) (Ment K ms)).run P w = .ok (mfind x ms 0) w
  bits : ∀ x : α, Instr.sameBits 10000 (K x) (K x) = true
end
theorem bytes_dec (a b : List UInt8) : ((⟨⟨a⟩⟩ : ByteArray) == ⟨⟨b⟩⟩) = decide (a = b) := by
  by_cases h : a = b
  · subst h
    rw [decide_eq_true rfl]
    exact (MapKept.bytes_beq _ _).2 rfl
  · rw [decide_eq_false h]
    cases he : ((⟨⟨a⟩⟩ : ByteArray) == ⟨⟨b⟩⟩) with
    | false => rfl
    | true => exact absurd (by have := (MapKept.bytes_beq _ _).1 he; injection this with this; injection this) h
theorem find_s {k : List UInt8} : ∀ (ms : List (List UInt8 × Value × Nat)) (i : Nat), Instr.findNow .string (S k) (Ment S ms) i = some (mfind k ms i)
  | [], _ => rfl
  | e :: r, i => by
    unfold mfind
    have : Instr.sameNow .string (S k) (S e.1) = some (decide (k = e.1)) := by
      show some _ = _
      rw [bytes_dec]
    show Instr.findNow .string (S k) ({ key := S e.1, val := e.2.1, born := e.2.2 } :: Ment S r) i = _
    unfold Instr.findNow
    rw [this]
    by_cases hk : k = e.1
    · rw [decide_eq_true hk, if_pos hk]
    · rw [decide_eq_false hk, if_neg hk]; exact find_s r (i + 1)
/-- texts as keys -/
theorem KeyOk.str {P : Program} {kt : TypeId} (hd : P.underlying kt = some .string) : KeyOk P kt S where
  chk := fun b x w => MapKept.run_checkKey hd (by trivial) b 9999
  find := fun x ms w => MapKept.run_findKey hd (find_s ms 0)
  bits := fun x => MapKept.sameBits_self (d := .string) (by trivial) 10000
/-- texts within interfaces as keys -/
theorem KeyOk.iface {P : Program} {kt st : TypeId} {ms' : Array (String × TypeId)} {i : TypeInfo} (hd : P.underlying kt = some (.interface ms')) (hs : P.underlying st = some .string) (hi : P.info? st = some i) (hc : i.comparable = true) : KeyOk P kt (fun s : List UInt8 => .iface st (S s)) where
  chk := fun b x w => by
    show (Instr.checkKey b (9999 + 1) kt _).run P w = _
    unfold Instr.checkKey
    simp only [Sem.run_bind, run_underlying hd, Result.andThen_ok, typeInfo, run_program, hi, Sem.run_pure, hc, Bool.not_true, Bool.false_eq_true, if_false]
    exact MapKept.run_checkKey (d := .string) (k := S x) hs (by trivial) b 9998
  find := fun x ms w => by
    have ask : ∀ (ms : List (List UInt8 × Value × Nat)) (i : Nat), (Instr.findAsking kt (.iface st (S x)) (Ment (fun s : List UInt8 => .iface st (S s)) ms) i).run P w = .ok (mfind x ms i) w := by
      intro ms
      induction ms with
      | nil => intro i; rfl
      | cons e r ih =>
        intro i
        show (Instr.findAsking kt (.iface st (S x)) ({ key := .iface st (S e.1), val := e.2.1, born := e.2.2 } :: Ment (fun s : List UInt8 => .iface st (S s)) r) i).run P w = _
        unfold Instr.findAsking mfind
        have he : (Op.equal kt (.iface st (S x)) (.iface st (S e.1))).run P w = .ok (decide (x = e.1)) w := by
          show (Op.equalIn (9999 + 1) kt _ _).run P w = _
          unfold Op.equalIn
          simp only [Sem.run_bind, run_underlying hd, Result.andThen_ok, ne_eq, not_true, if_false, typeInfo, run_program, hi, Sem.run_pure, hc, Bool.not_true, Bool.false_eq_true]
          show (Op.equalIn (9998 + 1) st _ _).run P w = _
          unfold Op.equalIn
          simp only [Sem.run_bind, run_underlying hs, Result.andThen_ok, Sem.run_pure, bytes_dec]
        simp only [Sem.run_bind, he, Result.andThen_ok]
        by_cases hx : x = e.1
        · simp [hx]
        · simp only [decide_eq_false hx, Bool.false_eq_true, if_false, if_neg hx]; exact ih (i + 1)
    unfold Instr.findKey
    cases ms with
    | nil => simp only [Sem.run_bind, run_underlying hd, Result.andThen_ok]; rfl
    | cons e r =>
      have : Instr.findNow (.interface ms') (.iface st (S x)) (Ment (fun s : List UInt8 => .iface st (S s)) (e :: r)) 0 = none := rfl
      simp only [Sem.run_bind, run_underlying hd, Result.andThen_ok, this]
      exact ask (e :: r) 0
  bits := fun x => by
    show (st == st && Instr.sameBits 9999 (S x) (S x)) = true
    rw [MapKept.sameBits_self (d := .string) (by trivial) 9999]; simp
section
variable {P : Program} {n : Nat} {w0 : World} {ds : List Deferred} {fr : Fr} {H H' : List Hp} {dst : Option Tmp} {ty : TypeId} {pos : String} {aft : Array Edge} {g : Option (Nat × Bool)}
variable {ops : Array Oper} {Q : Post} {rest : List Oper} {d : Nat}
variable {α : Type} [DecidableEq α] {K : α → Value} {m : Nat} {ms : List (α × Value × Nat)} {clk : Nat}
abbrev Mp (m : Nat) : Value := .map (some m)
theorem oq_lookup {t kt et : TypeId} {x y : Operand} {k : α} {z : Value} {size bytes : Nat} (v : Value) (b : Bool) (ht : P.underlying t = some (.map kt et)) (hK : KeyOk P kt K) (hty : Ty P et z size bytes) (hx : ev fr x = some (Mp m)) (hy : ev fr y = some (K k)) (hA : MG K m ms clk ∈ H)
    (hv : (mget k ms = some v ∧ b = true) ∨ (mget k ms = none ∧ v = z ∧ b = false)) :
    OV P n w0 ⟨dst, .lookup t x y true, ty, pos, aft, g⟩ (.tuple #[v, .bool b]) ds fr H :=
  oq_of_run fun a w hf hw => by
    have hnow := hw.now m _ (mem_flat hA (List.mem_singleton.2 rfl))
    obtain ⟨j, hj, hz, _⟩ := hty
    have hfnd := hK.find k ms w
    simp only [execOp, Instr.lookup, hf.eval hx, hf.eval hy, Sem.run_bind, run_underlying ht, Result.andThen_ok, MapKept.run_getObj_map hnow, Sem.run_pure, hK.chk, hfnd]
    rcases hv with ⟨h1, rfl⟩ | ⟨h1, rfl, rfl⟩
    · obtain ⟨i, h2, _, _⟩ := mfind_some (K := K) ms 0 h1
      simp [h2]
    · have h2 := (mfind_none ms 0).2 h1
      simp [h2, zeroValue, typeInfo, hj, hz]
theorem St.setMap {w0 w : World} {H : Hp} {m : Nat} {o o' : Obj} (h : St w0 ((m, o) :: H) w) : St w0 ((m, o') :: H) { w with heap := w.heap.setIfInBounds m o' } := by
  have hnow := h.now m o (List.mem_cons_self)
  have := MapKept.heap_set (o' := o') hnow
  exact h.upd rfl rfl rfl (by simp) this.1 (fun k hk => this.2 k hk)
theorem WL.mapUpdate {t kt et : TypeId} {x y u : Operand} {k : α} {v : Value} (ht : P.underlying t = some (.map kt et)) (hK : KeyOk P kt K) (hx : ev fr x = some (Mp m)) (hy : ev fr y = some (K k)) (hu : ev fr u = some v)
    (hg : gd ops fr ⟨none, .mapUpdate t x y u, ty, pos, aft, g⟩ = some true)
    (hk : WL P n w0 ops Q rest ds fr (MG K m (mput k v clk ms) (mclk k clk ms) :: H)) : WL P n w0 ops Q (⟨none, .mapUpdate t x y u, ty, pos, aft, g⟩ :: rest) ds fr (MG K m ms clk :: H) := by
  intro a w hfit hw
  have hw' : St w0 ((m, .map (Ment K ms).toArray clk) :: H.flatten) w := by simpa [MG] using hw
  unfold wpList
  rw [gd_wanted hfit hg, if_pos rfl]
  left
  unfold Oper.wp
  have hnow := hw'.now m _ List.mem_cons_self
  have hrun : (execOp a.eval ⟨none, .mapUpdate t x y u, ty, pos, aft, g⟩).run P w = .ok .skip { w with heap := w.heap.setIfInBounds m (.map (Ment K (mput k v clk ms)).toArray (mclk k clk ms)) } := by
    have hfnd := hK.find k ms w
    simp only [execOp, Instr.mapUpdate, hfit.eval hx, hfit.eval hy, hfit.eval hu, Sem.run_bind, run_underlying ht, Result.andThen_ok, MapKept.run_getObj_map hnow, hK.chk, hfnd]
    cases h1 : mget k ms with
    | none =>
      have h2 := (mfind_none ms 0).2 h1
      simp only [h2, MapKept.run_setObj_map _ hnow, Result.andThen_ok, Sem.run_pure]
      simp [mput, mclk, h1, Ment]
    | some u' =>
      obtain ⟨i, h2, h3, h4⟩ := mfind_some (K := K) ms 0 h1
      simp only [h2]
      have h5 : ((Ment K ms).toArray[0 + i]?.map (fun x => x.key)).getD (K k) = K k := by
        rw [Nat.zero_add, List.getElem?_toArray, h3]; rfl
      have h6 : (Instr.keyThatStays (K k) (K k)).run P w = .ok (K k) w := by unfold Instr.keyThatStays; rw [hK.bits k]; rfl
      have h7 := ment_mset (K := K) (v := v) ms 0 i u' h2
      simp only [Sem.run_bind, h5, h6, Result.andThen_ok, MapKept.run_setObj_map _ hnow, Sem.run_pure]
      simp only [mput, mclk, h1, Nat.zero_add, List.modify_toArray, h7]
  rw [hrun, Oper.upon_skip]
  exact hk _ _ hfit (by simpa [MG] using St.setMap (o' := .map (Ment K (mput k v clk ms)).toArray (mclk k clk ms)) hw')
theorem WL.delete {t tk kt et : TypeId} {x y : Operand} {k : α} (ht : P.underlying t = some (.map kt et)) (hK : KeyOk P kt K) (hx : ev fr x = some (Mp m)) (hy : ev fr y = some (K k))
    (hg : gd ops fr ⟨none, .call ⟨.builtin .delete, #[x, y], #[t, tk]⟩, ty, pos, aft, g⟩ = some true)
    (hk : WL P n w0 ops Q rest ds fr (MG K m (mdel k ms) clk :: H)) : WL P n w0 ops Q (⟨none, .call ⟨.builtin .delete, #[x, y], #[t, tk]⟩, ty, pos, aft, g⟩ :: rest) ds fr (MG K m ms clk :: H) := by
  intro a w hfit hw
  have hw' : St w0 ((m, .map (Ment K ms).toArray clk) :: H.flatten) w := by simpa [MG] using hw
  unfold wpList
  rw [gd_wanted hfit hg, if_pos rfl]
  left
  unfold Oper.wp
  have hnow := hw'.now m _ List.mem_cons_self
  have hrun : (execOp a.eval ⟨none, .call ⟨.builtin .delete, #[x, y], #[t, tk]⟩, ty, pos, aft, g⟩).run P w = .ok (.value (.tuple #[])) { w with heap := w.heap.setIfInBounds m (.map (Ment K (mdel k ms)).toArray clk) } := by
    have hfnd := hK.find k ms w
    simp only [execOp, resolve, invoke, builtin, Builtin.delete_, Sem.run_bind, Sem.run_pure, Result.andThen_ok, List.map_toArray, List.map_cons, List.map_nil, hfit.eval hx, hfit.eval hy, List.getElem?_toArray, List.getElem?_cons_zero, List.getElem?_cons_succ, run_underlying ht, MapKept.run_getObj_map hnow, hK.chk, hfnd]
    cases h1 : mget k ms with
    | none =>
      have h2 := (mfind_none ms 0).2 h1
      simp only [h2, Sem.run_bind, MapKept.run_setObj_map _ hnow, Result.andThen_ok, Sem.run_pure, mdel_none ms h1]
    | some u' =>
      obtain ⟨i, h2, h3, h4⟩ := mfind_some (K := K) ms 0 h1
      have h7 := ment_mdel (K := K) ms 0 i u' h2
      have h8 : (Ment K ms).toArray.eraseIdxIfInBounds i = (Ment K (mdel k ms)).toArray := by
        unfold Array.eraseIdxIfInBounds
        rw [dif_pos (by simp [Ment, h4]), List.eraseIdx_toArray, h7]
      simp only [h2, Sem.run_bind, MapKept.run_setObj_map _ hnow, Result.andThen_ok, Sem.run_pure, Nat.zero_add, h8]
  rw [hrun, Oper.upon_value]
  exact hk _ _ (hfit.none _) (by simpa [MG] using St.setMap (o' := .map (Ment K (mdel k ms)).toArray clk) hw')
end
section
variable {P : Program} {n : Nat} {w0 : World} {ds : List Deferred} {fr : Fr} {H H' : List Hp} {dst : Option Tmp} {ty : TypeId} {pos : String} {aft : Array Edge} {g : Option (Nat × Bool)}
variable {ops : Array Oper} {Q : Post} {rest : List Oper} {d : Nat} {α : Type} {K : α → Value} {m : Nat} {ms : List (α × Value × Nat)} {clk : Nat}
theorem oq_len_m {t kt et : TypeId} {x : Operand} (ht : P.underlying t = some (.map kt et)) (hx : ev fr x = some (Mp m)) (hA : MG K m ms clk ∈ H) : OV P n w0 ⟨dst, .call ⟨.builtin .len, #[x], #[t]⟩, ty, pos, aft, g⟩ (I (ms.length : Int)) ds fr H :=
  oq_of_run fun a w hf hw => by
    have hnow := hw.now m _ (mem_flat hA (List.mem_singleton.2 rfl))
    simp [execOp, resolve, invoke, builtin, Builtin.len_, hf.eval hx, run_underlying ht, goInt, MapKept.run_getObj_map hnow, Ment]
/-- a new map; a hint says nothing -/
theorem WL.makeMapH {t kt et : TypeId} {x : Operand} {k : IntKind} {c : Int} (K : α → Value) (ht : P.underlying t = some (.map kt et)) (hx : ev fr x = some (.int k c)) (hg : gd ops fr ⟨some d, .makeMap t (some x), ty, pos, aft, g⟩ = some true) (hn : Nat.blt d n = true)
    (hk : ∀ b, w0.heap.size ≤ b → WL P n w0 ops Q rest ds ((d, Mp b) :: fr) (MG K b [] 0 :: H)) : WL P n w0 ops Q (⟨some d, .makeMap t (some x), ty, pos, aft, g⟩ :: rest) ds fr H :=
  WL.new (v := fun b => Mp b) (obj := .map #[] 0) (fun a w hf hw => by
    simp [execOp, Instr.makeMap, hf.eval hx, run_underlying ht, asInt, asIntOf, newObj]; rfl) hg rfl hn hk
theorem WL.makeMap {t : TypeId} (K : α → Value) (hg : gd ops fr ⟨some d, .makeMap t none, ty, pos, aft, g⟩ = some true) (hn : Nat.blt d n = true)
    (hk : ∀ b, w0.heap.size ≤ b → WL P n w0 ops Q rest ds ((d, Mp b) :: fr) (MG K b [] 0 :: H)) : WL P n w0 ops Q (⟨some d, .makeMap t none, ty, pos, aft, g⟩ :: rest) ds fr H :=
  WL.new (v := fun b => Mp b) (obj := .map #[] 0) (fun a w hf hw => by
    simp [execOp, Instr.makeMap, newObj]; rfl) hg rfl hn hk
end
section
variable {P : Program} {n : Nat} {w0 : World} {ds : List Deferred} {fr : Fr} {H H' : List Hp} {dst : Option Tmp} {ty : TypeId} {pos : String} {aft : Array Edge} {g : Option (Nat × Bool)}
variable {ops : Array Oper} {Q : Post} {rest : List Oper} {d : Nat}
theorem WL.distinct {l : List Oper} (h : (H.flatten.map Prod.fst).Nodup → WL P n w0 ops Q l ds fr H) : WL P n w0 ops Q l ds fr H := fun a w hf hw => h hw.nodup a w hf hw
theorem WC.distinct {c : Code} (h : (H.flatten.map Prod.fst).Nodup → WC P n w0 c Q ds fr H) : WC P n w0 c Q ds fr H := fun a w hf hw => h hw.nodup a w hf hw
theorem WE.distinct {e : Exit} (h : (H.flatten.map Prod.fst).Nodup → WE n w0 e Q ds fr H) : WE n w0 e Q ds fr H := fun a w hf hw => h hw.nodup a w hf hw
end
section
variable {P : Program} {n : Nat} {w0 : World} {ds : List Deferred} {fr : Fr} {H H' : List Hp} {ops : Array Oper} {Q : Post}
theorem WL.reg {l : List Oper} (p : H.flatten.Perm H'.flatten) (h : WL P n w0 ops Q l ds fr H') : WL P n w0 ops Q l ds fr H := fun a w hf hw => h a w hf (hw.perm p)
theorem WC.reg {c : Code} (p : H.flatten.Perm H'.flatten) (h : WC P n w0 c Q ds fr H') : WC P n w0 c Q ds fr H := fun a w hf hw => h a w hf (hw.perm p)
theorem WE.reg {e : Exit} (p : H.flatten.Perm H'.flatten) (h : WE n w0 e Q ds fr H') : WE n w0 e Q ds fr H := fun a w hf hw => h a w hf (hw.perm p)
end
theorem reg_out {A B C : Hp} {H : List Hp} (p : A.Perm (B ++ C)) : (A :: H).flatten.Perm (B :: C :: H).flatten := by
  simp only [List.flatten_cons, ← List.append_assoc]; exact p.append_right _
theorem reg_in {A B C : Hp} {H : List Hp} (p : (B ++ C).Perm A) : (B :: C :: H).flatten.Perm (A :: H).flatten := (reg_out p.symm).symm
theorem reg_1 {A B : Hp} {H : List Hp} (p : A.Perm B) : (A :: H).flatten.Perm (B :: H).flatten := by
  simp only [List.flatten_cons]; exact p.append_right _
theorem LG.cons {tE tL bl : Nat} {els : List Nat} {nx pv : Nat → Nat} {vl : Nat → Value} {len : Int} {e n p : Nat} {v : Value} (hb : e ≠ bl) (he : e ∉ els) :
    ((e, .cells #[Pt n 0, Pt p 0, Pt bl 0, v] tE (0, 0)) :: LG tE tL bl els nx pv vl len).Perm (LG tE tL bl (e :: els) (upd nx e n) (upd pv e p) (upd vl e v) len) := by
  have h := LG.snoc tE tL bl els nx pv vl len e n p v hb he
  refine (List.perm_append_singleton _ _).symm.trans ?_
  rw [h]
  exact (List.Perm.cons bl (List.perm_append_singleton e els)).map _
theorem LG.perm {tE tL bl : Nat} {els els' : List Nat} {nx pv : Nat → Nat} {vl : Nat → Value} {len : Int} (p : els.Perm els') : (LG tE tL bl els nx pv vl len).Perm (LG tE tL bl els' nx pv vl len) := (p.cons bl).map _
theorem LG.ids (tE tL bl : Nat) (els : List Nat) (nx pv : Nat → Nat) (vl : Nat → Value) (len : Int) : (LG tE tL bl els nx pv vl len).map Prod.fst = bl :: els := by
  unfold LG; rw [List.map_map]; exact List.map_id' _
/-! ### Rings: who stands beside whom -/
def Lk (nx pv : Nat → Nat) : List Nat → Prop
  | [] => True
  | [_] => True
  | a :: b :: r => nx a = b ∧ pv b = a ∧ Lk nx pv (b :: r)
theorem Lk.cons {nx pv : Nat → Nat} {a b : Nat} {r : List Nat} : Lk nx pv (a :: b :: r) ↔ nx a = b ∧ pv b = a ∧ Lk nx pv (b :: r) := Iff.rfl
theorem Lk.tail {nx pv : Nat → Nat} {a : Nat} : ∀ {r : List Nat}, Lk nx pv (a :: r) → Lk nx pv r
  | [], _ => trivial
  | _ :: _, h => h.2.2
theorem Lk.split {nx pv : Nat → Nat} {x : Nat} {B : List Nat} : ∀ {A : List Nat}, Lk nx pv (A ++ x :: B) ↔ Lk nx pv (A ++ [x]) ∧ Lk nx pv (x :: B)
  | [] => by simp [Lk]
  | [a] => by simp [Lk, and_assoc]
  | a :: b :: r => by
    have := Lk.split (nx := nx) (pv := pv) (x := x) (B := B) (A := b :: r)
    simp only [List.cons_append] at this ⊢
    rw [Lk.cons, this, Lk.cons]
    simp only [and_assoc]
/-- other links elsewhere -/
theorem Lk.frame {nx pv nx' pv' : Nat → Nat} : ∀ {L : List Nat}, Lk nx pv L → (∀ x ∈ L.dropLast, nx' x = nx x) → (∀ x ∈ L.tail, pv' x = pv x) → Lk nx' pv' L
  | [], _, _, _ => trivial
  | [_], _, _, _ => trivial
  | a :: b :: r, h, h1, h2 => by
    refine ⟨(h1 a (by simp)).trans h.1, (h2 b (by simp)).trans h.2.1, Lk.frame h.2.2 (fun x hx => h1 x ?_) (fun x hx => h2 x ?_)⟩
    · rw [List.dropLast_cons_of_ne_nil (by simp)]; exact List.mem_cons_of_mem _ hx
    · exact List.mem_cons_of_mem _ hx
structure Rg (nx pv : Nat → Nat) (bl : Nat) (os : List Nat) : Prop where
  lk : Lk nx pv (bl :: os ++ [bl])
  nd : (bl :: os).Nodup
/-- the one ahead of an end, and the one behind a beginning -/
def lastd (d : Nat) (L : List Nat) : Nat := L.getLastD d
def headd (d : Nat) (L : List Nat) : Nat := L.headD d
theorem Rg.nxroot {nx pv : Nat → Nat} {bl : Nat} {os : List Nat} (h : Rg nx pv bl os) : nx bl = os.headD bl := by
  cases os with
  | nil => exact h.lk.1
  | cons a r => exact h.lk.1
theorem Rg.at {nx pv : Nat → Nat} {bl e : Nat} {A B : List Nat} (h : Rg nx pv bl (A ++ e :: B)) : pv e = A.getLastD bl ∧ nx (A.getLastD bl) = e ∧ nx e = B.headD bl ∧ pv (B.headD bl) = e := by
  have hl := h.lk
  rw [List.cons_append, List.append_assoc, List.cons_append, ← List.cons_append, Lk.split] at hl
  obtain ⟨h1, h2⟩ := hl
  have hA : ∀ (bl : Nat) (A : List Nat), Lk nx pv (bl :: A ++ [e]) → pv e = A.getLastD bl ∧ nx (A.getLastD bl) = e := by
    intro bl A
    induction A generalizing bl with
    | nil => intro h; exact ⟨h.2.1, h.1⟩
    | cons a r ih => intro h; have := ih a h.2.2; cases r <;> exact this
  obtain ⟨h3, h4⟩ := hA bl A h1
  refine ⟨h3, h4, ?_⟩
  cases B with
  | nil => exact ⟨h2.1, h2.2.1⟩
  | cons b r => exact ⟨h2.1, h2.2.1⟩
theorem Rg.back {nx pv : Nat → Nat} {bl e : Nat} {A : List Nat} (h : Rg nx pv bl (A ++ [e])) : pv bl = e := h.at.2.2.2
theorem mem_lastd {bl : Nat} {A : List Nat} : A.getLastD bl ∈ bl :: A := by
  cases A with
  | nil => exact List.mem_cons_self
  | cons a r => rw [List.getLastD_cons]; exact List.mem_cons_of_mem _ (by
      have : ∀ (a : Nat) (r : List Nat), r.getLastD a ∈ a :: r := by
        intro a r
        induction r generalizing a with
        | nil => exact List.mem_cons_self
        | cons b r ih => rw [List.getLastD_cons]; exact List.mem_cons_of_mem _ (ih b)
      exact this a r)
theorem mem_headd {bl : Nat} {B : List Nat} : B.headD bl ∈ B ++ [bl] := by cases B <;> simp
/-- one is taken out -/
theorem Rg.out {nx pv : Nat → Nat} {bl e : Nat} {A B : List Nat} (h : Rg nx pv bl (A ++ e :: B)) : Rg (upd nx (A.getLastD bl) (B.headD bl)) (upd pv (B.headD bl) (A.getLastD bl)) bl (A ++ B) := by
  have hnd := h.nd
  have hl := h.lk
  rw [List.cons_append, List.append_assoc, List.cons_append, ← List.cons_append, Lk.split] at hl
  obtain ⟨h1, h2⟩ := hl
  have nd2 : (bl :: (A ++ B)).Nodup := by
    refine hnd.sublist (List.Sublist.cons_cons _ ?_)
    exact List.Sublist.append_left (List.sublist_cons_self _ _) A
  refine ⟨?_, nd2⟩
  -- the first part, up to the last of A
  have hmid : Lk (upd nx (A.getLastD bl) (B.headD bl)) (upd pv (B.headD bl) (A.getLastD bl)) (bl :: A ++ (B ++ [bl])) := by
    have hp1 : Lk (upd nx (A.getLastD bl) (B.headD bl)) (upd pv (B.headD bl) (A.getLastD bl)) (bl :: A) := by
      have h3 : Lk nx pv (bl :: A) := by
        have : ∀ (L : List Nat) (x : Nat), Lk nx pv (L ++ [x]) → Lk nx pv L := by
          intro L x
          induction L with
          | nil => intro _; trivial
          | cons a r ih =>
            cases r with
            | nil => intro _; trivial
            | cons b r => intro h; exact ⟨h.1, h.2.1, ih h.2.2⟩
        exact this _ _ h1
      refine h3.frame (fun x hx => upd_ne _ _ ?_) (fun x hx => upd_ne _ _ ?_)
      · -- x is not the last one
        intro hxe
        have hn : (bl :: A).Nodup := nd2.sublist (List.Sublist.cons_cons _ (List.sublist_append_left _ _))
        have hl : (bl :: A).getLast (by simp) = A.getLastD bl := by
          cases A with
          | nil => rfl
          | cons a r => rw [List.getLast_cons (by simp), List.getLastD_cons]; simp [List.getLastD, List.getLast?]; cases r <;> simp
        have hd := List.dropLast_concat_getLast (l := bl :: A) (by simp)
        rw [hl] at hd
        rw [← hd, List.nodup_append] at hn
        exact hn.2.2 x hx _ (List.mem_singleton.2 rfl) hxe
      · intro hxe
        have hx' : x ∈ A := hx
        have hm : x ∈ B ++ [bl] := by rw [hxe]; exact mem_headd
        rw [List.nodup_cons, List.nodup_append] at nd2
        rcases List.mem_append.1 hm with e1 | e1
        · exact nd2.2.2.2 x hx' x e1 rfl
        · rw [List.mem_singleton.1 e1] at hx'; exact nd2.1 (List.mem_append_left _ hx')
    have hp2 : Lk (upd nx (A.getLastD bl) (B.headD bl)) (upd pv (B.headD bl) (A.getLastD bl)) (B ++ [bl]) := by
      refine h2.tail.frame (fun x hx => upd_ne _ _ ?_) (fun x hx => upd_ne _ _ ?_)
      · intro hxe
        rw [List.dropLast_concat] at hx
        have hm := mem_lastd (bl := bl) (A := A)
        rw [← hxe] at hm
        rw [List.nodup_cons, List.nodup_append] at nd2
        rcases List.mem_cons.1 hm with e1 | e1
        · exact nd2.1 (List.mem_append_right _ (e1 ▸ hx))
        · exact nd2.2.2.2 x e1 x hx rfl
      · intro hxe
        have hn : (B ++ [bl]).Nodup := by
          rw [List.nodup_append]
          rw [List.nodup_cons, List.nodup_append] at nd2
          refine ⟨nd2.2.2.1, by simp, fun a ha b hb e1 => ?_⟩
          rw [List.mem_singleton.1 hb] at e1
          exact nd2.1 (List.mem_append_right _ (e1 ▸ ha))
        cases B with
        | nil => cases hx
        | cons b r => rw [hxe] at hx; exact (List.nodup_cons.1 hn).1 hx
    -- join
    have join : ∀ (bl' : Nat) (A : List Nat) (nx pv : Nat → Nat) (L : List Nat) (d : Nat), Lk nx pv (bl' :: A) → Lk nx pv L → L ≠ [] → nx (A.getLastD bl') = L.headD d → pv (L.headD d) = A.getLastD bl' → Lk nx pv (bl' :: A ++ L) := by
      intro bl' A nx pv L d
      induction A generalizing bl' with
      | nil =>
        intro _ h2 hne h3 h4
        cases L with
        | nil => exact absurd rfl hne
        | cons b r => exact ⟨h3, h4, h2⟩
      | cons a r ih =>
        intro h1 h2 hne h3 h4
        rw [List.getLastD_cons] at h3 h4
        exact ⟨h1.1, h1.2.1, ih a h1.2.2 h2 hne h3 h4⟩
    refine join bl A _ _ (B ++ [bl]) bl hp1 hp2 (by simp) ?_ ?_
    · rw [upd_same]; cases B <;> rfl
    · have : (B ++ [bl]).headD bl = B.headD bl := by cases B <;> rfl
      rw [this, upd_same]
  rw [List.cons_append, List.append_assoc]
  exact hmid
/-- one is put in ahead -/
theorem Rg.ins {nx pv : Nat → Nat} {bl e : Nat} {os : List Nat} (h : Rg nx pv bl os) (he : e ∉ bl :: os) : Rg (upd (upd nx e (os.headD bl)) bl e) (upd (upd pv e bl) (os.headD bl) e) bl (e :: os) := by
  have hbe : e ≠ bl := fun h' => he (h' ▸ List.mem_cons_self)
  have hos : e ∉ os := fun h' => he (List.mem_cons_of_mem _ h')
  have nd := List.nodup_cons.1 h.nd
  refine ⟨?_, List.nodup_cons.2 ⟨fun h' => by rcases List.mem_cons.1 h' with e1 | e1; exact hbe e1.symm; exact nd.1 e1, List.nodup_cons.2 ⟨hos, nd.2⟩⟩⟩
  have hhe : os.headD bl ≠ e := by
    cases os with
    | nil => exact fun h' => hbe h'.symm
    | cons a r => exact fun h' => hos (by rw [← h']; exact List.mem_cons_self)
  have ht : Lk (upd (upd nx e (os.headD bl)) bl e) (upd (upd pv e bl) (os.headD bl) e) (os ++ [bl]) := by
    refine h.lk.tail.frame (fun x hx => ?_) (fun x hx => ?_)
    · have hx' : x ∈ os := by simpa using hx
      rw [upd_ne _ _ (fun h' : x = bl => nd.1 (h' ▸ hx')), upd_ne _ _ (fun h' : x = e => hos (h' ▸ hx'))]
    · have hne : x ≠ e := fun h' => by
        have := List.mem_of_mem_tail hx
        rcases List.mem_append.1 (h' ▸ this) with e1 | e1
        · exact hos e1
        · exact hbe (List.mem_singleton.1 e1)
      have hn : (os ++ [bl]).Nodup := by
        rw [List.nodup_append]
        exact ⟨nd.2, by simp, fun a ha b hb e1 => nd.1 (by rw [← List.mem_singleton.1 hb, ← e1]; exact ha)⟩
      rw [upd_ne _ _ ?_, upd_ne _ _ hne]
      intro hxe
      cases os with
      | nil => cases hx
      | cons b r => rw [hxe] at hx; exact (List.nodup_cons.1 hn).1 hx
  show Lk _ _ (bl :: e :: (os ++ [bl]))
  refine ⟨upd_same _ _ _, ?_, ?_⟩
  · rw [upd_ne _ _ (Ne.symm hhe), upd_same]
  · cases os with
    | nil => exact ⟨by rw [upd_ne _ _ hbe, upd_same]; rfl, upd_same _ _ _, trivial⟩
    | cons b r => exact ⟨by rw [upd_ne _ _ hbe, upd_same]; rfl, upd_same _ _ _, ht⟩
theorem upd_comm {α : Type} (f : Nat → α) {a b : Nat} (x y : α) (h : a ≠ b) : upd (upd f a x) b y = upd (upd f b y) a x := by
  funext c
  unfold upd
  by_cases h1 : c = b <;> by_cases h2 : c = a <;> simp [h1, h2] <;> omega
theorem nd_cons {e : Nat} {o : Obj} {A : Hp} {H : List Hp} (h : ((([(e, o)] : Hp) :: A :: H).flatten.map Prod.fst).Nodup) : e ∉ A.map Prod.fst := by
  simp only [List.flatten_cons, List.map_append, List.map_cons, List.map_nil, List.singleton_append, List.nodup_cons, List.mem_append, not_or] at h
  exact h.1.1
/-- what a move to the front needs, and gives -/
theorem Rg.mv {nx pv : Nat → Nat} {bl e : Nat} {A B : List Nat} (h : Rg nx pv bl (A ++ e :: B)) :
    e ≠ bl ∧ A.getLastD bl ≠ e ∧ B.headD bl ≠ e ∧ A.getLastD bl ∈ bl :: (A ++ e :: B) ∧ B.headD bl ∈ bl :: (A ++ e :: B) ∧ upd nx (A.getLastD bl) (B.headD bl) bl ∈ bl :: (A ++ e :: B) ∧
    Rg (upd (upd (upd nx (A.getLastD bl) (B.headD bl)) e (upd nx (A.getLastD bl) (B.headD bl) bl)) bl e) (upd (upd (upd pv (B.headD bl) (A.getLastD bl)) e bl) (upd nx (A.getLastD bl) (B.headD bl) bl) e) bl (e :: (A ++ B)) := by
  have ho := h.out
  have hr := ho.nxroot
  have hnd := h.nd
  have he : e ∉ bl :: (A ++ B) := by
    rw [List.nodup_cons] at hnd
    intro hm
    rcases List.mem_cons.1 hm with e1 | e1
    · exact hnd.1 (by rw [← e1]; simp)
    · have := hnd.2
      rw [List.nodup_append] at this
      rcases List.mem_append.1 e1 with e2 | e2
      · exact this.2.2 e e2 e (by simp) rfl
      · exact (List.nodup_cons.1 this.2.1).1 e2
  have hp : A.getLastD bl ∈ bl :: A := mem_lastd
  have hn : B.headD bl ∈ B ++ [bl] := mem_headd
  have hp2 : A.getLastD bl ∈ bl :: (A ++ B) := by
    rcases List.mem_cons.1 hp with e1 | e1
    · rw [e1]; exact List.mem_cons_self
    · exact List.mem_cons_of_mem _ (List.mem_append_left _ e1)
  have hn2 : B.headD bl ∈ bl :: (A ++ B) := by
    rcases List.mem_append.1 hn with e1 | e1
    · exact List.mem_cons_of_mem _ (List.mem_append_right _ e1)
    · rw [List.mem_singleton.1 e1]; exact List.mem_cons_self
  have ha2 : upd nx (A.getLastD bl) (B.headD bl) bl ∈ bl :: (A ++ B) := by
    rw [hr]
    cases hAB : A ++ B with
    | nil => exact List.mem_cons_self
    | cons a r => exact List.mem_cons_of_mem _ List.mem_cons_self
  have sub : ∀ x, x ∈ bl :: (A ++ B) → x ∈ bl :: (A ++ e :: B) := by
    intro x hx
    simp only [List.mem_cons, List.mem_append] at hx ⊢
    rcases hx with h | h | h
    · exact .inl h
    · exact .inr (.inl h)
    · exact .inr (.inr (.inr h))
  have hins := ho.ins he
  rw [← hr] at hins
  exact ⟨fun e1 => he (e1 ▸ List.mem_cons_self), fun e1 => he (e1 ▸ hp2), fun e1 => he (e1 ▸ hn2), sub _ hp2, sub _ hn2, sub _ ha2, hins⟩
theorem Rg.first {nx pv : Nat → Nat} {bl e : Nat} {A B : List Nat} (h : Rg nx pv bl (A ++ e :: B)) (he : nx bl = e) : A = [] := by
  have h1 := h.nxroot
  cases A with
  | nil => rfl
  | cons a r =>
    exfalso
    have h2 : a = e := by rw [he] at h1; exact h1.symm
    have h3 := (List.nodup_cons.1 h.nd).2
    rw [h2, List.cons_append, List.nodup_cons] at h3
    exact h3.1 (by simp)
/-! ### Regions that draw their order: reading operations and calls that only read come first, the rest waits for all of them -/
theorem wpAnyQ_of_list {P : Program} {ops : Array Oper} {C : World → Prop} {Qa : Act → Prop} (hsel : Region.noSelect ops = true) : ∀ (qs : List Nat) (ql : List Oper) (fuel : Nat) (l : Array Bool) (a : Act), qs.map (ops[·]?) = ql.map some → orderQ ops qs l = true → qs.length ≤ fuel → wpQuiet P ops C Qa ql a → wpAnyQ P .any ops C Qa fuel l a := by
  intro qs
  induction qs with
  | nil =>
    intro ql fuel l a hq hB _ h
    have e1 : ql = [] := by cases ql with | nil => rfl | cons _ _ => simp at hq
    subst e1
    simp only [orderQ, beq_iff_eq] at hB
    cases fuel with
    | zero => exact ⟨hB, h⟩
    | succ f => exact ⟨fun _ => h, by rw [hB]; simp⟩
  | cons q qs ih =>
    intro ql fuel l a hq hB hfuel h
    cases ql with
    | nil => simp at hq
    | cons o ql =>
      simp only [List.map_cons, List.cons.injEq] at hq
      simp only [orderQ, Bool.and_eq_true] at hB
      obtain ⟨fuel, rfl⟩ : ∃ f, fuel = f + 1 := ⟨fuel - 1, by simp at hfuel; omega⟩
      unfold wpQuiet at h
      by_cases hw : Region.wanted o (yielded ops a.tmps) = true
      · rw [if_pos hw] at h
        obtain ⟨v, hv, hk⟩ := h
        exact wpAnyQ_first hq.1 (Region.noSelect_spec hsel) fuel l a (Region.free_spec hq.1 hB.1.1) (by simpa using hB.1.2) (.inl ⟨hw, hv⟩) (ih ql fuel _ _ hq.2 hB.2 (by simp at hfuel; omega) hk)
      · rw [if_neg hw] at h
        exact wpAnyQ_first hq.1 (Region.noSelect_spec hsel) fuel l a (Region.free_spec hq.1 hB.1.1) (by simpa using hB.1.2) (.inr ⟨by simpa using hw, rfl⟩) (ih ql fuel _ _ hq.2 hB.2 (by simp at hfuel; omega) h)
theorem WC.tailQ {P : Program} {n : Nat} {w0 : World} {ds : List Deferred} {fr : Fr} {H : List Hp} {Q : Post} {id : Nat} {ol ql tl : List Oper} (qs : List Nat) (t0 : Nat) (ts : List Nat) (hm : P.follows .mixedOrders = true) (hsel : Region.noSelect ol.toArray = true)
    (hc : chkT ol.toArray [] qs t0 ts = true) (hB : orderQ ol.toArray qs (mk (t0 :: ts) (Array.replicate ol.toArray.size false)) = true) (hT : orderT ol.toArray (t0 :: ts) (mk qs (Array.replicate ol.toArray.size false)) = true)
    (hl : qs.length + (t0 :: ts).length ≤ ol.toArray.size)
    (hq : qs.map (ol.toArray[·]?) = ql.map some) (ht : (t0 :: ts).map (ol.toArray[·]?) = tl.map some) (hQ : QOk Q) (h : WQ P n w0 ol.toArray (fun _ a w => wpList P ol.toArray Q tl a w) ql ds fr H) : WC P n w0 (.region id ol.toArray true) Q ds fr H := by
  intro a w hf hw
  have hc' := hc
  simp only [chkT, Bool.and_eq_true, List.all_eq_true] at hc'
  obtain ⟨⟨⟨⟨hall, hdis⟩, _⟩, _⟩, _⟩ := hc'
  have hcov : ∀ i, i < ol.toArray.size → i ∈ qs ∨ i ∈ t0 :: ts := fun i hi => by
    have := hall i (List.mem_range.2 hi)
    rw [Bool.or_eq_true, List.nil_append] at this
    rcases this with h | h
    · exact .inl (List.contains_iff_mem.1 h)
    · exact .inr (List.contains_iff_mem.1 h)
  have hdis' : ∀ q ∈ qs, q ∉ t0 :: ts := fun q hq hm => by have := hdis q (by simpa using hq); simp only [Bool.not_eq_true'] at this; rw [List.contains_iff_mem.2 hm] at this; cases this
  have rep : ∀ (i : Nat), i < ol.toArray.size → (Array.replicate ol.toArray.size false).getD i true = false := fun i hi => by simp only [Array.getD_eq_getD_getElem?, Array.getElem?_replicate, if_pos hi]; rfl
  have repf : ∀ (i : Nat), (Array.replicate ol.toArray.size false).getD i false = false := fun i => by
    simp only [Array.getD_eq_getD_getElem?, Array.getElem?_replicate]; split <;> rfl
  have hsz : (Array.replicate ol.toArray.size false).size = ol.toArray.size := by simp
  refine wp_region_any hm (wpAny_le hl ?_)
  refine phase (Q := Q) (K := fun a w => wpList P ol.toArray Q tl a w) (tn := (t0 :: ts).length) hc (fun l a w hs hon htl hK => ?_) qs.length (Array.replicate ol.toArray.size false) a _ ⟨fun p hp => (by cases hp), hsz, fun t ht' => rep t (in_of_map _ _ ht t ht'), fun q hq1 hq2 => by
    rw [repf] at hq2; cases hq2⟩ ?_
  · have e : l = mk qs (Array.replicate ol.toArray.size false) := listed_eq (T := t0 :: ts) hcov hs (by rw [mk_size]; simp) (fun q hq1 => hon q (by simpa using hq1)) (fun q hq1 => mk_in _ _ _ _ hq1 (by rw [hsz]; exact in_of_map _ _ hq q hq1)) htl (fun t ht' => by rw [mk_not _ _ _ _ (fun hm => hdis' t hm ht')]; exact rep t (in_of_map _ _ ht t ht'))
    rw [e]
    exact wpAny_of_held _ _ _ _ (wpAnyH_of_qwp hsel hQ [] (t0 :: ts) [] tl (t0 :: ts).length _ a w rfl ht hT (by simp) hK)
  · exact wpAny_of_quiet (C := St w0 H.flatten) (Q := fun a' => ∀ w', St w0 H.flatten w' → wpList P ol.toArray Q tl a' w') (fun a w hC hq => ⟨rfl, hq w hC⟩) _ _ _ _ (hw.drawn _) (wpAnyQ_of_list hsel qs ql qs.length _ a hq hB (Nat.le_refl _) (h a hf))
theorem WQ.toL {P : Program} {n : Nat} {w0 : World} {ds : List Deferred} {fr : Fr} {H : List Hp} {Q : Post} {ops : Array Oper} {tl : List Oper} (h : WL P n w0 ops Q tl ds fr H) : WQ P n w0 ops (fun _ a w => wpList P ops Q tl a w) [] ds fr H := WQ.nil fun a w hf hw => h a w hf hw
/-! ### Two operations that make memory, in either order -/
def orderF (ops : Array Oper) (t u : Nat) (ts : List Nat) : List Nat → Array Bool → Bool
  | [], l => Region.ready .any ops l == [t, u] && orderT ops (u :: ts) (l.setIfInBounds t true) && orderT ops (t :: ts) (l.setIfInBounds u true)
  | q :: qs, l => Region.free .any ops l q && (Region.ready .any ops l).contains q && orderF ops t u ts qs (l.setIfInBounds q true)
theorem wpOp_of_wpList {P : Program} {ops : Array Oper} {Q : Post} {K : Act → World → Prop} {t : Nat} {o : Oper} {tl : List Oper} {a : Act} {w : World} (ht : ops[t]? = some o) (h : wpList P ops Q (o :: tl) a w) (go : ∀ a' w', wpList P ops Q tl a' w' → K a' w') : wpOp P ops Q t K a w := by
  unfold wpList at h
  unfold wpOp
  rw [ht]
  show if Region.wanted o (yielded ops a.tmps) = true then _ else _
  split
  · rename_i hw; rw [if_pos hw] at h
    rcases h with h | h
    · exact .inl (Oper.wp_mono go h)
    · exact .inr h
  · rename_i hw; rw [if_neg hw] at h; exact go _ _ h
theorem wpAnyH_of_fork {P : Program} {ops : Array Oper} {Q : Post} (hsel : Region.noSelect ops = true) (hQ : QOk Q) {t u : Nat} {ts : List Nat} {ot ou : Oper} {tl : List Oper} (ht : ops[t]? = some ot) (hu : ops[u]? = some ou) (hts : ts.map (ops[·]?) = tl.map some) : ∀ (qs : List Nat) (ql : List Oper) (fuel : Nat) (listed : Array Bool) (a : Act) (w : World), qs.map (ops[·]?) = ql.map some → orderF ops t u ts qs listed = true → qs.length + 2 + ts.length ≤ fuel →
    qwp P ops Q ql (ot :: ou :: tl) a w → qwp P ops Q ql (ou :: ot :: tl) a w → wpAnyH P .any ops Q (fun _ => True) fuel listed a w := by
  intro qs
  induction qs with
  | nil =>
    intro ql fuel listed a w hq hB hfuel h1 h2
    have e1 : ql = [] := by cases ql with | nil => rfl | cons _ _ => simp at hq
    subst e1
    simp only [orderF, Bool.and_eq_true, beq_iff_eq] at hB
    obtain ⟨⟨hr, hB1⟩, hB2⟩ := hB
    obtain ⟨fuel, rfl⟩ : ∃ f, fuel = f + 1 := ⟨fuel - 1, by omega⟩
    refine wpAnyH_all hr (by simp) fun i hi => ?_
    simp only [List.mem_cons, List.not_mem_nil, or_false] at hi
    rcases hi with rfl | rfl
    · exact wpOp_of_wpList ht h1 fun a' w' hl => ⟨trivial, wpAnyH_of_qwp hsel hQ [] (u :: ts) [] (ou :: tl) fuel _ a' w' rfl (by simp [hu, hts]) hB1 (by simp at hfuel ⊢; omega) hl⟩
    · exact wpOp_of_wpList hu h2 fun a' w' hl => ⟨trivial, wpAnyH_of_qwp hsel hQ [] (t :: ts) [] (ot :: tl) fuel _ a' w' rfl (by simp [ht, hts]) hB2 (by simp at hfuel ⊢; omega) hl⟩
  | cons q qs ih =>
    intro ql fuel listed a w hq hB hfuel h1 h2
    cases ql with
    | nil => simp at hq
    | cons o ql =>
      simp only [List.map_cons, List.cons.injEq] at hq
      simp only [orderF, Bool.and_eq_true] at hB
      obtain ⟨fuel, rfl⟩ : ∃ f, fuel = f + 1 := ⟨fuel - 1, by simp at hfuel; omega⟩
      unfold qwp at h1 h2
      by_cases hw : Region.wanted o (yielded ops a.tmps) = true
      · rw [if_pos hw] at h1 h2
        obtain ⟨v, hv, hk⟩ := h1
        obtain ⟨v', hv', hk'⟩ := h2
        have e : v' = v := by have x := hv w; rw [hv' w] at x; injection x with x; injection x
        subst e
        exact wpAnyH_take hq.1 hsel hB.1.1 hB.1.2 (fun c a w => hQ c a _ v' w) (.inl ⟨hw, fun w' _ => hv w'⟩) trivial (ih ql fuel _ _ w hq.2 hB.2 (by simp at hfuel; omega) hk hk')
      · rw [if_neg hw] at h1 h2
        exact wpAnyH_take hq.1 hsel hB.1.1 hB.1.2 (fun c a w => hQ c a _ undef w) (.inr ⟨by simpa using hw, rfl⟩) trivial (ih ql fuel _ _ w hq.2 hB.2 (by simp at hfuel; omega) h1 h2)
theorem WC.fork {P : Program} {n : Nat} {w0 : World} {ds : List Deferred} {fr : Fr} {H : List Hp} {Q : Post} {id : Nat} {ol ql tl : List Oper} {ot ou : Oper} (qs : List Nat) (t u : Nat) (ts : List Nat) (hm : P.follows .mixedOrders = true) (hsel : Region.noSelect ol.toArray = true) (hB : orderF ol.toArray t u ts qs (Array.replicate ol.toArray.size false) = true) (hl : qs.length + 2 + ts.length ≤ ol.toArray.size)
    (hq : qs.map (ol.toArray[·]?) = ql.map some) (ht : ol.toArray[t]? = some ot) (hu : ol.toArray[u]? = some ou) (hts : ts.map (ol.toArray[·]?) = tl.map some) (hQ : QOk Q) (h1 : WX P n w0 ol.toArray Q ql (ot :: ou :: tl) ds fr H) (h2 : WX P n w0 ol.toArray Q ql (ou :: ot :: tl) ds fr H) : WC P n w0 (.region id ol.toArray true) Q ds fr H :=
  fun a w hf hw => wp_region_held (S := fun _ => True) hm (wpAnyH_of_fork hsel hQ ht hu hts qs ql _ _ _ _ hq hB hl (h1 _ _ hf (hw.drawn _)) (h2 _ _ hf (hw.drawn _)))
theorem WL.callW0 {P : Program} {n : Nat} {w0 : World} {ds : List Deferred} {fr : Fr} {H : List Hp} {ty : TypeId} {pos : String} {aft : Array Edge} {g : Option (Nat × Bool)} {ops : Array Oper} {Q : Post} {rest : List Oper} {d : Nat} {f : FuncId} {xs : Array Operand} {ts : Array TypeId} {args : List Value} {R : Value → List Hp → Prop} (hc : FnW P f args w0.heap.size [] R) (hf : Callable P f) (ha : evs fr xs.toList = some args) (hg : gd ops fr ⟨some d, .call ⟨.value (.func f), xs, ts⟩, ty, pos, aft, g⟩ = some true) (hn : Nat.blt d n = true)
    (hk : ∀ v Hs', R v Hs' → WL P n w0 ops Q rest ds ((d, v) :: fr) (Hs' ++ H)) :
    WL P n w0 ops Q (⟨some d, .call ⟨.value (.func f), xs, ts⟩, ty, pos, aft, g⟩ :: rest) ds fr H := WL.callW (Hs := []) hc hf ha hg hn hk
end Go.Proofs.YtodlhaghdplclaaDoor.V
