/- The engine, part 8: texts as characters and as bytes, and back. Over any program. -/
import Derived.Test.YtodlhaghdplclaaDoorV7
namespace Go.Proofs.YtodlhaghdplclaaDoor.V
open Go Go.RowKit
set_option linter.unusedSimpArgs false
set_option linter.unusedVariables false
section
variable {P : Program} {n : Nat} {w0 : World} {ds : List Deferred} {fr : Fr} {H H' : List Hp} {dst : Option Tmp} {ty : TypeId} {pos : String} {aft : Array Edge} {g : Option (Nat × Bool)}
variable {ops : Array Oper} {Q : Post} {rest : List Oper} {d : Nat}

def rlistF (s : List UInt8) : Nat → Nat → List Nat
  | 0, _ => []
  | f + 1, i => if i < s.length then (decAt s i).1 :: rlistF s f (i + (decAt s i).2) else []
/-- the characters of a text -/
def rlist (s : List UInt8) : List Nat := rlistF s s.length 0
def runeV (l : List Nat) : List Value := l.map fun (r : Nat) => .int .i32 (r : Int)
theorem runesFrom_eq (s : List UInt8) : ∀ (f i : Nat) (acc : Array Value), Conv.runesFrom ⟨⟨s⟩⟩ f i acc = acc ++ (runeV (rlistF s f i)).toArray := by
  intro f
  induction f with
  | zero => intro i acc; simp [Conv.runesFrom, rlistF, runeV]
  | succ f ih =>
    intro i acc
    unfold Conv.runesFrom rlistF
    have e : (⟨⟨s⟩⟩ : ByteArray).size = s.length := rfl
    rw [e]
    by_cases h : i < s.length
    · rw [if_pos h, if_pos h]
      show Conv.runesFrom ⟨⟨s⟩⟩ f (i + (decAt s i).2) (acc.push (.int .i32 (Int.ofNat (decAt s i).1))) = _
      rw [ih]
      simp [runeV]
    · rw [if_neg h, if_neg h]; simp [runeV]
theorem rlistF_len (s : List UInt8) : ∀ (f i : Nat), (rlistF s f i).length ≤ f := by
  intro f
  induction f with
  | zero => intro i; simp [rlistF]
  | succ f ih =>
    intro i; unfold rlistF; split
    · have := ih (i + (decAt s i).2); simp; omega
    · simp
theorem rlist_len (s : List UInt8) : (rlist s).length ≤ s.length := rlistF_len s s.length 0

/-- a text as characters -/
theorem WL.toRunes {t t' e : TypeId} {x : Operand} {l : List UInt8} (hs : P.underlying t = some .string) (ht : P.underlying t' = some (.slice e)) (he : P.underlying e = some (.int .i32)) (hx : ev fr x = some (S l)) (hl : l.length ≤ maxLen)
    (hg : gd ops fr ⟨some d, .convert t t' x, ty, pos, aft, g⟩ = some true) (hn : Nat.blt d n = true)
    (hk : ∀ v A, OwS w0.heap.size e 1 v A (rlist l).length (runeV (rlist l)) → WL P n w0 ops Q rest ds ((d, v) :: fr) (A :: H)) :
    WL P n w0 ops Q (⟨some d, .convert t t' x, ty, pos, aft, g⟩ :: rest) ds fr H := by
  intro a w hf hw
  unfold wpList
  rw [gd_wanted hf hg, if_pos rfl]
  left
  unfold Oper.wp
  have e1 : Conv.runesFrom ⟨⟨l⟩⟩ (⟨⟨l⟩⟩ : ByteArray).size 0 #[] = (runeV (rlist l)).toArray := by rw [runesFrom_eq]; simp; rfl
  have hlen : (runeV (rlist l)).length = (rlist l).length := by simp [runeV]
  have hge := grownCap_ge w (rlist l).length 0 e
  have hcm := grownCap_le_maxLen w (rlist l).length 0 e (Nat.le_trans (rlist_len l) hl)
  have hr : (execOp a.eval ⟨some d, .convert t t' x, ty, pos, aft, g⟩).run P w = .ok (.value (.slice (some ⟨w.heap.size, 0, none⟩) (rlist l).length (grownCap w (rlist l).length 0 e)))
      (w.drew.alloc (.cells ((runeV (rlist l)).toArray ++ Array.replicate (grownCap w (rlist l).length 0 e - (rlist l).length) (.int .i32 0)) e)) := by
    simp [execOp, hf.eval hx, convert, run_underlying hs, run_underlying ht, run_underlying he, Conv.stringToRunes, e1, hlen, Question.forced, newRow, grownCap]
  rw [hr, Oper.upon_value]
  refine hk _ [(w.heap.size, .cells ((runeV (rlist l)).toArray ++ Array.replicate (grownCap w (rlist l).length 0 e - (rlist l).length) (.int .i32 0)) e (0, 0))] ⟨by simp [runeV], .inr ⟨w.heap.size, grownCap w (rlist l).length 0 e, _, rfl, rfl, hw.size, hge, hcm, ?_, ?_⟩⟩ _ _ (hf.put _ hn) ?_
  · simp [runeV]; omega
  · simp [runeV]
  · have h1 := (hw.drawn (w.drawn + 1)).alloc (Obj.cells ((runeV (rlist l)).toArray ++ Array.replicate (grownCap w (rlist l).length 0 e - (rlist l).length) (.int .i32 0)) e)
    simpa using h1

def bytesOf (z : ByteArray) : List UInt8 := z.data.toList
def encR (r : Nat) : List UInt8 := bytesOf (Utf8.encode (r : Int))
theorem S_append_z (l : List UInt8) (z : ByteArray) : (⟨⟨l⟩⟩ : ByteArray) ++ z = ⟨⟨l ++ z.data.toList⟩⟩ := by
  obtain ⟨⟨k⟩⟩ := z
  exact S_append l k
theorem runeV_cons (r : Nat) (rs : List Nat) : runeV (r :: rs) = .int .i32 (r : Int) :: runeV rs := rfl
theorem forIn_run {w : World} (E : Int → ByteArray) (f : Value → ByteArray → Sem (ForInStep ByteArray)) (hf : ∀ (r : Nat) (s : ByteArray), (f (.int .i32 (r : Int)) s).run P w = .ok (.yield (s ++ E (r : Int))) w) :
    ∀ (rs : List Nat) (s0 : List UInt8), (forIn (runeV rs) (⟨⟨s0⟩⟩ : ByteArray) f).run P w = .ok ⟨⟨s0 ++ rs.flatMap fun (r : Nat) => bytesOf (E (r : Int))⟩⟩ w := by
  intro rs
  induction rs with
  | nil => intro s0; simp [runeV]
  | cons r rs ih =>
    intro s0
    have e : (⟨⟨s0⟩⟩ : ByteArray) ++ E (r : Int) = ⟨⟨s0 ++ bytesOf (E (r : Int))⟩⟩ := S_append_z s0 _
    rw [runeV_cons, List.forIn_cons, Sem.run_bind, hf, Result.andThen_ok, e]
    exact (ih (s0 ++ bytesOf (E (r : Int)))).trans (by rw [List.flatMap_cons, List.append_assoc])
/-- characters as a text -/
theorem oq_runesStr {t t' e : TypeId} {x : Operand} {m : Nat} {v : Value} {A : Hp} {rs : List Nat} (hr : RdS 1 v A m (runeV rs)) (hA : A ∈ H) (hs : P.underlying t' = some .string) (ht : P.underlying t = some (.slice e)) (he : P.underlying e = some (.int .i32)) (hx : ev fr x = some v) :
    OV P n w0 ⟨dst, .convert t t' x, ty, pos, aft, g⟩ (S (rs.flatMap encR)) ds fr H :=
  oq_of_run fun a w hf hw => by
    have hl : rs.length = m := by have := hr.1; simpa [runeV] using this
    have key : (Conv.runesToString v).run P w = .ok (S (rs.flatMap encR)) w := by
      rcases hr.2 with ⟨rfl, p, c, rfl⟩ | ⟨b, off, c, cells, e', fz, rfl, _, hb, hc⟩
      · have : rs = [] := List.eq_nil_of_length_eq_zero hl
        subst this
        cases p with
        | none => simp [Conv.runesToString]; rfl
        | some p => simp [Conv.runesToString, loadCells, loadCellsFrom]; rfl
      · have hnow := hw.now b _ (mem_flat hA hb)
        have hl2 : (runeV rs).length = m := by simpa [runeV] using hl
        have h2 := run_loadCells (P := P) hnow (runeV rs) fun j u hj => by
          rw [hc j (by have := (List.getElem?_eq_some_iff.1 hj).1; omega)]; exact hj
        rw [hl2] at h2
        unfold Conv.runesToString
        simp only [Sem.run_bind, h2, Result.andThen_ok]
        rw [← Array.forIn_toList]
        have := forIn_run (P := P) (w := w) Utf8.encode (fun c s => match c with
          | .int .i32 n => pure (ForInStep.yield (s ++ Utf8.encode n))
          | _ => do
            stuck "runesToString: rune expected"
            pure (ForInStep.yield s)) (fun r s => by simp) rs []
        simp only [List.nil_append] at this
        exact (congrArg (fun r => Result.andThen r fun a w' => Sem.run P (pure (Value.string a)) w') this).trans rfl
    have hsh := hr.shape
    obtain ⟨p, c, rfl⟩ := hsh
    simp [execOp, hf.eval hx, convert, run_underlying hs, run_underlying ht, run_underlying he, key]
theorem oq_load_rune {t : TypeId} {x : Operand} {i : Int} {m : Nat} {v : Value} {A : Hp} {rs : List Nat} (hr : RdS 1 v A m (runeV rs)) (hA : A ∈ H) (ht : Flat P t) (hx : ev fr x = some (elAddr 1 v i)) (h : 0 ≤ i ∧ i < m) {j : Nat} (hj : i.toNat = j) :
    OV P n w0 ⟨dst, .load t x, ty, pos, aft, g⟩ (.int .i32 ((rs.getD j 0 : Nat) : Int)) ds fr H :=
  hj ▸ oq_load_el hr hA ht hx h (by
    have hl := hr.1
    simp only [runeV, List.length_map, Nat.mul_one] at hl
    rw [runeV, List.getElem?_map, getD_of rs i.toNat 0 (by omega)]; rfl)

/-! ### s[:j:j], and append to it -/
def fullS : Value → Nat → Value
  | .slice p _ _, j => .slice p j j
  | v, _ => v
theorem full_rd {size m j : Nat} {v : Value} {A : Hp} {xs : List Value} (hr : RdS size v A m xs) (hj : j ≤ m) : RdS size (fullS v j) A j (xs.take (j * size)) ∧ ∃ p, fullS v j = .slice p j j := by
  have hl := hr.1
  have hle : j * size ≤ m * size := Nat.mul_le_mul_right _ hj
  rcases hr.2 with ⟨rfl, p, c, rfl⟩ | ⟨b, off, c, cells, e', fz, rfl, hmc, hb, hc⟩
  · have : j = 0 := by omega
    subst this
    exact ⟨⟨by simp, .inl ⟨rfl, p, 0, rfl⟩⟩, _, rfl⟩
  · refine ⟨⟨by rw [List.length_take]; omega, .inr ⟨b, off, j, cells, e', fz, rfl, Nat.le_refl _, hb, fun k hk => ?_⟩⟩, _, rfl⟩
    rw [hc k (by omega), List.getElem?_take, if_pos hk]
theorem oq_slice3 {t e : TypeId} {x y y' : Operand} {z : Value} {size bytes m : Nat} {k k' : IntKind} {i : Int} {v : Value} {A : Hp} {xs : List Value} (hr : RdS size v A m xs) (hmc : ∀ p c, v = .slice p m c → m ≤ c) (ht : P.underlying t = some (.slice e)) (hty : Ty P e z size bytes) (hx : ev fr x = some v)
    (hy : ev fr y = some (.int k i)) (hy' : ev fr y' = some (.int k' i)) (h : 0 ≤ i ∧ i ≤ m) : OV P n w0 ⟨dst, .slice t x none (some y) (some y'), ty, pos, aft, g⟩ (fullS v i.toNat) ds fr H := by
  obtain ⟨p, c, rfl⟩ := hr.shape
  have hc := hmc p c rfl
  refine oq_of_run fun a w hf _ => ?_
  have hj : 0 ≤ i ∧ i ≤ (c : Int) := by omega
  have hj2 : 0 ≤ i ∧ i ≤ (i.toNat : Int) := by omega
  have hna : ∀ w, (underlying t).run P w = .ok (.slice e) w := run_underlying ht
  have e0 : p.map (fun a : Addr => a.add 0) = p := by cases p <;> simp [Addr.add]
  simp [execOp, hf.eval hx, hf.eval hy, hf.eval hy', Instr.sliceAt, Instr.slice, Instr.sliceBounds, hna, run_size hty, run_sliceBound hj, run_sliceBound hj2, fullS, e0]
theorem OwS.cap {base : Nat} {e : TypeId} {size m : Nat} {v : Value} {A : Hp} {xs : List Value} (h : OwS base e size v A m xs) : ∀ p c, v = .slice p m c → m ≤ c := by
  intro p c hv
  rcases h.2 with ⟨hv2, _, h0⟩ | ⟨b, cap, cur, hv2, _, _, hle, _⟩
  · omega
  · rw [hv] at hv2; cases hv2; exact hle
theorem WL.append1F {t e : TypeId} {s x : Operand} {z : Value} {bytes k d1 : Nat} {v u : Value} {xs : List Value} {A : Hp} {ty1 ty2 : TypeId} {pos1 pos2 : String} {aft1 aft2 : Array Edge} {g1 g2 : Option (Nat × Bool)}
    (hr : RdS 1 v A k xs) (hA : A ∈ H) (hfull : ∃ p, v = .slice p k k) (h1x : ∀ u ∈ xs, u.oneCell' = true) (ht : P.underlying t = some (.slice e)) (hty : Ty P e z 1 bytes) (hz1 : z.oneCell' = true) (hb0 : bytes ≠ 0)
    (hs : ∀ u, ev ((d1, u) :: fr) s = some v) (hx : ev fr x = some u) (hu : u.oneCell' = true)
    (h63 : k + 1 ≤ maxLen) (hbytes : (k + 1) * bytes ≤ 140737488355328)
    (hg1 : gd ops fr ⟨some d1, .buildSlice t 1 #[(0, x)], ty1, pos1, aft1, g1⟩ = some true) (hn1 : Nat.blt d1 n = true)
    (hg2 : ∀ u, gd ops ((d1, u) :: fr) ⟨some d, .call ⟨.builtin .append, #[s, .tmp d1], #[t, t]⟩, ty2, pos2, aft2, g2⟩ = some true) (hn2 : Nat.blt d n = true)
    (hk : ∀ v' A' u', OwS w0.heap.size e 1 v' A' (k + 1) (xs ++ [u]) → v' ≠ .slice none 0 0 → WL P n w0 ops Q rest ds ((d, v') :: (d1, u') :: fr) (A' :: H)) :
    WL P n w0 ops Q (⟨some d1, .buildSlice t 1 #[(0, x)], ty1, pos1, aft1, g1⟩ :: ⟨some d, .call ⟨.builtin .append, #[s, .tmp d1], #[t, t]⟩, ty2, pos2, aft2, g2⟩ :: rest) ds fr H := by
  have e1 := one_cells hu
  have e2 := one_cells hz1
  have e3 : Array.range 1 = #[0] := by decide +kernel
  refine WL.buildSlice (vs := [(0, u)]) (cells := #[u]) ht hty (fun a hf => by simp [hf.eval hx]) (by omega) (by omega) (by simp [Instr.fill, e1, e2, e3]) hg1 hn1 fun b hb => ?_
  intro a w hf hw
  unfold wpList
  rw [gd_wanted hf (hg2 _), if_pos rfl]
  left
  unfold Oper.wp
  have hmx : k + 1 ≤ 9223372036854775807 := by unfold maxLen at h63; omega
  obtain ⟨p, hp⟩ := hfull
  have hsrc := SrcS.rd (P := P) (w0 := w0) (H := [(b, .cells #[u] e (0, 0))] :: H) (size := 1) (m := 1) (v := .slice (some ⟨b, 0, none⟩) 1 1) (A := [(b, .cells #[u] e (0, 0))]) (xs := [u]) ⟨by simp, .inr ⟨b, 0, 1, #[u], e, (0, 0), rfl, Nat.le_refl _, List.mem_singleton.2 rfl, fun j hj => by simp⟩⟩ (by simp) (by simpa using hu)
  have hold := (SrcS.rd (P := P) (w0 := w0) (H := [(b, .cells #[u] e (0, 0))] :: H) hr (List.mem_cons_of_mem _ hA) h1x).2.2.2
  have hrun := run_append_grown (P := P) (ty := ty2) (R := ([(b, .cells #[u] e (0, 0))] :: H).flatten) (p := p) (old := xs) (sCap := k) w ht (.inl ⟨_, ht⟩) hty hsrc.1 hsrc.2.1 hsrc.2.2.2 hr.1 (by rw [← hp]; exact hold) hw (by omega) hmx hbytes hb0
  rw [← hp] at hrun
  have exec : (execOp a.eval ⟨some d, .call ⟨.builtin .append, #[s, .tmp d1], #[t, t]⟩, ty2, pos2, aft2, g2⟩).run P w = .ok (.value (.slice (some ⟨w.heap.size, 0, none⟩) (k + 1) (grownCap w (k + 1) k e))) (w.drew.alloc (.cells (xs.toArray ++ [u].toArray ++ Builtin.zeroCells z.cells (grownCap w (k + 1) k e - (k + 1))) e)) := by
    have ed : a.eval (.tmp d1) = .slice (some ⟨b, 0, none⟩) 1 1 := hf.eval (by simp [ev, gt_cons])
    simp only [execOp, resolve, invoke, builtin, Sem.run_bind, Sem.run_pure, Result.andThen_ok, List.map_toArray, List.map_cons, List.map_nil, hf.eval (hs _), ed, hrun]
  rw [exec, Oper.upon_value]
  have hge := grownCap_ge w (k + 1) k e
  have hcm := grownCap_le_maxLen w (k + 1) k e h63
  have hlx := hr.1
  have hkk := hk (.slice (some ⟨w.heap.size, 0, none⟩) (k + 1) (grownCap w (k + 1) k e)) [(w.heap.size, .cells (xs.toArray ++ [u].toArray ++ Builtin.zeroCells z.cells (grownCap w (k + 1) k e - (k + 1))) e (0, 0))] (.slice (some ⟨b, 0, none⟩) 1 1)
    ⟨by simp; omega, .inr ⟨w.heap.size, _, _, rfl, rfl, hw.size, hge, hcm, by simp [size_zeroCells, e2]; omega, by
      rw [Array.toList_append, Array.toList_append]
      rw [show xs.toArray.toList ++ [u].toArray.toList = xs ++ [u] from rfl, show (k + 1) * 1 = (xs ++ [u]).length from by simp; omega]
      exact List.take_left⟩⟩ (by simp)
  refine (WL.f1 (WL.lose (b := b) (o := .cells #[u] e (0, 0)) hb hkk)) _ _ (hf.put _ hn2) ?_
  have h1 := (hw.drawn (w.drawn + 1)).alloc (Obj.cells (xs.toArray ++ [u].toArray ++ Builtin.zeroCells z.cells (grownCap w (k + 1) k e - (k + 1))) e)
  simpa using h1
end
end Go.Proofs.YtodlhaghdplclaaDoor.V
