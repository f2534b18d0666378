/- The engine, part 22: slices of the call's own that begin behind the head of their block; a struct is appended. Over any program. -/
import Derived.Test.YtodlhaghdplclaaDoorVM
namespace Go.Proofs.YtodlhaghdplclaaDoor.V
open Go Go.RowKit
set_option linter.unusedSimpArgs false
set_option linter.unusedVariables false
def OwO (base : Nat) (e : TypeId) (size : Nat) (v : Value) (A : Hp) (n : Nat) (xs : List Value) : Prop :=
  xs.length = n * size ∧ ((v = .slice none 0 0 ∧ A = [] ∧ n = 0) ∨
    ∃ b off cap cur, v = .slice (some ⟨b, off, none⟩) n cap ∧ A = [(b, .cells cur e (0, 0))] ∧ base ≤ b ∧ n ≤ cap ∧ cap ≤ maxLen ∧ cur.size = off + cap * size ∧ (cur.toList.drop off).take (n * size) = xs)
theorem OwS.toO {base : Nat} {e : TypeId} {size : Nat} {v : Value} {A : Hp} {n : Nat} {xs : List Value} (h : OwS base e size v A n xs) : OwO base e size v A n xs := by
  obtain ⟨hl, h⟩ := h
  refine ⟨hl, ?_⟩
  rcases h with h | ⟨b, cap, cur, h1, h2, h3, h4, h5, h6, h7⟩
  · exact .inl h
  · exact .inr ⟨b, 0, cap, cur, h1, h2, h3, h4, h5, by omega, h7⟩
theorem OwO.nil (base : Nat) (e : TypeId) (size : Nat) : OwO base e size (.slice none 0 0) [] 0 [] := (OwS.nil base e size).toO
theorem OwO.rd {base : Nat} {e : TypeId} {size : Nat} {v : Value} {A : Hp} {n : Nat} {xs : List Value} (h : OwO base e size v A n xs) : RdS size v A n xs := by
  obtain ⟨hl, h⟩ := h
  refine ⟨hl, ?_⟩
  rcases h with ⟨rfl, rfl, rfl⟩ | ⟨b, off, cap, cur, rfl, rfl, hb, hn, hm, hs, ht⟩
  · exact .inl ⟨rfl, _, _, rfl⟩
  · refine .inr ⟨b, off, cap, cur, e, (0, 0), rfl, hn, List.mem_singleton.2 rfl, fun j hj => ?_⟩
    rw [← ht, List.getElem?_take, if_pos hj, List.getElem?_drop]
    simp
theorem OwO.fresh {base : Nat} {e : TypeId} {size : Nat} {v : Value} {A : Hp} {n : Nat} {xs : List Value} (h : OwO base e size v A n xs) : ∀ b o, (b, o) ∈ A → base ≤ b := by
  intro b o hb
  rcases h.2 with ⟨_, rfl, _⟩ | ⟨b', off, cap, cur, _, rfl, h3, _⟩
  · cases hb
  · simp at hb; omega
section
variable {P : Program} {n : Nat} {w0 : World} {ds : List Deferred} {fr : Fr} {H : List Hp} {dst : Option Tmp} {ty : TypeId} {pos : String} {aft : Array Edge} {g : Option (Nat × Bool)}
variable {ops : Array Oper} {Q : Post} {rest : List Oper} {d : Nat}
theorem run_append_inO {t t' e : TypeId} {z : Value} {size bytes m sLen sCap : Nat} {b o : Nat} {x : Value} {news : List Value} {R : Hp} {cur : Array Value} (w : World) (ht : P.underlying t = some (.slice e)) (ht' : Rowy P t') (hty : Ty P e z size bytes)
    (hlen : ∀ w, (Builtin.lenOf x).run P w = .ok m w) (hnl : news.length = m * size) (h1c : ∀ u ∈ news, u.oneCell' = true) (hsrc : ∀ w, St w0 ((b, .cells cur e (0, 0)) :: R) w → (Builtin.firstCells size m x).run P w = .ok news.toArray w)
    (hw : St w0 ((b, .cells cur e (0, 0)) :: R) w) (hroom : sLen + m ≤ sCap) (hcs : cur.size = o + sCap * size) :
    ∃ w', (Builtin.append_ #[t, t'] ty #[.slice (some ⟨b, o, none⟩) sLen sCap, x]).run P w = .ok (.slice (some ⟨b, o, none⟩) (sLen + m) sCap) w' ∧ St w0 ((b, .cells (putCells cur (o + sLen * size) news) e (0, 0)) :: R) w' := by
  obtain ⟨i, hi, hz, hs, hby⟩ := hty
  have hf := hsrc _ hw
  have hfit : (o + sLen * size) + 0 + news.length ≤ cur.size := by
    have : sLen * size + m * size ≤ sCap * size := by rw [← Nat.add_mul]; exact Nat.mul_le_mul_right _ hroom
    rw [hnl, hcs]; omega
  obtain ⟨w', hr, hst⟩ := run_storeCells_st (P := P) news 0 (o + sLen * size) cur w hw hfit h1c (fun j _ _ => by simp)
  refine ⟨w', ?_, by simpa using hst⟩
  subst hs
  rcases ht' with ⟨e', ht'⟩ | ht' <;> simp [Builtin.append_, run_underlying ht, run_underlying ht', sizeOf, typeInfo, hi, hlen, hroom, hf, add_none, hr]
theorem WL.appendO {t t' e : TypeId} {s x : Operand} {z : Value} {size bytes m k : Nat} {v y : Value} {xs news : List Value} {A : Hp} (hown : OwO w0.heap.size e size v A k xs) (ht : P.underlying t = some (.slice e)) (ht' : Rowy P t') (hty : Ty P e z size bytes) (hzs : z.cells.size = size) (hb0 : bytes ≠ 0)
    (hs : ev fr s = some v) (hx : ev fr x = some y) (hsrc : SrcS P w0 (A :: H) size m y news) (h63 : k + m ≤ maxLen) (hbytes : (k + m) * bytes ≤ 140737488355328)
    (hg : gd ops fr ⟨some d, .call ⟨.builtin .append, #[s, x], #[t, t']⟩, ty, pos, aft, g⟩ = some true) (hn : Nat.blt d n = true)
    (hk : ∀ v' A', OwO w0.heap.size e size v' A' (k + m) (xs ++ news) → WL P n w0 ops Q rest ds ((d, v') :: fr) (A' :: H)) :
    WL P n w0 ops Q (⟨some d, .call ⟨.builtin .append, #[s, x], #[t, t']⟩, ty, pos, aft, g⟩ :: rest) ds fr (A :: H) := by
  intro a w hf hw
  have hw' : St w0 (A ++ H.flatten) w := by simpa using hw
  unfold wpList
  rw [gd_wanted hf hg, if_pos rfl]
  left
  unfold Oper.wp
  obtain ⟨hl, hnl, h1c, hfc⟩ := hsrc
  have hmx : k + m ≤ 9223372036854775807 := by unfold maxLen at h63; omega
  have hlen2 : (xs ++ news).length = (k + m) * size := by rw [List.length_append, hown.1, hnl, Nat.add_mul]
  have exec : ∀ v' w', (Builtin.append_ #[t, t'] ty #[v, y]).run P w = .ok v' w' → (execOp a.eval ⟨some d, .call ⟨.builtin .append, #[s, x], #[t, t']⟩, ty, pos, aft, g⟩).run P w = .ok (.value v') w' := by
    intro v' w' hr
    simp only [execOp, resolve, invoke, builtin, Sem.run_bind, Sem.run_pure, Result.andThen_ok, List.map_toArray, List.map_cons, List.map_nil, hf.eval hs, hf.eval hx, hr]
  have grown : ∀ sCap p, v = .slice p k sCap → sCap < k + m → (∀ w, St w0 (A ++ H.flatten) w → (Builtin.firstCells size k v).run P w = .ok xs.toArray w) →
      Oper.upon P ⟨some d, .call ⟨.builtin .append, #[s, x], #[t, t']⟩, ty, pos, aft, g⟩ a (wpList P ops Q rest) Q ((execOp a.eval ⟨some d, .call ⟨.builtin .append, #[s, x], #[t, t']⟩, ty, pos, aft, g⟩).run P w) := by
    intro sCap p hv hgt hold
    have hr := run_append_grown (P := P) (ty := ty) (R := A ++ H.flatten) (p := p) (old := xs) w ht ht' hty hl hnl (fun w' h' => hfc w' (by simpa using h')) hown.1 (by rw [← hv]; exact hold) hw' hgt hmx hbytes hb0
    rw [← hv] at hr
    rw [exec _ _ hr, Oper.upon_value]
    have hge := grownCap_ge w (k + m) sCap e
    have hcm := grownCap_le_maxLen w (k + m) sCap e h63
    have hfr : ∀ b o, (b, o) ∈ A → w0.heap.size ≤ b := hown.fresh
    refine hk _ [(w.heap.size, .cells (xs.toArray ++ news.toArray ++ Builtin.zeroCells z.cells (grownCap w (k + m) sCap e - (k + m))) e (0, 0))] ⟨hlen2, .inr ⟨w.heap.size, 0, _, (xs.toArray ++ news.toArray ++ Builtin.zeroCells z.cells (grownCap w (k + m) sCap e - (k + m))), rfl, rfl, hw.size, hge, hcm, ?_, ?_⟩⟩ _ _ (hf.put _ hn) ?_
    · simp only [Array.size_append, List.size_toArray, size_zeroCells, hzs, hown.1, hnl, ← Nat.add_mul, Nat.zero_add]
      congr 1
      omega
    · rw [List.drop_zero]
      simp only [Array.toList_append, List.append_assoc]
      rw [← List.append_assoc, ← hlen2]
      exact List.take_left
    · have h1 := (hw'.drawn (w.drawn + 1)).alloc (Obj.cells (xs.toArray ++ news.toArray ++ Builtin.zeroCells z.cells (grownCap w (k + m) sCap e - (k + m))) e)
      have h2 : St w0 (A ++ ((w.heap.size, Obj.cells (xs.toArray ++ news.toArray ++ Builtin.zeroCells z.cells (grownCap w (k + m) sCap e - (k + m))) e) :: H.flatten)) (w.drew.alloc (Obj.cells (xs.toArray ++ news.toArray ++ Builtin.zeroCells z.cells (grownCap w (k + m) sCap e - (k + m))) e)) :=
        h1.perm List.perm_middle.symm
      simpa using h2.drop fun b o hb => .inl (hfr b o hb)
  rcases hown.2 with ⟨hv, hA, hk0⟩ | ⟨b, o, cap, cur, hv, hA, hbb, hnc, hcm, hcs, htake⟩
  · subst hk0
    have hx0 : xs = [] := List.eq_nil_of_length_eq_zero (by simpa using hown.1)
    by_cases hm : m = 0
    · subst hm
      have hn0 : news = [] := List.eq_nil_of_length_eq_zero (by simpa using hnl)
      have hr : (Builtin.append_ #[t, t'] ty #[v, y]).run P w = .ok (.slice none 0 0) w := by
        obtain ⟨i, hi, hz, hss, hby⟩ := hty
        have hf0 := hfc w hw
        subst hss
        rw [hv]
        rcases ht' with ⟨e', ht'⟩ | ht' <;> simp [Builtin.append_, run_underlying ht, run_underlying ht', sizeOf, typeInfo, hi, hl, hf0]
      rw [exec _ _ hr, Oper.upon_value]
      exact hk _ A ⟨hlen2, .inl ⟨rfl, hA, rfl⟩⟩ _ _ (hf.put _ hn) hw
    · refine grown 0 none hv (by omega) fun w' _ => ?_
      rw [hv, hx0]; simp [Builtin.firstCells]
  · by_cases hroom : k + m ≤ cap
    · subst hA
      obtain ⟨w', hr, hst⟩ := run_append_inO (P := P) (ty := ty) (R := H.flatten) w ht ht' hty hl hnl h1c (fun w' h' => hfc w' (by simpa using h')) (by simpa using hw') hroom hcs
      rw [← hv] at hr
      rw [exec _ _ hr, Oper.upon_value]
      refine hk _ [(b, .cells (putCells cur (o + k * size) news) e (0, 0))] ⟨hlen2, .inr ⟨b, o, cap, putCells cur (o + k * size) news, rfl, rfl, hbb, hroom, hcm, by rw [size_putCells, hcs], ?_⟩⟩ _ _ (hf.put _ hn) (by simpa using hst)
      have hfit : (o + k * size) + news.length ≤ cur.size := by
        have : k * size + m * size ≤ cap * size := by rw [← Nat.add_mul]; exact Nat.mul_le_mul_right _ hroom
        rw [hnl, hcs]; omega
      apply List.ext_getElem?
      intro j
      rw [List.getElem?_take]
      by_cases hj : j < (k + m) * size
      · rw [if_pos hj, List.getElem?_drop, Array.getElem?_toList, putCells_get _ _ _ _ hfit]
        have hjm : j < k * size + m * size := by rw [← Nat.add_mul]; exact hj
        by_cases hj2 : k * size ≤ j
        · rw [if_pos ⟨by omega, by rw [hnl]; omega⟩, List.getElem?_append_right (by rw [hown.1]; exact hj2), hown.1]
          congr 1; omega
        · rw [if_neg (by omega), List.getElem?_append_left (by rw [hown.1]; omega), ← htake, List.getElem?_take, if_pos (by omega), List.getElem?_drop]
          simp
      · rw [if_neg hj]
        exact (List.getElem?_eq_none (by rw [hlen2]; omega)).symm
    · refine grown cap (some ⟨b, o, none⟩) hv (by omega) fun w' hw2 => ?_
      have hnow := hw2.now b (.cells cur e (0, 0)) (by rw [hA]; simp)
      rw [hv]
      refine run_firstCells_some w' size k _ k cap xs hown.1 fun j u hu => ?_
      rw [add_none, cell_at hnow]
      rw [← htake, List.getElem?_take] at hu
      split at hu
      · rw [List.getElem?_drop] at hu; simpa using hu
      · cases hu
theorem foldl_set (us : List Value) : ∀ (init : Array Value) (k : Nat), k + us.length = init.size → ∀ (pre : List Value), init.toList.take k = pre → ((us.zipIdx k).foldl (fun cs (p : Value × Nat) => cs.setIfInBounds p.2 p.1) init).toList = pre ++ us := by
  induction us with
  | nil => intro init k hk pre hp; simp only [List.zipIdx_nil, List.foldl_nil, List.append_nil]; rw [← hp, List.take_of_length_le (by simp at hk; simp [hk])]
  | cons u us ih =>
    intro init k hk pre hp
    rw [List.zipIdx_cons, List.foldl_cons]
    have := ih (init.setIfInBounds k u) (k + 1) (by simp at hk ⊢; omega) (pre ++ [u]) (by
      rw [Array.toList_setIfInBounds, List.take_succ_eq_append_getElem (by simp at hk ⊢; omega)]
      simp at hk
      rw [List.getElem_set_self, List.take_set_of_le (Nat.le_refl _), hp])
    rw [this, List.append_assoc]; rfl
/-- append(s, x), x a struct: what is appended is written out first -/
theorem WL.appendO1 {t e : TypeId} {s x : Operand} {z : Value} {size bytes k d1 : Nat} {v : Value} {us xs : List Value} {A : Hp} {ty1 ty2 : TypeId} {pos1 pos2 : String} {aft1 aft2 : Array Edge} {g1 g2 : Option (Nat × Bool)}
    (hown : OwO w0.heap.size e size v A k xs) (ht : P.underlying t = some (.slice e)) (hty : Ty P e z size bytes) (hzs : z.cells.size = size) (hs0 : 0 < size ∧ size ≤ 1000) (hb0 : bytes ≠ 0)
    (hs : ∀ u, ev ((d1, u) :: fr) s = some v) (hx : ev fr x = some (.agg us.toArray)) (hus : us.length = size) (h1 : ∀ u ∈ us, u.oneCell' = true)
    (h63 : k + 1 ≤ maxLen) (hbytes : (k + 1) * bytes ≤ 140737488355328)
    (hg1 : gd ops fr ⟨some d1, .buildSlice t 1 #[(0, x)], ty1, pos1, aft1, g1⟩ = some true) (hn1 : Nat.blt d1 n = true)
    (hg2 : ∀ u, gd ops ((d1, u) :: fr) ⟨some d, .call ⟨.builtin .append, #[s, .tmp d1], #[t, t]⟩, ty2, pos2, aft2, g2⟩ = some true) (hn2 : Nat.blt d n = true)
    (hk : ∀ v' A' u', OwO w0.heap.size e size v' A' (k + 1) (xs ++ us) → WL P n w0 ops Q rest ds ((d, v') :: (d1, u') :: fr) (A' :: H)) :
    WL P n w0 ops Q (⟨some d1, .buildSlice t 1 #[(0, x)], ty1, pos1, aft1, g1⟩ :: ⟨some d, .call ⟨.builtin .append, #[s, .tmp d1], #[t, t]⟩, ty2, pos2, aft2, g2⟩ :: rest) ds fr (A :: H) := by
  refine WL.buildSlice (vs := [(0, .agg us.toArray)]) (cells := us.toArray) ht hty (fun a hf => by simp [hf.eval hx]) (by omega) (by omega) ?_ hg1 hn1 fun b hb => ?_
  · unfold Instr.fill
    have e0 : (Value.agg us.toArray).cells = us.toArray := rfl
    have hsz : ((Array.range (1 * size)).map (z.cells[· % z.cells.size]!)).size = size := by simp
    simp only [e0, List.size_toArray, hus, hsz, Nat.zero_mul, Nat.zero_add, ne_eq, not_true, decide_false, Bool.false_or, gt_iff_lt, Nat.lt_irrefl, if_false, Bool.false_eq_true]
    unfold Instr.fill
    congr 1
    have := foldl_set us ((Array.range (1 * size)).map (z.cells[· % z.cells.size]!)) 0 (by rw [hsz, hus]; omega) [] (by simp)
    apply Array.ext'
    rw [← Array.foldl_toList]
    simpa using this
  refine WL.f1 ?_
  refine WL.appendO (y := .slice (some ⟨b, 0, none⟩) 1 1) (news := us) (m := 1) hown ht (.inl ⟨_, ht⟩) hty hzs hb0 (hs _) (by simp [ev, gt_cons]) ?_ h63 hbytes (hg2 _) hn2 fun v' A' ho' => ?_
  · refine SrcS.rd (A := [(b, .cells us.toArray e (0, 0))]) ⟨by simpa using hus, .inr ⟨b, 0, 1, us.toArray, e, (0, 0), rfl, Nat.le_refl _, List.mem_singleton.2 rfl, fun j hj => by simp⟩⟩ (by simp) h1
  · exact WL.f1 (WL.lose hb (hk v' A' _ ho'))
/-- s[i:] of a slice of the call's own, some of it left -/
theorem WL.sliceO {t e : TypeId} {x y : Operand} {z : Value} {size bytes m : Nat} {kd : IntKind} {i : Int} {v : Value} {A : Hp} {xs : List Value} (hown : OwO w0.heap.size e size v A m xs) (ht : P.underlying t = some (.slice e)) (hty : Ty P e z size bytes) (hx : ev fr x = some v) (hy : ev fr y = some (.int kd i)) (h : 0 ≤ i ∧ i < m)
    (hg : gd ops fr ⟨some d, .slice t x (some y) none none, ty, pos, aft, g⟩ = some true) (hn : Nat.blt d n = true)
    (hk : ∀ v', OwO w0.heap.size e size v' A (m - i.toNat) (xs.drop (i.toNat * size)) → WL P n w0 ops Q rest ds ((d, v') :: fr) H) : WL P n w0 ops Q (⟨some d, .slice t x (some y) none none, ty, pos, aft, g⟩ :: rest) ds fr H := by
  obtain ⟨hl, h2⟩ := hown
  rcases h2 with ⟨rfl, rfl, rfl⟩ | ⟨b, off, cap, cur, rfl, rfl, hb, hnc, hm, hs, htk⟩
  · omega
  have hna : ∀ w, (underlying t).run P w = .ok (.slice e) w := run_underlying ht
  have hi3 : 0 ≤ i ∧ i ≤ (m : Int) := by omega
  have e1 : i.toNat * size ≤ m * size := Nat.mul_le_mul_right _ (by omega)
  refine WL.q (v := .slice (some ⟨b, off + i.toNat * size, none⟩) (m - i.toNat) (cap - i.toNat)) (oq_of_run fun a w hf _ => ?_) hg rfl hn (hk _ ⟨?_, .inr ⟨b, off + i.toNat * size, cap - i.toNat, cur, rfl, rfl, hb, by omega, by omega, ?_, ?_⟩⟩)
  · have hne : ¬ (cap = i.toNat) := by omega
    simp [execOp, hf.eval hx, hf.eval hy, Instr.sliceAt, Instr.slice, Instr.sliceBounds, hna, run_size hty, run_sliceBound hi3, hne, add_none]
  · rw [List.length_drop, hl, Nat.sub_mul]
  · rw [hs]
    have : i.toNat * size + (cap - i.toNat) * size = cap * size := by rw [← Nat.add_mul]; congr 1; omega
    omega
  · rw [← htk, List.drop_take, List.drop_drop, Nat.sub_mul]
end
end Go.Proofs.YtodlhaghdplclaaDoor.V
