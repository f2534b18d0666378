/- All five steps behind operations: plain laws. -/
import Derived.Test.YtclafiglpcjhdaaGreatS7
namespace Go.Proofs.YtclafiglpcjhdaaGreat
open Go Go.RowKit V S0 S1 S2 S3 S4 S5 S6 S7
set_option linter.unusedSimpArgs false
set_option linter.unusedVariables false
set_option maxRecDepth 10000
namespace S8


structure WO where
  s : Int
  k : Int
  d : List UInt8
  b : List UInt8
  a : Bool
def WO0 : WO := ⟨0, 0, [], [], false⟩
def wof (o : WO) : List Value := [I o.s, I o.k, S o.d, S o.b, .bool o.a]
def fitP (o : WO) : Bool := decide ((o.d.length : Int) ≤ 2147483647) && decide ((o.b.length : Int) ≤ 2147483647)
def fitsW (l : List WO) : Bool := decide ((l.length : Int) ≤ 2147483647) && l.all fitP
def lookP (o : WO) : Bool := decide (0 ≤ o.s ∧ o.s ≤ 4 ∧ 0 ≤ o.k ∧ o.k ≤ 4 ∧ (o.d.length : Int) + o.b.length ≤ 100)
def looked (l : List WO) : Bool := l.all lookP && decide ((l.length : Int) ≤ 60)
theorem all_get {α : Type} {p : α → Bool} (l : List α) (i : Nat) (d : α) (h : i < l.length) : (l.drop i).all p = (p (l.getD i d) && (l.drop (i + 1)).all p) := by
  rw [List.drop_eq_getElem_cons h, List.all_cons, List.getD_eq_getElem?_getD, List.getElem?_eq_getElem h]; rfl
theorem all_el {α : Type} {p : α → Bool} {l : List α} (h : l.all p = true) {i : Nat} (d : α) (hi : i < l.length) : p (l.getD i d) = true := by
  rw [List.getD_eq_getElem?_getD, List.getElem?_eq_getElem hi]
  exact List.all_eq_true.1 h _ (List.getElem_mem hi)
/-- what an operation does to a list of names; none: an error -/
def wopI (o : WO) (l : List (List UInt8)) : Option (List (List UInt8)) :=
  if o.k = 0 then some (putI o.a o.d l) else if o.k = 1 then insI o.b o.a o.d l else if o.k = 2 then swpI o.b o.d l else if o.k = 3 then remI o.d l else some []
def wnext (st : (Nat → List (List UInt8)) × List Bool) (o : WO) : (Nat → List (List UInt8)) × List Bool :=
  match wopI o (st.1 o.s.toNat) with
  | some m => (updW st.1 o.s.toNat m, st.2 ++ [false])
  | none => (st.1, st.2 ++ [true])
def wst (l : List WO) : (Nat → List (List UInt8)) × List Bool := l.foldl wnext (fun _ => [], [])
theorem wst_next {l : List WO} {i : Nat} (h : i < l.length) : wst (l.take (i + 1)) = wnext (wst (l.take i)) (l.getD i WO0) := by
  unfold wst
  rw [List.take_succ_eq_append_getElem h, List.foldl_append, List.getD_eq_getElem?_getD, List.getElem?_eq_getElem h]; rfl
theorem wst_snoc (l : List WO) (o : WO) : wst (l ++ [o]) = wnext (wst l) o := by
  unfold wst
  rw [List.foldl_append]; rfl
theorem insI_len {b : List UInt8} {a : Bool} {d : List UInt8} : ∀ {l m : List (List UInt8)}, insI b a d l = some m → m.length = l.length + 1
  | [], m, h => by cases h
  | x :: r, m, h => by
    have h2 : (if x = b then some (if a then x :: d :: r else d :: x :: r) else (insI b a d r).map (x :: ·)) = some m := h
    split at h2
    · injection h2 with h2; subst h2; cases a <;> simp
    · obtain ⟨m2, hm, rfl⟩ := Option.map_eq_some_iff.1 h2
      simp [insI_len hm]
theorem swpI_len {b d : List UInt8} : ∀ {l m : List (List UInt8)}, swpI b d l = some m → m.length = l.length
  | [], m, h => by cases h
  | x :: r, m, h => by
    have h2 : (if x = b then some (d :: r) else (swpI b d r).map (x :: ·)) = some m := h
    split at h2
    · injection h2 with h2; subst h2; simp
    · obtain ⟨m2, hm, rfl⟩ := Option.map_eq_some_iff.1 h2
      simp [swpI_len hm]
theorem remI_len {d : List UInt8} : ∀ {l m : List (List UInt8)}, remI d l = some m → m.length ≤ l.length
  | [], m, h => by cases h
  | x :: r, m, h => by
    have h2 : (if x = d then some r else (remI d r).map (x :: ·)) = some m := h
    split at h2
    · injection h2 with h2; subst h2; simp
    · obtain ⟨m2, hm, rfl⟩ := Option.map_eq_some_iff.1 h2
      have := remI_len hm
      simp; omega
theorem wopI_len {o : WO} {l m : List (List UInt8)} (h : wopI o l = some m) : m.length ≤ l.length + 1 := by
  unfold wopI at h
  split at h
  · injection h with h; subst h; unfold putI; cases o.a <;> simp
  split at h
  · have := insI_len h; omega
  split at h
  · have := swpI_len h; omega
  split at h
  · have := remI_len h; omega
  · injection h with h; subst h; simp
theorem wnext_len {st : (Nat → List (List UInt8)) × List Bool} {o : WO} {n : Nat} (h : ∀ j, (st.1 j).length ≤ n) : (∀ j, ((wnext st o).1 j).length ≤ n + 1) ∧ (wnext st o).2.length = st.2.length + 1 := by
  unfold wnext
  split
  · rename_i m hm
    refine ⟨fun j => ?_, by simp⟩
    show (updW st.1 o.s.toNat m j).length ≤ n + 1
    by_cases hj : j = o.s.toNat
    · rw [hj, updW_at]
      have h1 := wopI_len hm
      have h2 := h o.s.toNat
      omega
    · rw [updW_ne _ _ hj]
      have := h j
      omega
  · exact ⟨fun j => Nat.le_succ_of_le (h j), by simp⟩
theorem wst_len (l : List WO) : ∀ i, i ≤ l.length → (∀ j, ((wst (l.take i)).1 j).length ≤ i) ∧ (wst (l.take i)).2.length = i
  | 0, _ => ⟨fun j => by simp [wst], by simp [wst]⟩
  | i + 1, h => by
    obtain ⟨h1, h2⟩ := wst_len l i (by omega)
    rw [wst_next (by omega)]
    obtain ⟨h3, h4⟩ := wnext_len (o := l.getD i WO0) h1
    exact ⟨h3, by rw [h4, h2]⟩
theorem ids_len (its : Nat → List Nd) (j : Nat) : (ids its j).length = (its j).length := by unfold ids; simp
/-! ### The steps behind operations -/
def sel5 (a b c d e : Nat) : Nat → Nat
  | 0 => a
  | 1 => b
  | 2 => c
  | 3 => d
  | _ => e
def stps (G : SS) : Array Value := stp 0 (G.sb 0) (G.b2 0) (G.b5 0) ++ stp 1 (G.sb 1) (G.b2 1) (G.b5 1) ++ stp 2 (G.sb 2) (G.b2 2) (G.b5 2) ++ stp 3 (G.sb 3) (G.b2 3) (G.b5 3) ++ stp 4 (G.sb 4) (G.b2 4) (G.b5 4)
theorem stps_at (G : SS) (i : Nat) (hi : i < 5) : ((stps G).toList.drop (0 + i * 7)).take 7 = (stp i (G.sb i) (G.b2 i) (G.b5 i)).toList :=
  match i, hi with
  | 0, _ => by kernel_rfl
  | 1, _ => by kernel_rfl
  | 2, _ => by kernel_rfl
  | 3, _ => by kernel_rfl
  | 4, _ => by kernel_rfl
theorem stps_ex (G : SS) (i : Nat) (hi : i < 5) : (stps G).extract (i * 7) (i * 7 + 7) = stp i (G.sb i) (G.b2 i) (G.b5 i) :=
  match i, hi with
  | 0, _ => by kernel_rfl
  | 1, _ => by kernel_rfl
  | 2, _ => by kernel_rfl
  | 3, _ => by kernel_rfl
  | 4, _ => by kernel_rfl
def SOk (G : SS) (base : Nat) : Prop := ∀ i, i < 5 → base ≤ G.sb i ∧ base ≤ G.b2 i ∧ base ≤ G.b5 i
theorem one_fresh {G : SS} {base : Nat} {its : Nat → List Nd} {X : Hp} (hG : SOk G base) (hI : Inv G base its X) (i : Nat) (hi : i < 5) : ∀ b o, (b, o) ∈ one G its i → base ≤ b := by
  intro b o h
  obtain ⟨h1, h2, h3⟩ := hG i hi
  rcases List.mem_append.1 h with h | h
  · rcases List.mem_cons.1 h with h | h
    · injection h with h _; rw [h]; exact h2
    · injection List.mem_singleton.1 h with h _; rw [h]; exact h3
  · rcases List.mem_append.1 h with h | h
    · injection List.mem_singleton.1 h with h _; rw [h]; exact h1
    · have hm := List.mem_map_of_mem (f := Prod.fst) h
      rw [ch_ids] at hm
      obtain ⟨x, hx, rfl⟩ := List.mem_map.1 hm
      exact (hI.2 i x hx).1
theorem all_fresh {G : SS} {base : Nat} {its : Nat → List Nd} {X : Hp} (hG : SOk G base) (hI : Inv G base its X) : ∀ b o, (b, o) ∈ All G its → base ≤ b :=
  fresh_cat (one_fresh hG hI 0 (by decide)) (fresh_cat (one_fresh hG hI 1 (by decide)) (fresh_cat (one_fresh hG hI 2 (by decide)) (fresh_cat (one_fresh hG hI 3 (by decide)) (one_fresh hG hI 4 (by decide)))))
theorem cat6 {a b c d e f : Hp} {H : List Hp} : ((((((a ++ b) ++ c) ++ d) ++ e) ++ f) :: H).flatten.Perm (a :: (b ++ (c ++ (d ++ (e ++ f)))) :: H).flatten := by simp
open Classical in
theorem perm_start {a0 a1 a2 a3 a4 e0 e1 e2 e3 e4 x0 x1 x2 x3 x4 : Hp} {H : List Hp} : ((e0 ++ x0) :: (e1 ++ x1) :: (e2 ++ x2) :: (e3 ++ x3) :: (e4 ++ x4) :: (a0 ++ (a1 ++ (a2 ++ (a3 ++ a4)))) :: H).flatten.Perm ((((e0 ++ a0) ++ ((e1 ++ a1) ++ ((e2 ++ a2) ++ ((e3 ++ a3) ++ (e4 ++ a4)))))) :: (x0 ++ (x1 ++ (x2 ++ (x3 ++ x4)))) :: H).flatten := by
  refine List.perm_iff_count.2 fun z => ?_
  simp only [List.flatten_cons, List.count_append]
  omega
def xbox (G : SS) (cb : Nat) (i : Nat) : Hp := [(G.b3 i, .cells #[Pt cb 0] 66 (0, 0))]
def xboxes (G : SS) (cb : Nat) : Hp := xbox G cb 0 ++ (xbox G cb 1 ++ (xbox G cb 2 ++ (xbox G cb 3 ++ xbox G cb 4)))
theorem xb_mem (G : SS) (cb i : Nat) (hi : i < 5) : ∀ e, e ∈ xbox G cb i → e ∈ xboxes G cb := by
  intro e he
  unfold xboxes
  match i, hi with
  | 0, _ => simp [he]
  | 1, _ => simp [he]
  | 2, _ => simp [he]
  | 3, _ => simp [he]
  | 4, _ => simp [he]
theorem lookP_of {o : WO} (h : lookP o = true) : 0 ≤ o.s ∧ o.s ≤ 4 ∧ 0 ≤ o.k ∧ o.k ≤ 4 ∧ (o.d.length : Int) + o.b.length ≤ 100 := of_decide_eq_true h
theorem b3_of {i sb b2 b5 b3 cb base : Nat} (h : ∀ b o, (b, o) ∈ env i sb b2 b5 b3 ++ [(b3, Obj.cells #[Pt cb 0] 66 (0, 0))] → base ≤ b) : base ≤ b3 := h b3 _ (List.mem_append_right _ (List.mem_singleton.2 rfl))
theorem sok_of {G : SS} {base cb : Nat} (h1 : ∀ i, i < 5 → base ≤ G.sb i) (h2 : ∀ i, i < 5 → ∀ b o, (b, o) ∈ env i (G.sb i) (G.b2 i) (G.b5 i) (G.b3 i) ++ [(G.b3 i, Obj.cells #[Pt cb 0] 66 (0, 0))] → base ≤ b) : SOk G base :=
  fun i hi => ⟨h1 i hi, h2 i hi _ _ (List.mem_append_left _ List.mem_cons_self), h2 i hi _ _ (List.mem_append_left _ (List.mem_cons_of_mem _ List.mem_cons_self))⟩
theorem mem_stg (i sb : Nat) (nr : Value) (l : List Nd) : (sb, Obj.cells (scells i (hdp l) (lastp l) nr) (TSn i) (0, 0)) ∈ stg i sb nr l := List.mem_append_left _ (List.mem_singleton.2 rfl)
theorem stack_fr {base st s0 s1 s2 s3 s4 : Nat} {c : Obj} (h : ∀ b o, (b, o) ∈ (((([(st, c)] ++ stg 0 s0 NR []) ++ stg 1 s1 NR []) ++ stg 2 s2 NR []) ++ stg 3 s3 NR []) ++ stg 4 s4 NR [] → base ≤ b) : base ≤ st ∧ base ≤ s0 ∧ base ≤ s1 ∧ base ≤ s2 ∧ base ≤ s3 ∧ base ≤ s4 := by
  have L : ∀ {x : Nat × Obj} {A B : Hp}, x ∈ A → x ∈ A ++ B := fun h => List.mem_append_left _ h
  have R : ∀ {x : Nat × Obj} {A B : Hp}, x ∈ B → x ∈ A ++ B := fun h => List.mem_append_right _ h
  exact ⟨h _ _ (L (L (L (L (L (List.mem_singleton.2 rfl)))))), h _ _ (L (L (L (L (R (mem_stg _ _ _ _)))))), h _ _ (L (L (L (R (mem_stg _ _ _ _))))), h _ _ (L (L (R (mem_stg _ _ _ _)))), h _ _ (L (R (mem_stg _ _ _ _))), h _ _ (R (mem_stg _ _ _ _))⟩
theorem inv0 {G : SS} {base cb : Nat} (h : ∀ i, i < 5 → base ≤ G.b3 i) : Inv G base (fun _ => []) (xboxes G cb) :=
  ⟨fresh_cat (fresh1 (h 0 (by decide))) (fresh_cat (fresh1 (h 1 (by decide))) (fresh_cat (fresh1 (h 2 (by decide))) (fresh_cat (fresh1 (h 3 (by decide))) (fresh1 (h 4 (by decide)))))), fun j y hy => nomatch hy⟩
def stk (st : Nat) (G : SS) (nm : List UInt8) : Hp := [(st, .cells #[Pt (G.sb 0) 0, Pt (G.sb 1) 0, Pt (G.sb 2) 0, Pt (G.sb 3) 0, Pt (G.sb 4) 0, S nm] 86 (0, 0))]
def nmS : List UInt8 := [115, 116, 97, 99, 107]
/-- what 'done' gives -/
def DR (cb : Nat) (l : List WO) (r : Value) (N : Hp) : Prop := ∃ st G its X E ve, r = .tuple #[Pt st 0, .agg (stps G), ve] ∧ N = ((stk st G nmS ++ All G its) ++ X) ++ E ∧ ids its = (wst l).1 ∧ RdS 1 ve E (wst l).2.length (boolsV (wst l).2) ∧ (∀ i, i < 5 → ∀ e, e ∈ xbox G cb i → e ∈ X) ∧ ∀ i, i < 5 → ∀ y ∈ its i, Okn i (G.b3 i) X y
theorem or_nil {p q : Prop} {w : Value} (h : (p ∧ w = .nilIface) ∨ (q ∧ ∃ k u, w = .iface k u)) : w = .nilIface ∨ ∃ k u, w = .iface k u := h.imp (fun h => h.2) (fun h => h.2)
def StepR (G : SS) (base : Nat) (its : Nat → List Nd) (X : Hp) (o : WO) (its2 : Nat → List Nd) (X2 : Hp) (w : Value) : Prop :=
  Inv G base its2 X2 ∧ (∀ e, e ∈ X → e ∈ X2) ∧ ((∃ m, wopI o (ids its o.s.toNat) = some m ∧ w = .nilIface ∧ ids its2 = updW (ids its) o.s.toNat m) ∨ (wopI o (ids its o.s.toNat) = none ∧ its2 = its ∧ ∃ k u, w = .iface k u))
theorem StepR.nil {G : SS} {base : Nat} {its : Nat → List Nd} {X : Hp} {o : WO} {its2 : Nat → List Nd} {X2 : Hp} {w : Value} (h : StepR G base its X o its2 X2 w) : w = .nilIface ∨ ∃ k u, w = .iface k u := by
  obtain ⟨_, _, ⟨m, _, h, _⟩ | ⟨_, _, h⟩⟩ := h
  · exact .inl h
  · exact .inr h
theorem StepR.next {G : SS} {base : Nat} {its : Nat → List Nd} {X : Hp} {o : WO} {its2 : Nat → List Nd} {X2 : Hp} {w : Value} {bs : List Bool} (h : StepR G base its X o its2 X2 w) : wnext (ids its, bs) o = (ids its2, bs ++ [!nilI w]) := by
  obtain ⟨_, _, ⟨m, h1, h2, h3⟩ | ⟨h1, h2, k, u, h3⟩⟩ := h
  · unfold wnext
    dsimp only
    rw [h1, h2, h3]; rfl
  · unfold wnext
    dsimp only
    rw [h1, h2, h3]; rfl
theorem step_of {G : SS} {base : Nat} {its : Nat → List Nd} {X : Hp} {o : WO} {i : Nat} {ri : Option (List (List UInt8))} {v : Value} {its2 : Nat → List Nd} {X2 : Hp} (hi : o.s = (i : Int)) (hr : wopI o (ids its i) = ri)
    (hI : Inv G base its2 X2) (hX : ∀ e, e ∈ X → e ∈ X2) (h : (∃ l, ri = some l ∧ v = .nilIface ∧ ids its2 = updW (ids its) i l) ∨ (ri = none ∧ its2 = its ∧ ∃ k u, v = .iface k u)) : StepR G base its X o its2 X2 v := by
  have e : o.s.toNat = i := by omega
  refine ⟨hI, hX, ?_⟩
  rw [e, hr]
  exact h
end S8
end Go.Proofs.YtclafiglpcjhdaaGreat
