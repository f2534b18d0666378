/- The engine, part 10: regions that draw their order: operations that compute or read come first, whatever their order; those that make or write memory wait for all of them. Over any program. -/
import Derived.Test.YtodlhaghdplclaaDoorV9
namespace Go.Proofs.YtodlhaghdplclaaDoor.V
open Go Go.RowKit
set_option linter.unusedSimpArgs false
set_option linter.unusedVariables false

def dOf (ops : Array Oper) (j : Nat) : List Nat := match ops[j]? with
  | some o => (o.after.toList.filter (Region.binds .any)).map (·.on)
  | none => []
def topoB (ops : Array Oper) : List Nat → List Nat → Bool
  | _, [] => true
  | seen, q :: qs => (dOf ops q).all (fun j => seen.contains j) && (ops[q]?).isSome && topoB ops (q :: seen) qs
def reachB (ops : Array Oper) (t0 : Nat) : List Nat → Bool
  | [] => true
  | q :: qs => (qs ++ [t0]).any (fun j => (dOf ops j).contains q) && reachB ops t0 qs
def chkT (ops : Array Oper) (ps qs : List Nat) (t0 : Nat) (ts : List Nat) : Bool :=
  (List.range ops.size).all (fun i => (ps ++ qs).contains i || (t0 :: ts).contains i) && (ps ++ qs).all (fun q => !(t0 :: ts).contains q) && topoB ops ps qs && reachB ops t0 qs && ts.all (fun t => (dOf ops t).any (fun j => (t0 :: ts).contains j))

def mk (T : List Nat) (l : Array Bool) : Array Bool := T.foldl (fun l t => l.setIfInBounds t true) l
theorem mk_size (T : List Nat) : ∀ (l : Array Bool), (mk T l).size = l.size := by
  induction T with
  | nil => intro l; rfl
  | cons t T ih => intro l; show (mk T (l.setIfInBounds t true)).size = _; rw [ih]; simp
theorem mk_not (T : List Nat) : ∀ (l : Array Bool) (j : Nat) (d : Bool), j ∉ T → (mk T l).getD j d = l.getD j d := by
  induction T with
  | nil => intro l j d _; rfl
  | cons t T ih =>
    intro l j d h
    show (mk T (l.setIfInBounds t true)).getD j d = _
    rw [ih _ _ _ (fun e => h (List.mem_cons_of_mem _ e)), getD_set_ne d (fun e => h (by rw [e]; exact List.mem_cons_self))]
theorem set_true (l : Array Bool) (j : Nat) (d : Bool) (h : j < l.size) : (l.setIfInBounds j true).getD j d = true := by
  simp [Array.getD_eq_getD_getElem?, h]
theorem mk_in (T : List Nat) : ∀ (l : Array Bool) (j : Nat) (d : Bool), j ∈ T → j < l.size → (mk T l).getD j d = true := by
  induction T with
  | nil => intro l j d h; cases h
  | cons t T ih =>
    intro l j d h hs
    show (mk T (l.setIfInBounds t true)).getD j d = _
    by_cases hj : j ∈ T
    · exact ih _ _ _ hj (by simpa using hs)
    · rw [mk_not _ _ _ _ hj]
      rcases List.mem_cons.1 h with e | e
      · subst e; exact set_true l j d hs
      · exact absurd e hj
theorem mk_set (T : List Nat) : ∀ (l : Array Bool) (q : Nat), q ∉ T → mk T (l.setIfInBounds q true) = (mk T l).setIfInBounds q true := by
  induction T with
  | nil => intro l q _; rfl
  | cons t T ih =>
    intro l q h
    show mk T ((l.setIfInBounds q true).setIfInBounds t true) = (mk T (l.setIfInBounds t true)).setIfInBounds q true
    rw [Array.setIfInBounds_comm _ _ (fun e => h (by rw [e]; exact List.mem_cons_self)), ih _ _ (fun e => h (List.mem_cons_of_mem _ e))]

section
variable {P : Program} {n : Nat} {w0 : World} {ds : List Deferred} {fr : Fr} {H : List Hp} {ops : Array Oper} {Q : Post}

theorem wpAny_more : ∀ (fuel : Nat) (l : Array Bool) (a : Act) (w : World), wpAny P .any ops Q fuel l a w → wpAny P .any ops Q (fuel + 1) l a w
  | 0, l, a, w, h => ⟨fun _ => h.2, fun i hi => by rw [h.1] at hi; cases hi⟩
  | fuel + 1, l, a, w, h => ⟨h.1, fun i hi => wpOp_mono (fun a' w' h' => wpAny_more fuel _ a' w' h') (h.2 i hi)⟩
theorem wpAny_le {f g : Nat} (h : f ≤ g) {l : Array Bool} {a : Act} {w : World} (hf : wpAny P .any ops Q f l a w) : wpAny P .any ops Q g l a w := by
  obtain ⟨k, rfl⟩ := Nat.exists_eq_add_of_le h
  induction k with
  | zero => exact hf
  | succ k ih => exact wpAny_more _ _ _ _ (ih (by omega))

theorem dOf_mem {j : Nat} {o : Oper} (ho : ops[j]? = some o) {i : Nat} : i ∈ dOf ops j ↔ ∃ e ∈ o.after, Region.binds .any e = true ∧ e.on = i := by
  unfold dOf
  rw [ho]
  simp only [List.mem_map, List.mem_filter, Array.mem_toList_iff]
  constructor
  · rintro ⟨e, ⟨h1, h2⟩, h3⟩; exact ⟨e, h1, h2, h3⟩
  · rintro ⟨e, h1, h2, h3⟩; exact ⟨e, ⟨h1, h2⟩, h3⟩
theorem ready_iff {l : Array Bool} {j : Nat} : j ∈ Region.ready .any ops l ↔ l.getD j true = false ∧ (ops[j]?).isSome = true ∧ ∀ i ∈ dOf ops j, l.getD i false = true := by
  rw [mem_ready]
  constructor
  · rintro ⟨h1, o, ho, h2⟩
    refine ⟨h1, by rw [ho]; rfl, fun i hi => ?_⟩
    obtain ⟨e, he, hb, rfl⟩ := (dOf_mem ho).1 hi
    exact h2 e he hb
  · rintro ⟨h1, h3, h2⟩
    obtain ⟨o, ho⟩ := Option.isSome_iff_exists.1 h3
    exact ⟨h1, o, ho, fun e he hb => h2 _ ((dOf_mem ho).2 ⟨e, he, hb, rfl⟩)⟩

/-- what is listed while the first operations come up -/
structure Ph (ops : Array Oper) (ps qs : List Nat) (T : List Nat) (l : Array Bool) : Prop where
  pre : ∀ p ∈ ps, l.getD p false = true
  size : l.size = ops.size
  tail : ∀ t ∈ T, l.getD t true = false
  closed : ∀ q ∈ qs, l.getD q false = true → ∀ i ∈ dOf ops q, l.getD i false = true
def allOn (qs : List Nat) (l : Array Bool) : Prop := ∀ q ∈ qs, l.getD q false = true

theorem reach_all {ps qs0 : List Nat} {t0 : Nat} {T : List Nat} {l : Array Bool} (hp : Ph ops ps qs0 T l) (h0 : ∀ i ∈ dOf ops t0, l.getD i false = true) : ∀ (qs : List Nat), (∀ q ∈ qs, q ∈ qs0) → reachB ops t0 qs = true → allOn qs l := by
  intro qs
  induction qs with
  | nil => intro _ _ q hq; cases hq
  | cons q qs ih =>
    intro hsub hr
    simp only [reachB, Bool.and_eq_true, List.any_eq_true] at hr
    have hrest := ih (fun x hx => hsub x (List.mem_cons_of_mem _ hx)) hr.2
    obtain ⟨j, hj, hd⟩ := hr.1
    have hd' : q ∈ dOf ops j := by simpa using hd
    intro x hx
    rcases List.mem_cons.1 hx with e | e
    · subst e
      rcases List.mem_append.1 hj with hj | hj
      · exact hp.closed j (hsub j (List.mem_cons_of_mem _ hj)) (hrest j hj) _ hd'
      · rw [List.mem_singleton.1 hj] at hd'; exact h0 _ hd'
    · exact hrest x e
theorem topo_ready {l : Array Bool} : ∀ (qs seen : List Nat), (∀ i ∈ seen, l.getD i false = true) → topoB ops seen qs = true → l.size = ops.size → ¬ allOn qs l → ∃ q ∈ qs, q ∈ Region.ready .any ops l := by
  intro qs
  induction qs with
  | nil => intro seen _ _ _ h; exact absurd (fun q hq => nomatch hq) h
  | cons q qs ih =>
    intro seen hs ht hsz hn
    simp only [topoB, Bool.and_eq_true, List.all_eq_true] at ht
    by_cases hq : l.getD q false = true
    · obtain ⟨x, hx, hr⟩ := ih (q :: seen) (List.forall_mem_cons.2 ⟨hq, hs⟩) ht.2 hsz (fun ha => hn (List.forall_mem_cons.2 ⟨hq, ha⟩))
      exact ⟨x, List.mem_cons_of_mem _ hx, hr⟩
    · refine ⟨q, List.mem_cons_self, ready_iff.2 ⟨?_, ht.1.2, fun i hi => hs i (by have := ht.1.1 i hi; simpa using this)⟩⟩
      have hlt : q < l.size := by
        obtain ⟨o, ho⟩ := Option.isSome_iff_exists.1 ht.1.2
        rw [hsz]; exact (Array.getElem?_eq_some_iff.1 ho).1
      simp [Array.getD_eq_getD_getElem?, hlt] at hq ⊢
      exact hq

/-- an exit that is no panic -/
theorem wpOp_strict {Q1 : Post} {i : Nat} {K : Act → World → Prop} {a : Act} {w : World} (hQ : ∀ e a w, Q1 e a w → e = .normal) (h : wpOp P ops Q1 i K a w) : wpOp P ops Q i K a w := by
  unfold wpOp at *
  split at h
  · exact h
  · rename_i o ho
    split
    · rename_i hw
      rw [if_pos hw] at h
      rcases h with h | h
      · left
        unfold Oper.wp at *
        generalize (execOp a.eval o).run P w = r at *
        cases r with
        | ok x w' =>
          cases x <;> simp only [Oper.upon] at h ⊢
          case value u => exact h
          case skip => exact h
          case defer d => exact h
          case enter f args =>
            refine Calls.mono h fun e w'' he => ?_
            cases e with
            | returned u => exact he
            | panicked c => exact absurd (hQ _ _ _ he) (by intro e; cases e)
            | outgrown => obtain ⟨a1, w1, h1⟩ := he; exact absurd (hQ _ _ _ h1) (by intro e; cases e)
          case row row args => exact h
        | halt x w' =>
          cases x <;> simp only [Oper.upon] at h ⊢
          case panic u => exact absurd (hQ _ _ _ h) (by intro e; cases e)
      · obtain ⟨_, a1, w1, h1⟩ := h; exact absurd (hQ _ _ _ h1) (by intro e; cases e)
    · rename_i hw; rw [if_neg hw] at h; exact h

theorem phase {ps qs : List Nat} {t0 : Nat} {ts : List Nat} (hc : chkT ops ps qs t0 ts = true) {K : Act → World → Prop} {tn : Nat}
    (hK : ∀ l a w, l.size = ops.size → allOn (ps ++ qs) l → (∀ t ∈ t0 :: ts, l.getD t true = false) → K a w → wpAny P .any ops Q tn l a w) :
    ∀ (fuel : Nat) (l : Array Bool) (a : Act) (w : World), Ph ops ps qs (t0 :: ts) l → wpAny P .any ops (fun e a w => e = .normal ∧ K a w) fuel (mk (t0 :: ts) l) a w → wpAny P .any ops Q (fuel + tn) l a w := by
  simp only [chkT, Bool.and_eq_true, List.all_eq_true] at hc
  obtain ⟨⟨⟨⟨hall, hdis⟩, htopo⟩, hreach⟩, htail⟩ := hc
  have hdisA : ∀ q ∈ ps ++ qs, q ∉ t0 :: ts := fun q hq hm => by have := hdis q hq; simp only [Bool.not_eq_true'] at this; rw [List.contains_iff_mem.2 hm] at this; cases this
  have hdis' : ∀ q ∈ qs, q ∉ t0 :: ts := fun q hq => hdisA q (List.mem_append_right _ hq)
  have hcov : ∀ i, i < ops.size → i ∈ ps ++ qs ∨ i ∈ t0 :: ts := fun i hi => by
    have := hall i (List.mem_range.2 hi)
    rw [Bool.or_eq_true] at this
    rcases this with h | h
    · exact .inl (List.contains_iff_mem.1 h)
    · exact .inr (List.contains_iff_mem.1 h)
  have lt_of : ∀ {l : Array Bool} {j : Nat}, l.size = ops.size → j ∈ Region.ready .any ops l → j < ops.size := fun hs hj => by
    obtain ⟨o, ho⟩ := Option.isSome_iff_exists.1 (ready_iff.1 hj).2.1
    exact (Array.getElem?_eq_some_iff.1 ho).1
  -- no q waits for a tail operation
  have hqd : ∀ (qs' seen : List Nat), (∀ i ∈ seen, i ∈ ps ++ qs) → (∀ q ∈ qs', q ∈ qs) → topoB ops seen qs' = true → ∀ q ∈ qs', ∀ i ∈ dOf ops q, i ∈ ps ++ qs := by
    intro qs'
    induction qs' with
    | nil => intro _ _ _ _ q hq; cases hq
    | cons x qs' ih =>
      intro seen h1 h2 ht q hq i hi
      simp only [topoB, Bool.and_eq_true, List.all_eq_true] at ht
      rcases List.mem_cons.1 hq with e | e
      · subst e; have := ht.1.1 i hi; exact h1 i (by simpa using this)
      · exact ih (x :: seen) (List.forall_mem_cons.2 ⟨List.mem_append_right _ (h2 x List.mem_cons_self), h1⟩) (fun y hy => h2 y (List.mem_cons_of_mem _ hy)) ht.2 q e i hi
  have hqdeps := hqd qs ps (fun i hi => List.mem_append_left _ hi) (fun q hq => hq) htopo
  have npre : ∀ {l : Array Bool} {j : Nat}, Ph ops ps qs (t0 :: ts) l → j < ops.size → l.getD j true = false → j ∉ ps := fun hp hlt hj hm => by
    have h1 := hp.pre _ hm
    have hs : _ < _ := Nat.lt_of_lt_of_eq hlt hp.size.symm
    simp [Array.getD_eq_getD_getElem?, hs] at h1 hj; rw [h1] at hj; cases hj
  have notail : ∀ l, Ph ops ps qs (t0 :: ts) l → ¬ allOn qs l → ∀ t ∈ t0 :: ts, t ∉ Region.ready .any ops l := by
    intro l hp hn t ht hr
    have hd := (ready_iff.1 hr).2.2
    rcases List.mem_cons.1 ht with e | e
    · subst e; exact hn (reach_all hp hd qs (fun q hq => hq) hreach)
    · obtain ⟨j, hj, hjT⟩ := List.any_eq_true.1 (htail t e)
      have hjT' : j ∈ t0 :: ts := List.contains_iff_mem.1 hjT
      have h1 := hd j hj
      have h2 := hp.tail j hjT'
      rcases Nat.lt_or_ge j l.size with h' | h'
      · simp [Array.getD_eq_getD_getElem?, h'] at h1 h2; rw [h1] at h2; cases h2
      · simp [Array.getD_eq_getD_getElem?, h'] at h2
  have same : ∀ l, Ph ops ps qs (t0 :: ts) l → ¬ allOn qs l → ∀ j, j ∈ Region.ready .any ops l ↔ j ∈ Region.ready .any ops (mk (t0 :: ts) l) := by
    intro l hp hn j
    constructor
    · intro hj
      have hjq : j ∈ qs := (List.mem_append.1 ((hcov j (lt_of hp.size hj)).resolve_right fun ht => notail l hp hn j ht hj)).resolve_left (npre hp (lt_of hp.size hj) (ready_iff.1 hj).1)
      rw [ready_iff] at *
      exact ⟨by rw [mk_not _ _ _ _ (hdis' j hjq)]; exact hj.1, hj.2.1, fun i hi => by rw [mk_not _ _ _ _ (hdisA i (hqdeps j hjq i hi))]; exact hj.2.2 i hi⟩
    · intro hj
      have hlt := lt_of (by rw [mk_size]; exact hp.size) hj
      rw [ready_iff] at *
      have hjT : j ∉ t0 :: ts := fun hm => by
        have := mk_in (t0 :: ts) l j true hm (by rw [hp.size]; exact hlt)
        rw [this] at hj; cases hj.1
      have hjq : j ∈ qs := (List.mem_append.1 ((hcov j hlt).resolve_right hjT)).resolve_left (npre hp hlt (by rw [mk_not _ _ _ _ hjT] at hj; exact hj.1))
      exact ⟨by rw [mk_not _ _ _ _ hjT] at hj; exact hj.1, hj.2.1, fun i hi => by have := hj.2.2 i hi; rwa [mk_not _ _ _ _ (hdisA i (hqdeps j hjq i hi))] at this⟩
  intro fuel
  induction fuel with
  | zero =>
    intro l a w hp h
    by_cases hn : allOn qs l
    · rw [Nat.zero_add]; exact hK l a w hp.size (fun q hq => (List.mem_append.1 hq).elim (hp.pre q) (hn q)) hp.tail h.2.2
    · obtain ⟨q, _, hr⟩ := topo_ready qs ps hp.pre htopo hp.size hn
      have := (same l hp hn q).1 hr
      rw [h.1] at this; cases this
  | succ fuel ih =>
    intro l a w hp h
    by_cases hn : allOn qs l
    · have hr : Region.ready .any ops (mk (t0 :: ts) l) = [] := by
        apply List.eq_nil_iff_forall_not_mem.2
        intro j hj
        have hlt := lt_of (by rw [mk_size]; exact hp.size) hj
        have h1 := (ready_iff.1 hj).1
        rcases hcov j hlt with hq | ht
        · rw [mk_not _ _ _ _ (hdisA j hq)] at h1
          have h2 : l.getD j false = true := (List.mem_append.1 hq).elim (hp.pre j) (hn j)
          have hs : j < l.size := by rw [hp.size]; exact hlt
          simp [Array.getD_eq_getD_getElem?, hs] at h1 h2; rw [h1] at h2; cases h2
        · rw [mk_in _ _ _ _ ht (by rw [hp.size]; exact hlt)] at h1; cases h1
      exact wpAny_le (by omega) (hK l a w hp.size (fun q hq => (List.mem_append.1 hq).elim (hp.pre q) (hn q)) hp.tail (h.1 hr).2)
    · obtain ⟨q, _, hr⟩ := topo_ready qs ps hp.pre htopo hp.size hn
      rw [show fuel + 1 + tn = (fuel + tn) + 1 by omega]
      refine ⟨fun e => (by rw [e] at hr; cases hr), fun i hi => ?_⟩
      have hi' := (same l hp hn i).1 hi
      have hiq : i ∈ qs := (List.mem_append.1 ((hcov i (lt_of hp.size hi)).resolve_right fun ht => notail l hp hn i ht hi)).resolve_left (npre hp (lt_of hp.size hi) (ready_iff.1 hi).1)
      refine wpOp_strict (fun e a w he => he.1) (wpOp_mono (fun a' w' h' => ?_) (h.2 i hi'))
      refine ih (l.setIfInBounds i true) a' w' ⟨fun p hpp => getD_set_true (hp.pre p hpp), by simp; exact hp.size, fun t ht => ?_, fun q hq hq1 j hj => ?_⟩ (by rw [mk_set _ _ _ (hdis' i hiq)]; exact h')
      · rw [getD_set_ne true (fun e => hdis' i hiq (by rw [e]; exact ht))]; exact hp.tail t ht
      · by_cases hqi : i = q
        · subst hqi; exact getD_set_true ((ready_iff.1 hi).2.2 j hj)
        · rw [getD_set_ne false hqi] at hq1
          exact getD_set_true (hp.closed q hq hq1 j hj)

/-- the operations qs, each free to come first -/
def orderQ (ops : Array Oper) : List Nat → Array Bool → Bool
  | [], l => Region.ready .any ops l == []
  | q :: qs, l => Region.free .any ops l q && (Region.ready .any ops l).contains q && orderQ ops qs (l.setIfInBounds q true)
/-- the walk: computing and reading operations, then the rest in its order -/
def rwp (P : Program) (ops : Array Oper) (Q : Post) : List Oper → List Oper → Act → World → Prop
  | [], tl, a, w => wpList P ops Q tl a w
  | o :: ql, tl, a, w => if Region.wanted o (yielded ops a.tmps) then ∃ v, (execOp a.eval o).run P w = .ok (.value v) w ∧ rwp P ops Q ql tl (a.put o.dst v) w else rwp P ops Q ql tl (a.put o.dst undef) w
def WY (P : Program) (n : Nat) (w0 : World) (ops : Array Oper) (Q : Post) (ql tl : List Oper) (ds : List Deferred) (fr : Fr) (H : List Hp) : Prop :=
  ∀ a w, Fits n ds fr a → St w0 H.flatten w → rwp P ops Q ql tl a w
theorem wpAnyH_of_rwp (hsel : Region.noSelect ops = true) {w : World} : ∀ (qs : List Nat) (ql tl : List Oper) (fuel : Nat) (l : Array Bool) (a : Act), qs.map (ops[·]?) = ql.map some → orderQ ops qs l = true → qs.length ≤ fuel →
    rwp P ops Q ql tl a w → wpAnyH P .any ops (fun e a w => e = .normal ∧ wpList P ops Q tl a w) (fun w' => w' = w) fuel l a w := by
  intro qs
  induction qs with
  | nil =>
    intro ql tl fuel l a hq hB _ h
    have e1 : ql = [] := by cases ql with | nil => rfl | cons _ _ => simp at hq
    subst e1
    simp only [orderQ, beq_iff_eq] at hB
    exact wpAnyH_done (Q := fun e a w => e = .normal ∧ wpList P ops Q tl a w) hB ⟨rfl, h⟩ fuel
  | cons q qs ih =>
    intro ql tl fuel l a hq hB hfuel h
    cases ql with
    | nil => simp at hq
    | cons o ql =>
      simp only [List.map_cons, List.cons.injEq] at hq
      simp only [orderQ, Bool.and_eq_true] at hB
      obtain ⟨fuel, rfl⟩ : ∃ f, fuel = f + 1 := ⟨fuel - 1, by simp at hfuel; omega⟩
      unfold rwp at h
      by_cases hw : Region.wanted o (yielded ops a.tmps) = true
      · rw [if_pos hw] at h
        obtain ⟨v, hv, hk⟩ := h
        exact wpAnyH_take hq.1 hsel hB.1.1 hB.1.2 (fun c a w hh => absurd hh.1 (by intro e; cases e)) (.inl ⟨hw, fun w' e => by rw [e]; exact hv⟩) rfl (ih ql tl fuel _ _ hq.2 hB.2 (by simp at hfuel; omega) hk)
      · rw [if_neg hw] at h
        exact wpAnyH_take hq.1 hsel hB.1.1 hB.1.2 (fun c a w hh => absurd hh.1 (by intro e; cases e)) (.inr ⟨by simpa using hw, rfl⟩) rfl (ih ql tl fuel _ _ hq.2 hB.2 (by simp at hfuel; omega) h)
theorem listed_eq {qs T : List Nat} {l l' : Array Bool} (hcov : ∀ i, i < ops.size → i ∈ qs ∨ i ∈ T) (h1 : l.size = ops.size) (h2 : l'.size = ops.size) (a1 : allOn qs l) (a2 : allOn qs l') (t1 : ∀ t ∈ T, l.getD t true = false) (t2 : ∀ t ∈ T, l'.getD t true = false) : l = l' := by
  apply Array.ext (by rw [h1, h2])
  intro i hi hi'
  rcases hcov i (by omega) with h | h
  · have x := a1 i h; have y := a2 i h
    simp [Array.getD_eq_getD_getElem?, hi, hi'] at x y; rw [x, y]
  · have x := t1 i h; have y := t2 i h
    simp [Array.getD_eq_getD_getElem?, hi, hi'] at x y; rw [x, y]

theorem wpAnyH_true : ∀ (fuel : Nat) (l : Array Bool) (a : Act) (w : World), wpAny P .any ops Q fuel l a w → wpAnyH P .any ops Q (fun _ => True) fuel l a w
  | 0, _, _, _, h => h
  | fuel + 1, l, a, w, h => ⟨h.1, fun i hi => wpOp_mono (fun a' w' h' => ⟨trivial, wpAnyH_true fuel _ a' w' h'⟩) (h.2 i hi)⟩
/-- the operations ps, each free to come first -/
def orderP (ops : Array Oper) : List Nat → Array Bool → Bool
  | [], _ => true
  | q :: qs, l => Region.free .any ops l q && (Region.ready .any ops l).contains q && orderP ops qs (l.setIfInBounds q true)
/-- the walk: computing operations, then reading ones, then the rest in its order -/
def mwp (P : Program) (ops : Array Oper) (Q : Post) : List Oper → List Oper → List Oper → Act → World → Prop
  | [], ql, tl, a, w => rwp P ops Q ql tl a w
  | o :: pl, ql, tl, a, w => if Region.wanted o (yielded ops a.tmps) then ∃ v, (∀ w', (execOp a.eval o).run P w' = .ok (.value v) w') ∧ mwp P ops Q pl ql tl (a.put o.dst v) w else mwp P ops Q pl ql tl (a.put o.dst undef) w
def WM (P : Program) (n : Nat) (w0 : World) (ops : Array Oper) (Q : Post) (pl ql tl : List Oper) (ds : List Deferred) (fr : Fr) (H : List Hp) : Prop :=
  ∀ a w, Fits n ds fr a → St w0 H.flatten w → mwp P ops Q pl ql tl a w
theorem wpAnyH_of_mwp (hsel : Region.noSelect ops = true) (hQ : QOk Q) {ql tl : List Oper} {w : World} {g : Nat} : ∀ (ps : List Nat) (pl : List Oper) (l : Array Bool) (a : Act), ps.map (ops[·]?) = pl.map some → orderP ops ps l = true →
    (∀ a, rwp P ops Q ql tl a w → wpAny P .any ops Q g (mk ps l) a w) → mwp P ops Q pl ql tl a w → wpAnyH P .any ops Q (fun _ => True) (ps.length + g) l a w := by
  intro ps
  induction ps with
  | nil =>
    intro pl l a hq _ hk h
    have e1 : pl = [] := by cases pl with | nil => rfl | cons _ _ => simp at hq
    subst e1
    rw [List.length_nil, Nat.zero_add]
    exact wpAnyH_true _ _ _ _ (hk a h)
  | cons q ps ih =>
    intro pl l a hq hB hk h
    cases pl with
    | nil => simp at hq
    | cons o pl =>
      simp only [List.map_cons, List.cons.injEq] at hq
      simp only [orderP, Bool.and_eq_true] at hB
      rw [List.length_cons, show ps.length + 1 + g = (ps.length + g) + 1 by omega]
      unfold mwp at h
      by_cases hw : Region.wanted o (yielded ops a.tmps) = true
      · rw [if_pos hw] at h
        obtain ⟨v, hv, hk2⟩ := h
        exact wpAnyH_take hq.1 hsel hB.1.1 hB.1.2 (fun c a w => hQ c a _ v w) (.inl ⟨hw, fun w' _ => hv w'⟩) trivial (ih pl _ _ hq.2 hB.2 hk hk2)
      · rw [if_neg hw] at h
        exact wpAnyH_take hq.1 hsel hB.1.1 hB.1.2 (fun c a w => hQ c a _ undef w) (.inr ⟨by simpa using hw, rfl⟩) trivial (ih pl _ _ hq.2 hB.2 hk h)

theorem in_of_map {ops : Array Oper} : ∀ (is : List Nat) (os : List Oper), is.map (ops[·]?) = os.map some → ∀ i ∈ is, i < ops.size := by
  intro is
  induction is with
  | nil => intro _ _ i hi; cases hi
  | cons x is ih =>
    intro os h i hi
    cases os with
    | nil => simp at h
    | cons o os =>
      simp only [List.map_cons, List.cons.injEq] at h
      rcases List.mem_cons.1 hi with e | e
      · subst e; exact (Array.getElem?_eq_some_iff.1 h.1).1
      · exact ih os h.2 i e

/-- A region that draws its order: pl first, then ql, then tl, which waits for all of ql. -/
theorem WC.tailM {id : Nat} {ol pl ql tl : List Oper} (ps qs : List Nat) (t0 : Nat) (ts : List Nat) (hm : P.follows .mixedOrders = true) (hsel : Region.noSelect ol.toArray = true)
    (hc : chkT ol.toArray ps qs t0 ts = true) (hP : orderP ol.toArray ps (Array.replicate ol.toArray.size false) = true) (hB : orderQ ol.toArray qs (mk (t0 :: ts) (mk ps (Array.replicate ol.toArray.size false))) = true) (hT : orderT ol.toArray (t0 :: ts) (mk qs (mk ps (Array.replicate ol.toArray.size false))) = true)
    (hl : ps.length + (qs.length + (t0 :: ts).length) ≤ ol.toArray.size)
    (hp : ps.map (ol.toArray[·]?) = pl.map some) (hq : qs.map (ol.toArray[·]?) = ql.map some) (ht : (t0 :: ts).map (ol.toArray[·]?) = tl.map some) (hd : qs.all (fun q => !ps.contains q) = true) (hQ : QOk Q) (h : WM P n w0 ol.toArray Q pl ql tl ds fr H) : WC P n w0 (.region id ol.toArray true) Q ds fr H := by
  intro a w hf hw
  have hc' := hc
  simp only [chkT, Bool.and_eq_true, List.all_eq_true] at hc'
  obtain ⟨⟨⟨⟨hall, hdis⟩, _⟩, _⟩, _⟩ := hc'
  have hcov : ∀ i, i < ol.toArray.size → i ∈ ps ++ qs ∨ i ∈ t0 :: ts := fun i hi => by
    have := hall i (List.mem_range.2 hi)
    rw [Bool.or_eq_true] at this
    rcases this with h | h
    · exact .inl (List.contains_iff_mem.1 h)
    · exact .inr (List.contains_iff_mem.1 h)
  have hdis' : ∀ q ∈ ps ++ qs, q ∉ t0 :: ts := fun q hq hm => by have := hdis q hq; simp only [Bool.not_eq_true'] at this; rw [List.contains_iff_mem.2 hm] at this; cases this
  have hdq : ∀ q ∈ qs, q ∉ ps := fun q hq hm => by have := List.all_eq_true.1 hd q hq; simp only [Bool.not_eq_true'] at this; rw [List.contains_iff_mem.2 hm] at this; cases this
  have rep : ∀ (i : Nat), i < ol.toArray.size → (Array.replicate ol.toArray.size false).getD i true = false := fun i hi => by simp only [Array.getD_eq_getD_getElem?, Array.getElem?_replicate, if_pos hi]; rfl
  have repf : ∀ (i : Nat), (Array.replicate ol.toArray.size false).getD i false = false := fun i => by
    simp only [Array.getD_eq_getD_getElem?, Array.getElem?_replicate]; split <;> rfl
  have hsz : (Array.replicate ol.toArray.size false).size = ol.toArray.size := by simp
  refine wp_region_any hm (wpAny_le hl (wpAny_of_held _ _ _ _ (wpAnyH_of_mwp hsel hQ (ql := ql) (tl := tl) ps pl _ _ hp hP (fun a hr => ?_) (h _ _ hf (hw.drawn _)))))
  have pre : ∀ p ∈ ps, (mk ps (Array.replicate ol.toArray.size false)).getD p false = true := fun p hpp => mk_in _ _ _ _ hpp (by rw [hsz]; exact in_of_map _ _ hp p hpp)
  have tailF : ∀ t ∈ t0 :: ts, (mk ps (Array.replicate ol.toArray.size false)).getD t true = false := fun t ht' => by
    rw [mk_not _ _ _ _ (fun hm => hdis' t (List.mem_append_left _ hm) ht')]; exact rep t (in_of_map _ _ ht t ht')
  refine phase (K := fun a w => wpList P ol.toArray Q tl a w) (tn := (t0 :: ts).length) hc (fun l a w hs hon htl hK => ?_) qs.length _ a _ ⟨pre, by rw [mk_size]; simp, tailF, fun q hq1 hq2 => by
    rw [mk_not _ _ _ _ (hdq q hq1), repf] at hq2; cases hq2⟩ ?_
  · have e : l = mk qs (mk ps (Array.replicate ol.toArray.size false)) := listed_eq (T := t0 :: ts) hcov hs (by rw [mk_size, mk_size]; simp) hon (fun q hq1 => by
        by_cases hqq : q ∈ qs
        · exact mk_in _ _ _ _ hqq (by rw [mk_size, hsz]; exact in_of_map _ _ hq q hqq)
        · rw [mk_not _ _ _ _ hqq]; exact pre q ((List.mem_append.1 hq1).resolve_right hqq)) htl (fun t ht' => by rw [mk_not _ _ _ _ (fun hm => hdis' t (List.mem_append_right _ hm) ht')]; exact tailF t ht')
    rw [e]
    exact wpAny_of_held _ _ _ _ (wpAnyH_of_qwp hsel hQ [] (t0 :: ts) [] tl (t0 :: ts).length _ a w rfl ht hT (by simp) hK)
  · exact wpAny_of_held _ _ _ _ (wpAnyH_of_rwp hsel qs ql tl _ _ a hq hB (Nat.le_refl _) hr)

variable {pl ql tl : List Oper} {dst : Option Tmp} {ty : TypeId} {pos : String} {aft : Array Edge} {g : Option (Nat × Bool)} {d : Nat}
theorem WM.q {o : Oper} {v : Value} (h : ∀ w0, OV P n w0 o v ds fr []) (hg : gd ops fr o = some true) (hd : o.dst = some d) (hn : Nat.blt d n = true) (hk : WM P n w0 ops Q pl ql tl ds ((d, v) :: fr) H) : WM P n w0 ops Q (o :: pl) ql tl ds fr H := by
  intro a w hf hw
  unfold mwp
  rw [gd_wanted hf hg, if_pos rfl]
  exact ⟨v, fun w' => h w' a w' hf (St.refl w'), hk _ _ (by rw [hd]; exact hf.put v hn) hw⟩
theorem WM.nil (h : WY P n w0 ops Q ql tl ds fr H) : WM P n w0 ops Q [] ql tl ds fr H := fun a w hf hw => h a w hf hw
theorem WY.q {o : Oper} {v : Value} (h : OV P n w0 o v ds fr H) (hg : gd ops fr o = some true) (hd : o.dst = some d) (hn : Nat.blt d n = true) (hk : WY P n w0 ops Q ql tl ds ((d, v) :: fr) H) : WY P n w0 ops Q (o :: ql) tl ds fr H := by
  intro a w hf hw
  unfold rwp
  rw [gd_wanted hf hg, if_pos rfl]
  exact ⟨v, h a w hf hw, hk _ _ (by rw [hd]; exact hf.put v hn) hw⟩
theorem WY.skip {o : Oper} (hg : gd ops fr o = some false) (hd : o.dst = some d) (hn : Nat.blt d n = true) (hk : WY P n w0 ops Q ql tl ds ((d, undef) :: fr) H) : WY P n w0 ops Q (o :: ql) tl ds fr H := by
  intro a w hf hw
  unfold rwp
  rw [gd_wanted hf hg, if_neg (by simp)]
  exact hk _ _ (by rw [hd]; exact hf.put undef hn) hw
theorem WY.nil (h : WL P n w0 ops Q tl ds fr H) : WY P n w0 ops Q [] tl ds fr H := fun a w hf hw => h a w hf hw
theorem WY.split (d : Nat) {b : Bool} (hv : gt fr d = some (.bool b)) (ht : b = true → WY P n w0 ops Q ql tl ds ((d, .bool true) :: fr) H) (hf : b = false → WY P n w0 ops Q ql tl ds ((d, .bool false) :: fr) H) : WY P n w0 ops Q ql tl ds fr H := by
  intro a w hfit hw
  have key : ∀ c, b = c → Fits n ds ((d, .bool c) :: fr) a := fun c hc => ⟨hfit.size, hfit.defers, fun k v hk => by
    rw [gt_cons] at hk
    by_cases e : d = k
    · rw [if_pos e] at hk; rw [← Option.some.inj hk, ← hc, ← e]; exact hfit.get d _ hv
    · rw [if_neg e] at hk; exact hfit.get k v hk⟩
  cases hb : b with
  | true => exact ht hb a w (key true hb) hw
  | false => exact hf hb a w (key false hb) hw
theorem WY.index_s {t : TypeId} {x y : Operand} {l : List UInt8} {k : IntKind} {i : Int} (ht : P.underlying t = some .string) (hx : ev fr x = some (S l)) (hy : ev fr y = some (.int k i)) (h : 0 ≤ i ∧ i < l.length) (hg : gd ops fr ⟨some d, .index t x y, ty, pos, aft, g⟩ = some true) (hn : Nat.blt d n = true)
    (hk : ∀ c, c = byteAt l i → 0 ≤ c → c < 256 → WY P n w0 ops Q ql tl ds ((d, .int .u8 c) :: fr) H) : WY P n w0 ops Q (⟨some d, .index t x y, ty, pos, aft, g⟩ :: ql) tl ds fr H :=
  WY.q (oq_index_s ht hx hy h) hg rfl hn (hk _ rfl (byteAt_lo _ _) (byteAt_hi _ _))
theorem WY.load_byte {t : TypeId} {x : Operand} {i : Int} {m : Nat} {v : Value} {A : Hp} {l : List UInt8} (hr : RdS 1 v A m (bytesV l)) (hA : A ∈ H) (ht : Flat P t) (hx : ev fr x = some (elAddr 1 v i)) (h : 0 ≤ i ∧ i < m) (hg : gd ops fr ⟨some d, .load t x, ty, pos, aft, g⟩ = some true) (hn : Nat.blt d n = true)
    (hk : ∀ c, c = byteAt l i → 0 ≤ c → c < 256 → WY P n w0 ops Q ql tl ds ((d, .int .u8 c) :: fr) H) : WY P n w0 ops Q (⟨some d, .load t x, ty, pos, aft, g⟩ :: ql) tl ds fr H :=
  WY.q (oq_load_byte hr hA ht hx h) hg rfl hn (hk _ rfl (byteAt_lo _ _) (byteAt_hi _ _))
end
end Go.Proofs.YtodlhaghdplclaaDoor.V
