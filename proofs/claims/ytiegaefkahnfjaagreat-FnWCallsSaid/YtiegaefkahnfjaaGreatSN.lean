/- Who is called: walked, and its law. -/
import Derived.Test.YtiegaefkahnfjaaGreatSM
import Derived.Test.YtiegaefkahnfjaaGreatSD
namespace Go.Proofs.YtiegaefkahnfjaaGreat
open Go Go.RowKit V S0 S1 S2 S3 S4 S5 S6 S7 S8 SA SB S9 SD SJ SK SL SM
set_option linter.unusedSimpArgs false
set_option linter.unusedVariables false
set_option maxRecDepth 10000
namespace SN
theorem call8 : Callable Tryz.prog 8 := ⟨_, Tryz.func8, rfl, by kernel_rfl⟩
theorem call9 : Callable Tryz.prog 9 := ⟨_, Tryz.func9, rfl, by kernel_rfl⟩
theorem call10 : Callable Tryz.prog 10 := ⟨_, Tryz.func10, rfl, by kernel_rfl⟩
theorem call11 : Callable Tryz.prog 11 := ⟨_, Tryz.func11, rfl, by kernel_rfl⟩
theorem call14 : Callable Tryz.prog 14 := ⟨_, Tryz.func14, rfl, by kernel_rfl⟩
theorem call15 : Callable Tryz.prog 15 := ⟨_, Tryz.func15, rfl, by kernel_rfl⟩
theorem call16 : Callable Tryz.prog 16 := ⟨_, Tryz.func16, rfl, by kernel_rfl⟩
theorem call20 : Callable Tryz.prog 20 := ⟨_, Tryz.func20, rfl, by kernel_rfl⟩
theorem call21 : Callable Tryz.prog 21 := ⟨_, Tryz.func21, rfl, by kernel_rfl⟩
theorem call22 : Callable Tryz.prog 22 := ⟨_, Tryz.func22, rfl, by kernel_rfl⟩
theorem flat4 : Flat Tryz.prog 4 := ⟨_, Tryz.underlying4, by simp⟩
theorem flat9 : Flat Tryz.prog 9 := ⟨_, Tryz.underlying9, by simp⟩
theorem flat26 : Flat Tryz.prog 26 := ⟨_, Tryz.underlying26, by simp⟩
theorem ty4 : Ty Tryz.prog 4 (.bool false) 1 1 := ty_of (by kernel_rfl)
theorem ty9 : Ty Tryz.prog 9 (S []) 1 16 := ty_of (by kernel_rfl)
theorem ty26 : Ty Tryz.prog 26 (.slice none 0 0) 1 24 := ty_of (by kernel_rfl)
theorem ty27 : Ty Tryz.prog 27 (.agg #[(.slice none 0 0), (.slice none 0 0), (.slice none 0 0), (.slice none 0 0), (.slice none 0 0)]) 5 120 := ty_of (by kernel_rfl)
theorem ty51 : Ty Tryz.prog 51 (.agg #[.nilFunc, .nilFunc, .nilFunc, .nilFunc, .nilFunc, .nilFunc, .nilFunc, .nilFunc, .nilFunc, .nilFunc, .nilFunc, .nilFunc, .nilFunc, .nilFunc, .nilFunc, .nilFunc, .nilFunc, .nilFunc, .nilFunc, .nilFunc, .nilFunc, .nilFunc, .nilFunc, .nilFunc, .nilFunc, .nilFunc, .nilFunc, .nilFunc, .nilFunc, .nilFunc, .nilFunc, .nilFunc, .nilFunc, .nilFunc, .nilFunc]) 35 280 := ty_of (by kernel_rfl)
theorem ty56 : Ty Tryz.prog 56 (.agg #[(.slice none 0 0), (S []), (.bool false)]) 3 48 := ty_of (by kernel_rfl)
theorem ty59 : Ty Tryz.prog 59 (.agg #[(.map none)]) 1 8 := ty_of (by kernel_rfl)
theorem ty90 : Ty Tryz.prog 90 (.agg #[]) 0 0 := ty_of (by kernel_rfl)
theorem conc68 : Conc Tryz.prog 68 := ⟨_, Tryz.underlying68, by simp⟩
theorem conc90 : Conc Tryz.prog 90 := ⟨_, Tryz.underlying90, by simp⟩
theorem str56 : Str Tryz.prog 56 #[(0, 1), (1, 1), (2, 1)] := ⟨_, Tryz.underlying56, fun w => by kernel_rfl⟩
theorem str90 : Str Tryz.prog 90 #[] := ⟨_, Tryz.underlying90, fun w => by kernel_rfl⟩
theorem fld56_0 : Fld Tryz.prog 56 0 0 26 := fld_of Tryz.underlying56 rfl rfl rfl ty26 (by decide)
/-! ### Who is called: plain laws -/
theorem insI_mem {b : List UInt8} {a : Bool} {d : List UInt8} : ∀ {l m : List (List UInt8)}, insI b a d l = some m → ∀ z ∈ m, z ∈ l ∨ z = d
 | [], m, h => by cases h
 | x :: r, m, h => by
  have h2 : (if x = b then some (if a then x :: d :: r else d :: x :: r) else (insI b a d r).map (x :: ·)) = some m := h
  split at h2
  ·injection h2 with h2; subst h2
   intro z hz
   cases a <;> simp at hz <;> rcases hz with h | h | h <;> simp [h]
  ·obtain ⟨m2, hm, rfl⟩ := Option.map_eq_some_iff.1 h2
   intro z hz
   rcases List.mem_cons.1 hz with rfl | hz
   ·exact .inl List.mem_cons_self
   ·exact (insI_mem hm z hz).imp (List.mem_cons_of_mem _) id
theorem swpI_mem {b d : List UInt8} : ∀ {l m : List (List UInt8)}, swpI b d l = some m → ∀ z ∈ m, z ∈ l ∨ z = d
 | [], m, h => by cases h
 | x :: r, m, h => by
  have h2 : (if x = b then some (d :: r) else (swpI b d r).map (x :: ·)) = some m := h
  split at h2
  ·injection h2 with h2; subst h2
   intro z hz
   rcases List.mem_cons.1 hz with rfl | hz
   ·exact .inr rfl
   ·exact .inl (List.mem_cons_of_mem _ hz)
  ·obtain ⟨m2, hm, rfl⟩ := Option.map_eq_some_iff.1 h2
   intro z hz
   rcases List.mem_cons.1 hz with rfl | hz
   ·exact .inl List.mem_cons_self
   ·exact (swpI_mem hm z hz).imp (List.mem_cons_of_mem _) id
theorem remI_mem {d : List UInt8} : ∀ {l m : List (List UInt8)}, remI d l = some m → ∀ z ∈ m, z ∈ l
 | [], m, h => by cases h
 | x :: r, m, h => by
  have h2 : (if x = d then some r else (remI d r).map (x :: ·)) = some m := h
  split at h2
  ·injection h2 with h2; subst h2
   exact fun z hz => List.mem_cons_of_mem _ hz
  ·obtain ⟨m2, hm, rfl⟩ := Option.map_eq_some_iff.1 h2
   intro z hz
   rcases List.mem_cons.1 hz with rfl | hz
   ·exact List.mem_cons_self
   ·exact List.mem_cons_of_mem _ (remI_mem hm z hz)
theorem wopI_mem {o : WO} {l m : List (List UInt8)} (h : wopI o l = some m) : ∀ z ∈ m, z ∈ l ∨ z = o.d := by
 unfold wopI at h
 intro z hz
 split at h
 ·injection h with h; subst h
  unfold putI at hz
  generalize o.a = a at hz
  cases a <;> simp at hz <;> rcases hz with h | h <;> simp [h]
 split at h
 ·exact insI_mem h z hz
 split at h
 ·exact swpI_mem h z hz
 split at h
 ·exact .inl (remI_mem h z hz)
 ·injection h with h; subst h; cases hz
theorem wst_short (l : List WO) (hok : l.all lookP = true) : ∀ i, i ≤ l.length → ∀ j, ∀ z ∈ (wst (l.take i)).1 j, z.length ≤ 100
 | 0, _ => fun j z hz => by simp [wst] at hz
 | i + 1, h => by
  have ih := wst_short l hok i (by omega)
  rw [wst_next (by omega)]
  obtain ⟨_, _, _, _, h5⟩ := lookP_of (all_el hok WO0 (show i < l.length by omega))
  unfold wnext
  split
  ·rename_i m hm
   intro j z hz
   change z ∈ updW _ _ m j at hz
   by_cases hj : j = (l.getD i WO0).s.toNat
   ·rw [hj, updW_at] at hz
    rcases wopI_mem hm z hz with h | h
    ·exact ih _ z h
    ·rw [h]; omega
   ·rw [updW_ne _ _ hj] at hz
    exact ih j z hz
  ·exact ih
theorem tr_all {stop : List UInt8} : ∀ {l : List (List UInt8)}, (∀ x ∈ l, hit stop x = false) → Tr stop l = (l ++ l.reverse.map dash, true)
 | [], _ => rfl
 | x :: r, h => by
  rw [Tr_miss (h x List.mem_cons_self), tr_all fun y hy => h y (List.mem_cons_of_mem _ hy)]
  simp
theorem tr_stop {stop : List UInt8} {x : List UInt8} {B : List (List UInt8)} (hx : hit stop x = true) : ∀ {l : List (List UInt8)}, (∀ y ∈ l, hit stop y = false) → Tr stop (l ++ x :: B) = ((l ++ [x]) ++ (l ++ [x]).reverse.map dash, false)
 | [], _ => by rw [List.nil_append, Tr_hit hx]; rfl
 | y :: r, h => by
  rw [List.cons_append, Tr_miss (h y List.mem_cons_self), tr_stop hx fun z hz => h z (List.mem_cons_of_mem _ hz)]
  simp
def accI (q : Nat → List (List UInt8)) : Nat → List (List UInt8)
 | 0 => []
 | k + 1 => accI q k ++ q k
theorem accI_len (q : Nat → List (List UInt8)) (h : ∀ j, (q j).length ≤ 60) : ∀ k, (accI q k).length ≤ 60 * k
 | 0 => Nat.le_refl _
 | k + 1 => by
  have := accI_len q h k
  have := h k
  show (accI q k ++ q k).length ≤ _
  simp only [List.length_append]; omega
theorem accI_all (q : Nat → List (List UInt8)) : accI q 5 = allI q := by simp [accI, allI]
theorem accI_mem {q : Nat → List (List UInt8)} {P : List UInt8 → Prop} (h : ∀ j, ∀ z ∈ q j, P z) : ∀ k, ∀ z ∈ accI q k, P z
 | 0 => fun z hz => nomatch hz
 | k + 1 => fun z hz => by
  rcases List.mem_append.1 hz with hz | hz
  ·exact accI_mem h k z hz
  ·exact h k z hz
def Fwd (stop : List UInt8) (l : List (List UInt8)) (i : Nat) (hd : Bool) : Prop := i ≤ l.length ∧ (∀ x ∈ l.take (if hd then i else i - 1), hit stop x = false) ∧ (hd = false → 1 ≤ i ∧ hit stop (l.getD (i - 1) []) = true)
theorem fwd_next {stop : List UInt8} {l : List (List UInt8)} {i : Nat} {hd : Bool} (h : Fwd stop l i true) (hi : i < l.length) (he : hit stop (l.getD i []) = !hd) : Fwd stop l (i + 1) hd := by
 obtain ⟨h1, h2, h3⟩ := h
 refine ⟨hi, ?_, fun hd' => ⟨by omega, by subst hd'; rw [Nat.add_sub_cancel]; exact he⟩⟩
 cases hd with
 | false => exact h2
 | true =>
  intro x hx
  change x ∈ l.take (i + 1) at hx
  rw [List.take_succ_eq_append_getElem hi] at hx
  rcases List.mem_append.1 hx with hx | hx
  ·exact h2 x hx
  ·rw [List.mem_singleton.1 hx]
   rw [List.getD_eq_getElem?_getD, List.getElem?_eq_getElem hi] at he
   exact he
theorem fwd_end {stop : List UInt8} {l : List (List UInt8)} {i : Nat} {hd : Bool} (h : Fwd stop l i hd) (he : hd = true → i = l.length) : Tr stop l = (l.take i ++ (l.take i).reverse.map dash, hd) := by
 obtain ⟨h1, h2, h3⟩ := h
 cases hd with
 | true =>
  obtain rfl := he rfl
  rw [List.take_length]
  exact tr_all (by simpa using h2)
 | false =>
  obtain ⟨h4, h5⟩ := h3 rfl
  obtain ⟨j, rfl⟩ : ∃ j, i = j + 1 := ⟨i - 1, by omega⟩
  rw [Nat.add_sub_cancel] at h5
  have hj : j < l.length := by omega
  rw [List.getD_eq_getElem?_getD, List.getElem?_eq_getElem hj, Option.getD_some] at h5
  have e : l = l.take j ++ l[j] :: l.drop (j + 1) := by rw [← List.drop_eq_getElem_cons hj, List.take_append_drop]
  have key := tr_stop (B := l.drop (j + 1)) h5 (l := l.take j) h2
  rw [← e] at key
  rw [key, List.take_succ_eq_append_getElem hj]
theorem hit_no {stop id : List UInt8} (h : ¬ id = stop) : hit stop id = false := by unfold hit; rw [decide_eq_false h]; rfl
theorem hit_eq {stop id : List UInt8} (h : id = stop) : hit stop id = !decide (stop = []) := by unfold hit; rw [decide_eq_true h]; rfl
theorem back_next {out : List (List UInt8)} {e : Nat} (h : e < out.length) : out ++ ((out.drop e).reverse.map dash) = (out ++ ((out.drop (e + 1)).reverse.map dash)) ++ [dash (out.getD e [])] := by
 rw [List.drop_eq_getElem_cons h, List.reverse_cons, List.map_append, ← List.append_assoc, List.getD_eq_getElem?_getD, List.getElem?_eq_getElem h]; rfl
theorem err_or {e : Value} {s f : Bool} (h : ErrOk e s f) : e = .nilIface ∨ ∃ k u, e = .iface k u := by
 unfold ErrOk at h
 split at h
 ·exact .inr h
 ·exact .inl h
theorem err_b {e : Value} {s f : Bool} (h : ErrOk e s f) : (!nilI e) = (s && f) := by
 unfold ErrOk at h
 split at h
 ·rename_i h2
  obtain ⟨k, u, rfl⟩ := h
  rw [h2]; rfl
 ·rename_i h2
  rw [h]
  cases hs : s && f
  ·rfl
  ·exact absurd hs h2
def EN (G : SS) : Hp := env 0 (G.sb 0) (G.b2 0) (G.b5 0) (G.b3 0) ++ (env 1 (G.sb 1) (G.b2 1) (G.b5 1) (G.b3 1) ++ (env 2 (G.sb 2) (G.b2 2) (G.b5 2) (G.b3 2) ++ (env 3 (G.sb 3) (G.b2 3) (G.b5 3) (G.b3 3) ++ env 4 (G.sb 4) (G.b2 4) (G.b5 4) (G.b3 4))))
open Classical in
theorem all_ys (G : SS) (its : Nat → List Nd) : (All G its).Perm (YS G its ++ EN G) := by
 refine List.perm_iff_count.2 fun z => ?_
 simp only [All, one, YS, EN, List.count_append, List.count_nil]
 omega
open Classical in
theorem regC {c k x a s Y en : Hp} {H : List Hp} (h : a.Perm (Y ++ en)) : (c :: k :: x :: a :: s :: H).flatten.Perm (c :: [] :: k :: x :: Y :: s :: en :: H).flatten := by
 refine List.perm_iff_count.2 fun z => ?_
 have := List.perm_iff_count.1 h z
 simp only [List.flatten_cons, List.count_append, List.count_nil] at this ⊢
 omega
theorem all_one {G : SS} {its : Nat → List Nd} {base : Nat} (h : ∀ b o, (b, o) ∈ All G its → base ≤ b) (i : Nat) (hi : i < 5) : base ≤ G.sb i ∧ ∀ z ∈ its i, base ≤ z.b := by
 have h1 : ∀ b o, (b, o) ∈ stg i (G.sb i) NR (its i) → base ≤ b := fun b o hb => h b o ((all_out G its i hi).mem_iff.2 (List.mem_append_left _ (List.mem_append_right _ hb)))
 refine ⟨h1 _ _ (mem_stg _ _ _ _), fun z hz => ?_⟩
 have h2 : z.b ∈ (ch (PDn i) (TDn i) (MFn i) (its i) .nilIface).map Prod.fst := by rw [ch_ids]; exact List.mem_map_of_mem hz
 obtain ⟨⟨b, o⟩, h3, h4⟩ := List.mem_map.1 h2
 simp only at h4
 rw [← h4]
 exact h1 b o (List.mem_append_right _ h3)
theorem en_fresh {G : SS} {its : Nat → List Nd} {base : Nat} (h : ∀ b o, (b, o) ∈ All G its → base ≤ b) : ∀ b o, (b, o) ∈ EN G → base ≤ b := fun b o hb => h b o ((all_ys G its).mem_iff.2 (List.mem_append_right _ hb))
theorem ys_fresh' {G : SS} {its : Nat → List Nd} {base : Nat} (h : ∀ b o, (b, o) ∈ All G its → base ≤ b) : ∀ b o, (b, o) ∈ YS G its → base ≤ b := fun b o hb => h b o ((all_ys G its).mem_iff.2 (List.mem_append_left _ hb))
theorem rdT {v : Value} {A : Hp} {l m : List (List UInt8)} (h : RdS 1 v A l.length (strsV l)) (e : l = m) : RdS 1 v A m.length (strsV m) := e ▸ h
theorem Int.toNat_sub_of (e : Nat) : (((e + 1 : Nat) : Int) - 1).toNat = e := by omega
theorem owl_take {base : Nat} {v : Value} {A : Hp} {q : List (List UInt8)} {i n : Nat} {xs : List Value} (h : OwS base 9 1 v A (n + 1) xs) (hn : n = i) (hi : i < q.length) (hx : xs = strsV (q.take i) ++ [S (q.getD i [])] := by rfl) : OwL base v A (q.take (i + 1)) := by
 subst hn; subst hx
 have e : q.take (n + 1) = q.take n ++ [q.getD n []] := by rw [List.take_succ_eq_append_getElem hi, List.getD_eq_getElem?_getD, List.getElem?_eq_getElem hi]; rfl
 rw [e]
 exact OwL.snoc h (by rw [List.length_take]; omega) rfl
theorem backg  : Fn0 Tryz.prog 22 [] (CTX) := by
 refine Fn0.enter (n := 3) Tryz.func22 rfl rfl fun w0 => ?_
 refine WC.sub (fr' := []) ?_ trivial
 refine WC.seq (WC.region ?_)
 refine WL.q (oq_assign rfl) rfl rfl rfl ?_
 refine WL.nil (WE.then_normal (WC.sub (fr' := []) ?_ trivial))
 refine WC.seq (WC.region ?_)
 refine WL.q (oq_build #[] str90 ty90 rfl rfl) rfl rfl rfl ?_
 refine WL.q (oq_makeI conc90 rfl) rfl rfl rfl ?_
 refine WL.q (oq_assign rfl) rfl rfl rfl ?_
 refine WL.nil (WE.then_normal (WC.sub (fr' := [(0, _)]) ?_ ⟨rfl, trivial⟩))
 refine WC.ret ?_
 refine WE.end0 (.inl rfl) (res1 Tryz.results22 rfl) ?_
 rfl
theorem wCalls (v : Value) (A : Hp) (l : List WO) (hr : RdS 5 v A l.length (recsV wof l)) (hl : l.length ≤ 60) (hok : l.all lookP = true) (stop : List UInt8) (fail : Bool) : FnA Tryz.prog 15 [v, S stop, .bool fail] A (fun r N => ∃ lv, r = .tuple #[lv, .bool (Tr stop (allI (wst l).1)).2, .bool (!(Tr stop (allI (wst l).1)).2 && fail)] ∧ RdS 1 lv N (Tr stop (allI (wst l).1)).1.length (strsV (Tr stop (allI (wst l).1)).1)) := by
 refine FnA.enter (n := 44) Tryz.func15 rfl rfl fun w0 => ?_
 refine WC.sub (fr' := [(0, _), (1, _), (2, _)]) ?_ ⟨rfl, rfl, rfl, trivial⟩
 refine WC.seq (WC.region ?_)
 refine WL.q (oq_assign rfl) rfl rfl rfl ?_
 refine WL.q (oq_assign rfl) rfl rfl rfl ?_
 refine WL.q (oq_assign rfl) rfl rfl rfl ?_
 refine WL.nil (WE.then_normal (WC.sub (fr' := [(0, _), (1, _), (2, _)]) ?_ ⟨rfl, rfl, rfl, trivial⟩))
 refine WC.seq (WC.region ?_)
 refine WL.q (oq_move rfl) rfl rfl rfl ?_
 refine WL.q (oq_move rfl) rfl rfl rfl ?_
 refine WL.q (oq_build #[_, _, _] str56 ty56 rfl rfl) rfl rfl rfl ?_
 refine WL.box rfl rfl rfl fun cb hcb => ?_
 refine WL.q (oq_assign rfl) rfl rfl rfl ?_
 refine WL.nil (WE.then_normal (WC.sub (fr' := [(0, _), (9, _)]) ?_ ⟨rfl, rfl, trivial⟩))
 refine WC.seq (WC.region ?_)
 refine WL.q (oq_move rfl) rfl rfl rfl ?_
 refine WL.q (oq_move rfl) rfl rfl rfl ?_
 refine WL.f1 ?_
 refine WL.callA (done v A l hr hl hok cb) call20 rfl rfl rfl fun v2_2 N2_2 hR2_2 hN2_2 => ?_
 obtain ⟨st, G, its, X, E, ve, rfl, rfl, hids, hre, hXb, hOk⟩ := hR2_2
 refine WL.reg split4 ?_
 refine WL.q (oq_move rfl) rfl rfl rfl ?_
 refine WL.q (oq_extract rfl rfl) rfl rfl rfl ?_
 refine WL.q (oq_extract rfl rfl) rfl rfl rfl ?_
 refine WL.q (oq_extract rfl rfl) rfl rfl rfl ?_
 refine WL.alloc ty51 rfl rfl fun tb htb => ?_
 refine WL.q (oq_assign rfl) rfl rfl rfl ?_
 refine WL.storeS (stps G) ty51 rfl rfl (by kernel_rfl) (by kernel_rfl) (Nat.le_of_ble_eq_true rfl) (by kernel_rfl) rfl ?_
 refine WL.q (oq_assign rfl) rfl rfl rfl ?_
 refine WL.nil (WE.then_normal (WC.sub (fr' := [(9, _), (10, _)]) ?_ ⟨rfl, rfl, trivial⟩))
 refine WC.seq (WC.region ?_)
 refine WL.alloc ty4 rfl rfl fun kb hkb => ?_
 refine WL.store ty4 rfl rfl rfl (by decide) (by simp) rfl ?_
 refine WL.nil (WE.then_normal (WC.sub (fr' := [(9, _), (10, _), (13, _)]) ?_ ⟨rfl, rfl, rfl, trivial⟩))
 refine WC.seq ?_
 refine WC.f2 ?_
 refine WC.f3 ?_
 refine WC.f4 ?_
 refine WC.f3 ?_
 refine WC.f7 ?_
 have hAf := fr_r (fr_l (fr_l hN2_2))
 have hst := fr_l (fr_l (fr_l hN2_2)) st _ (List.mem_singleton.2 rfl)
 have h3 := fun (i : Nat) (hi : i < 5) => all_one hAf i hi
 have hsh := fun j => by have := wst_short l hok l.length (Nat.le_refl _) j; rw [List.take_length, ← hids] at this; exact this
 have hHD := allHD (base := w0.heap.size) (K := ⟨cb, kb, stop, fail⟩) (G := G) (its := its) (X := X) (fun i hi => hXb i hi _ (List.mem_singleton.2 rfl)) (fun i hi z hz => ⟨hOk i hi z hz, Nat.le_trans (hsh i z.id (List.mem_map_of_mem hz)) (by decide)⟩) (fun i hi => (h3 i hi).2) (fun i hi => (h3 i hi).1)
 have hln := fun j => by have h1 := (wst_len l l.length (Nat.le_refl _)).1 j; rw [List.take_length, ← hids] at h1; exact h1
 have hli : (allI (ids its)).length ≤ 300 := by have a0 := hln 0; have a1 := hln 1; have a2 := hln 2; have a3 := hln 3; have a4 := hln 4; unfold allI; simp only [List.length_append, List.length_nil]; omega
 refine WC.reg (regC (all_ys G its)) ?_
 refine WC.region ?_
 refine WL.q (oq_move rfl) rfl rfl rfl ?_
 refine WL.qc (oq_call (backg) call22 rfl) rfl rfl rfl ?_
 refine WL.q (oq_makeFn rfl) rfl rfl rfl ?_
 refine WL.q (oq_makeI conc68 rfl) rfl rfl rfl ?_
 refine WL.f5 ?_
 refine WL.f5 ?_
 refine WL.f5 ?_
 refine WL.f5 ?_
 refine WL.f5 ?_
 refine WL.f5 ?_
 refine WL.callW6 (stackH _ st ⟨cb, kb, stop, fail⟩ X (YS G its) G nmS (allI (ids its)) 68 (.func (.func 23) #[] #[Pt kb 0]) hst (ys_fresh' hAf) hHD [] _ [] (OwS.nil _ _ _) (by simp only [List.length_nil]; omega)) call21 rfl rfl rfl fun v4_4 Hs4_4 hR4_4 => ?_
 obtain ⟨lv2, L2, Y2, e2, rfl, rfl, ho2, hY2, he2⟩ := hR4_4
 refine WL.to5 ?_
 refine WL.q (oq_move rfl) rfl rfl rfl ?_
 refine WL.q (oq_extract rfl rfl) rfl rfl rfl ?_
 refine WL.q (oq_extract rfl rfl) rfl rfl rfl ?_
 refine WL.q (oq_extract rfl rfl) rfl rfl rfl ?_
 refine WL.alloc ty59 rfl rfl fun o15 ho15 => ?_
 refine WL.q (oq_assign rfl) rfl rfl rfl ?_
 refine WL.storeS #[_] ty59 rfl rfl rfl rfl (Nat.le_of_ble_eq_true rfl) rfl rfl ?_
 refine WL.q (oq_assign rfl) rfl rfl rfl ?_
 refine WL.nil (WE.then_normal (WC.sub (fr' := [(9, _), (13, _), (16, _)]) ?_ ⟨rfl, rfl, rfl, trivial⟩))
 refine WC.seq (WC.quiet (by kernel_rfl) (by kernel_rfl) ?_)
 refine WQ.q (oq_move rfl) rfl rfl rfl ?_
 refine WQ.q (oq_nilCheck rfl) rfl rfl rfl ?_
 refine WQ.q (oq_fieldAddr fld56_0 rfl) rfl rfl rfl ?_
 refine WQ.q (oq_load flat26 rfl (.tail _ (.head _)) (List.mem_singleton.2 rfl) rfl) rfl rfl rfl ?_
 refine WQ.q (oq_load flat4 rfl (.tail _ (.tail _ (.tail _ (.head _)))) (List.mem_singleton.2 rfl) rfl) rfl rfl rfl ?_
 refine WQ.q (oq_move rfl) rfl rfl rfl ?_
 refine WQ.q (oq_ineq Tryz.underlying61 rfl (err_or he2)) rfl rfl rfl ?_
 refine WQ.q (oq_assign rfl) rfl rfl rfl ?_
 refine WQ.q (oq_assign rfl) rfl rfl rfl ?_
 refine WQ.q (oq_assign rfl) rfl rfl rfl ?_
 refine WQ.nil (WE.then_normal (WC.sub (fr' := [(6, _), (7, _), (8, _)]) ?_ ⟨rfl, rfl, rfl, trivial⟩))
 refine WC.ret ?_
 refine WE.lose ho15 ?_
 refine WE.lose hcb ?_
 refine WE.f1 ?_
 refine WE.lose hkb ?_
 refine WE.f1 ?_
 refine WE.forget (fr_r (fr_l hN2_2)) ?_
 refine WE.f1 ?_
 refine WE.forget hY2 ?_
 refine WE.f1 ?_
 refine WE.forget (en_fresh hAf) ?_
 refine WE.f1 ?_
 refine WE.lose htb ?_
 refine WE.f1 ?_
 refine WE.forget (fr_r hN2_2) ?_
 refine WE.endA (.inl rfl) (res3 Tryz.results15 rfl rfl rfl) ?_ (ho2.fresh)
 refine ⟨lv2, ?_, ?_⟩
 ·rw [err_b he2, hids]; rfl
 ·rw [← hids]; exact ho2.rd
theorem wAsked (v : Value) (A : Hp) (l : List WO) (hr : RdS 5 v A l.length (recsV wof l)) (hl : l.length ≤ 60) (hok : l.all lookP = true) (stop : List UInt8) (fail : Bool) : FnA Tryz.prog 16 [v, S stop, .bool fail] A (fun r N => ∃ lv, r = .tuple #[lv, .bool (Tr stop (allI (wst l).1)).2, .bool (!(Tr stop (allI (wst l).1)).2 && fail)] ∧ RdS 1 lv N (Tr stop (allI (wst l).1)).1.length (strsV (Tr stop (allI (wst l).1)).1)) := by
 refine FnA.enter (n := 79) Tryz.func16 rfl rfl fun w0 => ?_
 refine WC.sub (fr' := [(0, _), (1, _), (2, _)]) ?_ ⟨rfl, rfl, rfl, trivial⟩
 refine WC.seq (WC.region ?_)
 refine WL.q (oq_assign rfl) rfl rfl rfl ?_
 refine WL.q (oq_assign rfl) rfl rfl rfl ?_
 refine WL.q (oq_assign rfl) rfl rfl rfl ?_
 refine WL.nil (WE.then_normal (WC.sub (fr' := [(0, _), (1, _), (2, _)]) ?_ ⟨rfl, rfl, rfl, trivial⟩))
 refine WC.seq (WC.region ?_)
 refine WL.q (oq_move rfl) rfl rfl rfl ?_
 refine WL.callA (wSteps v A l hr hl hok) call11 rfl rfl rfl fun v1_1 N1_1 hR1_1 hN1_1 => ?_
 obtain ⟨wv, vs, rfl, hwr, hws⟩ := hR1_1
 refine WL.q (oq_move rfl) rfl rfl rfl ?_
 refine WL.q (oq_extract rfl rfl) rfl rfl rfl ?_
 refine WL.q (oq_extract rfl rfl) rfl rfl rfl ?_
 refine WL.alloc ty27 rfl rfl fun o10 ho10 => ?_
 refine WL.q (oq_assign rfl) rfl rfl rfl ?_
 refine WL.storeS (arr5 vs) ty27 rfl rfl (by kernel_rfl) (arr5_one fun j hj => rd_one (hws j hj)) (Nat.le_of_ble_eq_true rfl) (by kernel_rfl) rfl ?_
 refine WL.nil (WE.then_normal (WC.sub (fr' := [(1, _), (2, _), (10, _)]) ?_ ⟨rfl, rfl, rfl, trivial⟩))
 refine WC.seq ?_
 have hwl := fun j => by have h1 := (wst_len l l.length (Nat.le_refl _)).1 j; rw [List.take_length] at h1; exact h1
 have hwl5 : ∀ j, ((wst l).1 j).length ≤ 60 := fun j => Nat.le_trans (hwl j) hl
 have hal := accI_len (wst l).1 hwl5 5
 have hsh : ∀ z ∈ (accI (wst l).1 5), z.length ≤ 100 := accI_mem (P := fun z => z.length ≤ 100) (fun j => by have := wst_short l hok l.length (Nat.le_refl _) j; rw [List.take_length] at this; exact this) 5
 refine WC.add0 ?_
 refine WC.region ?_
 refine WL.q (oq_assign rfl) rfl rfl rfl ?_
 refine WL.q (oq_assign rfl) rfl rfl rfl ?_
 refine WL.nil (WE.then_normal (WC.sub (fr' := [(1, _), (2, _), (10, _), (11, _), (12, _)]) ?_ ⟨rfl, rfl, rfl, rfl, rfl, trivial⟩))
 refine WC.seq (WC.seq (WC.region ?_))
 refine WL.q (oq_assign rfl) rfl rfl rfl ?_
 refine WL.nil (WE.then_normal (WC.sub (fr' := [(1, _), (2, _), (10, _), (11, _), (12, _), (13, _)]) ?_ ⟨rfl, rfl, rfl, rfl, rfl, rfl, trivial⟩))
 refine WC.block ?_
 refine WC.loop (ι := Nat × Value × Hp) (fun i_ => (fun (k : Nat) (w : Value) (W : Hp) => [(1, S stop), (2, .bool fail), (10, Pt o10 0), (11, w), (12, .slice none 0 0), (13, I (k : Int))]) i_.1 i_.2.1 i_.2.2) (fun i_ => (fun (k : Nat) (w : Value) (W : Hp) => [W, [(o10, .cells (arr5 vs) 27 (0, 0))], N1_1, A]) i_.1 i_.2.1 i_.2.2) (fun i_ => (fun (k : Nat) (w : Value) (W : Hp) => k ≤ 5 ∧ OwS w0.heap.size 9 1 w W (accI (wst l).1 k).length (strsV (accI (wst l).1 k))) i_.1 i_.2.1 i_.2.2) (fun i_ => (fun (k : Nat) (w : Value) (W : Hp) => 5 - k) i_.1 i_.2.1 i_.2.2) ((0, _, _)) ?_ ⟨rfl, rfl, rfl, rfl, rfl, rfl, trivial⟩ (List.Perm.refl _) ?_
 ·try dsimp only
  exact ⟨by omega, OwS.nil _ _ _⟩
 ·rintro ⟨k, w, W⟩ hp
  try dsimp only at hp
  obtain ⟨hk, how⟩ := hp
  show WC _ _ _ _ _ _ ([(1, S stop), (2, .bool fail), (10, Pt o10 0), (11, w), (12, .slice none 0 0), (13, I (k : Int))]) ([W, [(o10, .cells (arr5 vs) 27 (0, 0))], N1_1, A])
  refine WC.seq (WC.seq (WC.region ?_))
  refine WL.q (oq_move rfl) rfl rfl rfl ?_
  refine WL.q (oq_lss rfl rfl) rfl rfl rfl ?_
  refine WL.nil (WE.then_normal (WC.sub (fr' := [(1, _), (2, _), (10, _), (11, _), (12, _), (13, _), (23, _)]) ?_ ⟨rfl, rfl, rfl, rfl, rfl, rfl, rfl, trivial⟩))
  refine WC.cond rfl (fun q4 => ?_) (fun q4 => ?_)
  ·
   try simp only [Z1, Z2, Z3, Z4, Z5, Z6, Z7, Z8, Z9, Z0] at q4
   refine WC.skip (WE.then_normal (WC.sub (fr' := [(1, _), (2, _), (10, _), (11, _), (12, _), (13, _)]) ?_ ⟨rfl, rfl, rfl, rfl, rfl, rfl, trivial⟩))
   refine WC.seq (WC.block ?_)
   have hk5 : k < 5 := by omega
   have hls := hws k hk5
   have hqk := hwl5 k
   have hak := accI_len (wst l).1 hwl5 k
   refine WC.region ?_
   refine WL.q (oq_move rfl) rfl rfl rfl ?_
   refine WL.q (oq_move rfl) rfl rfl rfl ?_
   refine WL.q (oq_ixArr (i := k) Tryz.underlying27 ty26 rfl rfl (by (first | omega | (simp only [List.length_cons, List.length_nil, List.length_append, List.length_drop, List.length_take]; omega)))) rfl rfl rfl ?_
   refine WL.q (oq_load flat26 rfl (.tail _ (.head _)) (List.mem_singleton.2 rfl) (arr5_get vs k hk5)) rfl rfl rfl ?_
   refine WL.appendS how Tryz.underlying26 ty9 rfl (by decide) rfl rfl hls (.tail _ (.head _)) (strsV_one _) (by unfold maxLen; omega) (by omega) rfl rfl fun v6 A6 ho6 hne6 => ?_
   refine WL.q (oq_assign rfl) rfl rfl rfl ?_
   refine WL.nil (WE.block_normal (WE.then_normal (WC.sub (fr' := [(1, _), (2, _), (10, _), (11, _), (12, _), (13, _)]) ?_ ⟨rfl, rfl, rfl, rfl, rfl, rfl, trivial⟩)))
   refine WC.region ?_
   refine WL.q (oq_move rfl) rfl rfl rfl ?_
   refine WL.q (oq_add rfl rfl (by rw [i64_lo, i64_hi]; (first | omega | (simp only [List.length_cons, List.length_nil, List.length_append, List.length_drop, List.length_take]; omega)))) rfl rfl rfl ?_
   refine WL.q (oq_assign rfl) rfl rfl rfl ?_
   refine WL.nil ?_
   refine WE.again (k + 1, _, _) ?_ ?_ ⟨rfl, rfl, rfl, rfl, rfl, rfl, trivial⟩ (List.Perm.refl _)
   ·try dsimp only
    exact ⟨by omega, by have := ho6; simpa [accI, strsV] using this⟩
   ·(try dsimp only); omega
  ·
   try simp only [Z1, Z2, Z3, Z4, Z5, Z6, Z7, Z8, Z9, Z0] at q4
   refine WC.exit (WE.then_exit (WE.then_exit (WE.block_same (WE.then_normal (WC.sub (fr' := [(1, _), (2, _), (11, _), (12, _)]) ?_ ⟨rfl, rfl, rfl, rfl, trivial⟩)))))
   refine WC.seq ?_
   obtain rfl : k = 5 := by omega
   refine WC.add0 ?_
   refine WC.region ?_
   refine WL.q (oq_assign rfl) rfl rfl rfl ?_
   refine WL.nil (WE.then_normal (WC.sub (fr' := [(1, _), (2, _), (11, _), (12, _), (14, _)]) ?_ ⟨rfl, rfl, rfl, rfl, rfl, trivial⟩))
   refine WC.cut (ι := Nat × Bool × Value × Hp) (fun i_ => (fun (i : Nat) (hd : Bool) (v2 : Value) (O : Hp) => [(2, .bool fail), (12, v2), (14, .bool hd)]) i_.1 i_.2.1 i_.2.2.1 i_.2.2.2) (fun i_ => (fun (i : Nat) (hd : Bool) (v2 : Value) (O : Hp) => [O, W, [(o10, .cells (arr5 vs) 27 (0, 0))], N1_1, A]) i_.1 i_.2.1 i_.2.2.1 i_.2.2.2) (fun i_ => (fun (i : Nat) (hd : Bool) (v2 : Value) (O : Hp) => Fwd stop (accI (wst l).1 5) i hd ∧ (hd = true → i = (accI (wst l).1 5).length) ∧ OwL w0.heap.size v2 O ((accI (wst l).1 5).take i)) i_.1 i_.2.1 i_.2.2.1 i_.2.2.2) ?_ ?_
   ·
    refine WC.seq (WC.region ?_)
    refine WL.q (oq_assign rfl) rfl rfl rfl ?_
    refine WL.nil (WE.then_normal (WC.sub (fr' := [(1, _), (2, _), (11, _), (12, _), (14, _), (15, _)]) ?_ ⟨rfl, rfl, rfl, rfl, rfl, rfl, trivial⟩))
    refine WC.block ?_
    refine WC.loop (ι := Nat × Bool × Value × Hp) (fun i_ => (fun (i : Nat) (hd : Bool) (v2 : Value) (O : Hp) => [(1, S stop), (2, .bool fail), (11, w), (12, v2), (14, .bool hd), (15, I (i : Int))]) i_.1 i_.2.1 i_.2.2.1 i_.2.2.2) (fun i_ => (fun (i : Nat) (hd : Bool) (v2 : Value) (O : Hp) => [O, W, [(o10, .cells (arr5 vs) 27 (0, 0))], N1_1, A]) i_.1 i_.2.1 i_.2.2.1 i_.2.2.2) (fun i_ => (fun (i : Nat) (hd : Bool) (v2 : Value) (O : Hp) => Fwd stop (accI (wst l).1 5) i hd ∧ OwL w0.heap.size v2 O ((accI (wst l).1 5).take i)) i_.1 i_.2.1 i_.2.2.1 i_.2.2.2) (fun i_ => (fun (i : Nat) (hd : Bool) (v2 : Value) (O : Hp) => (accI (wst l).1 5).length - i) i_.1 i_.2.1 i_.2.2.1 i_.2.2.2) ((0, true, _, _)) ?_ ⟨rfl, rfl, rfl, rfl, rfl, rfl, trivial⟩ (List.Perm.refl _) ?_
    ·try dsimp only
     exact ⟨⟨by omega, (fun x hx => nomatch hx), fun h => nomatch h⟩, OwS.nil _ _ _⟩
    ·rintro ⟨i, hd, v2, O⟩ hp
     try dsimp only at hp
     obtain ⟨hfw, hoo⟩ := hp
     show WC _ _ _ _ _ _ ([(1, S stop), (2, .bool fail), (11, w), (12, v2), (14, .bool hd), (15, I (i : Int))]) ([O, W, [(o10, .cells (arr5 vs) 27 (0, 0))], N1_1, A])
     have hi := hfw.1
     refine WC.seq (WC.seq (WC.region ?_))
     refine WL.q (oq_move rfl) rfl rfl rfl ?_
     refine WL.q (oq_move rfl) rfl rfl rfl ?_
     refine WL.q (oq_len_rd how.rd Tryz.underlying26 rfl) rfl rfl rfl ?_
     refine WL.q (oq_lss rfl rfl) rfl rfl rfl ?_
     refine WL.q (oq_move rfl) rfl rfl rfl ?_
     refine WL.split 35 rfl (fun s9_4 => ?_) (fun s9_4 => ?_)
     ·
      try simp only [Z1, Z2, Z3, Z4, Z5, Z6, Z7, Z8, Z9, Z0] at s9_4
      refine WL.q (oq_move rfl) rfl rfl rfl ?_
      refine WL.q (oq_pick_t rfl rfl) rfl rfl rfl ?_
      refine WL.nil (WE.then_normal (WC.sub (fr' := [(1, _), (2, _), (11, _), (12, _), (14, _), (15, _), (37, _)]) ?_ ⟨rfl, rfl, rfl, rfl, rfl, rfl, rfl, trivial⟩))
      refine WC.cond rfl (fun q9 => ?_) (fun q9 => ?_)
      ·
       try simp only [Z1, Z2, Z3, Z4, Z5, Z6, Z7, Z8, Z9, Z0] at q9
       refine WC.skip (WE.then_normal (WC.sub (fr' := [(1, _), (2, _), (11, _), (12, _), (15, _)]) ?_ ⟨rfl, rfl, rfl, rfl, rfl, trivial⟩))
       refine WC.seq (WC.block (WC.seq ?_))
       have hi5 : i < (accI (wst l).1 5).length := by omega
       have hti : ((accI (wst l).1 5).take i).length = i := by rw [List.length_take]; omega
       refine WC.region ?_
       refine WL.q (oq_move rfl) rfl rfl rfl ?_
       refine WL.q (oq_move rfl) rfl rfl rfl ?_
       refine WL.q (oq_move rfl) rfl rfl rfl ?_
       refine WL.q (oq_ixaddr how.rd Tryz.underlying26 ty9 rfl rfl (by (first | omega | (simp only [List.length_cons, List.length_nil, List.length_append, List.length_drop, List.length_take]; omega)))) rfl rfl rfl ?_
       refine WL.q (oq_load_str how.rd (.tail _ (.head _)) flat9 rfl (by (first | omega | (simp only [List.length_cons, List.length_nil, List.length_append, List.length_drop, List.length_take]; omega))) (by first | exact Int.toNat_natCast _ | exact rfl)) rfl rfl rfl ?_
       refine WL.append1 hoo Tryz.underlying26 ty9 rfl (by decide) (fun _ => rfl) rfl rfl (by unfold maxLen; (simp only [List.length_append, List.length_map, List.length_reverse, List.length_drop, List.length_take]; omega)) (by (simp only [List.length_append, List.length_map, List.length_reverse, List.length_drop, List.length_take]; omega)) rfl rfl (fun _ => rfl) rfl fun v11 A11 u11 ho11 hne11 => ?_
       refine WL.q (oq_assign rfl) rfl rfl rfl ?_
       refine WL.nil (WE.then_normal (WC.sub (fr' := [(1, _), (2, _), (11, _), (12, _), (15, _)]) ?_ ⟨rfl, rfl, rfl, rfl, rfl, trivial⟩))
       refine WC.region ?_
       refine WL.q (oq_move rfl) rfl rfl rfl ?_
       refine WL.q (oq_move rfl) rfl rfl rfl ?_
       refine WL.q (oq_ixaddr how.rd Tryz.underlying26 ty9 rfl rfl (by (first | omega | (simp only [List.length_cons, List.length_nil, List.length_append, List.length_drop, List.length_take]; omega)))) rfl rfl rfl ?_
       refine WL.q (oq_load_str how.rd (.tail _ (.head _)) flat9 rfl (by (first | omega | (simp only [List.length_cons, List.length_nil, List.length_append, List.length_drop, List.length_take]; omega))) (by first | exact Int.toNat_natCast _ | exact rfl)) rfl rfl rfl ?_
       refine WL.q (oq_move rfl) rfl rfl rfl ?_
       refine WL.q (oq_sneq rfl rfl) rfl rfl rfl ?_
       refine WL.q (oq_move rfl) rfl rfl rfl ?_
       refine WL.split 53 rfl (fun s12_6 => ?_) (fun s12_6 => ?_)
       ·
        try simp only [Z1, Z2, Z3, Z4, Z5, Z6, Z7, Z8, Z9, Z0] at s12_6
        refine WL.skip rfl rfl rfl ?_
        refine WL.skip rfl rfl rfl ?_
        refine WL.q (oq_pick_t rfl rfl) rfl rfl rfl ?_
        refine WL.q (oq_assign rfl) rfl rfl rfl ?_
        refine WL.nil (WE.block_normal (WE.then_normal (WC.sub (fr' := [(1, _), (2, _), (11, _), (12, _), (14, _), (15, _)]) ?_ ⟨rfl, rfl, rfl, rfl, rfl, rfl, trivial⟩)))
        refine WC.region ?_
        refine WL.q (oq_move rfl) rfl rfl rfl ?_
        refine WL.q (oq_add rfl rfl (by rw [i64_lo, i64_hi]; (first | omega | (simp only [List.length_cons, List.length_nil, List.length_append, List.length_drop, List.length_take]; omega)))) rfl rfl rfl ?_
        refine WL.q (oq_assign rfl) rfl rfl rfl ?_
        refine WL.nil ?_
        refine WE.again (i + 1, true, _, _) ?_ ?_ ⟨rfl, rfl, rfl, rfl, rfl, rfl, trivial⟩ (List.Perm.refl _)
        ·try dsimp only
         exact ⟨fwd_next (q9 ▸ hfw) hi5 (by rw [hit_no (by assumption)]; rfl), owl_take ho11 hti hi5⟩
        ·(try dsimp only); omega
       ·
        try simp only [Z1, Z2, Z3, Z4, Z5, Z6, Z7, Z8, Z9, Z0] at s12_6
        refine WL.q (oq_move rfl) rfl rfl rfl ?_
        refine WL.q (oq_seql rfl rfl) rfl rfl rfl ?_
        refine WL.q (oq_pick_f rfl rfl) rfl rfl rfl ?_
        refine WL.q (oq_assign rfl) rfl rfl rfl ?_
        refine WL.nil (WE.block_normal (WE.then_normal (WC.sub (fr' := [(1, _), (2, _), (11, _), (12, _), (14, _), (15, _)]) ?_ ⟨rfl, rfl, rfl, rfl, rfl, rfl, trivial⟩)))
        refine WC.region ?_
        refine WL.q (oq_move rfl) rfl rfl rfl ?_
        refine WL.q (oq_add rfl rfl (by rw [i64_lo, i64_hi]; (first | omega | (simp only [List.length_cons, List.length_nil, List.length_append, List.length_drop, List.length_take]; omega)))) rfl rfl rfl ?_
        refine WL.q (oq_assign rfl) rfl rfl rfl ?_
        refine WL.nil ?_
        refine WE.again (i + 1, _, _, _) ?_ ?_ ⟨rfl, rfl, rfl, rfl, rfl, rfl, trivial⟩ (List.Perm.refl _)
        ·try dsimp only
         exact ⟨fwd_next (q9 ▸ hfw) hi5 (hit_eq (by assumption)), owl_take ho11 hti hi5⟩
        ·(try dsimp only); omega
      ·
       try simp only [Z1, Z2, Z3, Z4, Z5, Z6, Z7, Z8, Z9, Z0] at q9
       refine WC.exit (WE.then_exit (WE.then_exit (WE.block_same ?_)))
       refine WE.meet (i, hd, _, _) ?_ ⟨rfl, rfl, rfl, trivial⟩ (List.Perm.refl _)
       try dsimp only
       first | exact ⟨hfw, fun _ => by omega, hoo⟩ | exact ⟨hfw, (fun h => by rw [q9] at h; cases h), hoo⟩
     ·
      try simp only [Z1, Z2, Z3, Z4, Z5, Z6, Z7, Z8, Z9, Z0] at s9_4
      refine WL.skip rfl rfl rfl ?_
      refine WL.q (oq_pick_f rfl rfl) rfl rfl rfl ?_
      refine WL.nil (WE.then_normal (WC.sub (fr' := [(1, _), (2, _), (11, _), (12, _), (14, _), (15, _), (37, _)]) ?_ ⟨rfl, rfl, rfl, rfl, rfl, rfl, rfl, trivial⟩))
      refine WC.cond_f rfl ?_
      refine WC.exit (WE.then_exit (WE.then_exit (WE.block_same ?_)))
      refine WE.meet (i, hd, _, _) ?_ ⟨rfl, rfl, rfl, trivial⟩ (List.Perm.refl _)
      try dsimp only
      first | exact ⟨hfw, fun _ => by omega, hoo⟩ | exact ⟨hfw, (fun h => by rw [q9] at h; cases h), hoo⟩
   ·rintro ⟨i, hd, v2, O⟩ hp
    try dsimp only at hp
    obtain ⟨hfw, hend, hoo⟩ := hp
    show WC _ _ _ _ _ _ ([(2, .bool fail), (12, v2), (14, .bool hd)]) ([O, W, [(o10, .cells (arr5 vs) 27 (0, 0))], N1_1, A])
    have hi := hfw.1
    refine WC.seq (WC.seq (WC.region ?_))
    refine WL.q (oq_move rfl) rfl rfl rfl ?_
    refine WL.q (oq_len_rd hoo.rd Tryz.underlying26 rfl) rfl rfl rfl ?_
    refine WL.q (oq_sub rfl rfl (by rw [i64_lo, i64_hi]; (first | omega | (simp only [List.length_cons, List.length_nil, List.length_append, List.length_drop, List.length_take]; omega)))) rfl rfl rfl ?_
    refine WL.q (oq_assign rfl) rfl rfl rfl ?_
    refine WL.nil (WE.then_normal (WC.sub (fr' := [(2, _), (12, _), (14, _), (16, _)]) ?_ ⟨rfl, rfl, rfl, rfl, trivial⟩))
    refine WC.block ?_
    refine WC.loop (ι := Nat × Value × Hp) (fun i_ => (fun (c : Nat) (v3 : Value) (O2 : Hp) => [(2, .bool fail), (12, v3), (14, .bool hd), (16, I ((c : Int) - 1))]) i_.1 i_.2.1 i_.2.2) (fun i_ => (fun (c : Nat) (v3 : Value) (O2 : Hp) => [O2, W, [(o10, .cells (arr5 vs) 27 (0, 0))], N1_1, A]) i_.1 i_.2.1 i_.2.2) (fun i_ => (fun (c : Nat) (v3 : Value) (O2 : Hp) => c ≤ ((accI (wst l).1 5).take i).length ∧ OwL w0.heap.size v3 O2 ((accI (wst l).1 5).take i ++ (((accI (wst l).1 5).take i).drop c).reverse.map dash)) i_.1 i_.2.1 i_.2.2) (fun i_ => (fun (c : Nat) (v3 : Value) (O2 : Hp) => c) i_.1 i_.2.1 i_.2.2) ((((accI (wst l).1 5).take i).length, _, _)) ?_ ⟨rfl, rfl, rfl, rfl, trivial⟩ (List.Perm.refl _) ?_
    ·try dsimp only
     exact ⟨Nat.le_refl _, by rw [List.drop_length]; simpa using hoo⟩
    ·rintro ⟨c, v3, O2⟩ hp
     try dsimp only at hp
     obtain ⟨hc, hoo⟩ := hp
     show WC _ _ _ _ _ _ ([(2, .bool fail), (12, v3), (14, .bool hd), (16, I ((c : Int) - 1))]) ([O2, W, [(o10, .cells (arr5 vs) 27 (0, 0))], N1_1, A])
     refine WC.seq (WC.seq (WC.region ?_))
     refine WL.q (oq_move rfl) rfl rfl rfl ?_
     refine WL.q (oq_geq rfl rfl) rfl rfl rfl ?_
     refine WL.nil (WE.then_normal (WC.sub (fr' := [(2, _), (12, _), (14, _), (16, _), (61, _)]) ?_ ⟨rfl, rfl, rfl, rfl, rfl, trivial⟩))
     refine WC.cond rfl (fun q14 => ?_) (fun q14 => ?_)
     ·
      try simp only [Z1, Z2, Z3, Z4, Z5, Z6, Z7, Z8, Z9, Z0] at q14
      refine WC.skip (WE.then_normal (WC.sub (fr' := [(2, _), (12, _), (14, _), (16, _)]) ?_ ⟨rfl, rfl, rfl, rfl, trivial⟩))
      refine WC.seq (WC.block ?_)
      obtain ⟨e, rfl⟩ : ∃ e, c = e + 1 := ⟨c - 1, by omega⟩
      have hce : e < ((accI (wst l).1 5).take i).length := by omega
      have hti : ((accI (wst l).1 5).take i).length = i := by rw [List.length_take]; omega
      have hel : ((((accI (wst l).1 5).take i) ++ ((((accI (wst l).1 5).take i).drop (e + 1)).reverse.map dash)).getD (((e + 1 : Nat) : Int) - 1).toNat []) = ((accI (wst l).1 5).take i).getD e [] := by rw [Int.toNat_sub_of, List.getD_eq_getElem?_getD, List.getElem?_append_left hce, ← List.getD_eq_getElem?_getD]
      have hes : ((((accI (wst l).1 5).take i) ++ ((((accI (wst l).1 5).take i).drop (e + 1)).reverse.map dash)).getD (((e + 1 : Nat) : Int) - 1).toNat []).length ≤ 100 := by rw [hel, List.getD_eq_getElem?_getD, List.getElem?_eq_getElem hce]; exact hsh _ (List.mem_of_mem_take (List.getElem_mem hce))
      refine WC.region ?_
      refine WL.q (oq_move rfl) rfl rfl rfl ?_
      refine WL.q (oq_move rfl) rfl rfl rfl ?_
      refine WL.q (oq_move rfl) rfl rfl rfl ?_
      refine WL.q (oq_ixaddr hoo.rd Tryz.underlying26 ty9 rfl rfl (by (first | omega | (simp only [List.length_cons, List.length_nil, List.length_append, List.length_drop, List.length_take]; omega)))) rfl rfl rfl ?_
      refine WL.q (oq_load_str hoo.rd (.head _) flat9 rfl (by (first | omega | (simp only [List.length_cons, List.length_nil, List.length_append, List.length_drop, List.length_take]; omega))) (by exact Eq.refl (Int.toNat _))) rfl rfl rfl ?_
      refine WL.q (oq_concat rfl rfl (by (first | omega | (simp only [List.length_cons, List.length_nil, List.length_append, List.length_drop, List.length_take]; omega)))) rfl rfl rfl ?_
      refine WL.append1 hoo Tryz.underlying26 ty9 rfl (by decide) (fun _ => rfl) rfl rfl (by unfold maxLen; (simp only [List.length_append, List.length_map, List.length_reverse, List.length_drop, List.length_take]; omega)) (by (simp only [List.length_append, List.length_map, List.length_reverse, List.length_drop, List.length_take]; omega)) rfl rfl (fun _ => rfl) rfl fun v16 A16 u16 ho16 hne16 => ?_
      refine WL.q (oq_assign rfl) rfl rfl rfl ?_
      refine WL.nil (WE.block_normal (WE.then_normal (WC.sub (fr' := [(2, _), (12, _), (14, _), (16, _)]) ?_ ⟨rfl, rfl, rfl, rfl, trivial⟩)))
      refine WC.region ?_
      refine WL.q (oq_move rfl) rfl rfl rfl ?_
      refine WL.q (oq_sub rfl rfl (by rw [i64_lo, i64_hi]; (first | omega | (simp only [List.length_cons, List.length_nil, List.length_append, List.length_drop, List.length_take]; omega)))) rfl rfl rfl ?_
      refine WL.q (oq_assign rfl) rfl rfl rfl ?_
      refine WL.nil ?_
      refine WE.again (e, _, _) ?_ ?_ ⟨rfl, rfl, rfl, (gti rfl (by omega)), trivial⟩ (List.Perm.refl _)
      ·try dsimp only
       exact ⟨by omega, by rw [back_next hce]; exact OwL.snoc ho16 rfl (by rw [← hel]; rfl)⟩
      ·(try dsimp only); omega
     ·
      try simp only [Z1, Z2, Z3, Z4, Z5, Z6, Z7, Z8, Z9, Z0] at q14
      refine WC.exit (WE.then_exit (WE.then_exit (WE.block_same (WE.then_normal (WC.sub (fr' := [(2, _), (12, _), (14, _)]) ?_ ⟨rfl, rfl, rfl, trivial⟩)))))
      refine WC.seq (WC.region ?_)
      refine WL.q (oq_move rfl) rfl rfl rfl ?_
      refine WL.q (oq_move rfl) rfl rfl rfl ?_
      refine WL.q (oq_move rfl) rfl rfl rfl ?_
      refine WL.q (oq_not rfl) rfl rfl rfl ?_
      refine WL.q (oq_move rfl) rfl rfl rfl ?_
      refine WL.split 76 rfl (fun s17_4 => ?_) (fun s17_4 => ?_)
      ·
       try simp only [Z1, Z2, Z3, Z4, Z5, Z6, Z7, Z8, Z9, Z0] at s17_4
       refine WL.q (oq_move rfl) rfl rfl rfl ?_
       refine WL.q (oq_pick_t rfl rfl) rfl rfl rfl ?_
       refine WL.q (oq_assign rfl) rfl rfl rfl ?_
       refine WL.q (oq_assign rfl) rfl rfl rfl ?_
       refine WL.q (oq_assign rfl) rfl rfl rfl ?_
       refine WL.nil (WE.then_normal (WC.sub (fr' := [(6, _), (7, _), (8, _)]) ?_ ⟨rfl, rfl, rfl, trivial⟩))
       refine WC.ret ?_
       refine WE.f1 ?_
       refine WE.forget how.fresh ?_
       refine WE.f1 ?_
       refine WE.lose ho10 ?_
       refine WE.f1 ?_
       refine WE.forget hN1_1 ?_
       refine WE.endA (.inl rfl) (res3 Tryz.results16 rfl rfl rfl) ?_ (hoo.fresh)
       obtain rfl : c = 0 := by omega
       have htr := fwd_end hfw hend
       rw [accI_all] at htr hoo
       refine ⟨v3, ?_, rdT hoo.rd (by rw [htr]; simp)⟩
       rw [htr]
       first | rfl | (cases hd <;> simp_all; done)
      ·
       try simp only [Z1, Z2, Z3, Z4, Z5, Z6, Z7, Z8, Z9, Z0] at s17_4
       refine WL.skip rfl rfl rfl ?_
       refine WL.q (oq_pick_f rfl rfl) rfl rfl rfl ?_
       refine WL.q (oq_assign rfl) rfl rfl rfl ?_
       refine WL.q (oq_assign rfl) rfl rfl rfl ?_
       refine WL.q (oq_assign rfl) rfl rfl rfl ?_
       refine WL.nil (WE.then_normal (WC.sub (fr' := [(6, _), (7, _), (8, _)]) ?_ ⟨rfl, rfl, rfl, trivial⟩))
       refine WC.ret ?_
       refine WE.f1 ?_
       refine WE.forget how.fresh ?_
       refine WE.f1 ?_
       refine WE.lose ho10 ?_
       refine WE.f1 ?_
       refine WE.forget hN1_1 ?_
       refine WE.endA (.inl rfl) (res3 Tryz.results16 rfl rfl rfl) ?_ (hoo.fresh)
       obtain rfl : c = 0 := by omega
       have htr := fwd_end hfw hend
       rw [accI_all] at htr hoo
       refine ⟨v3, ?_, rdT hoo.rd (by rw [htr]; simp)⟩
       rw [htr]
       first | rfl | (cases hd <;> simp_all; done)
theorem lawCalls (v : Value) (A : Hp) (l : List WO) (hr : RdS 5 v A l.length (recsV wof l)) (stop : List UInt8) (fail : Bool) : FnR Tryz.prog 6 [v, S stop, .bool fail] A (.bool true) := by
 refine FnR.enter (n := 62) Tryz.func6 rfl rfl fun w0 => ?_
 refine WC.sub (fr' := [(0, _), (1, _), (2, _)]) ?_ ⟨rfl, rfl, rfl, trivial⟩
 refine WC.seq (WC.region ?_)
 refine WL.q (oq_assign rfl) rfl rfl rfl ?_
 refine WL.nil (WE.then_normal (WC.sub (fr' := [(0, _), (1, _), (2, _)]) ?_ ⟨rfl, rfl, rfl, trivial⟩))
 refine WC.seq (WC.seq (WC.region ?_))
 refine WL.q (oq_move rfl) rfl rfl rfl ?_
 refine WL.qc (oq_callRm (fits18 v A l hr) (.head _) call8 rfl) rfl rfl rfl ?_
 refine WL.q (oq_not rfl) rfl rfl rfl ?_
 refine WL.q (oq_move rfl) rfl rfl rfl ?_
 refine WL.split 16 rfl (fun s1_3 => ?_) (fun s1_3 => ?_)
 ·
  try simp only [Z1, Z2, Z3, Z4, Z5, Z6, Z7, Z8, Z9, Z0] at s1_3
  refine WL.skip rfl rfl rfl ?_
  refine WL.skip rfl rfl rfl ?_
  refine WL.skip rfl rfl rfl ?_
  refine WL.q (oq_pick_t rfl rfl) rfl rfl rfl ?_
  refine WL.nil (WE.then_normal (WC.sub (fr' := [(0, _), (1, _), (2, _), (20, _)]) ?_ ⟨rfl, rfl, rfl, rfl, trivial⟩))
  refine WC.cond_t rfl ?_
  refine WC.seq (WC.region ?_)
  refine WL.q (oq_assign rfl) rfl rfl rfl ?_
  refine WL.nil (WE.then_normal (WC.sub (fr' := [(6, _)]) ?_ ⟨rfl, trivial⟩))
  refine WC.ret (WE.then_ret ?_)
  refine WE.endR (.inl rfl) (res1 Tryz.results6 rfl) ?_
  first | rfl | (rw [decide_eq_true rfl]; done) | (exfalso; omega) | (exfalso; simp_all; done) | (simp_all; done)
 ·
  try simp only [Z1, Z2, Z3, Z4, Z5, Z6, Z7, Z8, Z9, Z0] at s1_3
  refine WL.q (oq_move rfl) rfl rfl rfl ?_
  refine WL.q (oq_len_s Tryz.underlying9 rfl) rfl rfl rfl ?_
  refine WL.q (oq_gtr rfl rfl) rfl rfl rfl ?_
  refine WL.q (oq_pick_f rfl rfl) rfl rfl rfl ?_
  refine WL.nil (WE.then_normal (WC.sub (fr' := [(0, _), (1, _), (2, _), (20, _)]) ?_ ⟨rfl, rfl, rfl, rfl, trivial⟩))
  refine WC.cond rfl (fun q1 => ?_) (fun q1 => ?_)
  ·
   try simp only [Z1, Z2, Z3, Z4, Z5, Z6, Z7, Z8, Z9, Z0] at q1
   refine WC.seq (WC.region ?_)
   refine WL.q (oq_assign rfl) rfl rfl rfl ?_
   refine WL.nil (WE.then_normal (WC.sub (fr' := [(6, _)]) ?_ ⟨rfl, trivial⟩))
   refine WC.ret (WE.then_ret ?_)
   refine WE.endR (.inl rfl) (res1 Tryz.results6 rfl) ?_
   first | rfl | (rw [decide_eq_true rfl]; done) | (exfalso; omega) | (exfalso; simp_all; done) | (simp_all; done)
  ·
   try simp only [Z1, Z2, Z3, Z4, Z5, Z6, Z7, Z8, Z9, Z0] at q1
   refine WC.skip (WE.then_normal (WC.sub (fr' := [(0, _), (1, _), (2, _)]) ?_ ⟨rfl, rfl, rfl, trivial⟩))
   refine WC.seq (WC.seq (WC.region ?_))
   refine WL.q (oq_move rfl) rfl rfl rfl ?_
   refine WL.qc (oq_callRm (SD.look v A l hr (by first | assumption | (simp_all; done))) (.head _) call9 rfl) rfl rfl rfl ?_
   refine WL.q (oq_not rfl) rfl rfl rfl ?_
   refine WL.q (oq_move rfl) rfl rfl rfl ?_
   refine WL.split 24 rfl (fun s3_3 => ?_) (fun s3_3 => ?_)
   ·
    try simp only [Z1, Z2, Z3, Z4, Z5, Z6, Z7, Z8, Z9, Z0] at s3_3
    refine WL.skip rfl rfl rfl ?_
    refine WL.skip rfl rfl rfl ?_
    refine WL.skip rfl rfl rfl ?_
    refine WL.q (oq_pick_t rfl rfl) rfl rfl rfl ?_
    refine WL.nil (WE.then_normal (WC.sub (fr' := [(0, _), (1, _), (2, _), (28, _)]) ?_ ⟨rfl, rfl, rfl, rfl, trivial⟩))
    refine WC.cond_t rfl ?_
    refine WC.seq (WC.region ?_)
    refine WL.qc (oq_call (wAwake) call10 rfl) rfl rfl rfl ?_
    refine WL.q (oq_assign rfl) rfl rfl rfl ?_
    refine WL.nil (WE.then_normal (WC.sub (fr' := [(6, _)]) ?_ ⟨rfl, trivial⟩))
    refine WC.ret (WE.then_ret ?_)
    refine WE.endR (.inl rfl) (res1 Tryz.results6 rfl) ?_
    first | rfl | (rw [decide_eq_true rfl]; done) | (exfalso; omega) | (exfalso; simp_all; done) | (simp_all; done)
   ·
    try simp only [Z1, Z2, Z3, Z4, Z5, Z6, Z7, Z8, Z9, Z0] at s3_3
    refine WL.q (oq_move rfl) rfl rfl rfl ?_
    refine WL.q (oq_len_s Tryz.underlying9 rfl) rfl rfl rfl ?_
    refine WL.q (oq_gtr rfl rfl) rfl rfl rfl ?_
    refine WL.q (oq_pick_f rfl rfl) rfl rfl rfl ?_
    refine WL.nil (WE.then_normal (WC.sub (fr' := [(0, _), (1, _), (2, _), (28, _)]) ?_ ⟨rfl, rfl, rfl, rfl, trivial⟩))
    refine WC.cond rfl (fun q3 => ?_) (fun q3 => ?_)
    ·
     try simp only [Z1, Z2, Z3, Z4, Z5, Z6, Z7, Z8, Z9, Z0] at q3
     refine WC.seq (WC.region ?_)
     refine WL.qc (oq_call (wAwake) call10 rfl) rfl rfl rfl ?_
     refine WL.q (oq_assign rfl) rfl rfl rfl ?_
     refine WL.nil (WE.then_normal (WC.sub (fr' := [(6, _)]) ?_ ⟨rfl, trivial⟩))
     refine WC.ret (WE.then_ret ?_)
     refine WE.endR (.inl rfl) (res1 Tryz.results6 rfl) ?_
     first | rfl | (rw [decide_eq_true rfl]; done) | (exfalso; omega) | (exfalso; simp_all; done) | (simp_all; done)
    ·
     try simp only [Z1, Z2, Z3, Z4, Z5, Z6, Z7, Z8, Z9, Z0] at q3
     refine WC.skip (WE.then_normal (WC.sub (fr' := [(0, _), (1, _), (2, _)]) ?_ ⟨rfl, rfl, rfl, trivial⟩))
     refine WC.seq ?_
     obtain ⟨hl, hok⟩ := looked_of (by first | assumption | (simp_all; done))
     refine WC.region ?_
     refine WL.q (oq_move rfl) rfl rfl rfl ?_
     refine WL.q (oq_move rfl) rfl rfl rfl ?_
     refine WL.q (oq_move rfl) rfl rfl rfl ?_
     refine WL.callA (wCalls v A l hr hl hok stop fail) call15 rfl rfl rfl fun v5_3 N5_3 hR5_3 hN5_3 => ?_
     obtain ⟨lv1, rfl, hr1⟩ := hR5_3
     refine WL.q (oq_move rfl) rfl rfl rfl ?_
     refine WL.q (oq_extract rfl rfl) rfl rfl rfl ?_
     refine WL.q (oq_extract rfl rfl) rfl rfl rfl ?_
     refine WL.q (oq_extract rfl rfl) rfl rfl rfl ?_
     refine WL.q (oq_assign rfl) rfl rfl rfl ?_
     refine WL.q (oq_assign rfl) rfl rfl rfl ?_
     refine WL.q (oq_assign rfl) rfl rfl rfl ?_
     refine WL.nil (WE.then_normal (WC.sub (fr' := [(0, _), (1, _), (2, _), (7, _), (8, _), (9, _)]) ?_ ⟨rfl, rfl, rfl, rfl, rfl, rfl, trivial⟩))
     refine WC.seq (WC.region ?_)
     refine WL.q (oq_move rfl) rfl rfl rfl ?_
     refine WL.q (oq_move rfl) rfl rfl rfl ?_
     refine WL.q (oq_move rfl) rfl rfl rfl ?_
     refine WL.f1 ?_
     refine WL.callA (wAsked v A l hr hl hok stop fail) call16 rfl rfl rfl fun v6_3 N6_3 hR6_3 hN6_3 => ?_
     obtain ⟨lv2, rfl, hr2⟩ := hR6_3
     refine WL.q (oq_move rfl) rfl rfl rfl ?_
     refine WL.q (oq_extract rfl rfl) rfl rfl rfl ?_
     refine WL.q (oq_extract rfl rfl) rfl rfl rfl ?_
     refine WL.q (oq_extract rfl rfl) rfl rfl rfl ?_
     refine WL.q (oq_assign rfl) rfl rfl rfl ?_
     refine WL.q (oq_assign rfl) rfl rfl rfl ?_
     refine WL.q (oq_assign rfl) rfl rfl rfl ?_
     refine WL.nil (WE.then_normal (WC.sub (fr' := [(7, _), (8, _), (9, _), (10, _), (11, _), (12, _)]) ?_ ⟨rfl, rfl, rfl, rfl, rfl, rfl, trivial⟩))
     refine WC.seq ?_
     have hwl := fun j => by have h1 := (wst_len l l.length (Nat.le_refl _)).1 j; rw [List.take_length] at h1; exact h1
     have hlt : (Tr stop (allI (wst l).1)).1.length ≤ 100000 := by have h1 := Tr_len stop (allI (wst l).1); have a := accI_len (wst l).1 (fun j => Nat.le_trans (hwl j) hl) 5; rw [accI_all] at a; omega
     refine WC.region ?_
     refine WL.f2 ?_
     refine WL.cat ?_
     refine WL.q (oq_move rfl) rfl rfl rfl ?_
     refine WL.q (oq_move rfl) rfl rfl rfl ?_
     refine WL.qc (oq_callRm (wSame lv1 lv2 (N5_3 ++ N6_3) _ _ (hr1.weaken fun x hx => List.mem_append_left _ hx) (hr2.weaken fun x hx => List.mem_append_right _ hx) hlt) (.head _) call14 rfl) rfl rfl rfl ?_
     refine WL.q (oq_move rfl) rfl rfl rfl ?_
     refine WL.split 49 rfl (fun s7_3 => ?_) (fun s7_3 => ?_)
     ·
      try simp only [Z1, Z2, Z3, Z4, Z5, Z6, Z7, Z8, Z9, Z0] at s7_3
      refine WL.q (oq_move rfl) rfl rfl rfl ?_
      refine WL.q (oq_move rfl) rfl rfl rfl ?_
      refine WL.q (oq_beql Tryz.underlying4 rfl rfl) rfl rfl rfl ?_
      refine WL.q (oq_pick_t rfl rfl) rfl rfl rfl ?_
      refine WL.q (oq_move rfl) rfl rfl rfl ?_
      refine WL.split 54 rfl (fun s7_8 => ?_) (fun s7_8 => ?_)
      ·
       try simp only [Z1, Z2, Z3, Z4, Z5, Z6, Z7, Z8, Z9, Z0] at s7_8
       refine WL.q (oq_move rfl) rfl rfl rfl ?_
       refine WL.q (oq_move rfl) rfl rfl rfl ?_
       refine WL.q (oq_beql Tryz.underlying4 rfl rfl) rfl rfl rfl ?_
       refine WL.q (oq_pick_t rfl rfl) rfl rfl rfl ?_
       refine WL.q (oq_move rfl) rfl rfl rfl ?_
       refine WL.split 59 rfl (fun s7_13 => ?_) (fun s7_13 => ?_)
       ·
        try simp only [Z1, Z2, Z3, Z4, Z5, Z6, Z7, Z8, Z9, Z0] at s7_13
        refine WL.qc (oq_call (wAwake) call10 rfl) rfl rfl rfl ?_
        refine WL.q (oq_pick_t rfl rfl) rfl rfl rfl ?_
        refine WL.q (oq_assign rfl) rfl rfl rfl ?_
        refine WL.nil (WE.then_normal (WC.sub (fr' := [(6, _)]) ?_ ⟨rfl, trivial⟩))
        refine WC.ret ?_
        refine WE.forget (fresh_cat hN5_3 hN6_3) ?_
        refine WE.endR (.inl rfl) (res1 Tryz.results6 rfl) ?_
        first | rfl | (rw [decide_eq_true rfl]; done) | (exfalso; omega) | (exfalso; simp_all; done) | (simp_all; done)
       ·
        try simp only [Z1, Z2, Z3, Z4, Z5, Z6, Z7, Z8, Z9, Z0] at s7_13
        refine WL.skip rfl rfl rfl ?_
        refine WL.q (oq_pick_f rfl rfl) rfl rfl rfl ?_
        refine WL.q (oq_assign rfl) rfl rfl rfl ?_
        refine WL.nil (WE.then_normal (WC.sub (fr' := [(6, _)]) ?_ ⟨rfl, trivial⟩))
        refine WC.ret ?_
        refine WE.forget (fresh_cat hN5_3 hN6_3) ?_
        refine WE.endR (.inl rfl) (res1 Tryz.results6 rfl) ?_
        first | rfl | (rw [decide_eq_true rfl]; done) | (exfalso; omega) | (exfalso; simp_all; done) | (simp_all; done)
      ·
       try simp only [Z1, Z2, Z3, Z4, Z5, Z6, Z7, Z8, Z9, Z0] at s7_8
       refine WL.skip rfl rfl rfl ?_
       refine WL.skip rfl rfl rfl ?_
       refine WL.skip rfl rfl rfl ?_
       refine WL.q (oq_pick_f rfl rfl) rfl rfl rfl ?_
       refine WL.q (oq_move rfl) rfl rfl rfl ?_
       refine WL.skip rfl rfl rfl ?_
       refine WL.q (oq_pick_f rfl rfl) rfl rfl rfl ?_
       refine WL.q (oq_assign rfl) rfl rfl rfl ?_
       refine WL.nil (WE.then_normal (WC.sub (fr' := [(6, _)]) ?_ ⟨rfl, trivial⟩))
       refine WC.ret ?_
       refine WE.forget (fresh_cat hN5_3 hN6_3) ?_
       refine WE.endR (.inl rfl) (res1 Tryz.results6 rfl) ?_
       first | rfl | (rw [decide_eq_true rfl]; done) | (exfalso; omega) | (exfalso; simp_all; done) | (simp_all; done)
     ·
      try simp only [Z1, Z2, Z3, Z4, Z5, Z6, Z7, Z8, Z9, Z0] at s7_3
      refine WL.skip rfl rfl rfl ?_
      refine WL.skip rfl rfl rfl ?_
      refine WL.skip rfl rfl rfl ?_
      refine WL.q (oq_pick_f rfl rfl) rfl rfl rfl ?_
      refine WL.q (oq_move rfl) rfl rfl rfl ?_
      refine WL.skip rfl rfl rfl ?_
      refine WL.skip rfl rfl rfl ?_
      refine WL.skip rfl rfl rfl ?_
      refine WL.q (oq_pick_f rfl rfl) rfl rfl rfl ?_
      refine WL.q (oq_move rfl) rfl rfl rfl ?_
      refine WL.skip rfl rfl rfl ?_
      refine WL.q (oq_pick_f rfl rfl) rfl rfl rfl ?_
      refine WL.q (oq_assign rfl) rfl rfl rfl ?_
      refine WL.nil (WE.then_normal (WC.sub (fr' := [(6, _)]) ?_ ⟨rfl, trivial⟩))
      refine WC.ret ?_
      refine WE.forget (fresh_cat hN5_3 hN6_3) ?_
      refine WE.endR (.inl rfl) (res1 Tryz.results6 rfl) ?_
      first | rfl | (rw [decide_eq_true rfl]; done) | (exfalso; omega) | (exfalso; simp_all; done) | (simp_all; done)
end SN
end Go.Proofs.YtiegaefkahnfjaaGreat
