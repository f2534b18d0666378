/- The reference of stacks: plain laws, and walks. -/
import Derived.Test.YtiegaefkahnfjaaGreatS8
namespace Go.Proofs.YtiegaefkahnfjaaGreat
open Go Go.RowKit V S0 S1 S2 S3 S4 S5 S6 S7 S8
set_option linter.unusedSimpArgs false
set_option linter.unusedVariables false
set_option maxRecDepth 10000
namespace SA
theorem call25 : Callable Tryz.prog 25 := ⟨_, Tryz.func25, rfl, by kernel_rfl⟩
theorem call26 : Callable Tryz.prog 26 := ⟨_, Tryz.func26, rfl, by kernel_rfl⟩
theorem flat3 : Flat Tryz.prog 3 := ⟨_, Tryz.underlying3, by simp⟩
theorem flat4 : Flat Tryz.prog 4 := ⟨_, Tryz.underlying4, by simp⟩
theorem flat9 : Flat Tryz.prog 9 := ⟨_, Tryz.underlying9, by simp⟩
theorem ty3 : Ty Tryz.prog 3 (.int .i64 0) 1 8 := ty_of (by kernel_rfl)
theorem ty4 : Ty Tryz.prog 4 (.bool false) 1 1 := ty_of (by kernel_rfl)
theorem ty9 : Ty Tryz.prog 9 (S []) 1 16 := ty_of (by kernel_rfl)
theorem fld32_1 : Fld Tryz.prog 32 1 1 3 := fld_of Tryz.underlying32 rfl rfl rfl ty3 (by decide)
theorem fld32_2 : Fld Tryz.prog 32 2 2 9 := fld_of Tryz.underlying32 rfl rfl rfl ty9 (by decide)
theorem fld32_3 : Fld Tryz.prog 32 3 3 9 := fld_of Tryz.underlying32 rfl rfl rfl ty9 (by decide)
theorem fld32_4 : Fld Tryz.prog 32 4 4 4 := fld_of Tryz.underlying32 rfl rfl rfl ty4 (by decide)
def atI (id : List UInt8) : List (List UInt8) → Int
 | [] => -1
 | x :: r => if x = id then 0 else if atI id r < 0 then -1 else atI id r + 1
theorem atI_miss {id : List UInt8} : ∀ {l : List (List UInt8)}, (∀ y ∈ l, y ≠ id) → atI id l = -1
 | [], _ => rfl
 | x :: r, h => by
  show (if x = id then _ else _) = _
  rw [if_neg (h x List.mem_cons_self), atI_miss (l := r) fun y hy => h y (List.mem_cons_of_mem _ hy)]; rfl
theorem atI_hit {id : List UInt8} {B : List (List UInt8)} : ∀ {A : List (List UInt8)}, (∀ y ∈ A, y ≠ id) → atI id (A ++ id :: B) = A.length
 | [], _ => by show (if id = id then _ else _) = _; rw [if_pos rfl]; rfl
 | x :: r, h => by
  show (if x = id then 0 else if atI id (r ++ id :: B) < 0 then -1 else atI id (r ++ id :: B) + 1) = _
  rw [if_neg (h x List.mem_cons_self), atI_hit (A := r) fun y hy => h y (List.mem_cons_of_mem _ hy), if_neg (by omega)]
  simp
theorem id_split (id : List UInt8) : ∀ (l : List (List UInt8)), (∃ A B, l = A ++ id :: B ∧ ∀ y ∈ A, y ≠ id) ∨ ∀ y ∈ l, y ≠ id
 | [] => .inr (by simp)
 | x :: r => by
  by_cases h : x = id
  ·exact .inl ⟨[], r, by rw [h]; rfl, by simp⟩
  ·rcases id_split id r with ⟨A, B, e, hA⟩ | hn
   ·refine .inl ⟨x :: A, B, by rw [e]; rfl, fun y hy => ?_⟩
    rcases List.mem_cons.1 hy with rfl | hy
    ·exact h
    ·exact hA y hy
   ·refine .inr fun y hy => ?_
    rcases List.mem_cons.1 hy with rfl | hy
    ·exact h
    ·exact hn y hy
theorem at_neg {id : List UInt8} {l : List (List UInt8)} (h : atI id l < 0) : ∀ y ∈ l, y ≠ id := by
 rcases id_split id l with ⟨A, B, rfl, hA⟩ | hn
 ·rw [atI_hit hA] at h; omega
 ·exact hn
theorem at_pos {id : List UInt8} {l : List (List UInt8)} (h : 0 ≤ atI id l) : ∃ A B, l = A ++ id :: B ∧ (∀ y ∈ A, y ≠ id) ∧ atI id l = A.length := by
 rcases id_split id l with ⟨A, B, rfl, hA⟩ | hn
 ·exact ⟨A, B, rfl, hA, atI_hit hA⟩
 ·rw [atI_miss hn] at h; omega
theorem at_first {id : List UInt8} {l : List (List UInt8)} {i : Nat} (hi : i < l.length) (h : l.getD i [] = id) (hp : ∀ j, j < i → l.getD j [] ≠ id) : atI id l = i := by
 have e : l = l.take i ++ id :: l.drop (i + 1) := by
  rw [← h, List.getD_eq_getElem?_getD, List.getElem?_eq_getElem hi, Option.getD_some, ← List.drop_eq_getElem_cons hi, List.take_append_drop]
 rw [e, atI_hit, List.length_take, Nat.min_eq_left (by omega)]
 intro y hy
 obtain ⟨j, hj, rfl⟩ := List.getElem_of_mem hy
 rw [List.length_take] at hj
 have := hp j (by omega)
 rw [List.getD_eq_getElem?_getD, List.getElem?_eq_getElem (by omega), Option.getD_some] at this
 rw [List.getElem_take]; exact this
theorem at_none {id : List UInt8} {l : List (List UInt8)} (hp : ∀ j, j < l.length → l.getD j [] ≠ id) : atI id l = -1 := by
 refine atI_miss fun y hy => ?_
 obtain ⟨j, hj, rfl⟩ := List.getElem_of_mem hy
 have := hp j hj
 rwa [List.getD_eq_getElem?_getD, List.getElem?_eq_getElem hj, Option.getD_some] at this
theorem insI_hit {b d : List UInt8} {a : Bool} {B : List (List UInt8)} : ∀ {A : List (List UInt8)}, (∀ y ∈ A, y ≠ b) → insI b a d (A ++ b :: B) = some (A ++ (if a then b :: d :: B else d :: b :: B))
 | [], _ => by show (if b = b then _ else _) = _; rw [if_pos rfl]; rfl
 | x :: r, h => by
  show (if x = b then _ else (insI b a d (r ++ b :: B)).map _) = _
  rw [if_neg (h x List.mem_cons_self), insI_hit (A := r) fun y hy => h y (List.mem_cons_of_mem _ hy)]; rfl
theorem insI_miss {b d : List UInt8} {a : Bool} : ∀ {l : List (List UInt8)}, (∀ y ∈ l, y ≠ b) → insI b a d l = none
 | [], _ => rfl
 | x :: r, h => by
  show (if x = b then _ else (insI b a d r).map _) = _
  rw [if_neg (h x List.mem_cons_self), insI_miss (l := r) fun y hy => h y (List.mem_cons_of_mem _ hy)]; rfl
theorem swpI_hit {b d : List UInt8} {B : List (List UInt8)} : ∀ {A : List (List UInt8)}, (∀ y ∈ A, y ≠ b) → swpI b d (A ++ b :: B) = some (A ++ d :: B)
 | [], _ => by show (if b = b then _ else _) = _; rw [if_pos rfl]; rfl
 | x :: r, h => by
  show (if x = b then _ else (swpI b d (r ++ b :: B)).map _) = _
  rw [if_neg (h x List.mem_cons_self), swpI_hit (A := r) fun y hy => h y (List.mem_cons_of_mem _ hy)]; rfl
theorem swpI_miss {b d : List UInt8} : ∀ {l : List (List UInt8)}, (∀ y ∈ l, y ≠ b) → swpI b d l = none
 | [], _ => rfl
 | x :: r, h => by
  show (if x = b then _ else (swpI b d r).map _) = _
  rw [if_neg (h x List.mem_cons_self), swpI_miss (l := r) fun y hy => h y (List.mem_cons_of_mem _ hy)]; rfl
theorem remI_hit {d : List UInt8} {B : List (List UInt8)} : ∀ {A : List (List UInt8)}, (∀ y ∈ A, y ≠ d) → remI d (A ++ d :: B) = some (A ++ B)
 | [], _ => by show (if d = d then _ else _) = _; rw [if_pos rfl]; rfl
 | x :: r, h => by
  show (if x = d then _ else (remI d (r ++ d :: B)).map _) = _
  rw [if_neg (h x List.mem_cons_self), remI_hit (A := r) fun y hy => h y (List.mem_cons_of_mem _ hy)]; rfl
theorem remI_miss {d : List UInt8} : ∀ {l : List (List UInt8)}, (∀ y ∈ l, y ≠ d) → remI d l = none
 | [], _ => rfl
 | x :: r, h => by
  show (if x = d then _ else (remI d r).map _) = _
  rw [if_neg (h x List.mem_cons_self), remI_miss (l := r) fun y hy => h y (List.mem_cons_of_mem _ hy)]; rfl
theorem cut_strs0 (l : List (List UInt8)) (j : Int) : cut (strsV l) (0 * ((1 : Nat) : Int)) (j * ((1 : Nat) : Int)) = strsV (l.take j.toNat) := by
 unfold cut strsV
 rw [show j * ((1 : Nat) : Int) = j by omega, ← List.map_take]
 simp
theorem cut_strsE (l : List (List UInt8)) (i : Int) : cut (strsV l) (i * ((1 : Nat) : Int)) ((l.length : Int) * ((1 : Nat) : Int)) = strsV (l.drop i.toNat) := by
 unfold cut strsV
 rw [show i * ((1 : Nat) : Int) = i by omega, show (l.length : Int) * ((1 : Nat) : Int) = l.length by omega, Int.toNat_natCast, ← List.map_take, ← List.map_drop, List.take_length]
theorem rdN {v : Value} {A : Hp} {n m : Nat} {xs ys : List Value} (h : RdS 1 v A n xs) (hn : n = m) (hx : xs = ys) : RdS 1 v A m ys := by subst hn; subst hx; exact h
def putAt (l : List (List UInt8)) (i : Int) (d : List UInt8) : List (List UInt8) := l.take i.toNat ++ d :: l.drop i.toNat
theorem putAt_end (l : List (List UInt8)) (d : List UInt8) : putAt l (l.length : Int) d = l ++ [d] := by unfold putAt; rw [Int.toNat_natCast, List.take_length, List.drop_length]
theorem putAt_0 (l : List (List UInt8)) (d : List UInt8) : putAt l 0 d = d :: l := rfl
def WD (A : Hp) (o : WO) (l : List (List UInt8)) (r : Value) (N : Hp) : Prop := ∃ v', r = .tuple #[v', .bool (wopI o l).isSome] ∧ RdS 1 v' (N ++ A) ((wopI o l).getD l).length (strsV ((wopI o l).getD l))
theorem wd_some {A N : Hp} {o : WO} {l m : List (List UInt8)} {v' : Value} (h : wopI o l = some m) (hr : RdS 1 v' N m.length (strsV m)) : WD A o l (.tuple #[v', .bool true]) N :=
 ⟨v', by rw [h]; rfl, by rw [h]; exact hr.weaken fun x hx => List.mem_append_left _ hx⟩
theorem wd_none {A : Hp} {o : WO} {l : List (List UInt8)} {v' : Value} (h : wopI o l = none) (hr : RdS 1 v' A l.length (strsV l)) : WD A o l (.tuple #[v', .bool false]) [] :=
 ⟨v', by rw [h]; rfl, by rw [h]; exact hr⟩
theorem wop0 {o : WO} (h : o.k = 0) (l : List (List UInt8)) : wopI o l = some (putI o.a o.d l) := if_pos h
theorem wop1 {o : WO} (h : o.k = 1) (l : List (List UInt8)) : wopI o l = insI o.b o.a o.d l := by unfold wopI; rw [if_neg (by omega), if_pos h]
theorem wop2 {o : WO} (h : o.k = 2) (l : List (List UInt8)) : wopI o l = swpI o.b o.d l := by unfold wopI; rw [if_neg (by omega), if_neg (by omega), if_pos h]
theorem wop3 {o : WO} (h : o.k = 3) (l : List (List UInt8)) : wopI o l = remI o.d l := by unfold wopI; rw [if_neg (by omega), if_neg (by omega), if_neg (by omega), if_pos h]
theorem wop4 {o : WO} (h0 : o.k ≠ 0) (h1 : o.k ≠ 1) (h2 : o.k ≠ 2) (h3 : o.k ≠ 3) (l : List (List UInt8)) : wopI o l = some [] := by unfold wopI; rw [if_neg h0, if_neg h1, if_neg h2, if_neg h3]
theorem ins_at {l A B : List (List UInt8)} {b d : List UInt8} {a : Bool} (e : l = A ++ b :: B) (hA : ∀ y ∈ A, y ≠ b) : insI b a d l = some (putAt l (if a then (A.length : Int) + 1 else A.length) d) := by
 subst e
 rw [insI_hit hA]
 unfold putAt
 cases a with
 | false => simp
 | true =>
  simp only [if_true, show ((A.length : Int) + 1).toNat = A.length + 1 by omega]
  rw [List.take_append, List.drop_append, List.take_of_length_le (by omega), List.drop_eq_nil_of_le (by omega), show A.length + 1 - A.length = 1 by omega]
  simp
theorem arr_set {l A B : List (List UInt8)} {b d : List UInt8} (e : l = A ++ b :: B) : l.set A.length d = A ++ d :: B := by
 subst e
 rw [List.set_append, if_neg (by omega), Nat.sub_self]; rfl
theorem rem_at {l A B : List (List UInt8)} {b : List UInt8} (e : l = A ++ b :: B) : l.take A.length ++ l.drop (A.length + 1) = A ++ B := by
 subst e
 rw [List.take_left]
 congr 1
 rw [List.drop_append, List.drop_eq_nil_of_le (by omega), show A.length + 1 - A.length = 1 by omega]
 rfl
def arr5 (vs : Nat → Value) : Array Value := #[vs 0, vs 1, vs 2, vs 3, vs 4]
theorem arr5_get (vs : Nat → Value) (i : Nat) (hi : i < 5) : (arr5 vs)[0 + i]? = some (vs i) :=
 match i, hi with
 | 0, _ => rfl
 | 1, _ => rfl
 | 2, _ => rfl
 | 3, _ => rfl
 | 4, _ => rfl
theorem arr5_set (vs : Nat → Value) (i : Nat) (hi : i < 5) (v : Value) : (arr5 vs).setIfInBounds (0 + i) v = arr5 (updW vs i v) :=
 match i, hi with
 | 0, _ => rfl
 | 1, _ => rfl
 | 2, _ => rfl
 | 3, _ => rfl
 | 4, _ => rfl
theorem wnext_eq (q : Nat → List (List UInt8)) (bs : List Bool) (o : WO) : wnext (q, bs) o = (updW q o.s.toNat ((wopI o (q o.s.toNat)).getD (q o.s.toNat)), bs ++ [!(wopI o (q o.s.toNat)).isSome]) := by
 unfold wnext
 dsimp only
 cases h : wopI o (q o.s.toNat) with
 | some m => rfl
 | none =>
  have : updW q o.s.toNat (q o.s.toNat) = q := by
   funext j
   by_cases hj : j = o.s.toNat
   ·rw [hj, updW_at]
   ·exact updW_ne _ _ hj
  show (q, _) = (updW q o.s.toNat (q o.s.toNat), _)
  rw [this]; rfl
theorem reg_ol {B A N M : Hp} {H : List Hp} : ((B ++ A) :: N :: M :: H).flatten.Perm (B :: A :: (N ++ M) :: H).flatten := by simp
theorem split4 {s a x e : Hp} {H : List Hp} : ((((s ++ a) ++ x) ++ e) :: H).flatten.Perm (s :: a :: x :: e :: H).flatten := by simp
theorem arr5_one {vs : Nat → Value} (h : ∀ j, j < 5 → (vs j).oneCell' = true) : ([vs 0, vs 1, vs 2, vs 3, vs 4] : List Value).all Value.oneCell' = true := by
 simp [h 0 (by decide), h 1 (by decide), h 2 (by decide), h 3 (by decide), h 4 (by decide)]
def WR (l : List WO) (r : Value) (N : Hp) : Prop := ∃ ve vs, r = .tuple #[ve, .agg (arr5 vs)] ∧ RdS 1 ve N (wst l).2.length (boolsV (wst l).2) ∧ ∀ j, j < 5 → RdS 1 (vs j) N ((wst l).1 j).length (strsV ((wst l).1 j))
theorem wAt (v : Value) (A : Hp) (l : List (List UInt8)) (hr : RdS 1 v A l.length (strsV l)) (hl : l.length ≤ 1000) (id : List UInt8) : FnR Tryz.prog 26 [v, S id] A (I (atI id l)) := by
 refine FnR.enter (n := 19) Tryz.func26 rfl rfl fun w0 => ?_
 refine WC.sub (fr' := [(0, _), (1, _)]) ?_ ⟨rfl, rfl, trivial⟩
 refine WC.seq (WC.region ?_)
 refine WL.q (oq_assign rfl) rfl rfl rfl ?_
 refine WL.nil (WE.then_normal (WC.sub (fr' := [(0, _), (1, _)]) ?_ ⟨rfl, rfl, trivial⟩))
 refine WC.seq (WC.seq (WC.region ?_))
 refine WL.q (oq_assign rfl) rfl rfl rfl ?_
 refine WL.nil (WE.then_normal (WC.sub (fr' := [(0, _), (1, _), (5, _)]) ?_ ⟨rfl, rfl, rfl, trivial⟩))
 refine WC.block ?_
 refine WC.loop (ι := Nat) (fun (i : Nat) => [(0, v), (1, S id), (5, I (i : Int))]) (fun (i : Nat) => [A]) (fun (i : Nat) => i ≤ l.length ∧ ∀ j, j < i → l.getD j [] ≠ id) (fun (i : Nat) => l.length - i) (0) ?_ ⟨rfl, rfl, rfl, trivial⟩ (List.Perm.refl _) ?_
 ·try dsimp only
  exact ⟨by omega, fun j hj => by omega⟩
 ·rintro i hp
  try dsimp only at hp
  obtain ⟨hi, hp⟩ := hp
  show WC _ _ _ _ _ _ ([(0, v), (1, S id), (5, I (i : Int))]) ([A])
  refine WC.seq (WC.seq (WC.region ?_))
  refine WL.q (oq_move rfl) rfl rfl rfl ?_
  refine WL.q (oq_move rfl) rfl rfl rfl ?_
  refine WL.q (oq_len_rd hr Tryz.underlying26 rfl) rfl rfl rfl ?_
  refine WL.q (oq_lss rfl rfl) rfl rfl rfl ?_
  refine WL.nil (WE.then_normal (WC.sub (fr' := [(0, _), (1, _), (5, _), (9, _)]) ?_ ⟨rfl, rfl, rfl, rfl, trivial⟩))
  refine WC.cond rfl (fun q2 => ?_) (fun q2 => ?_)
  ·
   try simp only [Z1, Z2, Z3, Z4, Z5, Z6, Z7, Z8, Z9, Z0] at q2
   refine WC.skip (WE.then_normal (WC.sub (fr' := [(0, _), (1, _), (5, _)]) ?_ ⟨rfl, rfl, rfl, trivial⟩))
   refine WC.seq (WC.block (WC.seq (WC.region ?_)))
   refine WL.q (oq_move rfl) rfl rfl rfl ?_
   refine WL.q (oq_move rfl) rfl rfl rfl ?_
   refine WL.q (oq_ixaddr hr Tryz.underlying26 ty9 rfl rfl (by (first | omega | (simp only [List.length_cons, List.length_nil, List.length_append, List.length_drop, List.length_take]; omega)))) rfl rfl rfl ?_
   refine WL.q (oq_load_str hr (.head _) flat9 rfl (by (first | omega | (simp only [List.length_cons, List.length_nil, List.length_append, List.length_drop, List.length_take]; omega))) (by first | exact Int.toNat_natCast _ | exact rfl)) rfl rfl rfl ?_
   refine WL.q (oq_move rfl) rfl rfl rfl ?_
   refine WL.q (oq_seql rfl rfl) rfl rfl rfl ?_
   refine WL.nil (WE.then_normal (WC.sub (fr' := [(0, _), (1, _), (5, _), (17, _)]) ?_ ⟨rfl, rfl, rfl, rfl, trivial⟩))
   refine WC.cond rfl (fun q4 => ?_) (fun q4 => ?_)
   ·
    try simp only [Z1, Z2, Z3, Z4, Z5, Z6, Z7, Z8, Z9, Z0] at q4
    refine WC.seq (WC.region ?_)
    refine WL.q (oq_move rfl) rfl rfl rfl ?_
    refine WL.q (oq_assign rfl) rfl rfl rfl ?_
    refine WL.nil (WE.then_normal (WC.sub (fr' := [(4, _)]) ?_ ⟨rfl, trivial⟩))
    refine WC.ret (WE.block_ret (WE.then_ret (WE.then_ret (WE.block_ret (WE.then_ret ?_)))))
    refine WE.endR (.inl rfl) (res1 Tryz.results26 rfl) ?_
    rw [at_first (by omega) q4 hp]
   ·
    try simp only [Z1, Z2, Z3, Z4, Z5, Z6, Z7, Z8, Z9, Z0] at q4
    refine WC.skip (WE.block_normal (WE.then_normal (WC.sub (fr' := [(0, _), (1, _), (5, _)]) ?_ ⟨rfl, rfl, rfl, trivial⟩)))
    refine WC.region ?_
    refine WL.q (oq_move rfl) rfl rfl rfl ?_
    refine WL.q (oq_add rfl rfl (by rw [i64_lo, i64_hi]; (first | omega | (simp only [List.length_cons, List.length_nil, List.length_append, List.length_drop, List.length_take]; omega)))) rfl rfl rfl ?_
    refine WL.q (oq_assign rfl) rfl rfl rfl ?_
    refine WL.nil ?_
    refine WE.again (i + 1) ?_ ?_ ⟨rfl, rfl, rfl, trivial⟩ (List.Perm.refl _)
    ·try dsimp only
     exact ⟨by omega, fun j hj => by by_cases e : j = i; rw [e]; exact q4; exact hp j (by omega)⟩
    ·(try dsimp only); omega
  ·
   try simp only [Z1, Z2, Z3, Z4, Z5, Z6, Z7, Z8, Z9, Z0] at q2
   refine WC.exit (WE.then_exit (WE.then_exit (WE.block_same (WE.then_normal (WC.sub (fr' := []) ?_ trivial)))))
   refine WC.seq (WC.region ?_)
   refine WL.q (oq_assign rfl) rfl rfl rfl ?_
   refine WL.nil (WE.then_normal (WC.sub (fr' := [(4, _)]) ?_ ⟨rfl, trivial⟩))
   refine WC.ret ?_
   refine WE.endR (.inl rfl) (res1 Tryz.results26 rfl) ?_
   obtain rfl : i = l.length := by omega
   rw [at_none hp]
theorem wPut (v : Value) (A : Hp) (l : List (List UInt8)) (hr : RdS 1 v A l.length (strsV l)) (hl : l.length ≤ 1000) (at_ : Int) (hat : 0 ≤ at_ ∧ at_ ≤ l.length) (d : List UInt8) : FnA Tryz.prog 25 [v, I at_, S d] A (fun r N => RdS 1 r N (putAt l at_ d).length (strsV (putAt l at_ d))) := by
 obtain ⟨w1, hw1, hov1⟩ := slice_val (i := 0) (j := at_) hr ty9 (by omega)
 obtain ⟨w2, hw2, hov2⟩ := slice_val (i := at_) (j := (l.length : Int)) hr ty9 (by omega)
 rw [cut_strs0] at hw1
 rw [cut_strsE] at hw2
 have hm1 : (at_ - 0).toNat ≤ 1000 := by omega
 have hm2 : ((l.length : Int) - at_).toNat ≤ 1000 := by omega
 refine FnA.enter (n := 19) Tryz.func25 rfl rfl fun w0 => ?_
 refine WC.sub (fr' := [(0, _), (1, _), (2, _)]) ?_ ⟨rfl, rfl, rfl, trivial⟩
 refine WC.seq (WC.region ?_)
 refine WL.q (oq_assign rfl) rfl rfl rfl ?_
 refine WL.nil (WE.then_normal (WC.sub (fr' := [(0, _), (1, _), (2, _)]) ?_ ⟨rfl, rfl, rfl, trivial⟩))
 refine WC.seq ?_
 refine WC.held (A) (by kernel_rfl) ?_
 refine WH.q 1 rfl (.head _) (fun w0 => oq_move rfl) rfl rfl rfl ?_
 refine WH.q 2 rfl (.head _) (fun w0 => oq_move rfl) rfl rfl rfl ?_
 refine WH.q 3 rfl (.head _) (fun w0 => hov1 Tryz.underlying26 rfl rfl ⟨_, rfl⟩) rfl rfl rfl ?_
 refine WH.q 5 rfl (.head _) (fun w0 => oq_move rfl) rfl rfl rfl ?_
 refine WH.q 8 rfl (.head _) (fun w0 => oq_move rfl) rfl rfl rfl ?_
 refine WH.q 9 rfl (.head _) (fun w0 => oq_move rfl) rfl rfl rfl ?_
 refine WH.q 10 rfl (.head _) (fun w0 => hov2 Tryz.underlying26 rfl ⟨_, rfl⟩ rfl) rfl rfl rfl ?_
 refine WH.fork (i := 0) (j := 6) (by kernel_rfl) rfl rfl ?_ ?_
 ·
  refine WL.build0 Tryz.underlying26 ty9 rfl rfl fun v1_0 A1_0 ho1_0 hne1_0 => ?_
  refine WL.nil ?_
  refine WE.toH (.tail _ (.head _)) ?_
  refine WH.fork (i := 4) (j := 6) (by kernel_rfl) rfl rfl ?_ ?_
  ·
   refine WL.appendS ho1_0 Tryz.underlying26 ty9 rfl (by decide) rfl rfl hw1 (.head _) (strsV_one _) (by unfold maxLen; first | omega | (simp only [List.length_take, List.length_drop, List.length_append, List.length_cons, List.length_nil]; omega)) (by first | omega | (simp only [List.length_take, List.length_drop, List.length_append, List.length_cons, List.length_nil]; omega)) rfl rfl fun v1 A1 ho1 hne1 => ?_
   refine WL.nil ?_
   refine WE.toH (.tail _ (.head _)) ?_
   refine WH.step (i := 6) (by kernel_rfl) rfl ?_
   refine WL.buildL Tryz.underlying26 ty9 rfl rfl (by decide) (by decide) rfl rfl rfl fun v1_6 A1_6 ho1_6 hne1_6 => ?_
   refine WL.nil ?_
   refine WE.toH (.tail _ (.tail _ (.head _))) ?_
   refine WH.step (i := 7) (by kernel_rfl) rfl ?_
   refine WL.f1 ?_
   refine WL.appendS ho1 Tryz.underlying26 ty9 rfl (by decide) rfl rfl ho1_6.rd (.head _) (fun u hu => by rw [List.mem_singleton.1 hu]; rfl) (by unfold maxLen; first | omega | (simp only [List.length_take, List.length_drop, List.length_append, List.length_cons, List.length_nil]; omega)) (by first | omega | (simp only [List.length_take, List.length_drop, List.length_append, List.length_cons, List.length_nil]; omega)) rfl rfl fun v1 A1 ho1 hne1 => ?_
   refine WL.nil ?_
   refine WE.toH (.tail _ (.tail _ (.head _))) ?_
   refine WH.step (i := 11) (by kernel_rfl) rfl ?_
   refine WL.appendS ho1 Tryz.underlying26 ty9 rfl (by decide) rfl rfl hw2 (.tail _ (.head _)) (strsV_one _) (by unfold maxLen; first | omega | (simp only [List.length_take, List.length_drop, List.length_append, List.length_cons, List.length_nil]; omega)) (by first | omega | (simp only [List.length_take, List.length_drop, List.length_append, List.length_cons, List.length_nil]; omega)) rfl rfl fun v1 A1 ho1 hne1 => ?_
   refine WL.nil ?_
   refine WE.toH (.tail _ (.tail _ (.head _))) ?_
   refine WH.q 12 rfl (.tail _ (.tail _ (.head _))) (fun w0 => oq_assign rfl) rfl rfl rfl ?_
   refine WH.done (by kernel_rfl) ?_
   refine WE.then_normal (WC.sub (fr' := [(6, _)]) ?_ ⟨rfl, trivial⟩)
   refine WC.ret ?_
   refine WE.f1 ?_
   refine WE.forget ho1_6.fresh ?_
   refine WE.endA (.inl rfl) (res1 Tryz.results25 rfl) ?_ (ho1.fresh)
   exact rdN ho1.rd (by unfold putAt; simp only [List.length_append, List.length_cons, List.length_take, List.length_drop]; omega) (by unfold putAt strsV; simp)
  ·
   refine WL.buildL Tryz.underlying26 ty9 rfl rfl (by decide) (by decide) rfl rfl rfl fun v1_6 A1_6 ho1_6 hne1_6 => ?_
   refine WL.nil ?_
   refine WE.toH (.tail _ (.tail _ (.head _))) ?_
   refine WH.step (i := 4) (by kernel_rfl) rfl ?_
   refine WL.f1 ?_
   refine WL.appendS ho1_0 Tryz.underlying26 ty9 rfl (by decide) rfl rfl hw1 (.tail _ (.head _)) (strsV_one _) (by unfold maxLen; first | omega | (simp only [List.length_take, List.length_drop, List.length_append, List.length_cons, List.length_nil]; omega)) (by first | omega | (simp only [List.length_take, List.length_drop, List.length_append, List.length_cons, List.length_nil]; omega)) rfl rfl fun v1 A1 ho1 hne1 => ?_
   refine WL.nil ?_
   refine WE.toH (.tail _ (.tail _ (.head _))) ?_
   refine WH.step (i := 7) (by kernel_rfl) rfl ?_
   refine WL.appendS ho1 Tryz.underlying26 ty9 rfl (by decide) rfl rfl ho1_6.rd (.head _) (fun u hu => by rw [List.mem_singleton.1 hu]; rfl) (by unfold maxLen; first | omega | (simp only [List.length_take, List.length_drop, List.length_append, List.length_cons, List.length_nil]; omega)) (by first | omega | (simp only [List.length_take, List.length_drop, List.length_append, List.length_cons, List.length_nil]; omega)) rfl rfl fun v1 A1 ho1 hne1 => ?_
   refine WL.nil ?_
   refine WE.toH (.tail _ (.tail _ (.head _))) ?_
   refine WH.step (i := 11) (by kernel_rfl) rfl ?_
   refine WL.appendS ho1 Tryz.underlying26 ty9 rfl (by decide) rfl rfl hw2 (.tail _ (.head _)) (strsV_one _) (by unfold maxLen; first | omega | (simp only [List.length_take, List.length_drop, List.length_append, List.length_cons, List.length_nil]; omega)) (by first | omega | (simp only [List.length_take, List.length_drop, List.length_append, List.length_cons, List.length_nil]; omega)) rfl rfl fun v1 A1 ho1 hne1 => ?_
   refine WL.nil ?_
   refine WE.toH (.tail _ (.tail _ (.head _))) ?_
   refine WH.q 12 rfl (.tail _ (.tail _ (.head _))) (fun w0 => oq_assign rfl) rfl rfl rfl ?_
   refine WH.done (by kernel_rfl) ?_
   refine WE.then_normal (WC.sub (fr' := [(6, _)]) ?_ ⟨rfl, trivial⟩)
   refine WC.ret ?_
   refine WE.f1 ?_
   refine WE.forget ho1_6.fresh ?_
   refine WE.endA (.inl rfl) (res1 Tryz.results25 rfl) ?_ (ho1.fresh)
   exact rdN ho1.rd (by unfold putAt; simp only [List.length_append, List.length_cons, List.length_take, List.length_drop]; omega) (by unfold putAt strsV; simp)
 ·
  refine WL.buildL Tryz.underlying26 ty9 rfl rfl (by decide) (by decide) rfl rfl rfl fun v1_6 A1_6 ho1_6 hne1_6 => ?_
  refine WL.nil ?_
  refine WE.toH (.tail _ (.head _)) ?_
  refine WH.step (i := 0) (by kernel_rfl) rfl ?_
  refine WL.build0 Tryz.underlying26 ty9 rfl rfl fun v1_0 A1_0 ho1_0 hne1_0 => ?_
  refine WL.nil ?_
  refine WE.toH (.tail _ (.tail _ (.head _))) ?_
  refine WH.step (i := 4) (by kernel_rfl) rfl ?_
  refine WL.appendS ho1_0 Tryz.underlying26 ty9 rfl (by decide) rfl rfl hw1 (.tail _ (.head _)) (strsV_one _) (by unfold maxLen; first | omega | (simp only [List.length_take, List.length_drop, List.length_append, List.length_cons, List.length_nil]; omega)) (by first | omega | (simp only [List.length_take, List.length_drop, List.length_append, List.length_cons, List.length_nil]; omega)) rfl rfl fun v1 A1 ho1 hne1 => ?_
  refine WL.nil ?_
  refine WE.toH (.tail _ (.tail _ (.head _))) ?_
  refine WH.step (i := 7) (by kernel_rfl) rfl ?_
  refine WL.appendS ho1 Tryz.underlying26 ty9 rfl (by decide) rfl rfl ho1_6.rd (.head _) (fun u hu => by rw [List.mem_singleton.1 hu]; rfl) (by unfold maxLen; first | omega | (simp only [List.length_take, List.length_drop, List.length_append, List.length_cons, List.length_nil]; omega)) (by first | omega | (simp only [List.length_take, List.length_drop, List.length_append, List.length_cons, List.length_nil]; omega)) rfl rfl fun v1 A1 ho1 hne1 => ?_
  refine WL.nil ?_
  refine WE.toH (.tail _ (.tail _ (.head _))) ?_
  refine WH.step (i := 11) (by kernel_rfl) rfl ?_
  refine WL.appendS ho1 Tryz.underlying26 ty9 rfl (by decide) rfl rfl hw2 (.tail _ (.head _)) (strsV_one _) (by unfold maxLen; first | omega | (simp only [List.length_take, List.length_drop, List.length_append, List.length_cons, List.length_nil]; omega)) (by first | omega | (simp only [List.length_take, List.length_drop, List.length_append, List.length_cons, List.length_nil]; omega)) rfl rfl fun v1 A1 ho1 hne1 => ?_
  refine WL.nil ?_
  refine WE.toH (.tail _ (.tail _ (.head _))) ?_
  refine WH.q 12 rfl (.tail _ (.tail _ (.head _))) (fun w0 => oq_assign rfl) rfl rfl rfl ?_
  refine WH.done (by kernel_rfl) ?_
  refine WE.then_normal (WC.sub (fr' := [(6, _)]) ?_ ⟨rfl, trivial⟩)
  refine WC.ret ?_
  refine WE.f1 ?_
  refine WE.forget ho1_6.fresh ?_
  refine WE.endA (.inl rfl) (res1 Tryz.results25 rfl) ?_ (ho1.fresh)
  exact rdN ho1.rd (by unfold putAt; simp only [List.length_append, List.length_cons, List.length_take, List.length_drop]; omega) (by unfold putAt strsV; simp)
theorem wDone (v : Value) (A : Hp) (l : List (List UInt8)) (hr : RdS 1 v A l.length (strsV l)) (hl : l.length ≤ 500) (s k : Int) (d b : List UInt8) (a : Bool) : FnA Tryz.prog 19 [v, .agg #[I s, I k, S d, S b, .bool a]] A (WD A ⟨s, k, d, b, a⟩ l) := by
 refine FnA.enter (n := 81) Tryz.func19 rfl rfl fun w0 => ?_
 refine WC.sub (fr' := [(0, _), (1, _)]) ?_ ⟨rfl, rfl, trivial⟩
 refine WC.seq (WC.region ?_)
 refine WL.box rfl rfl rfl fun ob hob => ?_
 refine WL.q (oq_assign rfl) rfl rfl rfl ?_
 refine WL.q (oq_assign rfl) rfl rfl rfl ?_
 refine WL.nil (WE.then_normal (WC.sub (fr' := [(0, _), (3, _)]) ?_ ⟨rfl, rfl, trivial⟩))
 refine WC.seq (WC.seq (WC.region ?_))
 refine WL.q (oq_fieldAddr fld32_1 rfl) rfl rfl rfl ?_
 refine WL.q (oq_load flat3 rfl (.head _) (List.mem_singleton.2 rfl) rfl) rfl rfl rfl ?_
 refine WL.nil (WE.then_normal (WC.sub (fr' := [(0, _), (3, _), (11, _)]) ?_ ⟨rfl, rfl, rfl, trivial⟩))
 refine WC.block (WC.seq (WC.region ?_))
 refine WL.q (oq_eql rfl rfl) rfl rfl rfl ?_
 refine WL.q (oq_assign rfl) rfl rfl rfl ?_
 refine WL.nil (WE.then_normal (WC.sub (fr' := [(0, _), (3, _), (11, _), (12, _)]) ?_ ⟨rfl, rfl, rfl, rfl, trivial⟩))
 refine WC.cond rfl (fun q2 => ?_) (fun q2 => ?_)
 ·
  try simp only [Z1, Z2, Z3, Z4, Z5, Z6, Z7, Z8, Z9, Z0] at q2
  refine WC.seq (WC.seq (WC.region ?_))
  refine WL.q (oq_fieldAddr fld32_4 rfl) rfl rfl rfl ?_
  refine WL.q (oq_load flat4 rfl (.head _) (List.mem_singleton.2 rfl) rfl) rfl rfl rfl ?_
  refine WL.nil (WE.then_normal (WC.sub (fr' := [(0, _), (3, _), (15, _)]) ?_ ⟨rfl, rfl, rfl, trivial⟩))
  refine WC.cond rfl (fun q3 => ?_) (fun q3 => ?_)
  ·
   try simp only [Z1, Z2, Z3, Z4, Z5, Z6, Z7, Z8, Z9, Z0] at q3
   refine WC.seq (WC.region ?_)
   refine WL.q (oq_move rfl) rfl rfl rfl ?_
   refine WL.q (oq_move rfl) rfl rfl rfl ?_
   refine WL.q (oq_len_rd hr Tryz.underlying26 rfl) rfl rfl rfl ?_
   refine WL.q (oq_fieldAddr fld32_2 rfl) rfl rfl rfl ?_
   refine WL.q (oq_load flat9 rfl (.head _) (List.mem_singleton.2 rfl) rfl) rfl rfl rfl ?_
   refine WL.f1 ?_
   refine WL.callA (wPut v A l hr (by omega) _ (by omega) d) call25 rfl rfl rfl fun v4_5 N4_5 hR4_5 hN4_5 => ?_
   refine WL.q (oq_assign rfl) rfl rfl rfl ?_
   refine WL.q (oq_assign rfl) rfl rfl rfl ?_
   refine WL.nil (WE.then_normal (WC.sub (fr' := [(4, _), (5, _)]) ?_ ⟨rfl, rfl, trivial⟩))
   refine WC.ret (WE.then_ret (WE.block_ret (WE.then_ret ?_)))
   refine WE.f2 ?_
   refine WE.lose hob ?_
   refine WE.endA (.inl rfl) (res2 Tryz.results19 rfl rfl) ?_ (hN4_5)
   exact wd_some (by rw [wop0 (o := ⟨s, k, d, b, a⟩) q2]; show some (putI a d l) = _; rw [q3, putAt_end]; rfl) hR4_5
  ·
   try simp only [Z1, Z2, Z3, Z4, Z5, Z6, Z7, Z8, Z9, Z0] at q3
   refine WC.skip (WE.then_normal (WC.sub (fr' := [(0, _), (3, _)]) ?_ ⟨rfl, rfl, trivial⟩))
   refine WC.seq (WC.region ?_)
   refine WL.q (oq_move rfl) rfl rfl rfl ?_
   refine WL.q (oq_fieldAddr fld32_2 rfl) rfl rfl rfl ?_
   refine WL.q (oq_load flat9 rfl (.head _) (List.mem_singleton.2 rfl) rfl) rfl rfl rfl ?_
   refine WL.f1 ?_
   refine WL.callA (wPut v A l hr (by omega) _ (by omega) d) call25 rfl rfl rfl fun v5_3 N5_3 hR5_3 hN5_3 => ?_
   refine WL.q (oq_assign rfl) rfl rfl rfl ?_
   refine WL.q (oq_assign rfl) rfl rfl rfl ?_
   refine WL.nil (WE.then_normal (WC.sub (fr' := [(4, _), (5, _)]) ?_ ⟨rfl, rfl, trivial⟩))
   refine WC.ret (WE.block_ret (WE.then_ret ?_))
   refine WE.f2 ?_
   refine WE.lose hob ?_
   refine WE.endA (.inl rfl) (res2 Tryz.results19 rfl rfl) ?_ (hN5_3)
   exact wd_some (by rw [wop0 (o := ⟨s, k, d, b, a⟩) q2]; show some (putI a d l) = _; rw [q3, putAt_0]; rfl) hR5_3
 ·
  try simp only [Z1, Z2, Z3, Z4, Z5, Z6, Z7, Z8, Z9, Z0] at q2
  refine WC.seq (WC.region ?_)
  refine WL.q (oq_eql rfl rfl) rfl rfl rfl ?_
  refine WL.q (oq_assign rfl) rfl rfl rfl ?_
  refine WL.nil (WE.then_normal (WC.sub (fr' := [(0, _), (3, _), (11, _), (26, _)]) ?_ ⟨rfl, rfl, rfl, rfl, trivial⟩))
  refine WC.cond rfl (fun q6 => ?_) (fun q6 => ?_)
  ·
   try simp only [Z1, Z2, Z3, Z4, Z5, Z6, Z7, Z8, Z9, Z0] at q6
   refine WC.seq (WC.region ?_)
   refine WL.q (oq_move rfl) rfl rfl rfl ?_
   refine WL.q (oq_fieldAddr fld32_3 rfl) rfl rfl rfl ?_
   refine WL.q (oq_load flat9 rfl (.head _) (List.mem_singleton.2 rfl) rfl) rfl rfl rfl ?_
   refine WL.qc (oq_callRm (wAt v A l hr (by omega) _) (.tail _ (.head _)) call26 rfl) rfl rfl rfl ?_
   refine WL.q (oq_assign rfl) rfl rfl rfl ?_
   refine WL.nil (WE.then_normal (WC.sub (fr' := [(0, _), (3, _), (6, _)]) ?_ ⟨rfl, rfl, rfl, trivial⟩))
   refine WC.seq (WC.seq (WC.region ?_))
   refine WL.q (oq_move rfl) rfl rfl rfl ?_
   refine WL.q (oq_lss rfl rfl) rfl rfl rfl ?_
   refine WL.nil (WE.then_normal (WC.sub (fr' := [(0, _), (3, _), (6, _), (33, _)]) ?_ ⟨rfl, rfl, rfl, rfl, trivial⟩))
   refine WC.cond rfl (fun q8 => ?_) (fun q8 => ?_)
   ·
    try simp only [Z1, Z2, Z3, Z4, Z5, Z6, Z7, Z8, Z9, Z0] at q8
    refine WC.seq (WC.region ?_)
    refine WL.q (oq_move rfl) rfl rfl rfl ?_
    refine WL.q (oq_assign rfl) rfl rfl rfl ?_
    refine WL.q (oq_assign rfl) rfl rfl rfl ?_
    refine WL.nil (WE.then_normal (WC.sub (fr' := [(4, _), (5, _)]) ?_ ⟨rfl, rfl, trivial⟩))
    refine WC.ret (WE.then_ret (WE.block_ret (WE.then_ret ?_)))
    refine WE.lose hob ?_
    refine WE.add0 ?_
    refine WE.endA (.inl rfl) (res2 Tryz.results19 rfl rfl) ?_ fresh0
    exact wd_none (by rw [wop1 (o := ⟨s, k, d, b, a⟩) q6]; exact insI_miss (at_neg q8)) hr
   ·
    try simp only [Z1, Z2, Z3, Z4, Z5, Z6, Z7, Z8, Z9, Z0] at q8
    refine WC.skip (WE.then_normal (WC.sub (fr' := [(0, _), (3, _), (6, _)]) ?_ ⟨rfl, rfl, rfl, trivial⟩))
    refine WC.seq (WC.seq ?_)
    obtain ⟨A0, B0, e0, hA0, hat⟩ := at_pos (show 0 ≤ atI b l by omega)
    have hAl : A0.length < l.length := by rw [e0]; simp
    refine WC.region ?_
    refine WL.q (oq_fieldAddr fld32_4 rfl) rfl rfl rfl ?_
    refine WL.q (oq_load flat4 rfl (.head _) (List.mem_singleton.2 rfl) rfl) rfl rfl rfl ?_
    refine WL.nil (WE.then_normal (WC.sub (fr' := [(0, _), (3, _), (6, _), (36, _)]) ?_ ⟨rfl, rfl, rfl, rfl, trivial⟩))
    refine WC.cond rfl (fun q10 => ?_) (fun q10 => ?_)
    ·
     try simp only [Z1, Z2, Z3, Z4, Z5, Z6, Z7, Z8, Z9, Z0] at q10
     refine WC.region ?_
     refine WL.q (oq_move rfl) rfl rfl rfl ?_
     refine WL.q (oq_add rfl rfl (by rw [i64_lo, i64_hi]; (first | omega | (simp only [List.length_cons, List.length_nil, List.length_append, List.length_drop, List.length_take]; omega)))) rfl rfl rfl ?_
     refine WL.q (oq_assign rfl) rfl rfl rfl ?_
     refine WL.nil (WE.then_normal (WC.sub (fr' := [(0, _), (3, _), (6, _)]) ?_ ⟨rfl, rfl, rfl, trivial⟩))
     refine WC.seq (WC.region ?_)
     refine WL.q (oq_move rfl) rfl rfl rfl ?_
     refine WL.q (oq_move rfl) rfl rfl rfl ?_
     refine WL.q (oq_fieldAddr fld32_2 rfl) rfl rfl rfl ?_
     refine WL.q (oq_load flat9 rfl (.head _) (List.mem_singleton.2 rfl) rfl) rfl rfl rfl ?_
     refine WL.f1 ?_
     refine WL.callA (wPut v A l hr (by omega) _ (by omega) d) call25 rfl rfl rfl fun v12_4 N12_4 hR12_4 hN12_4 => ?_
     refine WL.q (oq_assign rfl) rfl rfl rfl ?_
     refine WL.q (oq_assign rfl) rfl rfl rfl ?_
     refine WL.nil (WE.then_normal (WC.sub (fr' := [(4, _), (5, _)]) ?_ ⟨rfl, rfl, trivial⟩))
     refine WC.ret (WE.block_ret (WE.then_ret ?_))
     refine WE.f2 ?_
     refine WE.lose hob ?_
     refine WE.endA (.inl rfl) (res2 Tryz.results19 rfl rfl) ?_ (hN12_4)
     exact wd_some (by rw [wop1 (o := ⟨s, k, d, b, a⟩) q6]; show insI b a d l = _; rw [ins_at e0 hA0, q10, hat]; rfl) hR12_4
    ·
     try simp only [Z1, Z2, Z3, Z4, Z5, Z6, Z7, Z8, Z9, Z0] at q10
     refine WC.skip (WE.then_normal (WC.sub (fr' := [(0, _), (3, _), (6, _)]) ?_ ⟨rfl, rfl, rfl, trivial⟩))
     refine WC.seq (WC.region ?_)
     refine WL.q (oq_move rfl) rfl rfl rfl ?_
     refine WL.q (oq_move rfl) rfl rfl rfl ?_
     refine WL.q (oq_fieldAddr fld32_2 rfl) rfl rfl rfl ?_
     refine WL.q (oq_load flat9 rfl (.head _) (List.mem_singleton.2 rfl) rfl) rfl rfl rfl ?_
     refine WL.f1 ?_
     refine WL.callA (wPut v A l hr (by omega) _ (by omega) d) call25 rfl rfl rfl fun v12_4 N12_4 hR12_4 hN12_4 => ?_
     refine WL.q (oq_assign rfl) rfl rfl rfl ?_
     refine WL.q (oq_assign rfl) rfl rfl rfl ?_
     refine WL.nil (WE.then_normal (WC.sub (fr' := [(4, _), (5, _)]) ?_ ⟨rfl, rfl, trivial⟩))
     refine WC.ret (WE.block_ret (WE.then_ret ?_))
     refine WE.f2 ?_
     refine WE.lose hob ?_
     refine WE.endA (.inl rfl) (res2 Tryz.results19 rfl rfl) ?_ (hN12_4)
     exact wd_some (by rw [wop1 (o := ⟨s, k, d, b, a⟩) q6]; show insI b a d l = _; rw [ins_at e0 hA0, q10, hat]; rfl) hR12_4
  ·
   try simp only [Z1, Z2, Z3, Z4, Z5, Z6, Z7, Z8, Z9, Z0] at q6
   refine WC.seq (WC.region ?_)
   refine WL.q (oq_eql rfl rfl) rfl rfl rfl ?_
   refine WL.q (oq_assign rfl) rfl rfl rfl ?_
   refine WL.nil (WE.then_normal (WC.sub (fr' := [(0, _), (3, _), (11, _), (44, _)]) ?_ ⟨rfl, rfl, rfl, rfl, trivial⟩))
   refine WC.cond rfl (fun q13 => ?_) (fun q13 => ?_)
   ·
    try simp only [Z1, Z2, Z3, Z4, Z5, Z6, Z7, Z8, Z9, Z0] at q13
    refine WC.seq (WC.region ?_)
    refine WL.q (oq_move rfl) rfl rfl rfl ?_
    refine WL.q (oq_fieldAddr fld32_3 rfl) rfl rfl rfl ?_
    refine WL.q (oq_load flat9 rfl (.head _) (List.mem_singleton.2 rfl) rfl) rfl rfl rfl ?_
    refine WL.qc (oq_callRm (wAt v A l hr (by omega) _) (.tail _ (.head _)) call26 rfl) rfl rfl rfl ?_
    refine WL.q (oq_assign rfl) rfl rfl rfl ?_
    refine WL.nil (WE.then_normal (WC.sub (fr' := [(0, _), (3, _), (7, _)]) ?_ ⟨rfl, rfl, rfl, trivial⟩))
    refine WC.seq (WC.seq (WC.region ?_))
    refine WL.q (oq_move rfl) rfl rfl rfl ?_
    refine WL.q (oq_lss rfl rfl) rfl rfl rfl ?_
    refine WL.nil (WE.then_normal (WC.sub (fr' := [(0, _), (3, _), (7, _), (51, _)]) ?_ ⟨rfl, rfl, rfl, rfl, trivial⟩))
    refine WC.cond rfl (fun q15 => ?_) (fun q15 => ?_)
    ·
     try simp only [Z1, Z2, Z3, Z4, Z5, Z6, Z7, Z8, Z9, Z0] at q15
     refine WC.seq (WC.region ?_)
     refine WL.q (oq_move rfl) rfl rfl rfl ?_
     refine WL.q (oq_assign rfl) rfl rfl rfl ?_
     refine WL.q (oq_assign rfl) rfl rfl rfl ?_
     refine WL.nil (WE.then_normal (WC.sub (fr' := [(4, _), (5, _)]) ?_ ⟨rfl, rfl, trivial⟩))
     refine WC.ret (WE.then_ret (WE.block_ret (WE.then_ret ?_)))
     refine WE.lose hob ?_
     refine WE.add0 ?_
     refine WE.endA (.inl rfl) (res2 Tryz.results19 rfl rfl) ?_ fresh0
     exact wd_none (by rw [wop2 (o := ⟨s, k, d, b, a⟩) q13]; exact swpI_miss (at_neg q15)) hr
    ·
     try simp only [Z1, Z2, Z3, Z4, Z5, Z6, Z7, Z8, Z9, Z0] at q15
     refine WC.skip (WE.then_normal (WC.sub (fr' := [(0, _), (3, _), (7, _)]) ?_ ⟨rfl, rfl, rfl, trivial⟩))
     refine WC.seq ?_
     obtain ⟨A0, B0, e0, hA0, hat⟩ := at_pos (show 0 ≤ atI b l by omega)
     have hAl : A0.length < l.length := by rw [e0]; simp
     refine WC.region ?_
     refine WL.build0 Tryz.underlying26 ty9 rfl rfl fun v17_0 A17_0 ho17_0 hne17_0 => ?_
     refine WL.q (oq_move rfl) rfl rfl rfl ?_
     refine WL.appendS ho17_0 Tryz.underlying26 ty9 rfl (by decide) rfl rfl hr (.tail _ (.head _)) (strsV_one _) (by unfold maxLen; omega) (by omega) rfl rfl fun v17 A17 ho17 hne17 => ?_
     refine WL.q (oq_assign rfl) rfl rfl rfl ?_
     refine WL.nil (WE.then_normal (WC.sub (fr' := [(3, _), (7, _), (8, _)]) ?_ ⟨rfl, rfl, rfl, trivial⟩))
     refine WC.seq (WC.region ?_)
     refine WL.q (oq_move rfl) rfl rfl rfl ?_
     refine WL.q (oq_move rfl) rfl rfl rfl ?_
     refine WL.q (oq_fieldAddr fld32_2 rfl) rfl rfl rfl ?_
     refine WL.q (oq_load flat9 rfl (.tail _ (.head _)) (List.mem_singleton.2 rfl) rfl) rfl rfl rfl ?_
     refine WL.q (oq_ixaddr ho17.rd Tryz.underlying26 ty9 rfl rfl (by (first | omega | (simp only [List.length_cons, List.length_nil, List.length_append, List.length_drop, List.length_take]; omega)))) rfl rfl rfl ?_
     refine WL.storeOw (i := A0.length) ho17 ty9 (gtv rfl (by rw [hat])) rfl (by first | rfl | simp) (by (first | omega | (simp only [List.length_cons, List.length_nil, List.length_append, List.length_drop, List.length_take]; omega))) rfl fun A18_5 ho18_5 => ?_
     refine WL.nil (WE.then_normal (WC.sub (fr' := [(8, _)]) ?_ ⟨rfl, trivial⟩))
     refine WC.seq (WC.region ?_)
     refine WL.q (oq_move rfl) rfl rfl rfl ?_
     refine WL.q (oq_assign rfl) rfl rfl rfl ?_
     refine WL.q (oq_assign rfl) rfl rfl rfl ?_
     refine WL.nil (WE.then_normal (WC.sub (fr' := [(4, _), (5, _)]) ?_ ⟨rfl, rfl, trivial⟩))
     refine WC.ret (WE.block_ret (WE.then_ret ?_))
     refine WE.f1 ?_
     refine WE.lose hob ?_
     refine WE.endA (.inl rfl) (res2 Tryz.results19 rfl rfl) ?_ (ho18_5.fresh)
     exact wd_some (m := A0 ++ d :: B0) (by rw [wop2 (o := ⟨s, k, d, b, a⟩) q13]; show swpI b d l = _; rw [e0, swpI_hit hA0]) (rdN ho18_5.rd (by rw [e0]; simp) (by show (strsV l).set A0.length (S d) = _; unfold strsV; rw [← List.map_set, arr_set e0]))
   ·
    try simp only [Z1, Z2, Z3, Z4, Z5, Z6, Z7, Z8, Z9, Z0] at q13
    refine WC.seq (WC.region ?_)
    refine WL.q (oq_eql rfl rfl) rfl rfl rfl ?_
    refine WL.q (oq_assign rfl) rfl rfl rfl ?_
    refine WL.nil (WE.then_normal (WC.sub (fr' := [(0, _), (3, _), (62, _)]) ?_ ⟨rfl, rfl, rfl, trivial⟩))
    refine WC.cond rfl (fun q20 => ?_) (fun q20 => ?_)
    ·
     try simp only [Z1, Z2, Z3, Z4, Z5, Z6, Z7, Z8, Z9, Z0] at q20
     refine WC.seq (WC.region ?_)
     refine WL.q (oq_move rfl) rfl rfl rfl ?_
     refine WL.q (oq_fieldAddr fld32_2 rfl) rfl rfl rfl ?_
     refine WL.q (oq_load flat9 rfl (.head _) (List.mem_singleton.2 rfl) rfl) rfl rfl rfl ?_
     refine WL.qc (oq_callRm (wAt v A l hr (by omega) _) (.tail _ (.head _)) call26 rfl) rfl rfl rfl ?_
     refine WL.q (oq_assign rfl) rfl rfl rfl ?_
     refine WL.nil (WE.then_normal (WC.sub (fr' := [(0, _), (9, _)]) ?_ ⟨rfl, rfl, trivial⟩))
     refine WC.seq (WC.seq (WC.region ?_))
     refine WL.q (oq_move rfl) rfl rfl rfl ?_
     refine WL.q (oq_lss rfl rfl) rfl rfl rfl ?_
     refine WL.nil (WE.then_normal (WC.sub (fr' := [(0, _), (9, _), (69, _)]) ?_ ⟨rfl, rfl, rfl, trivial⟩))
     refine WC.cond rfl (fun q22 => ?_) (fun q22 => ?_)
     ·
      try simp only [Z1, Z2, Z3, Z4, Z5, Z6, Z7, Z8, Z9, Z0] at q22
      refine WC.seq (WC.region ?_)
      refine WL.q (oq_move rfl) rfl rfl rfl ?_
      refine WL.q (oq_assign rfl) rfl rfl rfl ?_
      refine WL.q (oq_assign rfl) rfl rfl rfl ?_
      refine WL.nil (WE.then_normal (WC.sub (fr' := [(4, _), (5, _)]) ?_ ⟨rfl, rfl, trivial⟩))
      refine WC.ret (WE.then_ret (WE.block_ret (WE.then_ret ?_)))
      refine WE.lose hob ?_
      refine WE.add0 ?_
      refine WE.endA (.inl rfl) (res2 Tryz.results19 rfl rfl) ?_ fresh0
      exact wd_none (by rw [wop3 (o := ⟨s, k, d, b, a⟩) q20]; exact remI_miss (at_neg q22)) hr
     ·
      try simp only [Z1, Z2, Z3, Z4, Z5, Z6, Z7, Z8, Z9, Z0] at q22
      refine WC.skip (WE.then_normal (WC.sub (fr' := [(0, _), (9, _)]) ?_ ⟨rfl, rfl, trivial⟩))
      refine WC.seq ?_
      obtain ⟨A0, B0, e0, hA0, hat⟩ := at_pos (show 0 ≤ atI d l by omega)
      have hAl : A0.length < l.length := by rw [e0]; simp
      obtain ⟨w1, hw1, hov1⟩ := slice_val (i := 0) (j := atI d l) hr ty9 (by omega)
      obtain ⟨w2, hw2, hov2⟩ := slice_val (i := atI d l + 1) (j := (l.length : Int)) hr ty9 (by omega)
      rw [cut_strs0] at hw1
      rw [cut_strsE] at hw2
      refine WC.held (A) (by kernel_rfl) ?_
      refine WH.q 1 rfl (.tail _ (.head _)) (fun w0 => oq_move rfl) rfl rfl rfl ?_
      refine WH.q 2 rfl (.tail _ (.head _)) (fun w0 => oq_move rfl) rfl rfl rfl ?_
      refine WH.q 3 rfl (.tail _ (.head _)) (fun w0 => hov1 Tryz.underlying26 rfl rfl ⟨_, rfl⟩) rfl rfl rfl ?_
      refine WH.q 5 rfl (.tail _ (.head _)) (fun w0 => oq_move rfl) rfl rfl rfl ?_
      refine WH.q 6 rfl (.tail _ (.head _)) (fun w0 => oq_move rfl) rfl rfl rfl ?_
      refine WH.q 7 rfl (.tail _ (.head _)) (fun w0 => oq_add rfl rfl (by rw [i64_lo, i64_hi]; (first | omega | (simp only [List.length_cons, List.length_nil, List.length_append, List.length_drop, List.length_take]; omega)))) rfl rfl rfl ?_
      refine WH.q 8 rfl (.tail _ (.head _)) (fun w0 => hov2 Tryz.underlying26 rfl ⟨_, rfl⟩ rfl) rfl rfl rfl ?_
      refine WH.step (i := 0) (by kernel_rfl) rfl ?_
      refine WL.build0 Tryz.underlying26 ty9 rfl rfl fun v24_0 A24_0 ho24_0 hne24_0 => ?_
      refine WL.nil ?_
      refine WE.toH (.tail _ (.tail _ (.head _))) ?_
      refine WH.step (i := 4) (by kernel_rfl) rfl ?_
      refine WL.appendS ho24_0 Tryz.underlying26 ty9 rfl (by decide) rfl rfl hw1 (.tail _ (.head _)) (strsV_one _) (by unfold maxLen; omega) (by omega) rfl rfl fun v24 A24 ho24 hne24 => ?_
      refine WL.nil ?_
      refine WE.toH (.tail _ (.tail _ (.head _))) ?_
      refine WH.step (i := 9) (by kernel_rfl) rfl ?_
      refine WL.appendS ho24 Tryz.underlying26 ty9 rfl (by decide) rfl rfl hw2 (.tail _ (.head _)) (strsV_one _) (by unfold maxLen; omega) (by omega) rfl rfl fun v24 A24 ho24 hne24 => ?_
      refine WL.nil ?_
      refine WE.toH (.tail _ (.tail _ (.head _))) ?_
      refine WH.q 10 rfl (.tail _ (.tail _ (.head _))) (fun w0 => oq_assign rfl) rfl rfl rfl ?_
      refine WH.q 11 rfl (.tail _ (.tail _ (.head _))) (fun w0 => oq_assign rfl) rfl rfl rfl ?_
      refine WH.done (by kernel_rfl) ?_
      refine WE.then_normal (WC.sub (fr' := [(4, _), (5, _)]) ?_ ⟨rfl, rfl, trivial⟩)
      refine WC.ret (WE.block_ret (WE.then_ret ?_))
      refine WE.f1 ?_
      refine WE.lose hob ?_
      refine WE.endA (.inl rfl) (res2 Tryz.results19 rfl rfl) ?_ (ho24.fresh)
      have hll : l.length = A0.length + B0.length + 1 := by rw [e0]; simp; omega
      exact wd_some (m := A0 ++ B0) (by rw [wop3 (o := ⟨s, k, d, b, a⟩) q20]; show remI d l = _; rw [e0, remI_hit hA0]) (rdN ho24.rd (by rw [hat, List.length_append]; omega) (by rw [hat, Int.toNat_natCast, show ((A0.length : Int) + 1).toNat = A0.length + 1 by omega]; unfold strsV; rw [List.nil_append, ← List.map_append, rem_at e0]))
    ·
     try simp only [Z1, Z2, Z3, Z4, Z5, Z6, Z7, Z8, Z9, Z0] at q20
     refine WC.skip (WE.block_normal (WE.then_normal (WC.sub (fr' := []) ?_ trivial)))
     refine WC.seq (WC.region ?_)
     refine WL.q (oq_assign rfl) rfl rfl rfl ?_
     refine WL.q (oq_assign rfl) rfl rfl rfl ?_
     refine WL.nil (WE.then_normal (WC.sub (fr' := [(4, _), (5, _)]) ?_ ⟨rfl, rfl, trivial⟩))
     refine WC.ret ?_
     refine WE.lose hob ?_
     refine WE.add0 ?_
     refine WE.endA (.inl rfl) (res2 Tryz.results19 rfl rfl) ?_ fresh0
     exact wd_some (wop4 (o := ⟨s, k, d, b, a⟩) q2 q6 q13 q20 l) (OwS.nil 0 9 1).rd
end SA
end Go.Proofs.YtiegaefkahnfjaaGreat
