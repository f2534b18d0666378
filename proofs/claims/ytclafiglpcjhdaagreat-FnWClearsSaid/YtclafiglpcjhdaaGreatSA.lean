/- The reference of stacks: plain laws, and walks. -/
import Derived.Test.YtclafiglpcjhdaaGreatS8
namespace Go.Proofs.YtclafiglpcjhdaaGreat
open Go Go.RowKit V S0 S1 S2 S3 S4 S5 S6 S7 S8
set_option linter.unusedSimpArgs false
set_option linter.unusedVariables false
set_option maxRecDepth 10000
namespace SA


def atI (id : List UInt8) : List (List UInt8) → Int
  | [] => -1
  | x :: r => if x = id then 0 else if atI id r < 0 then -1 else atI id r + 1
theorem atI_miss {id : List UInt8} : ∀ {l : List (List UInt8)}, (∀ y ∈ l, y ≠ id) → atI id l = -1
  | [], _ => rfl
  | x :: r, h => by
    show (if x = id then _ else _) = _
    rw [if_neg (h x List.mem_cons_self), atI_miss (l := r) fun y hy => h y (List.mem_cons_of_mem _ hy)]; rfl
theorem atI_hit {id : List UInt8} {B : List (List UInt8)} : ∀ {A : List (List UInt8)}, (∀ y ∈ A, y ≠ id) → atI id (A ++ id :: B) = A.length
  | [], _ => by show (if id = id then _ else _) = _; rw [if_pos rfl]; rfl
  | x :: r, h => by
    show (if x = id then 0 else if atI id (r ++ id :: B) < 0 then -1 else atI id (r ++ id :: B) + 1) = _
    rw [if_neg (h x List.mem_cons_self), atI_hit (A := r) fun y hy => h y (List.mem_cons_of_mem _ hy), if_neg (by omega)]
    simp
theorem id_split (id : List UInt8) : ∀ (l : List (List UInt8)), (∃ A B, l = A ++ id :: B ∧ ∀ y ∈ A, y ≠ id) ∨ ∀ y ∈ l, y ≠ id
  | [] => .inr (by simp)
  | x :: r => by
    by_cases h : x = id
    · exact .inl ⟨[], r, by rw [h]; rfl, by simp⟩
    · rcases id_split id r with ⟨A, B, e, hA⟩ | hn
      · refine .inl ⟨x :: A, B, by rw [e]; rfl, fun y hy => ?_⟩
        rcases List.mem_cons.1 hy with rfl | hy
        · exact h
        · exact hA y hy
      · refine .inr fun y hy => ?_
        rcases List.mem_cons.1 hy with rfl | hy
        · exact h
        · exact hn y hy
theorem at_neg {id : List UInt8} {l : List (List UInt8)} (h : atI id l < 0) : ∀ y ∈ l, y ≠ id := by
  rcases id_split id l with ⟨A, B, rfl, hA⟩ | hn
  · rw [atI_hit hA] at h; omega
  · exact hn
theorem at_pos {id : List UInt8} {l : List (List UInt8)} (h : 0 ≤ atI id l) : ∃ A B, l = A ++ id :: B ∧ (∀ y ∈ A, y ≠ id) ∧ atI id l = A.length := by
  rcases id_split id l with ⟨A, B, rfl, hA⟩ | hn
  · exact ⟨A, B, rfl, hA, atI_hit hA⟩
  · rw [atI_miss hn] at h; omega
theorem at_first {id : List UInt8} {l : List (List UInt8)} {i : Nat} (hi : i < l.length) (h : l.getD i [] = id) (hp : ∀ j, j < i → l.getD j [] ≠ id) : atI id l = i := by
  have e : l = l.take i ++ id :: l.drop (i + 1) := by
    rw [← h, List.getD_eq_getElem?_getD, List.getElem?_eq_getElem hi, Option.getD_some, ← List.drop_eq_getElem_cons hi, List.take_append_drop]
  rw [e, atI_hit, List.length_take, Nat.min_eq_left (by omega)]
  intro y hy
  obtain ⟨j, hj, rfl⟩ := List.getElem_of_mem hy
  rw [List.length_take] at hj
  have := hp j (by omega)
  rw [List.getD_eq_getElem?_getD, List.getElem?_eq_getElem (by omega), Option.getD_some] at this
  rw [List.getElem_take]; exact this
theorem at_none {id : List UInt8} {l : List (List UInt8)} (hp : ∀ j, j < l.length → l.getD j [] ≠ id) : atI id l = -1 := by
  refine atI_miss fun y hy => ?_
  obtain ⟨j, hj, rfl⟩ := List.getElem_of_mem hy
  have := hp j hj
  rwa [List.getD_eq_getElem?_getD, List.getElem?_eq_getElem hj, Option.getD_some] at this
theorem insI_hit {b d : List UInt8} {a : Bool} {B : List (List UInt8)} : ∀ {A : List (List UInt8)}, (∀ y ∈ A, y ≠ b) → insI b a d (A ++ b :: B) = some (A ++ (if a then b :: d :: B else d :: b :: B))
  | [], _ => by show (if b = b then _ else _) = _; rw [if_pos rfl]; rfl
  | x :: r, h => by
    show (if x = b then _ else (insI b a d (r ++ b :: B)).map _) = _
    rw [if_neg (h x List.mem_cons_self), insI_hit (A := r) fun y hy => h y (List.mem_cons_of_mem _ hy)]; rfl
theorem insI_miss {b d : List UInt8} {a : Bool} : ∀ {l : List (List UInt8)}, (∀ y ∈ l, y ≠ b) → insI b a d l = none
  | [], _ => rfl
  | x :: r, h => by
    show (if x = b then _ else (insI b a d r).map _) = _
    rw [if_neg (h x List.mem_cons_self), insI_miss (l := r) fun y hy => h y (List.mem_cons_of_mem _ hy)]; rfl
theorem swpI_hit {b d : List UInt8} {B : List (List UInt8)} : ∀ {A : List (List UInt8)}, (∀ y ∈ A, y ≠ b) → swpI b d (A ++ b :: B) = some (A ++ d :: B)
  | [], _ => by show (if b = b then _ else _) = _; rw [if_pos rfl]; rfl
  | x :: r, h => by
    show (if x = b then _ else (swpI b d (r ++ b :: B)).map _) = _
    rw [if_neg (h x List.mem_cons_self), swpI_hit (A := r) fun y hy => h y (List.mem_cons_of_mem _ hy)]; rfl
theorem swpI_miss {b d : List UInt8} : ∀ {l : List (List UInt8)}, (∀ y ∈ l, y ≠ b) → swpI b d l = none
  | [], _ => rfl
  | x :: r, h => by
    show (if x = b then _ else (swpI b d r).map _) = _
    rw [if_neg (h x List.mem_cons_self), swpI_miss (l := r) fun y hy => h y (List.mem_cons_of_mem _ hy)]; rfl
theorem remI_hit {d : List UInt8} {B : List (List UInt8)} : ∀ {A : List (List UInt8)}, (∀ y ∈ A, y ≠ d) → remI d (A ++ d :: B) = some (A ++ B)
  | [], _ => by show (if d = d then _ else _) = _; rw [if_pos rfl]; rfl
  | x :: r, h => by
    show (if x = d then _ else (remI d (r ++ d :: B)).map _) = _
    rw [if_neg (h x List.mem_cons_self), remI_hit (A := r) fun y hy => h y (List.mem_cons_of_mem _ hy)]; rfl
theorem remI_miss {d : List UInt8} : ∀ {l : List (List UInt8)}, (∀ y ∈ l, y ≠ d) → remI d l = none
  | [], _ => rfl
  | x :: r, h => by
    show (if x = d then _ else (remI d r).map _) = _
    rw [if_neg (h x List.mem_cons_self), remI_miss (l := r) fun y hy => h y (List.mem_cons_of_mem _ hy)]; rfl
theorem cut_strs0 (l : List (List UInt8)) (j : Int) : cut (strsV l) (0 * ((1 : Nat) : Int)) (j * ((1 : Nat) : Int)) = strsV (l.take j.toNat) := by
  unfold cut strsV
  rw [show j * ((1 : Nat) : Int) = j by omega, ← List.map_take]
  simp
theorem cut_strsE (l : List (List UInt8)) (i : Int) : cut (strsV l) (i * ((1 : Nat) : Int)) ((l.length : Int) * ((1 : Nat) : Int)) = strsV (l.drop i.toNat) := by
  unfold cut strsV
  rw [show i * ((1 : Nat) : Int) = i by omega, show (l.length : Int) * ((1 : Nat) : Int) = l.length by omega, Int.toNat_natCast, ← List.map_take, ← List.map_drop, List.take_length]
theorem rdN {v : Value} {A : Hp} {n m : Nat} {xs ys : List Value} (h : RdS 1 v A n xs) (hn : n = m) (hx : xs = ys) : RdS 1 v A m ys := by subst hn; subst hx; exact h
def putAt (l : List (List UInt8)) (i : Int) (d : List UInt8) : List (List UInt8) := l.take i.toNat ++ d :: l.drop i.toNat
theorem putAt_end (l : List (List UInt8)) (d : List UInt8) : putAt l (l.length : Int) d = l ++ [d] := by unfold putAt; rw [Int.toNat_natCast, List.take_length, List.drop_length]
theorem putAt_0 (l : List (List UInt8)) (d : List UInt8) : putAt l 0 d = d :: l := rfl
/-- what an operation of the reference gives -/
def WD (A : Hp) (o : WO) (l : List (List UInt8)) (r : Value) (N : Hp) : Prop := ∃ v', r = .tuple #[v', .bool (wopI o l).isSome] ∧ RdS 1 v' (N ++ A) ((wopI o l).getD l).length (strsV ((wopI o l).getD l))
theorem wd_some {A N : Hp} {o : WO} {l m : List (List UInt8)} {v' : Value} (h : wopI o l = some m) (hr : RdS 1 v' N m.length (strsV m)) : WD A o l (.tuple #[v', .bool true]) N :=
  ⟨v', by rw [h]; rfl, by rw [h]; exact hr.weaken fun x hx => List.mem_append_left _ hx⟩
theorem wd_none {A : Hp} {o : WO} {l : List (List UInt8)} {v' : Value} (h : wopI o l = none) (hr : RdS 1 v' A l.length (strsV l)) : WD A o l (.tuple #[v', .bool false]) [] :=
  ⟨v', by rw [h]; rfl, by rw [h]; exact hr⟩
theorem wop0 {o : WO} (h : o.k = 0) (l : List (List UInt8)) : wopI o l = some (putI o.a o.d l) := if_pos h
theorem wop1 {o : WO} (h : o.k = 1) (l : List (List UInt8)) : wopI o l = insI o.b o.a o.d l := by unfold wopI; rw [if_neg (by omega), if_pos h]
theorem wop2 {o : WO} (h : o.k = 2) (l : List (List UInt8)) : wopI o l = swpI o.b o.d l := by unfold wopI; rw [if_neg (by omega), if_neg (by omega), if_pos h]
theorem wop3 {o : WO} (h : o.k = 3) (l : List (List UInt8)) : wopI o l = remI o.d l := by unfold wopI; rw [if_neg (by omega), if_neg (by omega), if_neg (by omega), if_pos h]
theorem wop4 {o : WO} (h0 : o.k ≠ 0) (h1 : o.k ≠ 1) (h2 : o.k ≠ 2) (h3 : o.k ≠ 3) (l : List (List UInt8)) : wopI o l = some [] := by unfold wopI; rw [if_neg h0, if_neg h1, if_neg h2, if_neg h3]
theorem ins_at {l A B : List (List UInt8)} {b d : List UInt8} {a : Bool} (e : l = A ++ b :: B) (hA : ∀ y ∈ A, y ≠ b) : insI b a d l = some (putAt l (if a then (A.length : Int) + 1 else A.length) d) := by
  subst e
  rw [insI_hit hA]
  unfold putAt
  cases a with
  | false => simp
  | true =>
    simp only [if_true, show ((A.length : Int) + 1).toNat = A.length + 1 by omega]
    rw [List.take_append, List.drop_append, List.take_of_length_le (by omega), List.drop_eq_nil_of_le (by omega), show A.length + 1 - A.length = 1 by omega]
    simp
theorem arr_set {l A B : List (List UInt8)} {b d : List UInt8} (e : l = A ++ b :: B) : l.set A.length d = A ++ d :: B := by
  subst e
  rw [List.set_append, if_neg (by omega), Nat.sub_self]; rfl
theorem rem_at {l A B : List (List UInt8)} {b : List UInt8} (e : l = A ++ b :: B) : l.take A.length ++ l.drop (A.length + 1) = A ++ B := by
  subst e
  rw [List.take_left]
  congr 1
  rw [List.drop_append, List.drop_eq_nil_of_le (by omega), show A.length + 1 - A.length = 1 by omega]
  rfl
def arr5 (vs : Nat → Value) : Array Value := #[vs 0, vs 1, vs 2, vs 3, vs 4]
theorem arr5_get (vs : Nat → Value) (i : Nat) (hi : i < 5) : (arr5 vs)[0 + i]? = some (vs i) :=
  match i, hi with
  | 0, _ => rfl
  | 1, _ => rfl
  | 2, _ => rfl
  | 3, _ => rfl
  | 4, _ => rfl
theorem arr5_set (vs : Nat → Value) (i : Nat) (hi : i < 5) (v : Value) : (arr5 vs).setIfInBounds (0 + i) v = arr5 (updW vs i v) :=
  match i, hi with
  | 0, _ => rfl
  | 1, _ => rfl
  | 2, _ => rfl
  | 3, _ => rfl
  | 4, _ => rfl
theorem wnext_eq (q : Nat → List (List UInt8)) (bs : List Bool) (o : WO) : wnext (q, bs) o = (updW q o.s.toNat ((wopI o (q o.s.toNat)).getD (q o.s.toNat)), bs ++ [!(wopI o (q o.s.toNat)).isSome]) := by
  unfold wnext
  dsimp only
  cases h : wopI o (q o.s.toNat) with
  | some m => rfl
  | none =>
    have : updW q o.s.toNat (q o.s.toNat) = q := by
      funext j
      by_cases hj : j = o.s.toNat
      · rw [hj, updW_at]
      · exact updW_ne _ _ hj
    show (q, _) = (updW q o.s.toNat (q o.s.toNat), _)
    rw [this]; rfl
theorem fnA_toW {P : Program} {f : FuncId} {args : List Value} {A : Hp} {R : Value → Hp → Prop} {base : Nat} (h : FnA P f args A R) : FnW P f args base [A] (fun v Hs => ∃ N, R v N ∧ (∀ b o, (b, o) ∈ N → base ≤ b) ∧ Hs = [A, N]) := fun w0 R0 w hb hw => by
  have hw1 : St w0 (A ++ R0) w := by simpa using hw
  refine (h w hw1.has).mono fun e w' hh => ?_
  obtain ⟨v, N, h1, h2, h3, h4⟩ := hh
  refine ⟨v, [A, N], h1, ⟨N, h2, fun b o hb' => Nat.le_trans (by rw [← hb]; exact hw1.size) (h3 b o hb'), rfl⟩, (hw1.trans h4 rfl h3).perm ?_⟩
  simp only [List.cons_append, List.nil_append, List.flatten_cons, List.flatten_nil, List.append_nil]
  exact p5 _ _ _
theorem reg_ol {B A N M : Hp} {H : List Hp} : ((B ++ A) :: N :: M :: H).flatten.Perm (B :: A :: (N ++ M) :: H).flatten := by simp
theorem split4 {s a x e : Hp} {H : List Hp} : ((((s ++ a) ++ x) ++ e) :: H).flatten.Perm (s :: a :: x :: e :: H).flatten := by simp
theorem arr5_one {vs : Nat → Value} (h : ∀ j, j < 5 → (vs j).oneCell' = true) : ([vs 0, vs 1, vs 2, vs 3, vs 4] : List Value).all Value.oneCell' = true := by
  simp [h 0 (by decide), h 1 (by decide), h 2 (by decide), h 3 (by decide), h 4 (by decide)]
/-- what a list of operations gives: errors and names -/
def WR (l : List WO) (r : Value) (N : Hp) : Prop := ∃ ve vs, r = .tuple #[ve, .agg (arr5 vs)] ∧ RdS 1 ve N (wst l).2.length (boolsV (wst l).2) ∧ ∀ j, j < 5 → RdS 1 (vs j) N ((wst l).1 j).length (strsV ((wst l).1 j))
end SA
end Go.Proofs.YtclafiglpcjhdaaGreat
