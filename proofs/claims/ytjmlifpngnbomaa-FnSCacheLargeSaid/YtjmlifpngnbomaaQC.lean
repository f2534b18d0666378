/- A cache as a list: what a question and a put do, whole; operations and their answers. -/
import Derived.Test.YtjmlifpngnbomaaQ2
import Derived.Test.YtjmlifpngnbomaaVN
namespace Go.Proofs.Ytjmlifpngnbomaa
open Go Go.RowKit V Q0 Q1 Q2
set_option linter.unusedSimpArgs false
set_option linter.unusedVariables false
theorem V.FnW.reg {P : Program} {f : FuncId} {args : List Value} {base : Nat} {Hs Hs0 : List Hp} {R R' : Value → List Hp → Prop} (h : FnW P f args base Hs R) (hin : Hs0.flatten.Perm Hs.flatten) (hr : ∀ v Hs1, R v Hs1 → ∃ Hs2, R' v Hs2 ∧ Hs1.flatten.Perm Hs2.flatten) : FnW P f args base Hs0 R' :=
  fun w0 R0 w hb hw => (h w0 R0 w hb (hw.perm (by simpa using hin.append_right R0))).mono fun _ _ ⟨v, N, h1, h2, h3⟩ => by
    obtain ⟨Hs2, h4, h5⟩ := hr v N h2
    exact ⟨v, Hs2, h1, h4, h3.perm (by simpa using h5.append_right R0)⟩
namespace QC
/-- the blocks of a cache that holds L -/
def CS (base lb mb bl cap : Nat) (L : List (List UInt8 × List UInt8)) (C : Hp) : Prop :=
  base ≤ lb ∧ base ≤ mb ∧ base ≤ bl ∧ ∃ items nx pv vl ms clk, C.Perm (CG lb mb bl (cap : Int) items nx pv vl ms clk).flatten ∧ Cinv base bl cap items nx pv vl ms ∧ kv items = L
theorem CS.fresh {base lb mb bl cap : Nat} {L : List (List UInt8 × List UInt8)} {C : Hp} (h : CS base lb mb bl cap L C) : ∀ b o, (b, o) ∈ C → base ≤ b := by
  obtain ⟨h1, h2, h3, items, nx, pv, vl, ms, clk, hp, hi, _⟩ := h
  intro b o hb
  have hm : (b, o) ∈ LR lb mb bl (cap : Int) ++ (MG KS mb ms clk ++ (LG 51 53 bl (items.map It.e) nx pv vl (items.length : Int) ++ (EG items ++ []))) := hp.mem_iff.1 hb
  rcases List.mem_append.1 hm with hm | hm
  · injection List.mem_singleton.1 hm with e1 e2; rw [e1]; exact h1
  rcases List.mem_append.1 hm with hm | hm
  · injection List.mem_singleton.1 hm with e1 e2; rw [e1]; exact h2
  rcases List.mem_append.1 hm with hm | hm
  · obtain ⟨x, hx, e⟩ := List.mem_map.1 hm
    injection e with e1 e2
    rw [← e1]
    rcases List.mem_cons.1 hx with rfl | hx
    · exact h3
    · obtain ⟨it, hit, rfl⟩ := List.mem_map.1 hx
      exact (hi.new it hit).1
  · rw [List.append_nil] at hm
    obtain ⟨x, hx, e⟩ := List.mem_map.1 hm
    injection e with e1 e2
    rw [← e1]
    exact (hi.new x hx).2
theorem cg_perm {lb mb bl cap : Nat} {A B : List It} {it : It} {x : List UInt8} {nx pv : Nat → Nat} {vl : Nat → Value} {ms : List (List UInt8 × Value × Nat)} {clk : Nat} :
    ([LR lb mb bl (cap : Int), MG KS mb ms clk, [(it.s, .cells #[KS it.k, KS x] 74 (0, 0))], EG (A ++ B), LG 51 53 bl ((A ++ it :: B).map It.e) nx pv vl ((A ++ it :: B).length : Int)] : List Hp).flatten.Perm (CG lb mb bl (cap : Int) ({ it with v := x } :: (A ++ B)) nx pv vl ms clk).flatten := by
  have e : ((A ++ it :: B).length : Int) = (({ it with v := x } :: (A ++ B) : List It).length : Int) := by simp; omega
  have p := LG.perm (tE := 51) (tL := 53) (bl := bl) (nx := nx) (pv := pv) (vl := vl) (len := ((A ++ it :: B).length : Int)) (lg_mid A B it)
  simp only [CG, List.flatten_cons, List.flatten_nil, List.append_nil]
  refine List.Perm.append_left _ (List.Perm.append_left _ ?_)
  rw [← List.append_assoc]
  refine List.perm_append_comm.trans ?_
  rw [← e]
  exact p.append_right _
theorem cget {base lb mb bl cap : Nat} {L : List (List UInt8 × List UInt8)} {C : Hp} (hcap : cap ≤ 100000) (k : List UInt8) (h : CS base lb mb bl cap L C) :
    FnW Try.prog 34 [Pt lb 0, KS k] base [C] (fun v Hs => v = getA k L ∧ ∃ C2, Hs = [C2] ∧ CS base lb mb bl cap (getL k L) C2) := by
  obtain ⟨h1, h2, h3, items, nx, pv, vl, ms, clk, hp, hi, rfl⟩ := h
  rcases split_or k items with ⟨A, it, B, rfl, rfl⟩ | hk
  · refine FnW.reg (cgetHit base lb mb bl cap nx pv vl ms clk hcap A B it hi) (by simpa using hp) ?_
    rintro v Hs1 ⟨rfl, nx2, pv2, rfl, hi2⟩
    obtain ⟨e1, e2⟩ := lfind_mid hi.keys
    refine ⟨[_], ⟨?_, _, rfl, h1, h2, h3, _, nx2, pv2, vl, ms, clk, cg_perm, hi2, ?_⟩, by rw [List.flatten_singleton]⟩
    · unfold getA; rw [e1]
    · unfold getL; rw [e1, e2]; rfl
  · refine FnW.reg (cgetMiss base lb mb bl cap nx pv vl ms clk hcap items k hi hk) (by simpa using hp) ?_
    rintro v Hs1 ⟨rfl, rfl⟩
    have e1 := lfind_no hk
    refine ⟨[_], ⟨?_, _, rfl, h1, h2, h3, items, nx, pv, vl, ms, clk, List.Perm.refl _, hi, ?_⟩, by rw [List.flatten_singleton]⟩
    · unfold getA; rw [e1]
    · unfold getL; rw [e1]
theorem cput {base lb mb bl cap : Nat} {L : List (List UInt8 × List UInt8)} {C : Hp} (hcap : cap ≤ 100000) (hc1 : 1 ≤ cap) (k x : List UInt8) (h : CS base lb mb bl cap L C) :
    FnW Try.prog 35 [Pt lb 0, KS k, KS x] base [C] (fun v Hs => ∃ C2, Hs = [C2] ∧ CS base lb mb bl cap (putL cap k x L) C2) := by
  obtain ⟨h1, h2, h3, items, nx, pv, vl, ms, clk, hp, hi, rfl⟩ := h
  rcases split_or k items with ⟨A, it, B, rfl, rfl⟩ | hk
  · refine FnW.reg (cputHit base lb mb bl cap nx pv vl ms clk hcap A B it x hi) (by simpa using hp) ?_
    rintro v Hs1 ⟨nx2, pv2, rfl, hi2⟩
    obtain ⟨e1, e2⟩ := lfind_mid hi.keys
    refine ⟨[_], ⟨_, rfl, h1, h2, h3, _, nx2, pv2, vl, ms, clk, cg_perm, hi2, ?_⟩, by rw [List.flatten_singleton]⟩
    unfold putL; rw [e1, e2]; rfl
  · refine FnW.reg (cputNew base lb mb bl cap nx pv vl ms clk hcap items k x hi hk hc1) (by simpa using hp) ?_
    rintro v Hs1 ⟨its, e, s, nx2, pv2, vl2, ms2, clk2, hkv, rfl, hi2⟩
    have e1 := lfind_no hk
    refine ⟨[_], ⟨_, rfl, h1, h2, h3, _, nx2, pv2, vl2, ms2, clk2, List.Perm.refl _, hi2, ?_⟩, by rw [List.flatten_singleton]; simp [CG, EG]⟩
    unfold putL; rw [e1]
    show (k, x) :: kv its = _
    rw [hkv]; simp [kv]
theorem cnewC (base cap : Nat) (hc1 : 1 ≤ cap) (hcap : cap ≤ 100000) : FnW Try.prog 12 [I (cap : Int)] base [] (fun v Hs => ∃ lb mb bl C, v = .iface 41 (Pt lb 0) ∧ Hs = [C] ∧ CS base lb mb bl cap [] C) := by
  refine FnW.reg (cnew base cap hc1 hcap) (List.Perm.refl _) ?_
  rintro v Hs1 ⟨lb, mb, bl, h1, h2, h3, rfl, rfl⟩
  refine ⟨[_], ⟨lb, mb, bl, _, rfl, rfl, h1, h2, h3, [], (fun _ => bl), (fun _ => bl), (fun _ => .nilIface), [], 0, List.Perm.refl _, ⟨⟨⟨rfl, rfl, trivial⟩, by simp⟩, by simp, by simp [pi], by simp [pr, pi], by simp, by simp⟩, rfl⟩, by rw [List.flatten_singleton]; simp [CG, EG]⟩
def ansI : Option (List UInt8) → Value
  | some v => KS v
  | none => .nilIface
theorem getA_eq (k : List UInt8) (L : List (List UInt8 × List UInt8)) : getA k L = .tuple #[ansI (lfind k L), .bool (lfind k L).isSome] := by unfold getA; cases lfind k L <;> rfl
theorem oq_askAns {P : Program} {n : Nat} {w0 : World} {ds : List Deferred} {fr : Fr} {H : List Hp} {dst : Option Tmp} {ty : TypeId} {pos : String} {aft : Array Edge} {g : Option (Nat × Bool)} {u : TypeId} {x : Operand} {o : Option (List UInt8)} {bytes : Nat} (hc : Conc P 9) (hty : Ty P 9 (S []) 1 bytes) (hx : ev fr x = some (ansI o)) : OV P n w0 ⟨dst, .typeAssert x u 9 true, ty, pos, aft, g⟩ (.tuple #[S (o.getD []), .bool o.isSome]) ds fr H := by
  cases o with
  | none => exact oq_askNil hc hty hx
  | some v => exact oq_askC hc hx
theorem inv41_Get : Inv1 Try.prog 41 "Get" 34 := fun x a w => by kernel_rfl
theorem inv41_Put : Inv2 Try.prog 41 "Put" 35 := fun x a b w => by kernel_rfl
/-! ### Operations and their answers -/
structure SO where
  g : Bool
  k : List UInt8
  v : List UInt8
def SO0 : SO := ⟨false, [], []⟩
def sof (p : SO) : List Value := [.bool p.g, S p.k, S p.v]
def sml (s : List UInt8) : Bool := decide ((s.length : Int) ≤ 2147483647)
def smlP (p : SO) : Bool := sml p.k && sml p.v
def fitsS (l : List SO) : Bool := decide ((l.length : Int) ≤ 2147483647) && l.all smlP
theorem fitsS_len {l : List SO} (h : fitsS l = true) : l.length ≤ 2147483647 := by unfold fitsS at h; simp at h; omega
theorem fitsS_el {l : List SO} (h : fitsS l = true) (i : Nat) (hi : i < l.length) : (l.getD i SO0).k.length ≤ 2147483647 ∧ (l.getD i SO0).v.length ≤ 2147483647 := by
  unfold fitsS at h
  simp only [Bool.and_eq_true, List.all_eq_true] at h
  rw [List.getD_eq_getElem?_getD, List.getElem?_eq_getElem hi]
  have := h.2 l[i] (List.getElem_mem hi)
  unfold smlP sml at this
  simp only [Bool.and_eq_true, decide_eq_true_eq] at this
  simp only [Option.getD_some]
  omega
abbrev KV := List (List UInt8 × List UInt8)
def snext (cap : Nat) (L : KV) (o : SO) : KV := if o.g then getL o.k L else putL cap o.k o.v L
def sgot (L : KV) (o : SO) : List UInt8 := (lfind o.k L).getD []
def shas (L : KV) (o : SO) : Bool := (lfind o.k L).isSome
def sstep (cap : Nat) (s : KV × List (List UInt8) × List Bool) (o : SO) : KV × List (List UInt8) × List Bool := (snext cap s.1 o, if o.g then s.2.1 ++ [sgot s.1 o] else s.2.1, if o.g then s.2.2 ++ [shas s.1 o] else s.2.2)
def sst (cap : Nat) (l : List SO) : KV × List (List UInt8) × List Bool := l.foldl (sstep cap) ([], [], [])
theorem sst_next {cap : Nat} {l : List SO} {i : Nat} {s : KV × List (List UInt8) × List Bool} (h : i < l.length) (he : sst cap (l.take i) = s) : sst cap (l.take (i + 1)) = sstep cap s (l.getD i SO0) := by
  rw [← he]
  unfold sst
  rw [List.take_succ_eq_append_getElem h, List.foldl_append, List.getD_eq_getElem?_getD, List.getElem?_eq_getElem h]; rfl
theorem ldel_len {k : List UInt8} {v : List UInt8} : ∀ (L : KV), lfind k L = some v → (ldel k L).length + 1 = L.length
  | [], h => by cases h
  | e :: r, h => by
    unfold lfind at h
    unfold ldel
    by_cases hk : k = e.1
    · rw [if_pos hk]; rfl
    · rw [if_neg hk] at h ⊢
      have := ldel_len r h
      simp only [List.length_cons]; omega
theorem snext_len (cap : Nat) (hc : 1 ≤ cap) (L : KV) (o : SO) (h : L.length ≤ cap) : (snext cap L o).length ≤ cap := by
  unfold snext
  split
  · unfold getL
    cases e : lfind o.k L with
    | none => exact h
    | some v => have := ldel_len L e; simp only [List.length_cons]; omega
  · unfold putL
    cases e : lfind o.k L with
    | none =>
      simp only [List.length_cons]
      split
      · rw [List.length_dropLast]; omega
      · omega
    | some v => have := ldel_len L e; simp only [List.length_cons]; omega
theorem sst_len (cap : Nat) (hc : 1 ≤ cap) (l : List SO) : ∀ i, i ≤ l.length → (sst cap (l.take i)).1.length ≤ cap ∧ (sst cap (l.take i)).2.1.length ≤ i ∧ (sst cap (l.take i)).2.2.length = (sst cap (l.take i)).2.1.length
  | 0, _ => by simp [sst]
  | i + 1, h => by
    obtain ⟨h1, h2, h3⟩ := sst_len cap hc l i (by omega)
    rw [sst_next (by omega) rfl]
    refine ⟨snext_len cap hc _ _ h1, ?_, ?_⟩
    · show (if _ then _ else _ : List (List UInt8)).length ≤ _
      split
      · rw [List.length_append]; simp; exact h2
      · omega
    · show (if _ then _ else _ : List Bool).length = (if _ then _ else _ : List (List UInt8)).length
      split
      · rw [List.length_append, List.length_append, h3]; rfl
      · exact h3
/-! ### The answers told by a list that is kept -/
def rv (ks : List SO) : KV := (ks.map fun o => (o.k, o.v)).reverse
theorem lfind_app {k : List UInt8} {B : KV} : ∀ (A : KV), (∀ p ∈ A, p.1 ≠ k) → lfind k (A ++ B) = lfind k B ∧ ldel k (A ++ B) = A ++ ldel k B
  | [], _ => ⟨rfl, rfl⟩
  | e :: r, h => by
    have h1 : k ≠ e.1 := fun h' => h e List.mem_cons_self h'.symm
    obtain ⟨h2, h3⟩ := lfind_app (B := B) r fun p hp => h p (List.mem_cons_of_mem _ hp)
    exact ⟨(show lfind k (e :: (r ++ B)) = lfind k (r ++ B) from if_neg h1).trans h2, (show ldel k (e :: (r ++ B)) = e :: ldel k (r ++ B) from if_neg h1).trans (by rw [h3]; rfl)⟩
theorem rv_app (A B : List SO) : rv (A ++ B) = rv B ++ rv A := by unfold rv; rw [List.map_append, List.reverse_append]
theorem rv_none {k : List UInt8} {ks : List SO} (h : ∀ j, j < ks.length → (ks.getD j SO0).k ≠ k) : lfind k (rv ks) = none := by
  have := (lfind_app (k := k) (B := []) (rv ks) fun p hp => by
    unfold rv at hp
    rw [List.mem_reverse, List.mem_map] at hp
    obtain ⟨o, ho, rfl⟩ := hp
    obtain ⟨j, hj, rfl⟩ := List.mem_iff_getElem.1 ho
    have := h j hj
    rwa [List.getD_eq_getElem?_getD, List.getElem?_eq_getElem hj] at this).1
  rw [List.append_nil] at this
  rw [this]; rfl
theorem rv_some {k : List UInt8} {ks : List SO} {m : Nat} (hm : m < ks.length) (hk : (ks.getD m SO0).k = k) (h : ∀ j, m < j → j < ks.length → (ks.getD j SO0).k ≠ k) : lfind k (rv ks) = some (ks.getD m SO0).v ∧ ldel k (rv ks) = rv (ks.take m ++ ks.drop (m + 1)) := by
  have e : ks = ks.take m ++ (ks.getD m SO0 :: ks.drop (m + 1)) := by
    rw [List.getD_eq_getElem?_getD, List.getElem?_eq_getElem hm]
    show ks = ks.take m ++ (ks[m] :: ks.drop (m + 1))
    rw [← List.drop_eq_getElem_cons hm, List.take_append_drop]
  have e2 : rv ks = rv (ks.drop (m + 1)) ++ ((k, (ks.getD m SO0).v) :: rv (ks.take m)) := by
    conv => lhs; rw [e]
    rw [rv_app]
    show (List.map _ (_ :: _)).reverse ++ _ = _
    rw [List.map_cons, List.reverse_cons, hk, List.append_assoc]; rfl
  have hA : ∀ p ∈ rv (ks.drop (m + 1)), p.1 ≠ k := fun p hp => by
    unfold rv at hp
    rw [List.mem_reverse, List.mem_map] at hp
    obtain ⟨o, ho, rfl⟩ := hp
    obtain ⟨j, hj, rfl⟩ := List.mem_iff_getElem.1 ho
    rw [List.length_drop] at hj
    have := h (m + 1 + j) (by omega) (by omega)
    rw [List.getD_eq_getElem?_getD, List.getElem?_eq_getElem (by omega)] at this
    rw [List.getElem_drop]; exact this
  obtain ⟨h1, h2⟩ := lfind_app (k := k) (B := (k, (ks.getD m SO0).v) :: rv (ks.take m)) _ hA
  rw [e2, h1, h2, rv_app]
  unfold lfind ldel
  rw [if_pos rfl, if_pos rfl]; exact ⟨rfl, rfl⟩
theorem rv_len (ks : List SO) : (rv ks).length = ks.length := by unfold rv; simp
theorem rv_snoc (ks : List SO) (o : SO) : rv (ks ++ [o]) = (o.k, o.v) :: rv ks := by rw [rv_app]; rfl
theorem rv_drop1 (ks : List SO) : rv (ks.drop 1) = (rv ks).dropLast := by
  cases ks with
  | nil => rfl
  | cons a r => unfold rv; simp
/-- what an inner loop found: none, or the last place -/
def AtOk (ks : List SO) (k : List UInt8) (j : Nat) (at_ : Int) : Prop := (at_ = -1 ∧ ∀ m, m < j → (ks.getD m SO0).k ≠ k) ∨ ∃ m : Nat, at_ = (m : Int) ∧ m < j ∧ (ks.getD m SO0).k = k ∧ ∀ x, m < x → x < j → (ks.getD x SO0).k ≠ k
theorem AtOk.hit {ks : List SO} {k : List UInt8} {j : Nat} {a : Int} (h : AtOk ks k j a) (he : (ks.getD j SO0).k = k) : AtOk ks k (j + 1) (j : Int) := .inr ⟨j, rfl, by omega, he, fun x h1 h2 => by omega⟩
theorem AtOk.miss {ks : List SO} {k : List UInt8} {j : Nat} {a : Int} (h : AtOk ks k j a) (he : (ks.getD j SO0).k ≠ k) : AtOk ks k (j + 1) a := by
  rcases h with ⟨h1, h2⟩ | ⟨m, h1, h2, h3, h4⟩
  · exact .inl ⟨h1, fun m hm => by rcases Nat.lt_or_ge m j with h | h; exact h2 m h; rw [show m = j by omega]; exact he⟩
  · exact .inr ⟨m, h1, by omega, h3, fun x hx1 hx2 => by rcases Nat.lt_or_ge x j with h | h; exact h4 x hx1 h; rw [show x = j by omega]; exact he⟩
theorem AtOk.pos {ks : List SO} {k : List UInt8} {a : Int} (h : AtOk ks k ks.length a) (h0 : 0 ≤ a) : ∃ m : Nat, a = (m : Int) ∧ m < ks.length ∧ lfind k (rv ks) = some (ks.getD m SO0).v ∧ ldel k (rv ks) = rv (ks.take m ++ ks.drop (m + 1)) := by
  rcases h with ⟨h1, h2⟩ | ⟨m, h1, h2, h3, h4⟩
  · omega
  · obtain ⟨e1, e2⟩ := rv_some h2 h3 h4
    exact ⟨m, h1, h2, e1, e2⟩
theorem AtOk.neg {ks : List SO} {k : List UInt8} {a : Int} (h : AtOk ks k ks.length a) (h0 : a < 0) : lfind k (rv ks) = none := by
  rcases h with ⟨h1, h2⟩ | ⟨m, h1, _⟩
  · exact rv_none h2
  · omega
theorem AtOk.lo {ks : List SO} {k : List UInt8} {j : Nat} {a : Int} (h : AtOk ks k j a) : -1 ≤ a ∧ a ≤ j := by
  rcases h with ⟨h1, _⟩ | ⟨m, h1, h2, _⟩ <;> omega
/-- what stays of those that are kept, when one is taken out -/
def kout (ks : List SO) (a : Int) : List SO := if 0 ≤ a then ks.take a.toNat ++ ks.drop (a.toNat + 1) else ks
theorem kout_len {ks : List SO} {a : Int} (h : a < ks.length) : (kout ks a).length = if 0 ≤ a then ks.length - 1 else ks.length := by
  unfold kout; split
  · rw [List.length_append, List.length_take, List.length_drop]; omega
  · rfl
theorem step_keep {cap : Nat} {ks : List SO} {o o2 : SO} {a : Int} (hc : 1 ≤ cap) (hlen : ks.length ≤ cap) (h : AtOk ks o.k ks.length a) (hk : o2.k = o.k) (hg : o.g = true → 0 ≤ a ∧ lfind o.k (rv ks) = some o2.v) (hp : o.g = false → o2.v = o.v) :
    snext cap (rv ks) o = rv (if cap < (kout ks a ++ [o2]).length then (kout ks a ++ [o2]).drop 1 else kout ks a ++ [o2]) := by
  have hlo := h.lo
  by_cases h0 : 0 ≤ a
  · obtain ⟨m, rfl, hm, e1, e2⟩ := h.pos h0
    have hl := kout_len (ks := ks) (a := (m : Int)) (by omega)
    rw [if_pos h0] at hl
    have hko : kout ks (m : Int) = ks.take m ++ ks.drop (m + 1) := by unfold kout; rw [if_pos h0, Int.toNat_natCast]
    rw [if_neg (by rw [List.length_append, hl]; simp; omega), rv_snoc, hko, ← e2, hk]
    unfold snext getL putL
    rw [e1]
    cases hgv : o.g with
    | true =>
      have := (hg hgv).2
      rw [e1] at this
      injection this with this
      simp only [if_true, this]
    | false => simp only [Bool.false_eq_true, if_false, hp hgv]
  · have e1 := h.neg (by omega)
    have hgv : o.g = false := by
      cases hgv : o.g with
      | true => exact absurd (hg hgv).1 h0
      | false => rfl
    have hko : kout ks a = ks := by unfold kout; rw [if_neg h0]
    unfold snext putL
    rw [e1, hgv, hko]
    simp only [Bool.false_eq_true, if_false]
    have hv := hp hgv
    by_cases hf : ks.length = cap
    · rw [if_pos (by rw [rv_len]; exact hf), if_pos (by rw [List.length_append]; simp; omega)]
      have : (ks ++ [o2]).drop 1 = ks.drop 1 ++ [o2] := by
        cases ks with
        | nil => simp at hf; omega
        | cons x r => rfl
      rw [this, rv_snoc, rv_drop1, hk, hv]
    · rw [if_neg (by rw [rv_len]; exact hf), if_neg (by rw [List.length_append]; simp; omega), rv_snoc, hk, hv]
theorem recs_cut (ks : List SO) (i j : Int) (h : 0 ≤ i ∧ i ≤ j ∧ j ≤ ks.length) : cut (recsV sof ks) (i * (3 : Nat)) (j * (3 : Nat)) = recsV sof (cut ks i j) := by
  obtain ⟨a, rfl⟩ := Int.eq_ofNat_of_zero_le h.1
  obtain ⟨b, rfl⟩ := Int.eq_ofNat_of_zero_le (show 0 ≤ j by omega)
  have key : ∀ (l : List SO) (m : Nat), (recsV sof l).take (m * 3) = recsV sof (l.take m) ∧ (recsV sof l).drop (m * 3) = recsV sof (l.drop m) := by
    intro l
    induction l with
    | nil => intro m; simp [recsV]
    | cons x r ih =>
      intro m
      cases m with
      | zero => simp [recsV]
      | succ m =>
        have e : recsV sof (x :: r) = .bool x.g :: S x.k :: S x.v :: recsV sof r := rfl
        have e3 : (m + 1) * 3 = m * 3 + 1 + 1 + 1 := by omega
        rw [e, e3, List.take_succ_cons, List.take_succ_cons, List.take_succ_cons, List.drop_succ_cons, List.drop_succ_cons, List.drop_succ_cons, (ih m).1, (ih m).2]
        exact ⟨rfl, rfl⟩
  unfold cut
  simp only [← Int.natCast_mul, Int.toNat_natCast]
  rw [(key ks b).1, (key _ a).2]
theorem recs_drop (ks : List SO) (m : Nat) : (recsV sof ks).drop (m * 3) = recsV sof (ks.drop m) := by
  induction ks generalizing m with
  | nil => simp [recsV]
  | cons x r ih =>
    cases m with
    | zero => simp
    | succ m =>
      have e : recsV sof (x :: r) = .bool x.g :: S x.k :: S x.v :: recsV sof r := rfl
      rw [e, show (m + 1) * 3 = m * 3 + 1 + 1 + 1 by omega, List.drop_succ_cons, List.drop_succ_cons, List.drop_succ_cons, ih]; rfl
theorem recs_app (a b : List SO) : recsV sof (a ++ b) = recsV sof a ++ recsV sof b := by unfold recsV; rw [List.flatMap_append]
theorem recs_one (ks : List SO) : ∀ u ∈ recsV sof ks, u.oneCell' = true := by
  intro u hu
  unfold recsV at hu
  obtain ⟨o, _, ho⟩ := List.mem_flatMap.1 hu
  simp only [sof, List.mem_cons, List.not_mem_nil, or_false] at ho
  rcases ho with rfl | rfl | rfl <;> rfl
def okS (o : SO) : Bool := decide ((o.k.length : Int) + o.v.length ≤ 200)
def cachedS (n : Int) (l : List SO) : Bool := l.all okS && decide (1 ≤ n ∧ n ≤ 100 ∧ (l.length : Int) ≤ 200)
theorem cached_el {n : Int} {l : List SO} (h : cachedS n l = true) : (1 ≤ n ∧ n ≤ 100 ∧ l.length ≤ 200) ∧ ∀ i, i < l.length → (l.getD i SO0).k.length + (l.getD i SO0).v.length ≤ 200 := by
  unfold cachedS at h
  simp only [Bool.and_eq_true, List.all_eq_true, decide_eq_true_eq] at h
  refine ⟨by omega, fun i hi => ?_⟩
  rw [List.getD_eq_getElem?_getD, List.getElem?_eq_getElem hi]
  have := h.1 l[i] (List.getElem_mem hi)
  unfold okS at this
  simp only [decide_eq_true_eq] at this
  simp only [Option.getD_some]
  omega
theorem OwO.of {base : Nat} {e : TypeId} {size : Nat} {v : Value} {A : Hp} {n n' : Nat} {xs xs' : List Value} (h : OwO base e size v A n xs) (h1 : n = n') (h2 : xs = xs') : OwO base e size v A n' xs' := by subst h1; subst h2; exact h
theorem recs_snoc (ks : List SO) (o : SO) : recsV sof ks ++ sof o = recsV sof (ks ++ [o]) := by rw [recs_app]; unfold recsV; simp
theorem sof_one (o : SO) : ∀ u ∈ sof o, u.oneCell' = true := by
  intro u hu
  simp only [sof, List.mem_cons, List.not_mem_nil, or_false] at hu
  rcases hu with rfl | rfl | rfl <;> rfl
theorem cut0 (ks : List SO) (m : Nat) : cut ks 0 (m : Int) = ks.take m := by unfold cut; simp
theorem cutE (ks : List SO) (m : Nat) : cut ks ((m : Int) + 1) (ks.length : Int) = ks.drop (m + 1) := by
  unfold cut
  rw [Int.toNat_natCast, List.take_length, show ((m : Int) + 1).toNat = m + 1 by omega]
end QC
end Go.Proofs.Ytjmlifpngnbomaa
