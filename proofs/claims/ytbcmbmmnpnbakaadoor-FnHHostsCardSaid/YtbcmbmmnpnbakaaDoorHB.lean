/- Words for hosts, their labels and their ports. -/
import Derived.Test.YtbcmbmmnpnbakaaDoorP0
import Derived.Test.YtbcmbmmnpnbakaaDoorVK
import Derived.Test.YtbcmbmmnpnbakaaDoorHS
import Derived.Lib.AtoiAllCases
import Derived.Lib.Bytealg
namespace Go.Proofs.YtbcmbmmnpnbakaaDoor
open Go Go.RowKit V
set_option linter.unusedSimpArgs false
set_option linter.unusedVariables false
namespace HB
/-! ### A byte in a text -/
theorem ib_find (c : UInt8) : ∀ (l : List UInt8), Lib.indexByte l c = findI [c] l
  | [] => rfl
  | b :: l => by
    unfold Lib.indexByte findI find
    by_cases h : b = c
    · subst h; simp
    · have h1 : ¬ (b :: l).take ([c] : List UInt8).length = [c] := fun e => h (by simpa using e)
      rw [if_neg (by simpa using h), if_neg h1, ib_find c l]
      unfold findI
      cases find [c] l with
      | none => rfl
      | some i => rw [if_neg (by simp)]; rfl
theorem find_mem {c : UInt8} : ∀ {l : List UInt8}, find [c] l = none ↔ c ∉ l
  | [] => by simp [find]
  | b :: l => by
    unfold find
    by_cases h : b = c
    · subst h; simp
    · have h1 : ¬ (b :: l).take ([c] : List UInt8).length = [c] := fun e => h (by simpa using e)
      rw [if_neg h1]
      have := find_mem (c := c) (l := l)
      cases hf : find [c] l with
      | none => rw [hf] at this; have h2 := this.1 rfl; simp [h2, Ne.symm h]
      | some i => rw [hf] at this; simp only [reduceCtorEq, false_iff, Classical.not_not] at this; simp [this]
/-- the last place of a byte, below k -/
def lidx (c : UInt8) (s : List UInt8) : Nat → Int
  | 0 => -1
  | k + 1 => if s.getD k 0 = c then (k : Int) else lidx c s k
theorem lidx_pos {c : UInt8} {s : List UInt8} : ∀ (k : Nat), 0 ≤ lidx c s k → ∃ i : Nat, lidx c s k = (i : Int) ∧ i < k ∧ s.getD i 0 = c ∧ ∀ j, i < j → j < k → s.getD j 0 ≠ c
  | 0, h => by simp [lidx] at h
  | k + 1, h => by
    unfold lidx at h ⊢
    by_cases he : s.getD k 0 = c
    · rw [if_pos he]; exact ⟨k, rfl, by omega, he, fun j h1 h2 => by omega⟩
    · rw [if_neg he] at h ⊢
      obtain ⟨i, h1, h2, h3, h4⟩ := lidx_pos k h
      exact ⟨i, h1, by omega, h3, fun j h5 h6 => by rcases Nat.lt_or_ge j k with h | h; exact h4 j h5 h; rw [show j = k by omega]; exact he⟩
theorem lidx_neg {c : UInt8} {s : List UInt8} : ∀ (k : Nat), lidx c s k < 0 → ∀ j, j < k → s.getD j 0 ≠ c
  | 0, _ => fun j hj => by omega
  | k + 1, h => by
    unfold lidx at h
    by_cases he : s.getD k 0 = c
    · rw [if_pos he] at h; omega
    · rw [if_neg he] at h
      intro j hj
      rcases Nat.lt_or_ge j k with h1 | h1
      · exact lidx_neg k h j h1
      · rw [show j = k by omega]; exact he
theorem getD_mem {s : List UInt8} {i : Nat} {c : UInt8} (h : i < s.length) (he : s.getD i 0 = c) : c ∈ s := by
  rw [List.getD_eq_getElem?_getD, List.getElem?_eq_getElem h] at he
  rw [← he]; exact List.getElem_mem h
theorem mem_getD {s : List UInt8} {c : UInt8} (h : c ∈ s) : ∃ i, i < s.length ∧ s.getD i 0 = c := by
  obtain ⟨i, hi, e⟩ := List.mem_iff_getElem.1 h
  exact ⟨i, hi, by rw [List.getD_eq_getElem?_getD, List.getElem?_eq_getElem hi]; exact e⟩
theorem split_no {c : UInt8} {s : List UInt8} (h : c ∉ s) : split [c] s = [s] := split_none _ _ (find_mem.2 h)
theorem split_has {c : UInt8} {s : List UInt8} (h : c ∈ s) : ∃ i, i < s.length ∧ c ∉ s.take i ∧ s.getD i 0 = c ∧ split [c] s = s.take i :: split [c] (s.drop (i + 1)) := by
  cases hf : find [c] s with
  | none => exact absurd h (find_mem.1 hf)
  | some i =>
    have hl := find_le [c] s i hf
    have key : ∀ (s : List UInt8) (i : Nat), find [c] s = some i → c ∉ s.take i ∧ s.getD i 0 = c := by
      intro s
      induction s with
      | nil => intro i h; simp [find] at h
      | cons b s ih =>
        intro i h
        unfold find at h
        by_cases hb : b = c
        · subst hb; simp at h; subst h; simp
        · have h1 : ¬ (b :: s).take ([c] : List UInt8).length = [c] := fun e => hb (by simpa using e)
          rw [if_neg h1] at h
          cases hf : find [c] s with
          | none => rw [hf] at h; cases h
          | some j =>
            rw [hf] at h
            simp at h; subst h
            obtain ⟨h2, h3⟩ := ih j hf
            exact ⟨by simp [h2, Ne.symm hb], by simpa using h3⟩
    obtain ⟨h2, h3⟩ := key s i hf
    exact ⟨i, by simp at hl; omega, h2, h3, split_some [c] s (by simp) i hf⟩
theorem split_pos (c : UInt8) (s : List UInt8) : 1 ≤ (split [c] s).length := by
  by_cases h : c ∈ s
  · obtain ⟨i, _, _, _, e⟩ := split_has h; rw [e]; simp
  · rw [split_no h]; simp
/-- cut at the last one: just two, or more -/
theorem split_last {c : UInt8} {s : List UInt8} {i : Nat} (hi : i < s.length) (hc : s.getD i 0 = c) (hl : ∀ j, i < j → j < s.length → s.getD j 0 ≠ c) :
    (c ∉ s.take i → split [c] s = [s.take i, s.drop (i + 1)]) ∧ (c ∈ s.take i → 3 ≤ (split [c] s).length) := by
  have hm : c ∈ s := getD_mem hi hc
  obtain ⟨k, hk, h1, h2, e⟩ := split_has hm
  have hki : k ≤ i := by
    rcases Nat.lt_or_ge i k with h | h
    · exact absurd h2 (hl k h hk)
    · exact h
  constructor
  · intro hno
    have : k = i := by
      rcases Nat.lt_or_ge k i with h | h
      · exfalso; apply hno
        refine getD_mem (i := k) (by simp; omega) ?_
        rw [List.getD_eq_getElem?_getD, List.getElem?_take, if_pos h, ← List.getD_eq_getElem?_getD, h2]
      · omega
    subst this
    rw [e, split_no]
    intro hmem
    obtain ⟨j, hj, hj2⟩ := mem_getD hmem
    rw [List.length_drop] at hj
    rw [List.getD_eq_getElem?_getD, List.getElem?_drop, ← List.getD_eq_getElem?_getD] at hj2
    exact hl _ (by omega) (by omega) hj2
  · intro hyes
    have hki2 : k < i := by
      rcases Nat.lt_or_ge k i with h | h
      · exact h
      · exfalso
        have : k = i := by omega
        subst this; exact h1 hyes
    have hm2 : c ∈ s.drop (k + 1) := by
      refine getD_mem (i := i - (k + 1)) (by rw [List.length_drop]; omega) ?_
      rw [List.getD_eq_getElem?_getD, List.getElem?_drop, show k + 1 + (i - (k + 1)) = i by omega, ← List.getD_eq_getElem?_getD]; exact hc
    obtain ⟨k2, _, _, _, e2⟩ := split_has hm2
    have := split_pos c ((s.drop (k + 1)).drop (k2 + 1))
    rw [e, e2, List.length_cons, List.length_cons]; omega
/-! ### Ports -/
def dig (c : UInt8) : Bool := decide (48 ≤ c.toNat ∧ c.toNat ≤ 57)
def ncut (acc : Nat) : List UInt8 → Nat
  | [] => acc
  | c :: r => if acc ≤ 65535 then ncut (acc * 10 + (c.toNat - 48)) r else acc
theorem ncut_big {acc : Nat} (h : 65535 < acc) (l : List UInt8) : ncut acc l = acc := by
  cases l with
  | nil => rfl
  | cons c r => unfold ncut; rw [if_neg (by omega)]
theorem ncut_app (a b : List UInt8) : ∀ acc, ncut acc (a ++ b) = ncut (ncut acc a) b := by
  induction a with
  | nil => intro acc; rfl
  | cons c a ih =>
    intro acc
    have e1 : ncut acc (c :: (a ++ b)) = if acc ≤ 65535 then ncut (acc * 10 + (c.toNat - 48)) (a ++ b) else acc := rfl
    have e2 : ncut acc (c :: a) = if acc ≤ 65535 then ncut (acc * 10 + (c.toNat - 48)) a else acc := rfl
    rw [List.cons_append, e1, e2]
    by_cases h : acc ≤ 65535
    · rw [if_pos h, if_pos h, ih]
    · rw [if_neg h, if_neg h, ncut_big (by omega)]
theorem ncut_snoc (a : List UInt8) (c : UInt8) (acc : Nat) (h : ncut acc a ≤ 65535) : ncut acc (a ++ [c]) = ncut acc a * 10 + (c.toNat - 48) := by
  rw [ncut_app]
  show (if ncut acc a ≤ 65535 then ncut _ [] else _) = _
  rw [if_pos h]; rfl
def hneg (s : List UInt8) : Bool := s.head? == some 45
def htail (s : List UInt8) : List UInt8 := if s.head? = some 45 ∨ s.head? = some 43 then s.tail else s
def hnum (s : List UInt8) : Bool := decide (htail s ≠ []) && (htail s).all dig && decide (ncut 0 (htail s) ≤ 65535) && (!hneg s || decide (ncut 0 (htail s) = 0))
def vport (s : List UInt8) : Bool := match Lib.atoiAll s with
  | .ok v => decide (0 ≤ v ∧ v ≤ 65535)
  | _ => false
theorem pu (t : List UInt8) : ∀ (acc : Nat), t.all dig = true → match Lib.parseUint10 acc t with
    | .ok u => acc ≤ u ∧ (u ≤ 65535 → ncut acc t = u) ∧ (65535 < u → 65535 < ncut acc t)
    | .range => 65535 < ncut acc t
    | _ => False := by
  induction t with
  | nil => intro acc _; exact ⟨Nat.le_refl _, fun _ => rfl, fun h => h⟩
  | cons c r ih =>
    intro acc h
    rw [List.all_cons, Bool.and_eq_true] at h
    have hd : 48 ≤ c.toNat ∧ c.toNat ≤ 57 := by simpa [dig] using h.1
    unfold Lib.parseUint10
    rw [if_pos hd]
    by_cases h1 : 1844674407370955162 ≤ acc
    · rw [if_pos h1]; show 65535 < ncut acc (c :: r); rw [ncut_big (by omega)]; omega
    · rw [if_neg h1]
      by_cases h2 : 18446744073709551616 ≤ acc * 10 + (c.toNat - 48)
      · rw [if_pos h2]; show 65535 < ncut acc (c :: r); rw [ncut_big (by omega)]; omega
      · rw [if_neg h2]
        have h3 := ih (acc * 10 + (c.toNat - 48)) h.2
        have e : ncut acc (c :: r) = if acc ≤ 65535 then ncut (acc * 10 + (c.toNat - 48)) r else acc := rfl
        cases hp : Lib.parseUint10 (acc * 10 + (c.toNat - 48)) r with
        | ok u =>
          rw [hp] at h3
          obtain ⟨a1, a2, a3⟩ := h3
          refine ⟨by omega, fun hu => ?_, fun hu => ?_⟩
          · rw [e, if_pos (by omega)]; exact a2 hu
          · rw [e]; split
            · exact a3 hu
            · omega
        | range =>
          rw [hp] at h3
          show 65535 < ncut acc (c :: r)
          rw [e]; split
          · exact h3
          · omega
        | _ => rw [hp] at h3; exact h3.elim
theorem pu_dig (t : List UInt8) : ∀ (acc u : Nat), Lib.parseUint10 acc t = .ok u → t.all dig = true := by
  induction t with
  | nil => intro _ _ _; rfl
  | cons c r ih =>
    intro acc u h
    unfold Lib.parseUint10 at h
    split at h
    · rename_i hd
      split at h
      · cases h
      · split at h
        · cases h
        · rw [List.all_cons, ih _ u h, Bool.and_true]; exact decide_eq_true hd
    · cases h
theorem mag (t : List UInt8) : match Lib.parseMag t with
    | .ok u => t ≠ [] ∧ t.all dig = true ∧ (u ≤ 65535 ↔ ncut 0 t ≤ 65535) ∧ (u = 0 ↔ ncut 0 t = 0)
    | _ => ¬ (t ≠ [] ∧ t.all dig = true ∧ ncut 0 t ≤ 65535) := by
  unfold Lib.parseMag
  by_cases ht : t = []
  · rw [if_pos ht]; simp [ht]
  · rw [if_neg ht]
    cases hp : Lib.parseUint10 0 t with
    | ok u =>
      have hd := pu_dig t 0 u hp
      have h := pu t 0 hd
      rw [hp] at h
      obtain ⟨_, a2, a3⟩ := h
      refine ⟨ht, hd, ⟨fun h => ?_, fun h => ?_⟩, ⟨fun h => ?_, fun h => ?_⟩⟩
      · rw [a2 h]; exact h
      · rcases Nat.lt_or_ge 65535 u with h1 | h1
        · have := a3 h1; omega
        · exact h1
      · rw [a2 (by omega)]; exact h
      · rcases Nat.lt_or_ge 65535 u with h1 | h1
        · have := a3 h1; omega
        · rw [a2 h1] at h; exact h
    | range =>
      intro ⟨_, hd, hn⟩
      have h := pu t 0 hd
      rw [hp] at h
      have h : 65535 < ncut 0 t := h
      omega
    | _ =>
      intro ⟨_, hd, hn⟩
      have h := pu t 0 hd
      rw [hp] at h; exact h
theorem port_eq (s : List UInt8) : vport s = hnum s := by
  have hT : ∀ t : List UInt8, (decide (t ≠ []) && t.all dig && decide (ncut 0 t ≤ 65535)) = decide (t ≠ [] ∧ t.all dig = true ∧ ncut 0 t ≤ 65535) := by
    intro t
    rw [Bool.eq_iff_iff]; simp only [Bool.and_eq_true, decide_eq_true_eq, and_assoc]
  unfold vport hnum
  rw [hT]
  cases s with
  | nil => rfl
  | cons c r =>
    have hm := mag (htail (c :: r))
    by_cases h43 : c = 43
    · subst h43
      have ht : htail (43 :: r) = r := by unfold htail; simp
      have hn : hneg (43 :: r) = false := by simp [hneg]
      rw [Lib.atoiAll_plus]
      rw [ht] at hm ⊢
      rw [hn]
      simp only [Bool.not_false, Bool.true_or, Bool.and_true]
      cases hp : Lib.parseMag r with
      | ok u =>
        rw [hp] at hm
        obtain ⟨m1, m2, m3, m4⟩ := hm
        unfold Lib.signless
        by_cases hb : 9223372036854775808 ≤ u
        · simp only [if_pos hb]; symm; rw [decide_eq_false_iff_not]; intro h; have := m3.2 h.2.2; omega
        · simp only [if_neg hb]; apply decide_eq_decide.2; constructor
          · intro h; exact ⟨m1, m2, m3.1 (by omega)⟩
          · intro h; have := m3.2 h.2.2; omega
      | range => rw [hp] at hm; unfold Lib.signless; exact (decide_eq_false hm).symm
      | _ => rw [hp] at hm; unfold Lib.signless; exact (decide_eq_false hm).symm
    by_cases h45 : c = 45
    · subst h45
      have ht : htail (45 :: r) = r := by unfold htail; simp
      have hn : hneg (45 :: r) = true := by simp [hneg]
      rw [Lib.atoiAll_minus]
      rw [ht] at hm ⊢
      rw [hn]
      simp only [Bool.not_true, Bool.false_or]
      cases hp : Lib.parseMag r with
      | ok u =>
        rw [hp] at hm
        obtain ⟨m1, m2, m3, m4⟩ := hm
        unfold Lib.signed
        by_cases hb : 9223372036854775808 < u
        · simp only [if_pos hb]
          symm
          have : ¬ ncut 0 r = 0 := fun h => by have := m4.2 h; omega
          rw [decide_eq_false this, Bool.and_false]
        · simp only [if_neg hb]
          rw [Bool.eq_iff_iff]
          simp only [Bool.and_eq_true, decide_eq_true_eq]
          constructor
          · intro h; have h0 : u = 0 := by omega
            exact ⟨⟨m1, m2, m3.1 (by omega)⟩, m4.1 h0⟩
          · intro h; have := m4.2 h.2; omega
      | range => rw [hp] at hm; unfold Lib.signed; rw [decide_eq_false hm]; rfl
      | _ => rw [hp] at hm; unfold Lib.signed; rw [decide_eq_false hm]; rfl
    · have h43' : c.toNat ≠ 43 := fun e => h43 (UInt8.toNat_inj.1 e)
      have h45' : c.toNat ≠ 45 := fun e => h45 (UInt8.toNat_inj.1 e)
      have ht : htail (c :: r) = c :: r := by unfold htail; simp [h43, h45]
      have hn : hneg (c :: r) = false := by simp [hneg, h45]
      rw [Lib.atoiAll_plain c r h43' h45']
      rw [ht] at hm ⊢
      rw [hn]
      simp only [Bool.not_false, Bool.true_or, Bool.and_true]
      cases hp : Lib.parseMag (c :: r) with
      | ok u =>
        rw [hp] at hm
        obtain ⟨m1, m2, m3, m4⟩ := hm
        unfold Lib.signless
        by_cases hb : 9223372036854775808 ≤ u
        · simp only [if_pos hb]; symm; rw [decide_eq_false_iff_not]; intro h; have := m3.2 h.2.2; omega
        · simp only [if_neg hb]; apply decide_eq_decide.2; constructor
          · intro h; exact ⟨m1, m2, m3.1 (by omega)⟩
          · intro h; have := m3.2 h.2.2; omega
      | range => rw [hp] at hm; unfold Lib.signless; exact (decide_eq_false hm).symm
      | _ => rw [hp] at hm; unfold Lib.signless; exact (decide_eq_false hm).symm
/-! ### Labels and hosts -/
def lok : List (List UInt8) → Bool
  | [] => true
  | [x] => x == [] || vlabel x
  | x :: y :: r => vlabel x && lok (y :: r)
def vhost (s : List UInt8) : Bool := match split [58] s with
  | [h] => lok (split [46] h) && decide (h.length ≤ 255)
  | [h, p] => hnum p && lok (split [46] h) && !(h == []) && decide (h.length ≤ 255)
  | _ => false
/-! ### The library's reading of a number -/
def HE (A : Hp) : Prop := (∃ k p t f, (0, .cells #[.iface k p] t f) ∈ A) ∧ ∃ k p t f, (1, .cells #[.iface k p] t f) ∈ A
theorem HE.weaken {G C : Hp} (h : HE G) (hs : ∀ x ∈ G, x ∈ C) : HE C := by
  obtain ⟨⟨k, p, t, f, h1⟩, k2, p2, t2, f2, h2⟩ := h
  exact ⟨⟨k, p, t, f, hs _ h1⟩, k2, p2, t2, f2, hs _ h2⟩
theorem St.below {w0 w w' : World} {H : Hp} (h : St w0 H w) (b : Below w.heap.size w w') : St w0 H w' :=
  ⟨b.os.trans h.os, b.tape.trans h.tape, b.output.trans h.output, Nat.le_trans h.size b.size, fun k hk hno => by rw [b.block k (Nat.lt_of_lt_of_le hk h.size)]; exact h.old k hk hno, fun x o hx => by rw [b.block x (h.lt hx)]; exact h.now x o hx, h.nodup⟩
theorem WL.callBl {P : Program} {n : Nat} {w0 : World} {ds : List Deferred} {fr : Fr} {H : List Hp} {ty : TypeId} {pos : String} {aft : Array Edge} {g : Option (Nat × Bool)} {ops : Array Oper} {Q : Post} {rest : List Oper} {d : Nat} {f : FuncId} {xs : Array Operand} {ts : Array TypeId} {args : List Value} {R : Value → Prop}
    (hc : ∀ w, St w0 H.flatten w → Calls P f args.toArray w fun e w' => ∃ v, e = .returned v ∧ R v ∧ Below w.heap.size w w') (hf : Callable P f) (ha : evs fr xs.toList = some args) (hg : gd ops fr ⟨some d, .call ⟨.value (.func f), xs, ts⟩, ty, pos, aft, g⟩ = some true) (hn : Nat.blt d n = true)
    (hk : ∀ v, R v → WL P n w0 ops Q rest ds ((d, v) :: fr) H) : WL P n w0 ops Q (⟨some d, .call ⟨.value (.func f), xs, ts⟩, ty, pos, aft, g⟩ :: rest) ds fr H := by
  intro a w hfit hw
  unfold wpList
  rw [gd_wanted hfit hg, if_pos rfl]
  left
  unfold Oper.wp
  rw [run_enter hf ha hfit w, Oper.upon_enter]
  refine (hc w hw).mono fun e w' h => ?_
  obtain ⟨v, rfl, hR, hb⟩ := h
  exact hk v hR _ _ (hfit.put v hn) (St.below hw hb)
theorem below_bytes (w : World) (e : TypeId) (s : ByteArray) : Below w.heap.size w (Lib.bytesWorld w e s) := by
  unfold Lib.bytesWorld
  have h1 : Below w.heap.size w (w.drew.alloc (.cells (Lib.bytesCells w e s) e)) := ⟨rfl, rfl, rfl, by simp [World.alloc], fun k hk => by
    have : (w.drew.alloc (.cells (Lib.bytesCells w e s) e)).heap[k]? = w.drew.heap[k]? := by simp [World.alloc, Array.getElem?_push, Nat.ne_of_lt hk]
    exact this⟩
  unfold World.freeze
  split
  · exact h1
  · refine ⟨h1.os, h1.tape, h1.output, by simp, fun k hk => ?_⟩
    simp only [Array.getElem?_modify]
    rw [if_neg (by omega)]; exact h1.block k hk
def AtoiR (s : List UInt8) (v : Value) : Prop := ∃ m ve, v = .tuple #[I m, ve] ∧ ((ve = .nilIface ∧ Lib.atoiAll s = .ok m) ∨ ((∃ k u, ve = .iface k u) ∧ ∀ m, Lib.atoiAll s ≠ .ok m))
theorem atoi {w0 : World} {H : List Hp} {A : Hp} (s : List UInt8) (hs : s.length ≤ 100000) (hA : A ∈ H) (hE : HE A) : ∀ w, St w0 H.flatten w → Calls Tryd.prog 18 #[S s] w fun e w' => ∃ v, e = .returned v ∧ AtoiR s v ∧ Below w.heap.size w w' := by
  intro w hw
  have hsz : (⟨⟨s⟩⟩ : ByteArray).size ≤ 100000 := by show s.length ≤ _; omega
  obtain ⟨⟨k0, p0, t0, f0, h0⟩, k1, p1, t1, f1, h1⟩ := hE
  have c0 : w.cell? ⟨0, 0, none⟩ = some (.iface k0 p0) := by rw [cell_at (hw.now 0 _ (mem_flat hA h0))]; rfl
  have c1 : w.cell? ⟨1, 0, none⟩ = some (.iface k1 p1) := by rw [cell_at (hw.now 1 _ (mem_flat hA h1))]; rfl
  cases he : Lib.atoiAll s with
  | ok v =>
    refine (Tryd.strconv_Atoi_ok ⟨⟨s⟩⟩ (by omega) v he w).mono fun e w' h => ?_
    obtain ⟨rfl, hw'⟩ := h
    refine ⟨_, rfl, ⟨v, _, rfl, .inl ⟨rfl, he⟩⟩, ?_⟩
    rcases hw' with rfl | ⟨t, rfl⟩
    · exact Below.refl _ _
    · exact below_bytes _ _ _
  | range =>
    refine (Tryd.strconv_Atoi_range ⟨⟨s⟩⟩ (by omega) he _ w c1 (.inr ⟨_, _, rfl⟩)).mono fun e w' h => ?_
    obtain ⟨N, rfl, _, _, hb⟩ := h
    exact ⟨_, rfl, ⟨_, _, rfl, .inr ⟨⟨_, _, rfl⟩, fun m h => by rw [he] at h; cases h⟩⟩, hb⟩
  | _ =>
    refine (Tryd.strconv_Atoi_syntax ⟨⟨s⟩⟩ (by omega) (fun v h => by have h : Lib.atoiAll s = .ok v := h; rw [he] at h; cases h) (fun h => by have h : Lib.atoiAll s = .range := h; rw [he] at h; cases h) _ w c0 (.inr ⟨_, _, rfl⟩)).mono fun e w' h => ?_
    obtain ⟨N, rfl, _, _, hb⟩ := h
    exact ⟨_, rfl, ⟨0, _, rfl, .inr ⟨⟨_, _, rfl⟩, fun m h => by rw [he] at h; cases h⟩⟩, hb⟩
end HB
end Go.Proofs.YtbcmbmmnpnbakaaDoor
