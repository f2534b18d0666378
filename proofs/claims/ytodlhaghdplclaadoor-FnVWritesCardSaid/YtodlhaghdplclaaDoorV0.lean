/- The engine, part 0: frames as lists of known slots, worlds as lists of known blocks, the judgements of a walk and its rules for control. Over any program. -/
import Derived.WalkKit
import Derived.Deep.Quiet
import Derived.KernelRfl
namespace Go.Proofs.YtodlhaghdplclaaDoor.V
open Go Go.RowKit

/-! ### Frames: what is known of the slots -/
abbrev Fr := List (Nat × Value)
def gt : Fr → Nat → Option Value
  | [], _ => none
  | (j, v) :: r, k => bif Nat.beq j k then some v else gt r k

def ev (fr : Fr) : Operand → Option Value
  | .tmp t => gt fr t
  | .const v => some v
  | .global g => some (.pointer (some ⟨g, 0, none⟩))
  | .func f => some (.func (.func f) #[] #[])

theorem gti {fr : Fr} {k : Nat} {kd : IntKind} {m m' : Int} (h : gt fr k = some (.int kd m)) (e : m = m') : gt fr k = some (.int kd m') := e ▸ h
theorem gtv {fr : Fr} {k : Nat} {v v' : Value} (h : gt fr k = some v) (e : v = v') : gt fr k = some v' := e ▸ h

structure Fits (n : Nat) (ds : List Deferred) (fr : Fr) (a : Act) : Prop where
  size : a.tmps.size = n
  defers : a.defers = ds
  get : ∀ k v, gt fr k = some v → a.tmps[k]? = some v

theorem gt_cons (j : Nat) (v : Value) (r : Fr) (k : Nat) : gt ((j, v) :: r) k = if j = k then some v else gt r k := by
  show (bif Nat.beq j k then some v else gt r k) = _
  by_cases h : j = k
  · subst h; rw [if_pos rfl, Nat.beq_refl]; rfl
  · rw [if_neg h]
    have : Nat.beq j k = false := by
      cases hb : Nat.beq j k
      · rfl
      · exact absurd (Nat.eq_of_beq_eq_true hb) h
    rw [this]; rfl

theorem Fits.eval {n : Nat} {ds : List Deferred} {fr : Fr} {a : Act} (h : Fits n ds fr a) {x : Operand} {v : Value} (hx : ev fr x = some v) : a.eval x = v := by
  cases x with
  | tmp t =>
    have := h.get t v hx
    show a.tmps.getD t undef = v
    rw [Array.getD_eq_getD_getElem?, this]; rfl
  | const u => exact Option.some.inj hx
  | global g => exact Option.some.inj hx
  | func f => exact Option.some.inj hx

theorem Fits.put {n : Nat} {ds : List Deferred} {fr : Fr} {a : Act} (h : Fits n ds fr a) {d : Nat} (v : Value) (hd : Nat.blt d n = true) : Fits n ds ((d, v) :: fr) (a.put (some d) v) := by
  have hd' : d < n := by simpa [Nat.blt_eq] using hd
  refine ⟨by simpa [Act.put] using h.size, h.defers, fun k u hk => ?_⟩
  rw [gt_cons] at hk
  show (a.tmps.setIfInBounds d v)[k]? = some u
  rw [Array.getElem?_setIfInBounds]
  by_cases e : d = k
  · rw [if_pos e] at hk ⊢
    rw [if_pos (by rw [h.size]; omega)]
    exact hk
  · rw [if_neg e] at hk ⊢
    exact h.get k u hk

theorem Fits.none {n : Nat} {ds : List Deferred} {fr : Fr} {a : Act} (h : Fits n ds fr a) (v : Value) : Fits n ds fr (a.put none v) := h

/-- Of 'fr' all that 'fr'' says is known. -/
def Sub : Fr → Fr → Prop
  | [], _ => True
  | (k, v) :: r, fr => gt fr k = some v ∧ Sub r fr

theorem Sub.get {fr' fr : Fr} (h : Sub fr' fr) : ∀ k v, gt fr' k = some v → gt fr k = some v := by
  induction fr' with
  | nil => intro k v hk; cases hk
  | cons p r ih =>
    obtain ⟨j, u⟩ := p
    intro k v hk
    rw [gt_cons] at hk
    by_cases e : j = k
    · rw [if_pos e] at hk; rw [← e, h.1]; exact hk
    · rw [if_neg e] at hk; exact ih h.2 k v hk

theorem Fits.sub {n : Nat} {ds : List Deferred} {fr fr' : Fr} {a : Act} (h : Fits n ds fr a) (hs : Sub fr' fr) : Fits n ds fr' a :=
  ⟨h.size, h.defers, fun k v hk => h.get k v (hs.get k v hk)⟩

/-! ### Worlds: what is known of the blocks, seen from the world at the call's begin -/
abbrev Hp := List (Nat × Obj)
structure St (w0 : World) (H : Hp) (w : World) : Prop where
  os : w.os = w0.os
  tape : w.tape = w0.tape
  output : w.output = w0.output
  size : w0.heap.size ≤ w.heap.size
  old : ∀ k, k < w0.heap.size → (∀ o, (k, o) ∉ H) → w.heap[k]? = w0.heap[k]?
  now : ∀ b o, (b, o) ∈ H → w.heap[b]? = some o
  nodup : (H.map Prod.fst).Nodup

theorem St.refl (w : World) : St w [] w := ⟨rfl, rfl, rfl, Nat.le_refl _, fun _ _ _ => rfl, fun _ _ h => (by cases h), List.nodup_nil⟩

theorem St.drawn {w0 w : World} {H : Hp} (h : St w0 H w) (d : Nat) : St w0 H { w with drawn := d } :=
  ⟨h.os, h.tape, h.output, h.size, h.old, h.now, h.nodup⟩

theorem St.lt {w0 w : World} {H : Hp} (h : St w0 H w) {b : Nat} {o : Obj} (hb : (b, o) ∈ H) : b < w.heap.size := by
  have := h.now b o hb
  exact (Array.getElem?_eq_some_iff.1 this).1

/-- Blocks that were not there, or that are as they were, need not be told. -/
theorem St.drop {w0 w : World} {N H : Hp} (h : St w0 (N ++ H) w) (hN : ∀ b o, (b, o) ∈ N → w0.heap.size ≤ b ∨ w0.heap[b]? = some o) : St w0 H w := by
  refine ⟨h.os, h.tape, h.output, h.size, fun k hk hno => ?_, fun b o hb => h.now b o (List.mem_append_right _ hb), ?_⟩
  · by_cases e : ∃ o, (k, o) ∈ N
    · obtain ⟨o, ho⟩ := e
      rcases hN k o ho with h1 | h1
      · omega
      · rw [h.now k o (List.mem_append_left _ ho), h1]
    · refine h.old k hk fun o ho => ?_
      rcases List.mem_append.1 ho with h1 | h1
      · exact e ⟨o, h1⟩
      · exact hno o h1
  · have := h.nodup
    rw [List.map_append] at this
    exact (List.nodup_append.1 this).2.1

theorem St.perm {w0 w : World} {H H' : Hp} (h : St w0 H w) (p : H.Perm H') : St w0 H' w :=
  ⟨h.os, h.tape, h.output, h.size, fun k hk hno => h.old k hk fun o ho => hno o (p.mem_iff.1 ho), fun b o hb => h.now b o (p.mem_iff.2 hb), (p.map Prod.fst).nodup_iff.1 h.nodup⟩

/-- What a callee leaves, seen from the caller: 'H1' are the blocks that it was told of and has left so, 'N' new ones, 'R' what it was not told of. -/
theorem St.trans {w0 w w' : World} {H H1 N R : Hp} (h : St w0 (H ++ R) w) (k : St w (N ++ H1) w') (ids : H1.map Prod.fst = H.map Prod.fst) (fresh : ∀ b o, (b, o) ∈ N → w.heap.size ≤ b) : St w0 (N ++ (H1 ++ R)) w' := by
  have hnd := h.nodup
  rw [List.map_append, List.nodup_append] at hnd
  have knd := k.nodup
  rw [List.map_append, List.nodup_append] at knd
  have hR : ∀ b o, (b, o) ∈ R → ∀ o', (b, o') ∉ N ++ H1 := by
    intro b o hb o' ho'
    rcases List.mem_append.1 ho' with h1 | h1
    · have h2 := fresh b o' h1
      have h3 := h.lt (List.mem_append_right H hb)
      omega
    · have h2 : b ∈ H1.map Prod.fst := List.mem_map_of_mem (f := Prod.fst) h1
      rw [ids] at h2
      exact hnd.2.2 b h2 b (List.mem_map_of_mem (f := Prod.fst) hb) rfl
  refine ⟨k.os.trans h.os, k.tape.trans h.tape, k.output.trans h.output, Nat.le_trans h.size k.size, fun j hj hno => ?_, fun b o hb => ?_, ?_⟩
  · rw [k.old j (Nat.lt_of_lt_of_le hj h.size) (fun o ho => ?_)]
    · refine h.old j hj fun o ho => ?_
      rcases List.mem_append.1 ho with h1 | h1
      · have h2 : j ∈ H.map Prod.fst := List.mem_map_of_mem (f := Prod.fst) h1
        rw [← ids] at h2
        obtain ⟨⟨_, o'⟩, h3, rfl⟩ := List.mem_map.1 h2
        exact hno o' (List.mem_append_right _ (List.mem_append_left _ h3))
      · exact hno o (List.mem_append_right _ (List.mem_append_right _ h1))
    · rcases List.mem_append.1 ho with h1 | h1
      · exact hno o (List.mem_append_left _ h1)
      · exact hno o (List.mem_append_right _ (List.mem_append_left _ h1))
  · rcases List.mem_append.1 hb with h1 | h1
    · exact k.now b o (List.mem_append_left _ h1)
    rcases List.mem_append.1 h1 with h2 | h2
    · exact k.now b o (List.mem_append_right _ h2)
    · rw [k.old b (h.lt (List.mem_append_right H h2)) (hR b o h2)]
      exact h.now b o (List.mem_append_right H h2)
  · rw [List.map_append, List.map_append, List.nodup_append, List.nodup_append, ids]
    refine ⟨knd.1, ⟨hnd.1, hnd.2.1, hnd.2.2⟩, fun a ha b hb e => ?_⟩
    subst e
    rcases List.mem_append.1 hb with h1 | h1
    · rw [← ids] at h1; exact knd.2.2 a ha a h1 rfl
    · obtain ⟨⟨x, o⟩, h2, rfl⟩ := List.mem_map.1 ha
      obtain ⟨⟨y, o'⟩, h3, e3⟩ := List.mem_map.1 h1
      simp only at e3
      have h4 := fresh _ _ h2
      have h5 := h.lt (List.mem_append_right H h3)
      omega

theorem St.pure {w0 w w' : World} {R : Hp} (h : St w0 R w) (k : St w [] w') : St w0 R w' := by
  have := St.trans (H := []) (H1 := []) (N := []) (R := R) (by simpa using h) (by simpa using k) rfl (fun _ _ h => by cases h)
  simpa using this

/-! ### The judgements -/
section
variable (P : Program) (n : Nat) (w0 : World)
abbrev Post := Exit → Act → World → Prop

def WL (ops : Array Oper) (Q : Post) (l : List Oper) (ds : List Deferred) (fr : Fr) (H : List Hp) : Prop :=
  ∀ a w, Fits n ds fr a → St w0 H.flatten w → wpList P ops Q l a w
def WC (c : Code) (Q : Post) (ds : List Deferred) (fr : Fr) (H : List Hp) : Prop :=
  ∀ a w, Fits n ds fr a → St w0 H.flatten w → c.wp P Q a w
/-- at an exit -/
def WE (e : Exit) (Q : Post) (ds : List Deferred) (fr : Fr) (H : List Hp) : Prop :=
  ∀ a w, Fits n ds fr a → St w0 H.flatten w → Q e a w
/-- an operation that yields v and leaves the world as it is, or a call that does so -/
def OQ (o : Oper) (v : Value) (ds : List Deferred) (fr : Fr) (H : List Hp) : Prop :=
  ∀ a, Fits n ds fr a → ∀ w, St w0 H.flatten w → o.quietAt P a (St w0 H.flatten) w v
/-- an operation that yields v in the very world that it gets -/
def OV (o : Oper) (v : Value) (ds : List Deferred) (fr : Fr) (H : List Hp) : Prop :=
  ∀ a w, Fits n ds fr a → St w0 H.flatten w → (execOp a.eval o).run P w = .ok (.value v) w
/-- inside a region that draws its order -/
def WQ (ops : Array Oper) (Q : Post) (l : List Oper) (ds : List Deferred) (fr : Fr) (H : List Hp) : Prop :=
  ∀ a, Fits n ds fr a → wpQuiet P ops (St w0 H.flatten) (fun a' => ∀ w', St w0 H.flatten w' → Q .normal a' w') l a
end

section
variable {P : Program} {n : Nat} {w0 : World} {ops : Array Oper} {Q : Post} {l rest : List Oper} {ds : List Deferred} {fr fr' : Fr} {H H' : List Hp}

theorem WL.sub (h : WL P n w0 ops Q l ds fr' H) (hs : Sub fr' fr) : WL P n w0 ops Q l ds fr H := fun a w hf hw => h a w (hf.sub hs) hw
theorem WC.sub {c : Code} (h : WC P n w0 c Q ds fr' H) (hs : Sub fr' fr) : WC P n w0 c Q ds fr H := fun a w hf hw => h a w (hf.sub hs) hw
theorem WE.sub {e : Exit} (h : WE n w0 e Q ds fr' H) (hs : Sub fr' fr) : WE n w0 e Q ds fr H := fun a w hf hw => h a w (hf.sub hs) hw

theorem perm_focus {α : Type} {x : α} {A B : List α} : (A ++ x :: B).Perm (x :: (A ++ B)) := List.perm_middle
theorem flatten_perm {H H' : List Hp} (p : H.Perm H') : H.flatten.Perm H'.flatten := p.flatten

theorem WL.perm (h : WL P n w0 ops Q l ds fr H') (p : H.Perm H') : WL P n w0 ops Q l ds fr H := fun a w hf hw => h a w hf (hw.perm (flatten_perm p))
theorem WC.perm {c : Code} (h : WC P n w0 c Q ds fr H') (p : H.Perm H') : WC P n w0 c Q ds fr H := fun a w hf hw => h a w hf (hw.perm (flatten_perm p))
theorem WE.perm {e : Exit} (h : WE n w0 e Q ds fr H') (p : H.Perm H') : WE n w0 e Q ds fr H := fun a w hf hw => h a w hf (hw.perm (flatten_perm p))

/-- Forget the first group of blocks: they are new, or hold what they held. -/
theorem WL.drop {N : Hp} (hN : ∀ b o, (b, o) ∈ N → w0.heap.size ≤ b ∨ w0.heap[b]? = some o) (h : WL P n w0 ops Q l ds fr H) : WL P n w0 ops Q l ds fr (N :: H) := fun a w hf hw => h a w hf (St.drop (by simpa using hw) hN)
theorem WC.drop {c : Code} {N : Hp} (hN : ∀ b o, (b, o) ∈ N → w0.heap.size ≤ b ∨ w0.heap[b]? = some o) (h : WC P n w0 c Q ds fr H) : WC P n w0 c Q ds fr (N :: H) := fun a w hf hw => h a w hf (St.drop (by simpa using hw) hN)
theorem WE.drop {e : Exit} {N : Hp} (hN : ∀ b o, (b, o) ∈ N → w0.heap.size ≤ b ∨ w0.heap[b]? = some o) (h : WE n w0 e Q ds fr H) : WE n w0 e Q ds fr (N :: H) := fun a w hf hw => h a w hf (St.drop (by simpa using hw) hN)

/-! ### Guards -/
def gd (ops : Array Oper) (fr : Fr) (o : Oper) : Option Bool :=
  match o.guard with
  | none => some true
  | some (j, want) =>
    match ops[j]? with
    | some oj => match oj.dst with
      | some d => match gt fr d with
        | some (.bool b) => some (b == want)
        | some (.tuple _) => some false
        | _ => none
      | none => none
    | none => none

theorem gd_wanted {o : Oper} {b : Bool} {a : Act} (hf : Fits n ds fr a) (h : gd ops fr o = some b) : Region.wanted o (yielded ops a.tmps) = b := by
  unfold gd at h
  unfold Region.wanted
  cases hg : o.guard with
  | none => simp only [hg] at h; exact Option.some.inj h
  | some p =>
    obtain ⟨j, want⟩ := p
    simp only [hg] at h ⊢
    cases hj : ops[j]? with
    | none => simp [hj] at h
    | some oj =>
      simp only [hj] at h
      cases hd : oj.dst with
      | none => simp [hd] at h
      | some d =>
        simp only [hd] at h
        cases hv : gt fr d with
        | none => simp [hv] at h
        | some v =>
          simp only [hv] at h
          have hy : ((ops[j]?).bind (·.dst)).bind (a.tmps[·]?) = some v := by
            rw [hj]
            simp only [Option.bind_some, hd]
            exact hf.get d v hv
          unfold yielded
          rw [hy]
          cases v with
          | bool c =>
            simp only at h
            have := Option.some.inj h
            rw [← this]
            cases c <;> cases want <;> rfl
          | tuple vs =>
            simp only at h
            have := Option.some.inj h
            rw [← this]
            cases want <;> rfl
          | _ => simp at h

/-! ### Rules on one operation -/
theorem OV.oq {o : Oper} {v : Value} (h : OV P n w0 o v ds fr H) : OQ P n w0 o v ds fr H :=
  fun a hf w hw => by unfold Oper.quietAt; rw [h a w hf hw]; exact ⟨rfl, rfl⟩

theorem WL.qc {o : Oper} {v : Value} {d : Nat} (h : OQ P n w0 o v ds fr H) (hg : gd ops fr o = some true) (hd : o.dst = some d) (hn : Nat.blt d n = true) (hk : WL P n w0 ops Q rest ds ((d, v) :: fr) H) :
    WL P n w0 ops Q (o :: rest) ds fr H := by
  intro a w hf hw
  unfold wpList
  rw [gd_wanted hf hg, if_pos rfl]
  left
  have hq : o.quiet P a (St w0 H.flatten) (fun a' => ∀ w', St w0 H.flatten w' → wpList P ops Q rest a' w') :=
    ⟨v, h a hf, fun w' hw' => hk _ _ (by rw [hd]; exact hf.put v hn) hw'⟩
  exact Oper.wp_of_quiet hw (fun a' w' hw' hk' => hk' w' hw') hq

theorem WL.q {o : Oper} {v : Value} {d : Nat} (h : OV P n w0 o v ds fr H) (hg : gd ops fr o = some true) (hd : o.dst = some d) (hn : Nat.blt d n = true) (hk : WL P n w0 ops Q rest ds ((d, v) :: fr) H) :
    WL P n w0 ops Q (o :: rest) ds fr H := WL.qc h.oq hg hd hn hk

theorem WL.skip {o : Oper} {d : Nat} (hg : gd ops fr o = some false) (hd : o.dst = some d) (hn : Nat.blt d n = true) (hk : WL P n w0 ops Q rest ds ((d, undef) :: fr) H) :
    WL P n w0 ops Q (o :: rest) ds fr H := by
  intro a w hf hw
  unfold wpList
  rw [gd_wanted hf hg, if_neg (by simp)]
  exact hk _ _ (by rw [hd]; exact hf.put undef hn) hw

theorem WQ.qc {o : Oper} {v : Value} {d : Nat} (h : OQ P n w0 o v ds fr H) (hg : gd ops fr o = some true) (hd : o.dst = some d) (hn : Nat.blt d n = true) (hk : WQ P n w0 ops Q rest ds ((d, v) :: fr) H) :
    WQ P n w0 ops Q (o :: rest) ds fr H := by
  intro a hf
  unfold wpQuiet
  rw [gd_wanted hf hg, if_pos rfl]
  exact ⟨v, h a hf, hk _ (by rw [hd]; exact hf.put v hn)⟩

theorem WQ.q {o : Oper} {v : Value} {d : Nat} (h : OV P n w0 o v ds fr H) (hg : gd ops fr o = some true) (hd : o.dst = some d) (hn : Nat.blt d n = true) (hk : WQ P n w0 ops Q rest ds ((d, v) :: fr) H) :
    WQ P n w0 ops Q (o :: rest) ds fr H := WQ.qc h.oq hg hd hn hk

theorem WQ.skip {o : Oper} {d : Nat} (hg : gd ops fr o = some false) (hd : o.dst = some d) (hn : Nat.blt d n = true) (hk : WQ P n w0 ops Q rest ds ((d, undef) :: fr) H) :
    WQ P n w0 ops Q (o :: rest) ds fr H := by
  intro a hf
  unfold wpQuiet
  rw [gd_wanted hf hg, if_neg (by simp)]
  exact hk _ (by rw [hd]; exact hf.put undef hn)

/-- a slot that holds a bool: both ways -/
theorem WL.split (d : Nat) {b : Bool} (hv : gt fr d = some (.bool b)) (ht : b = true → WL P n w0 ops Q l ds ((d, .bool true) :: fr) H) (hf : b = false → WL P n w0 ops Q l ds ((d, .bool false) :: fr) H) : WL P n w0 ops Q l ds fr H := by
  intro a w hfit hw
  have key : ∀ c, b = c → Fits n ds ((d, .bool c) :: fr) a := fun c hc => ⟨hfit.size, hfit.defers, fun k v hk => by
    rw [gt_cons] at hk
    by_cases e : d = k
    · rw [if_pos e] at hk; rw [← Option.some.inj hk, ← hc, ← e]; exact hfit.get d _ hv
    · rw [if_neg e] at hk; exact hfit.get k v hk⟩
  cases hb : b with
  | true => exact ht hb a w (key true hb) hw
  | false => exact hf hb a w (key false hb) hw

theorem WQ.split (d : Nat) {b : Bool} (hv : gt fr d = some (.bool b)) (ht : b = true → WQ P n w0 ops Q l ds ((d, .bool true) :: fr) H) (hf : b = false → WQ P n w0 ops Q l ds ((d, .bool false) :: fr) H) : WQ P n w0 ops Q l ds fr H := by
  intro a hfit
  have key : ∀ c, b = c → Fits n ds ((d, .bool c) :: fr) a := fun c hc => ⟨hfit.size, hfit.defers, fun k v hk => by
    rw [gt_cons] at hk
    by_cases e : d = k
    · rw [if_pos e] at hk; rw [← Option.some.inj hk, ← hc, ← e]; exact hfit.get d _ hv
    · rw [if_neg e] at hk; exact hfit.get k v hk⟩
  cases hb : b with
  | true => exact ht hb a (key true hb)
  | false => exact hf hb a (key false hb)

theorem WL.nil (h : WE n w0 .normal Q ds fr H) : WL P n w0 ops Q [] ds fr H := fun a w hf hw => wpList_nil (h a w hf hw)
theorem WQ.nil (h : WE n w0 .normal Q ds fr H) : WQ P n w0 ops Q [] ds fr H := fun a hf => wpQuiet_nil fun w hw => h a w hf hw

/-! ### Code -/
theorem WC.region {id : Nat} {ol : List Oper} (h : WL P n w0 ol.toArray Q ol ds fr H) : WC P n w0 (.region id ol.toArray false) Q ds fr H := fun a w hf hw => wp_region_lit (h a w hf hw)
theorem WC.quiet {id : Nat} {ol : List Oper} (hm : P.follows .mixedOrders = true) (hB : Region.lexB .any ol.toArray = true) (h : WQ P n w0 ol.toArray Q ol ds fr H) : WC P n w0 (.region id ol.toArray true) Q ds fr H :=
  fun a w hf hw => wp_region_quiet (C := St w0 H.flatten) hm hB (hw.drawn _) (by simpa using h a hf)
theorem WC.seq {x y : Code} (h : WC P n w0 x (Exit.then (y.wp P Q) Q) ds fr H) : WC P n w0 (.seq x y) Q ds fr H := fun a w hf hw => wp_seq (h a w hf hw)
theorem WC.skip (h : WE n w0 .normal Q ds fr H) : WC P n w0 .skip Q ds fr H := fun a w hf hw => wp_skip (h a w hf hw)
theorem WC.exit {id : Nat} (h : WE n w0 (.exit id) Q ds fr H) : WC P n w0 (.exit id) Q ds fr H := fun a w hf hw => wp_exit (h a w hf hw)
theorem WC.ret (h : WE n w0 .ret Q ds fr H) : WC P n w0 .ret Q ds fr H := fun a w hf hw => wp_ret (h a w hf hw)
theorem WC.block {id : Nat} {c : Code} (h : WC P n w0 c (Exit.inBlock id Q) ds fr H) : WC P n w0 (.block id c) Q ds fr H := fun a w hf hw => wp_block (h a w hf hw)
theorem WC.cond {c : Operand} {x y : Code} {b : Bool} (hc : ev fr c = some (.bool b)) (ht : b = true → WC P n w0 x Q ds fr H) (hf : b = false → WC P n w0 y Q ds fr H) : WC P n w0 (.cond c x y) Q ds fr H :=
  fun a w hfit hw => wp_cond_split (hfit.eval hc) (fun h => ht h a w hfit hw) (fun h => hf h a w hfit hw)

theorem WC.cond_t {c : Operand} {x y : Code} (hc : ev fr c = some (.bool true)) (h : WC P n w0 x Q ds fr H) : WC P n w0 (.cond c x y) Q ds fr H :=
  fun a w hfit hw => wp_cond_true (hfit.eval hc) (h a w hfit hw)
theorem WC.cond_f {c : Operand} {x y : Code} (hc : ev fr c = some (.bool false)) (h : WC P n w0 y Q ds fr H) : WC P n w0 (.cond c x y) Q ds fr H :=
  fun a w hfit hw => wp_cond_false (hfit.eval hc) (h a w hfit hw)

/-! ### Exits -/
theorem WE.then_normal {y : Code} (h : WC P n w0 y Q ds fr H) : WE n w0 .normal (Exit.then (y.wp P Q) Q) ds fr H := h
theorem WE.then_exit {k : Act → World → Prop} {id : Nat} (h : WE n w0 (.exit id) Q ds fr H) : WE n w0 (.exit id) (Exit.then k Q) ds fr H := h
theorem WE.then_ret {k : Act → World → Prop} (h : WE n w0 .ret Q ds fr H) : WE n w0 .ret (Exit.then k Q) ds fr H := h
theorem WE.block_normal {id : Nat} (h : WE n w0 .normal Q ds fr H) : WE n w0 .normal (Exit.inBlock id Q) ds fr H := h
theorem WE.block_ret {id : Nat} (h : WE n w0 .ret Q ds fr H) : WE n w0 .ret (Exit.inBlock id Q) ds fr H := h
theorem WE.block_same {id : Nat} (h : WE n w0 .normal Q ds fr H) : WE n w0 (.exit id) (Exit.inBlock id Q) ds fr H := fun a w hf hw => by
  show (if id = id then Q .normal a w else Q (.exit id) a w)
  rw [if_pos rfl]; exact h a w hf hw
theorem WE.block_other {id id' : Nat} (hne : Nat.beq id' id = false) (h : WE n w0 (.exit id') Q ds fr H) : WE n w0 (.exit id') (Exit.inBlock id Q) ds fr H := fun a w hf hw => by
  show (if id' = id then Q .normal a w else Q (.exit id') a w)
  rw [if_neg (fun e => by subst e; simp at hne)]; exact h a w hf hw

/-! ### Meeting again, loops -/
/-- The ways through 'x' meet: at 'i' the frame is 'F i', the blocks 'G i'. -/
def Meet {ι : Type} (n : Nat) (w0 : World) (ds : List Deferred) (F : ι → Fr) (G : ι → List Hp) (p : ι → Prop) : Act → World → Prop :=
  fun a w => ∃ i, p i ∧ Fits n ds (F i) a ∧ St w0 (G i).flatten w

theorem WC.cut {ι : Type} (F : ι → Fr) (G : ι → List Hp) (p : ι → Prop) {x y : Code} (h1 : WC P n w0 x (Exit.then (Meet n w0 ds F G p) Q) ds fr H) (h2 : ∀ i, p i → WC P n w0 y Q ds (F i) (G i)) : WC P n w0 (.seq x y) Q ds fr H :=
  fun a w hf hw => wp_seq (Code.wp_mono (fun e a' w' h => by
    cases e <;> try exact h
    obtain ⟨i, hp, hf', hw'⟩ := h
    exact h2 i hp a' w' hf' hw') (h1 a w hf hw))

theorem WE.meet {ι : Type} {F : ι → Fr} {G : ι → List Hp} {p : ι → Prop} (i : ι) (hp : p i) (hF : Sub (F i) fr) (hG : H.flatten.Perm (G i).flatten) : WE n w0 .normal (Exit.then (Meet n w0 ds F G p) Q) ds fr H :=
  fun _ _ hf hw => ⟨i, hp, hf.sub hF, hw.perm hG⟩

/-- as Meet, and a measure has gone down -/
def Again {ι : Type} (n : Nat) (w0 : World) (ds : List Deferred) (F : ι → Fr) (G : ι → List Hp) (p : ι → Prop) (μ : ι → Nat) (m : Nat) : Act → World → Prop :=
  fun a w => ∃ i, p i ∧ μ i < m ∧ Fits n ds (F i) a ∧ St w0 (G i).flatten w

theorem WC.loop {ι : Type} (F : ι → Fr) (G : ι → List Hp) (p : ι → Prop) (μ : ι → Nat) {c : Code} (i0 : ι) (h0 : p i0) (hF : Sub (F i0) fr) (hG : H.flatten.Perm (G i0).flatten)
    (h : ∀ i, p i → WC P n w0 c (Exit.then (Again n w0 ds F G p μ (μ i)) Q) ds (F i) (G i)) : WC P n w0 (.loop c) Q ds fr H := by
  intro a w hf hw b k cs
  have key : ∀ m i a w, μ i = m → p i → Fits n ds (F i) a → St w0 (G i).flatten w →
      ∃ e a' w', Q e a' w' ∧ Arrives P (lone (b.at a (.code c :: .inLoop c :: k)) cs w) b k cs e a' w' := by
    intro m
    induction m using Nat.strongRecOn with
    | _ m ih =>
      intro i a w hm hp hf hw
      obtain ⟨e, a₁, w₁, hq, harr⟩ := h i hp a w hf hw b (.inLoop c :: k) cs
      cases e with
      | normal =>
        obtain ⟨i', hp', hlt, hf', hw'⟩ := hq
        obtain ⟨e₂, a₂, w₂, hq₂, harr₂⟩ := ih (μ i') (hm ▸ hlt) i' a₁ w₁ rfl hp' hf' hw'
        exact ⟨e₂, a₂, w₂, hq₂, .of_steps (Steps.trans harr (.one step_inLoop)) harr₂⟩
      | exit id => exact ⟨_, a₁, w₁, hq, .pass (x := .inLoop c) rfl (fun _ _ => .inl (by simp)) harr⟩
      | goto l => exact ⟨_, a₁, w₁, hq, .pass (x := .inLoop c) rfl (fun _ _ => .inl (by simp)) harr⟩
      | ret => exact ⟨_, a₁, w₁, hq, .pass (x := .inLoop c) rfl (fun _ _ => .inl (by simp)) harr⟩
      | panic ch => exact ⟨_, a₁, w₁, hq, .pass (x := .inLoop c) rfl (fun _ _ => .inl (by simp)) harr⟩
      | outgrown => exact ⟨_, a₁, w₁, hq, .pass (x := .inLoop c) rfl (fun _ _ => .inl (by simp)) harr⟩
  obtain ⟨e, a', w', hq, harr⟩ := key _ i0 a w rfl h0 (hf.sub hF) (hw.perm hG)
  exact ⟨e, a', w', hq, .of_steps (.one step_loop) harr⟩

theorem WE.again {ι : Type} {F : ι → Fr} {G : ι → List Hp} {p : ι → Prop} {μ : ι → Nat} {m : Nat} (i : ι) (hp : p i) (hm : μ i < m) (hF : Sub (F i) fr) (hG : H.flatten.Perm (G i).flatten) : WE n w0 .normal (Exit.then (Again n w0 ds F G p μ m) Q) ds fr H :=
  fun _ _ hf hw => ⟨i, hp, hm, hf.sub hF, hw.perm hG⟩

/-! ### The end of a function -/
theorem WE.body {fn : Func} {R : Ending → World → Prop} {e : Exit} (he : e = .ret ∨ e = .normal) {v : Value}
    (hres : ∀ a w, Fits n [] fr a → St w0 H.flatten w → (results fn a.tmps).run P w = .ok v w) (hR : ∀ w, St w0 H.flatten w → R (.returned v) w) : WE n w0 e (bodyPost P fn R) [] fr H := by
  intro a w hf hw
  rcases he with rfl | rfl
  · exact ⟨hf.defers, v, hres a w hf hw, hR w hw⟩
  · exact ⟨hf.defers, v, hres a w hf hw, hR w hw⟩

theorem res1 {fn : Func} {t : Nat} {v : Value} (hr : fn.results = #[.tmp t]) (hv : gt fr t = some v) : ∀ a w, Fits n ds fr a → St w0 H.flatten w → (results fn a.tmps).run P w = .ok v w := by
  intro a w hf _
  rw [results_tmp hr]
  rw [Array.getD_eq_getD_getElem?, hf.get t v hv]; rfl
theorem res0 {fn : Func} (hr : fn.results = #[]) : ∀ a w, Fits n ds fr a → St w0 H.flatten w → (results fn a.tmps).run P w = .ok (.tuple #[]) w := by
  intro a w _ _
  exact results_none hr _ _ _
theorem res2 {fn : Func} {t u : Nat} {v x : Value} (hr : fn.results = #[.tmp t, .tmp u]) (hv : gt fr t = some v) (hx : gt fr u = some x) : ∀ a w, Fits n ds fr a → St w0 H.flatten w → (results fn a.tmps).run P w = .ok (.tuple #[v, x]) w := by
  intro a w hf _
  rw [results_tmp2 hr]
  rw [Array.getD_eq_getD_getElem?, hf.get t v hv, Array.getD_eq_getD_getElem?, hf.get u x hx]; rfl
theorem res3 {fn : Func} {t u s : Nat} {v x y : Value} (hr : fn.results = #[.tmp t, .tmp u, .tmp s]) (hv : gt fr t = some v) (hx : gt fr u = some x) (hy : gt fr s = some y) : ∀ a w, Fits n ds fr a → St w0 H.flatten w → (results fn a.tmps).run P w = .ok (.tuple #[v, x, y]) w := by
  intro a w hf _
  simp [results, hr, hf.get t v hv, hf.get u x hx, hf.get s y hy]

/-! ### Contracts and calls -/
/-- The blocks of H are there, each with what it says. -/
structure Has (H : Hp) (w : World) : Prop where
  now : ∀ b o, (b, o) ∈ H → w.heap[b]? = some o
  nodup : (H.map Prod.fst).Nodup
theorem Has.st {H : Hp} {w : World} (h : Has H w) : St w H w := ⟨rfl, rfl, rfl, Nat.le_refl _, fun _ _ _ => rfl, h.now, h.nodup⟩
theorem Has.nil (w : World) : Has [] w := ⟨fun _ _ h => (by cases h), List.nodup_nil⟩
theorem St.has {w0 w : World} {H R : Hp} (h : St w0 (H ++ R) w) : Has H w :=
  ⟨fun b o hb => h.now b o (List.mem_append_left _ hb), by have := h.nodup; rw [List.map_append] at this; exact (List.nodup_append.1 this).1⟩

/-- A function that only computes. -/
def Fn0 (P : Program) (f : FuncId) (args : List Value) (v : Value) : Prop :=
  ∀ w, Calls P f args.toArray w fun e w' => e = .returned v ∧ St w [] w'
/-- A function that only computes, and reads the blocks of H. -/
def FnR (P : Program) (f : FuncId) (args : List Value) (H : Hp) (v : Value) : Prop :=
  ∀ w, Has H w → Calls P f args.toArray w fun e w' => e = .returned v ∧ St w H w'
/-- The blocks of 'H' are there at the call; behind it 'R' holds of the result, of what they hold then, and of new blocks. -/
def FnN (P : Program) (f : FuncId) (args : List Value) (H : Hp) (R : Value → Hp → Hp → Prop) : Prop :=
  ∀ w, Has H w → Calls P f args.toArray w fun e w' => ∃ v H1 N, e = .returned v ∧ R v H1 N ∧ H1.map Prod.fst = H.map Prod.fst ∧ (∀ b o, (b, o) ∈ N → w.heap.size ≤ b) ∧ St w (N ++ H1) w'

theorem Fn0.enter {f : FuncId} {fn : Func} {c : Code} {args : List Value} {v : Value} {n : Nat} (hf : P.funcs[f]? = some fn) (hb : fn.body = some c) (hn : args.length + (fn.ntmps - args.length) = n)
    (h : ∀ w0, WC P n w0 c (bodyPost P fn fun e w' => e = .returned v ∧ St w0 [] w') [] (args.zipIdx.map fun (v, i) => (i, v)) []) : Fn0 P f args v := by
  intro w
  refine calls_of_wp hf hb (h w _ w ⟨by simp [hn], rfl, fun k u hk => ?_⟩ (St.refl w))
  have key : ∀ (l : List Value) (s : Nat) (rest : List Value), gt ((l.zipIdx s).map fun (v, i) => (i, v)) k = some u → (∃ j, k = s + j ∧ l[j]? = some u) := by
    intro l
    induction l with
    | nil => intro s rest hk; cases hk
    | cons x l ih =>
      intro s rest hk
      simp only [List.zipIdx_cons, List.map_cons] at hk
      rw [gt_cons] at hk
      by_cases e : s = k
      · rw [if_pos e] at hk
        exact ⟨0, by omega, by simpa using hk⟩
      · rw [if_neg e] at hk
        obtain ⟨j, hj, hl⟩ := ih (s + 1) rest hk
        exact ⟨j + 1, by omega, by simpa using hl⟩
  obtain ⟨j, hj, hl⟩ := key args 0 [] hk
  rw [Nat.zero_add] at hj
  subst hj
  have hlt : k < args.length := (List.getElem?_eq_some_iff.1 hl).1
  rw [Array.getElem?_append_left (by simpa using hlt)]
  simpa using hl

theorem args_fit {args : List Value} {m n : Nat} (hn : args.length + (m - args.length) = n) : Fits n [] (args.zipIdx.map fun (v, i) => (i, v)) { tmps := args.toArray ++ Array.replicate (m - args.toArray.size) undef, defers := [] } := by
  refine ⟨by simp [hn], rfl, fun k u hk => ?_⟩
  have key : ∀ (l : List Value) (s : Nat), gt ((l.zipIdx s).map fun (v, i) => (i, v)) k = some u → (∃ j, k = s + j ∧ l[j]? = some u) := by
    intro l
    induction l with
    | nil => intro s hk; cases hk
    | cons x l ih =>
      intro s hk
      simp only [List.zipIdx_cons, List.map_cons] at hk
      rw [gt_cons] at hk
      by_cases e : s = k
      · rw [if_pos e] at hk
        exact ⟨0, by omega, by simpa using hk⟩
      · rw [if_neg e] at hk
        obtain ⟨j, hj, hl⟩ := ih (s + 1) hk
        exact ⟨j + 1, by omega, by simpa using hl⟩
  obtain ⟨j, hj, hl⟩ := key args 0 hk
  rw [Nat.zero_add] at hj
  subst hj
  have hlt : k < args.length := (List.getElem?_eq_some_iff.1 hl).1
  show (args.toArray ++ _)[k]? = _
  rw [Array.getElem?_append_left (by simpa using hlt)]
  simpa using hl

theorem FnR.enter {f : FuncId} {fn : Func} {c : Code} {args : List Value} {Hr : Hp} {v : Value} {n : Nat} (hf : P.funcs[f]? = some fn) (hb : fn.body = some c) (hn : args.length + (fn.ntmps - args.length) = n)
    (h : ∀ w0, WC P n w0 c (bodyPost P fn fun e w' => e = .returned v ∧ St w0 Hr w') [] (args.zipIdx.map fun (v, i) => (i, v)) [Hr]) : FnR P f args Hr v := by
  intro w hw
  exact calls_of_wp hf hb (h w _ w (args_fit hn) (by simpa using hw.st))

theorem FnN.enter {f : FuncId} {fn : Func} {c : Code} {args : List Value} {Hr : Hp} {R : Value → Hp → Hp → Prop} {n : Nat} (hf : P.funcs[f]? = some fn) (hb : fn.body = some c) (hn : args.length + (fn.ntmps - args.length) = n)
    (h : ∀ w0, WC P n w0 c (bodyPost P fn fun e w' => ∃ v H1 N, e = .returned v ∧ R v H1 N ∧ H1.map Prod.fst = Hr.map Prod.fst ∧ (∀ b o, (b, o) ∈ N → w0.heap.size ≤ b) ∧ St w0 (N ++ H1) w') [] (args.zipIdx.map fun (v, i) => (i, v)) [Hr]) : FnN P f args Hr R := by
  intro w hw
  exact calls_of_wp hf hb (h w _ w (args_fit hn) (by simpa using hw.st))

/-- The ends. -/
theorem WE.end0 {fn : Func} {e : Exit} {v v' : Value} (he : e = .ret ∨ e = .normal) (hres : ∀ a w, Fits n [] fr a → St w0 ([] : List Hp).flatten w → (results fn a.tmps).run P w = .ok v w) (hv : v = v') :
    WE n w0 e (bodyPost P fn fun e w' => e = .returned v' ∧ St w0 [] w') [] fr [] :=
  WE.body he hres fun _ hw => ⟨by rw [hv], hw⟩
theorem WE.endR {fn : Func} {e : Exit} {v v' : Value} {Hr : Hp} (he : e = .ret ∨ e = .normal) (hres : ∀ a w, Fits n [] fr a → St w0 ([Hr] : List Hp).flatten w → (results fn a.tmps).run P w = .ok v w) (hv : v = v') :
    WE n w0 e (bodyPost P fn fun e w' => e = .returned v' ∧ St w0 Hr w') [] fr [Hr] :=
  WE.body he hres fun _ hw => ⟨by rw [hv], by simpa using hw⟩
theorem WE.endN {fn : Func} {e : Exit} {v : Value} {R : Value → Hp → Hp → Prop} {Hr H1 N : Hp} (he : e = .ret ∨ e = .normal) (hres : ∀ a w, Fits n [] fr a → St w0 ([N, H1] : List Hp).flatten w → (results fn a.tmps).run P w = .ok v w) (hR : R v H1 N) (hids : H1.map Prod.fst = Hr.map Prod.fst) (hN : ∀ b o, (b, o) ∈ N → w0.heap.size ≤ b) :
    WE n w0 e (bodyPost P fn fun e w' => ∃ v H1 N, e = .returned v ∧ R v H1 N ∧ H1.map Prod.fst = Hr.map Prod.fst ∧ (∀ b o, (b, o) ∈ N → w0.heap.size ≤ b) ∧ St w0 (N ++ H1) w') [] fr [N, H1] :=
  WE.body he hres fun _ hw => ⟨_, _, _, rfl, hR, hids, hN, by simpa using hw⟩
end
end Go.Proofs.YtodlhaghdplclaaDoor.V
