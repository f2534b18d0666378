/- Steps: what each operation does to the list. -/
import Derived.Test.YtclafiglpcjhdaaGreatS3
import Derived.Test.YtclafiglpcjhdaaGreatS4
namespace Go.Proofs.YtclafiglpcjhdaaGreat
open Go Go.RowKit V S0 S1 S2 S3 S4
set_option linter.unusedSimpArgs false
set_option linter.unusedVariables false
set_option maxRecDepth 10000
namespace S5

def PDn : Nat → TypeId
  | 0 => 201
  | 1 => 204
  | 2 => 207
  | 3 => 210
  | _ => 213
def TDn : Nat → TypeId
  | 0 => 219
  | 1 => 227
  | 2 => 234
  | 3 => 241
  | _ => 248
def MFn : Nat → TypeId
  | 0 => 217
  | 1 => 225
  | 2 => 232
  | 3 => 239
  | _ => 246
def TSn : Nat → TypeId
  | 0 => 203
  | 1 => 206
  | 2 => 209
  | 3 => 212
  | _ => 215
def fAdd : Nat → FuncId
  | 0 => 42
  | 1 => 57
  | 2 => 72
  | 3 => 87
  | _ => 102
def fInsert : Nat → FuncId
  | 0 => 44
  | 1 => 59
  | 2 => 74
  | 3 => 89
  | _ => 104
def fSwap : Nat → FuncId
  | 0 => 46
  | 1 => 61
  | 2 => 76
  | 3 => 91
  | _ => 106
def fRemove : Nat → FuncId
  | 0 => 48
  | 1 => 63
  | 2 => 78
  | 3 => 93
  | _ => 108
def fClear : Nat → FuncId
  | 0 => 49
  | 1 => 64
  | 2 => 79
  | 3 => 94
  | _ => 109
def fGet : Nat → FuncId
  | 0 => 52
  | 1 => 67
  | 2 => 82
  | 3 => 97
  | _ => 112
def fList : Nat → FuncId
  | 0 => 50
  | 1 => 65
  | 2 => 80
  | 3 => 95
  | _ => 110

theorem _root_.Go.Proofs.YtclafiglpcjhdaaGreat.V.FnW.frame {P : Program} {f : FuncId} {args : List Value} {base : Nat} {Hs : List Hp} {R : Value → List Hp → Prop} (h : FnW P f args base Hs R) (X : Hp) : FnW P f args base (Hs ++ [X]) (fun v Hs' => ∃ Hs1, R v Hs1 ∧ Hs' = Hs1 ++ [X]) :=
  fun w0 R0 w hb hw => (h w0 (X ++ R0) w hb (by simpa using hw)).mono fun _ _ ⟨v, Hs1, h1, h2, h3⟩ => ⟨v, Hs1 ++ [X], h1, ⟨Hs1, h2, rfl⟩, by simpa using h3⟩
def scells (i : Nat) (h t nr : Value) : Array Value := match i with
  | 1 => #[h, t, nr]
  | _ => #[h, t]
/-- the blocks of a step -/
def stg (i sb : Nat) (nr : Value) (l : List Nd) : Hp := [(sb, .cells (scells i (hdp l) (lastp l) nr) (TSn i) (0, 0))] ++ ch (PDn i) (TDn i) (MFn i) l .nilIface
def putE (aft : Bool) (y : Nd) (l : List Nd) : List Nd := if aft then l ++ [y] else y :: l
def insL (by_ : List UInt8) (aft : Bool) (y : Nd) : List Nd → Option (List Nd)
  | [] => none
  | x :: r => if x.id = by_ then some (if aft then x :: y :: r else y :: x :: r) else (insL by_ aft y r).map (x :: ·)
def swpL (by_ id : List UInt8) (fv : Value) : List Nd → Option (List Nd)
  | [] => none
  | x :: r => if x.id = by_ then some (⟨x.b, id, fv⟩ :: r) else (swpL by_ id fv r).map (x :: ·)
def remL (id : List UInt8) : List Nd → Option (List Nd)
  | [] => none
  | x :: r => if x.id = id then some r else (remL id r).map (x :: ·)
theorem insL_hit (aft : Bool) (y x : Nd) (B : List Nd) : ∀ (A : List Nd), (∀ z ∈ A, z.id ≠ x.id) → insL x.id aft y (A ++ x :: B) = some (A ++ (if aft then x :: y :: B else y :: x :: B))
  | [], _ => by show (if x.id = x.id then _ else _) = _; rw [if_pos rfl]; rfl
  | a :: r, h => by
    show (if a.id = x.id then _ else (insL x.id aft y (r ++ x :: B)).map _) = _
    rw [if_neg (h a List.mem_cons_self), insL_hit aft y x B r (fun z hz => h z (List.mem_cons_of_mem _ hz))]; rfl
theorem insL_miss (by_ : List UInt8) (aft : Bool) (y : Nd) : ∀ (l : List Nd), (∀ z ∈ l, z.id ≠ by_) → insL by_ aft y l = none
  | [], _ => rfl
  | a :: r, h => by
    show (if a.id = by_ then _ else _) = _
    rw [if_neg (h a List.mem_cons_self), insL_miss by_ aft y r (fun z hz => h z (List.mem_cons_of_mem _ hz))]; rfl
theorem swpL_hit (id : List UInt8) (fv : Value) (x : Nd) (B : List Nd) : ∀ (A : List Nd), (∀ z ∈ A, z.id ≠ x.id) → swpL x.id id fv (A ++ x :: B) = some (A ++ ⟨x.b, id, fv⟩ :: B)
  | [], _ => by show (if x.id = x.id then _ else _) = _; rw [if_pos rfl]; rfl
  | a :: r, h => by
    show (if a.id = x.id then _ else (swpL x.id id fv (r ++ x :: B)).map _) = _
    rw [if_neg (h a List.mem_cons_self), swpL_hit id fv x B r (fun z hz => h z (List.mem_cons_of_mem _ hz))]; rfl
theorem swpL_miss (by_ id : List UInt8) (fv : Value) : ∀ (l : List Nd), (∀ z ∈ l, z.id ≠ by_) → swpL by_ id fv l = none
  | [], _ => rfl
  | a :: r, h => by
    show (if a.id = by_ then _ else _) = _
    rw [if_neg (h a List.mem_cons_self), swpL_miss by_ id fv r (fun z hz => h z (List.mem_cons_of_mem _ hz))]; rfl
theorem remL_hit (x : Nd) (B : List Nd) : ∀ (A : List Nd), (∀ z ∈ A, z.id ≠ x.id) → remL x.id (A ++ x :: B) = some (A ++ B)
  | [], _ => by show (if x.id = x.id then _ else _) = _; rw [if_pos rfl]; rfl
  | a :: r, h => by
    show (if a.id = x.id then _ else (remL x.id (r ++ x :: B)).map _) = _
    rw [if_neg (h a List.mem_cons_self), remL_hit x B r (fun z hz => h z (List.mem_cons_of_mem _ hz))]; rfl
theorem remL_miss (id : List UInt8) : ∀ (l : List Nd), (∀ z ∈ l, z.id ≠ id) → remL id l = none
  | [], _ => rfl
  | a :: r, h => by
    show (if a.id = id then _ else _) = _
    rw [if_neg (h a List.mem_cons_self), remL_miss id r (fun z hz => h z (List.mem_cons_of_mem _ hz))]; rfl
theorem nd_ends (l : List Nd) : l = [] ∨ ∃ A x, l = A ++ [x] := by
  rcases List.eq_nil_or_concat l with h | ⟨A, x, h⟩
  · exact .inl h
  · exact .inr ⟨A, x, by simpa using h⟩
theorem posOf (aft : Bool) : (if aft then 0 else 1 : Int) = 0 ∧ aft = true ∨ (if aft then 0 else 1 : Int) = 1 ∧ aft = false := by cases aft <;> simp
/-- what a step's operation answers: a list, or an error and the list as it was -/
def OpR (i sb : Nat) (nr : Value) (l : List Nd) (r : Option (List Nd)) (v : Value) (Hs : List Hp) : Prop := match r with
  | some m => v = .nilIface ∧ Hs = [stg i sb nr m]
  | none => (∃ k u, v = .iface k u) ∧ Hs = [stg i sb nr l]
def OpT (i sb : Nat) (nr : Value) (l : List Nd) (r : Option (List Nd)) (v : Value) (Hs : List Hp) : Prop := match r with
  | some m => (∃ o, v = .tuple #[o, .nilIface]) ∧ Hs = [stg i sb nr m]
  | none => (∃ k u, v = .tuple #[.nilIface, .iface k u]) ∧ Hs = [stg i sb nr l]
theorem rp {P : Program} {f : FuncId} {args : List Value} {base i sb : Nat} {nr : Value} {l m : List Nd} {S1 C1 S2 C2 : Hp} {R : Value → List Hp → Prop} {Q : Value → Prop}
    (h : FnW P f args base [S1, C1] (fun v Hs => Q v ∧ Hs.flatten.Perm ([S2, C2] : List Hp).flatten)) (h1 : S1 ++ C1 = stg i sb nr l) (h2 : S2 ++ C2 = stg i sb nr m) (hr : ∀ v, Q v → R v [stg i sb nr m]) : FnW P f args base [stg i sb nr l] R :=
  h.reg (by rw [← h1]; simp) (fun v Hs hh => ⟨_, hr v hh.1, by rw [← h2]; simpa using hh.2⟩)
theorem rpe {P : Program} {f : FuncId} {args : List Value} {base i sb : Nat} {nr : Value} {l : List Nd} {A : List Nd → Hp} {C : List Nd → Hp} {S1 C1 : Hp} {new : Nat → List Nd} {R : Value → List Hp → Prop} {Q : Value → Prop}
    (h : FnW P f args base [S1, C1] (fun v Hs => Q v ∧ ∃ e, base ≤ e ∧ Hs.flatten.Perm ([A (new e), C (new e)] : List Hp).flatten)) (h1 : S1 ++ C1 = stg i sb nr l) (h2 : ∀ m, A m ++ C m = stg i sb nr m) (hr : ∀ v e, base ≤ e → Q v → R v [stg i sb nr (new e)]) : FnW P f args base [stg i sb nr l] R :=
  h.reg (by rw [← h1]; simp) (fun v Hs hh => by obtain ⟨hq, e, he, hp⟩ := hh; exact ⟨_, hr v e he hq, by rw [← h2]; simpa using hp⟩)
theorem rpq {P : Program} {f : FuncId} {args : List Value} {base i sb : Nat} {nr : Value} {l : List Nd} {S1 C1 : Hp} {R : Value → List Hp → Prop} {Q : Value → Prop}
    (h : FnW P f args base [S1, C1] (fun v Hs => Q v ∧ Hs = [S1, C1])) (h1 : S1 ++ C1 = stg i sb nr l) (hr : ∀ v, Q v → R v [stg i sb nr l]) : FnW P f args base [stg i sb nr l] R :=
  h.reg (by rw [← h1]; simp) (fun v Hs hh => ⟨_, hr v hh.1, by rw [← h1, hh.2]; simp⟩)
theorem rpo {P : Program} {f : FuncId} {args : List Value} {base i sb : Nat} {nr : Value} {l m : List Nd} {S1 C1 S2 C2 : Hp} {R : Value → List Hp → Prop} {v0 : Value}
    (h : FnW P f args base [S1, C1] (fun v Hs => v = v0 ∧ Hs.flatten.Perm ([S2, C2] : List Hp).flatten)) (h1 : S1 ++ C1 = stg i sb nr l) (h2 : S2 ++ C2 = stg i sb nr m) (hr : R v0 [stg i sb nr m]) : FnW P f args base [stg i sb nr l] R :=
  rp h h1 h2 (fun v hv => hv ▸ hr)

theorem addU0 (base sb : Nat) (nr : Value) (id : List UInt8) (fv : Value) (aft : Bool) (l : List Nd) : FnW Tryz.prog 42 [Pt sb 0, .iface 217 (.agg #[S id, fv]), I (if aft then 0 else 1)] base [stg 0 sb nr (l)] (fun v Hs => ∃ e, base ≤ e ∧ OpR 0 sb nr l (some (putE aft ⟨e, id, fv⟩ l)) v Hs) := by
  cases l with
  | nil =>
    refine (addN0 base sb id fv _).reg (List.Perm.refl _) ?_
    rintro v Hs ⟨rfl, e, he, rfl⟩
    exact ⟨_, ⟨e, he, rfl, rfl⟩, by cases aft <;> exact List.Perm.refl _⟩
  | cons x r =>
    cases aft with
    | false =>
      refine ((addB0 base sb x.b (lastp (x :: r)) id fv).frame (ch 201 219 217 (x :: r) .nilIface)).reg (List.Perm.refl _) ?_
      rintro v Hs ⟨Hs1, ⟨rfl, e, he, rfl⟩, rfl⟩
      exact ⟨_, ⟨e, he, rfl, rfl⟩, List.Perm.refl _⟩
    | true =>
      obtain h | ⟨A', y, h⟩ := nd_ends (x :: r)
      · cases h
      · have hl : lastp (x :: r) = Pt y.b 0 := by rw [h, lastp_snoc]
        have hx : hdp (A' ++ [y]) = Pt x.b 0 := by rw [← h]; rfl
        refine ((addA0 base sb x.b y.b (wv 217 y) id fv).frame (ch 201 219 217 A' (.iface 201 (Pt y.b 0)))).reg ?_ ?_
        · show (stg 0 sb nr (x :: r) ++ []).Perm _
          unfold stg
          rw [hl, h, ch_app, hx]
          show ([(sb, _)] ++ (_ ++ [_]) ++ []).Perm ([(sb, _)] ++ ([_] ++ (_ ++ [])))
          rw [List.append_nil, List.append_nil]
          exact List.perm_append_comm.append_left _
        · rintro v Hs ⟨Hs1, ⟨rfl, e, he, rfl⟩, rfl⟩
          refine ⟨_, ⟨e, he, rfl, rfl⟩, ?_⟩
          show List.Perm _ (stg 0 sb nr ((x :: r) ++ [Nd.mk e id fv]) ++ [])
          have hh2 : hdp ((x :: r) ++ [Nd.mk e id fv]) = Pt x.b 0 := rfl
          unfold stg
          rw [hh2, lastp_snoc, h, ch_app, ch_app]
          show List.Perm ([(sb, _)] ++ ([_] ++ ([_] ++ (_ ++ [])))) ([(sb, _)] ++ ((_ ++ [_]) ++ [_]) ++ [])
          rw [List.append_nil, List.append_nil]
          refine List.Perm.append_left _ ?_
          rw [← List.append_assoc]
          exact List.perm_append_comm.trans (.of_eq (by rw [List.append_assoc]; rfl))

theorem insU0 (base sb : Nat) (nr : Value) (id : List UInt8) (fv : Value) (by_ : List UInt8) (aft : Bool) (l : List Nd) : FnW Tryz.prog 44 [Pt sb 0, .iface 217 (.agg #[S id, fv]), S by_, I (if aft then 0 else 1)] base [stg 0 sb nr (l)] (fun v Hs => ∃ e, base ≤ e ∧ OpR 0 sb nr l (insL by_ aft ⟨e, id, fv⟩ l) v Hs) := by
  rcases nd_split by_ l with ⟨A0, x, B, rfl, rfl, hA⟩ | hn
  · cases aft with
    | false =>
      obtain rfl | ⟨A2, p, rfl⟩ := nd_ends A0
      · exact rpe (A := fun m => [(sb, .cells #[(hdp m), (lastp m)] 203 (0, 0))]) (C := fun m => ch 201 219 217 m .nilIface) (insF0 base sb x _ id fv B rfl) rfl (fun _ => rfl) (fun v e he hv => ⟨e, he, by rw [insL_hit false _ x _ _ hA]; exact ⟨hv, rfl⟩⟩)
      · refine rpe (A := fun m => [(sb, .cells #[(hdp m), (lastp m)] 203 (0, 0))]) (C := fun m => ch 201 219 217 m .nilIface) (insM0 base sb x _ id fv A2 B p rfl hA) rfl (fun _ => rfl) (fun v e he hv => ⟨e, he, by rw [insL_hit false _ x _ _ hA]; exact ⟨hv, by simp⟩⟩)
    | true =>
      cases B with
      | nil => exact rpe (A := fun m => [(sb, .cells #[(hdp m), (lastp m)] 203 (0, 0))]) (C := fun m => ch 201 219 217 m .nilIface) (insE0 base sb x _ id fv A0 rfl hA) rfl (fun _ => rfl) (fun v e he hv => ⟨e, he, by rw [insL_hit true _ x _ _ hA]; exact ⟨hv, rfl⟩⟩)
      | cons y B => exact rpe (A := fun m => [(sb, .cells #[(hdp m), (lastp m)] 203 (0, 0))]) (C := fun m => ch 201 219 217 m .nilIface) (insA0 base sb x _ id fv A0 B y rfl hA) rfl (fun _ => rfl) (fun v e he hv => ⟨e, he, by rw [insL_hit true _ x _ _ hA]; exact ⟨hv, rfl⟩⟩)
  · exact rpq (insN0 base sb id by_ fv l hn _) rfl (fun v hv => ⟨base, Nat.le_refl _, by rw [insL_miss _ _ _ _ hn]; exact ⟨hv, rfl⟩⟩)

theorem swpU0 (base sb : Nat) (nr : Value) (id : List UInt8) (fv : Value) (by_ : List UInt8) (l : List Nd) : FnW Tryz.prog 46 [Pt sb 0, S by_, .iface 217 (.agg #[S id, fv])] base [stg 0 sb nr (l)] (OpT 0 sb nr l (swpL by_ id fv l)) := by
  rcases nd_split by_ l with ⟨A0, x, B, rfl, rfl, hA⟩ | hn
  · rw [swpL_hit id fv x B A0 hA]
    exact rpo (swapH0 base sb id fv A0 B x _ rfl hA) rfl rfl ⟨⟨_, rfl⟩, rfl⟩
  · rw [swpL_miss by_ id fv l hn]
    exact rpq (swapN0 base sb by_ _ l hn) rfl (fun v hv => ⟨hv, rfl⟩)
theorem remU0 (base sb : Nat) (nr : Value) (id : List UInt8) (l : List Nd) (hb : ∀ x ∈ l, base ≤ x.b) : FnW Tryz.prog 48 [Pt sb 0, S id] base [stg 0 sb nr (l)] (OpT 0 sb nr l (remL id l)) := by
  rcases nd_split id l with ⟨A0, x, B, rfl, rfl, hA⟩ | hn
  · rw [remL_hit x B A0 hA]
    have hbx : base ≤ x.b := hb x (by simp)
    obtain rfl | ⟨A2, p, rfl⟩ := nd_ends A0
    · cases B with
      | nil => exact rpo (remO0 base sb x _ hbx rfl) rfl rfl ⟨⟨_, rfl⟩, rfl⟩
      | cons y B2 =>
        obtain h | ⟨B3, z, h⟩ := nd_ends (y :: B2)
        · cases h
        · exact rpo (remF0 base sb x _ hbx y B2 B3 z rfl h) rfl rfl ⟨⟨_, rfl⟩, rfl⟩
    · obtain ⟨h0, rr, hA0⟩ : ∃ h0 rr, A2 ++ [p] = h0 :: rr := by cases A2 with | nil => exact ⟨_, _, rfl⟩ | cons a r => exact ⟨_, _, rfl⟩
      cases B with
      | nil => exact rpo (remL0 base sb x _ hbx h0 rr A2 p hA0 rfl hA) rfl rfl ⟨⟨_, rfl⟩, by simp⟩
      | cons y B2 =>
        obtain h | ⟨B3, z, h⟩ := nd_ends (y :: B2)
        · cases h
        · exact rpo (remM0 base sb x _ hbx y B2 B3 z h h0 rr A2 p hA0 rfl hA) rfl rfl ⟨⟨_, rfl⟩, by simp⟩
  · rw [remL_miss id l hn]
    exact rpq (remN0 base sb id l hn) rfl (fun v hv => ⟨hv, rfl⟩)
theorem clrU0 (base sb : Nat) (nr : Value) (l : List Nd) (hb : ∀ x ∈ l, base ≤ x.b) : FnW Tryz.prog 49 [Pt sb 0] base [stg 0 sb nr (l)] (fun v Hs => ∃ X, Hs = [stg 0 sb nr [], X] ∧ ∀ b o, (b, o) ∈ X → base ≤ b) := by
  refine ((Clear0 base sb (hdp l) (lastp l)).frame (ch 201 219 217 l .nilIface)).reg (List.Perm.refl _) ?_
  rintro v Hs ⟨Hs1, rfl, rfl⟩
  exact ⟨_, ⟨_, rfl, fun b o h => by
    have hm := List.mem_map_of_mem (f := Prod.fst) h
    rw [ch_ids] at hm
    obtain ⟨x, hx, rfl⟩ := List.mem_map.1 hm
    exact hb x hx⟩, List.Perm.refl _⟩
theorem getU0 (base sb : Nat) (nr : Value) (id : List UInt8) (l : List Nd) : FnW Tryz.prog 52 [Pt sb 0, S id] base [stg 0 sb nr (l)] (fun v Hs => (∃ o, v = .tuple #[o, .bool (decide (id ∈ l.map Nd.id))]) ∧ Hs = [stg 0 sb nr (l)]) := by
  rcases nd_split id l with ⟨A0, x, B, rfl, rfl, hA⟩ | hn
  · refine rpq (GetH0 base sb A0 B x _ rfl hA) rfl (fun v hv => ⟨⟨wv 217 x, ?_⟩, rfl⟩)
    rw [hv, decide_eq_true (by simp)]
  · refine rpq (GetM0 base sb id l hn) rfl (fun v hv => ⟨⟨.nilIface, ?_⟩, rfl⟩)
    rw [hv, decide_eq_false (fun h => by obtain ⟨x, hx, e⟩ := List.mem_map.1 h; exact hn x hx e)]
theorem lstU0 (sb : Nat) (nr : Value) (l : List Nd) (hl : l.length ≤ 100000) : FnA Tryz.prog 50 [Pt sb 0] (stg 0 sb nr (l)) (fun v N => OwS 0 9 1 v N l.length (strsV (l.map Nd.id))) := by
  cases l with
  | nil => exact listN0 sb
  | cons x r => exact listC0 sb (x :: r) x r rfl hl

theorem addU1 (base sb : Nat) (nr : Value) (id : List UInt8) (fv : Value) (aft : Bool) (l : List Nd) : FnW Tryz.prog 57 [Pt sb 0, .iface 225 (.agg #[S id, fv]), I (if aft then 0 else 1)] base [stg 1 sb nr (l)] (fun v Hs => ∃ e, base ≤ e ∧ OpR 1 sb nr l (some (putE aft ⟨e, id, fv⟩ l)) v Hs) := by
  cases l with
  | nil =>
    refine (addN1 base sb nr id fv _).reg (List.Perm.refl _) ?_
    rintro v Hs ⟨rfl, e, he, rfl⟩
    exact ⟨_, ⟨e, he, rfl, rfl⟩, by cases aft <;> exact List.Perm.refl _⟩
  | cons x r =>
    cases aft with
    | false =>
      refine ((addB1 base sb x.b nr (lastp (x :: r)) id fv).frame (ch 204 227 225 (x :: r) .nilIface)).reg (List.Perm.refl _) ?_
      rintro v Hs ⟨Hs1, ⟨rfl, e, he, rfl⟩, rfl⟩
      exact ⟨_, ⟨e, he, rfl, rfl⟩, List.Perm.refl _⟩
    | true =>
      obtain h | ⟨A', y, h⟩ := nd_ends (x :: r)
      · cases h
      · have hl : lastp (x :: r) = Pt y.b 0 := by rw [h, lastp_snoc]
        have hx : hdp (A' ++ [y]) = Pt x.b 0 := by rw [← h]; rfl
        refine ((addA1 base sb x.b y.b nr (wv 225 y) id fv).frame (ch 204 227 225 A' (.iface 204 (Pt y.b 0)))).reg ?_ ?_
        · show (stg 1 sb nr (x :: r) ++ []).Perm _
          unfold stg
          rw [hl, h, ch_app, hx]
          show ([(sb, _)] ++ (_ ++ [_]) ++ []).Perm ([(sb, _)] ++ ([_] ++ (_ ++ [])))
          rw [List.append_nil, List.append_nil]
          exact List.perm_append_comm.append_left _
        · rintro v Hs ⟨Hs1, ⟨rfl, e, he, rfl⟩, rfl⟩
          refine ⟨_, ⟨e, he, rfl, rfl⟩, ?_⟩
          show List.Perm _ (stg 1 sb nr ((x :: r) ++ [Nd.mk e id fv]) ++ [])
          have hh2 : hdp ((x :: r) ++ [Nd.mk e id fv]) = Pt x.b 0 := rfl
          unfold stg
          rw [hh2, lastp_snoc, h, ch_app, ch_app]
          show List.Perm ([(sb, _)] ++ ([_] ++ ([_] ++ (_ ++ [])))) ([(sb, _)] ++ ((_ ++ [_]) ++ [_]) ++ [])
          rw [List.append_nil, List.append_nil]
          refine List.Perm.append_left _ ?_
          rw [← List.append_assoc]
          exact List.perm_append_comm.trans (.of_eq (by rw [List.append_assoc]; rfl))

theorem insU1 (base sb : Nat) (nr : Value) (id : List UInt8) (fv : Value) (by_ : List UInt8) (aft : Bool) (l : List Nd) : FnW Tryz.prog 59 [Pt sb 0, .iface 225 (.agg #[S id, fv]), S by_, I (if aft then 0 else 1)] base [stg 1 sb nr (l)] (fun v Hs => ∃ e, base ≤ e ∧ OpR 1 sb nr l (insL by_ aft ⟨e, id, fv⟩ l) v Hs) := by
  rcases nd_split by_ l with ⟨A0, x, B, rfl, rfl, hA⟩ | hn
  · cases aft with
    | false =>
      obtain rfl | ⟨A2, p, rfl⟩ := nd_ends A0
      · exact rpe (A := fun m => [(sb, .cells #[(hdp m), (lastp m), nr] 206 (0, 0))]) (C := fun m => ch 204 227 225 m .nilIface) (insF1 base sb nr x _ id fv B rfl) rfl (fun _ => rfl) (fun v e he hv => ⟨e, he, by rw [insL_hit false _ x _ _ hA]; exact ⟨hv, rfl⟩⟩)
      · refine rpe (A := fun m => [(sb, .cells #[(hdp m), (lastp m), nr] 206 (0, 0))]) (C := fun m => ch 204 227 225 m .nilIface) (insM1 base sb nr x _ id fv A2 B p rfl hA) rfl (fun _ => rfl) (fun v e he hv => ⟨e, he, by rw [insL_hit false _ x _ _ hA]; exact ⟨hv, by simp⟩⟩)
    | true =>
      cases B with
      | nil => exact rpe (A := fun m => [(sb, .cells #[(hdp m), (lastp m), nr] 206 (0, 0))]) (C := fun m => ch 204 227 225 m .nilIface) (insE1 base sb nr x _ id fv A0 rfl hA) rfl (fun _ => rfl) (fun v e he hv => ⟨e, he, by rw [insL_hit true _ x _ _ hA]; exact ⟨hv, rfl⟩⟩)
      | cons y B => exact rpe (A := fun m => [(sb, .cells #[(hdp m), (lastp m), nr] 206 (0, 0))]) (C := fun m => ch 204 227 225 m .nilIface) (insA1 base sb nr x _ id fv A0 B y rfl hA) rfl (fun _ => rfl) (fun v e he hv => ⟨e, he, by rw [insL_hit true _ x _ _ hA]; exact ⟨hv, rfl⟩⟩)
  · exact rpq (insN1 base sb nr id by_ fv l hn _) rfl (fun v hv => ⟨base, Nat.le_refl _, by rw [insL_miss _ _ _ _ hn]; exact ⟨hv, rfl⟩⟩)

theorem swpU1 (base sb : Nat) (nr : Value) (id : List UInt8) (fv : Value) (by_ : List UInt8) (l : List Nd) : FnW Tryz.prog 61 [Pt sb 0, S by_, .iface 225 (.agg #[S id, fv])] base [stg 1 sb nr (l)] (OpT 1 sb nr l (swpL by_ id fv l)) := by
  rcases nd_split by_ l with ⟨A0, x, B, rfl, rfl, hA⟩ | hn
  · rw [swpL_hit id fv x B A0 hA]
    exact rpo (swapH1 base sb nr id fv A0 B x _ rfl hA) rfl rfl ⟨⟨_, rfl⟩, rfl⟩
  · rw [swpL_miss by_ id fv l hn]
    exact rpq (swapN1 base sb nr by_ _ l hn) rfl (fun v hv => ⟨hv, rfl⟩)
theorem remU1 (base sb : Nat) (nr : Value) (id : List UInt8) (l : List Nd) (hb : ∀ x ∈ l, base ≤ x.b) : FnW Tryz.prog 63 [Pt sb 0, S id] base [stg 1 sb nr (l)] (OpT 1 sb nr l (remL id l)) := by
  rcases nd_split id l with ⟨A0, x, B, rfl, rfl, hA⟩ | hn
  · rw [remL_hit x B A0 hA]
    have hbx : base ≤ x.b := hb x (by simp)
    obtain rfl | ⟨A2, p, rfl⟩ := nd_ends A0
    · cases B with
      | nil => exact rpo (remO1 base sb nr x _ hbx rfl) rfl rfl ⟨⟨_, rfl⟩, rfl⟩
      | cons y B2 =>
        obtain h | ⟨B3, z, h⟩ := nd_ends (y :: B2)
        · cases h
        · exact rpo (remF1 base sb nr x _ hbx y B2 B3 z rfl h) rfl rfl ⟨⟨_, rfl⟩, rfl⟩
    · obtain ⟨h0, rr, hA0⟩ : ∃ h0 rr, A2 ++ [p] = h0 :: rr := by cases A2 with | nil => exact ⟨_, _, rfl⟩ | cons a r => exact ⟨_, _, rfl⟩
      cases B with
      | nil => exact rpo (remL1 base sb nr x _ hbx h0 rr A2 p hA0 rfl hA) rfl rfl ⟨⟨_, rfl⟩, by simp⟩
      | cons y B2 =>
        obtain h | ⟨B3, z, h⟩ := nd_ends (y :: B2)
        · cases h
        · exact rpo (remM1 base sb nr x _ hbx y B2 B3 z h h0 rr A2 p hA0 rfl hA) rfl rfl ⟨⟨_, rfl⟩, by simp⟩
  · rw [remL_miss id l hn]
    exact rpq (remN1 base sb nr id l hn) rfl (fun v hv => ⟨hv, rfl⟩)
theorem clrU1 (base sb : Nat) (nr : Value) (l : List Nd) (hb : ∀ x ∈ l, base ≤ x.b) : FnW Tryz.prog 64 [Pt sb 0] base [stg 1 sb nr (l)] (fun v Hs => ∃ X, Hs = [stg 1 sb nr [], X] ∧ ∀ b o, (b, o) ∈ X → base ≤ b) := by
  refine ((Clear1 base sb nr (hdp l) (lastp l)).frame (ch 204 227 225 l .nilIface)).reg (List.Perm.refl _) ?_
  rintro v Hs ⟨Hs1, rfl, rfl⟩
  exact ⟨_, ⟨_, rfl, fun b o h => by
    have hm := List.mem_map_of_mem (f := Prod.fst) h
    rw [ch_ids] at hm
    obtain ⟨x, hx, rfl⟩ := List.mem_map.1 hm
    exact hb x hx⟩, List.Perm.refl _⟩
theorem getU1 (base sb : Nat) (nr : Value) (id : List UInt8) (l : List Nd) : FnW Tryz.prog 67 [Pt sb 0, S id] base [stg 1 sb nr (l)] (fun v Hs => (∃ o, v = .tuple #[o, .bool (decide (id ∈ l.map Nd.id))]) ∧ Hs = [stg 1 sb nr (l)]) := by
  rcases nd_split id l with ⟨A0, x, B, rfl, rfl, hA⟩ | hn
  · refine rpq (GetH1 base sb nr A0 B x _ rfl hA) rfl (fun v hv => ⟨⟨wv 225 x, ?_⟩, rfl⟩)
    rw [hv, decide_eq_true (by simp)]
  · refine rpq (GetM1 base sb nr id l hn) rfl (fun v hv => ⟨⟨.nilIface, ?_⟩, rfl⟩)
    rw [hv, decide_eq_false (fun h => by obtain ⟨x, hx, e⟩ := List.mem_map.1 h; exact hn x hx e)]
theorem lstU1 (sb : Nat) (nr : Value) (l : List Nd) (hl : l.length ≤ 100000) : FnA Tryz.prog 65 [Pt sb 0] (stg 1 sb nr (l)) (fun v N => OwS 0 9 1 v N l.length (strsV (l.map Nd.id))) := by
  cases l with
  | nil => exact listN1 sb nr
  | cons x r => exact listC1 sb nr (x :: r) x r rfl hl

theorem addU2 (base sb : Nat) (nr : Value) (id : List UInt8) (fv : Value) (aft : Bool) (l : List Nd) : FnW Tryz.prog 72 [Pt sb 0, .iface 232 (.agg #[S id, fv]), I (if aft then 0 else 1)] base [stg 2 sb nr (l)] (fun v Hs => ∃ e, base ≤ e ∧ OpR 2 sb nr l (some (putE aft ⟨e, id, fv⟩ l)) v Hs) := by
  cases l with
  | nil =>
    refine (addN2 base sb id fv _).reg (List.Perm.refl _) ?_
    rintro v Hs ⟨rfl, e, he, rfl⟩
    exact ⟨_, ⟨e, he, rfl, rfl⟩, by cases aft <;> exact List.Perm.refl _⟩
  | cons x r =>
    cases aft with
    | false =>
      refine ((addB2 base sb x.b (lastp (x :: r)) id fv).frame (ch 207 234 232 (x :: r) .nilIface)).reg (List.Perm.refl _) ?_
      rintro v Hs ⟨Hs1, ⟨rfl, e, he, rfl⟩, rfl⟩
      exact ⟨_, ⟨e, he, rfl, rfl⟩, List.Perm.refl _⟩
    | true =>
      obtain h | ⟨A', y, h⟩ := nd_ends (x :: r)
      · cases h
      · have hl : lastp (x :: r) = Pt y.b 0 := by rw [h, lastp_snoc]
        have hx : hdp (A' ++ [y]) = Pt x.b 0 := by rw [← h]; rfl
        refine ((addA2 base sb x.b y.b (wv 232 y) id fv).frame (ch 207 234 232 A' (.iface 207 (Pt y.b 0)))).reg ?_ ?_
        · show (stg 2 sb nr (x :: r) ++ []).Perm _
          unfold stg
          rw [hl, h, ch_app, hx]
          show ([(sb, _)] ++ (_ ++ [_]) ++ []).Perm ([(sb, _)] ++ ([_] ++ (_ ++ [])))
          rw [List.append_nil, List.append_nil]
          exact List.perm_append_comm.append_left _
        · rintro v Hs ⟨Hs1, ⟨rfl, e, he, rfl⟩, rfl⟩
          refine ⟨_, ⟨e, he, rfl, rfl⟩, ?_⟩
          show List.Perm _ (stg 2 sb nr ((x :: r) ++ [Nd.mk e id fv]) ++ [])
          have hh2 : hdp ((x :: r) ++ [Nd.mk e id fv]) = Pt x.b 0 := rfl
          unfold stg
          rw [hh2, lastp_snoc, h, ch_app, ch_app]
          show List.Perm ([(sb, _)] ++ ([_] ++ ([_] ++ (_ ++ [])))) ([(sb, _)] ++ ((_ ++ [_]) ++ [_]) ++ [])
          rw [List.append_nil, List.append_nil]
          refine List.Perm.append_left _ ?_
          rw [← List.append_assoc]
          exact List.perm_append_comm.trans (.of_eq (by rw [List.append_assoc]; rfl))

theorem insU2 (base sb : Nat) (nr : Value) (id : List UInt8) (fv : Value) (by_ : List UInt8) (aft : Bool) (l : List Nd) : FnW Tryz.prog 74 [Pt sb 0, .iface 232 (.agg #[S id, fv]), S by_, I (if aft then 0 else 1)] base [stg 2 sb nr (l)] (fun v Hs => ∃ e, base ≤ e ∧ OpR 2 sb nr l (insL by_ aft ⟨e, id, fv⟩ l) v Hs) := by
  rcases nd_split by_ l with ⟨A0, x, B, rfl, rfl, hA⟩ | hn
  · cases aft with
    | false =>
      obtain rfl | ⟨A2, p, rfl⟩ := nd_ends A0
      · exact rpe (A := fun m => [(sb, .cells #[(hdp m), (lastp m)] 209 (0, 0))]) (C := fun m => ch 207 234 232 m .nilIface) (insF2 base sb x _ id fv B rfl) rfl (fun _ => rfl) (fun v e he hv => ⟨e, he, by rw [insL_hit false _ x _ _ hA]; exact ⟨hv, rfl⟩⟩)
      · refine rpe (A := fun m => [(sb, .cells #[(hdp m), (lastp m)] 209 (0, 0))]) (C := fun m => ch 207 234 232 m .nilIface) (insM2 base sb x _ id fv A2 B p rfl hA) rfl (fun _ => rfl) (fun v e he hv => ⟨e, he, by rw [insL_hit false _ x _ _ hA]; exact ⟨hv, by simp⟩⟩)
    | true =>
      cases B with
      | nil => exact rpe (A := fun m => [(sb, .cells #[(hdp m), (lastp m)] 209 (0, 0))]) (C := fun m => ch 207 234 232 m .nilIface) (insE2 base sb x _ id fv A0 rfl hA) rfl (fun _ => rfl) (fun v e he hv => ⟨e, he, by rw [insL_hit true _ x _ _ hA]; exact ⟨hv, rfl⟩⟩)
      | cons y B => exact rpe (A := fun m => [(sb, .cells #[(hdp m), (lastp m)] 209 (0, 0))]) (C := fun m => ch 207 234 232 m .nilIface) (insA2 base sb x _ id fv A0 B y rfl hA) rfl (fun _ => rfl) (fun v e he hv => ⟨e, he, by rw [insL_hit true _ x _ _ hA]; exact ⟨hv, rfl⟩⟩)
  · exact rpq (insN2 base sb id by_ fv l hn _) rfl (fun v hv => ⟨base, Nat.le_refl _, by rw [insL_miss _ _ _ _ hn]; exact ⟨hv, rfl⟩⟩)

theorem swpU2 (base sb : Nat) (nr : Value) (id : List UInt8) (fv : Value) (by_ : List UInt8) (l : List Nd) : FnW Tryz.prog 76 [Pt sb 0, S by_, .iface 232 (.agg #[S id, fv])] base [stg 2 sb nr (l)] (OpT 2 sb nr l (swpL by_ id fv l)) := by
  rcases nd_split by_ l with ⟨A0, x, B, rfl, rfl, hA⟩ | hn
  · rw [swpL_hit id fv x B A0 hA]
    exact rpo (swapH2 base sb id fv A0 B x _ rfl hA) rfl rfl ⟨⟨_, rfl⟩, rfl⟩
  · rw [swpL_miss by_ id fv l hn]
    exact rpq (swapN2 base sb by_ _ l hn) rfl (fun v hv => ⟨hv, rfl⟩)
theorem remU2 (base sb : Nat) (nr : Value) (id : List UInt8) (l : List Nd) (hb : ∀ x ∈ l, base ≤ x.b) : FnW Tryz.prog 78 [Pt sb 0, S id] base [stg 2 sb nr (l)] (OpT 2 sb nr l (remL id l)) := by
  rcases nd_split id l with ⟨A0, x, B, rfl, rfl, hA⟩ | hn
  · rw [remL_hit x B A0 hA]
    have hbx : base ≤ x.b := hb x (by simp)
    obtain rfl | ⟨A2, p, rfl⟩ := nd_ends A0
    · cases B with
      | nil => exact rpo (remO2 base sb x _ hbx rfl) rfl rfl ⟨⟨_, rfl⟩, rfl⟩
      | cons y B2 =>
        obtain h | ⟨B3, z, h⟩ := nd_ends (y :: B2)
        · cases h
        · exact rpo (remF2 base sb x _ hbx y B2 B3 z rfl h) rfl rfl ⟨⟨_, rfl⟩, rfl⟩
    · obtain ⟨h0, rr, hA0⟩ : ∃ h0 rr, A2 ++ [p] = h0 :: rr := by cases A2 with | nil => exact ⟨_, _, rfl⟩ | cons a r => exact ⟨_, _, rfl⟩
      cases B with
      | nil => exact rpo (remL2 base sb x _ hbx h0 rr A2 p hA0 rfl hA) rfl rfl ⟨⟨_, rfl⟩, by simp⟩
      | cons y B2 =>
        obtain h | ⟨B3, z, h⟩ := nd_ends (y :: B2)
        · cases h
        · exact rpo (remM2 base sb x _ hbx y B2 B3 z h h0 rr A2 p hA0 rfl hA) rfl rfl ⟨⟨_, rfl⟩, by simp⟩
  · rw [remL_miss id l hn]
    exact rpq (remN2 base sb id l hn) rfl (fun v hv => ⟨hv, rfl⟩)
theorem clrU2 (base sb : Nat) (nr : Value) (l : List Nd) (hb : ∀ x ∈ l, base ≤ x.b) : FnW Tryz.prog 79 [Pt sb 0] base [stg 2 sb nr (l)] (fun v Hs => ∃ X, Hs = [stg 2 sb nr [], X] ∧ ∀ b o, (b, o) ∈ X → base ≤ b) := by
  refine ((Clear2 base sb (hdp l) (lastp l)).frame (ch 207 234 232 l .nilIface)).reg (List.Perm.refl _) ?_
  rintro v Hs ⟨Hs1, rfl, rfl⟩
  exact ⟨_, ⟨_, rfl, fun b o h => by
    have hm := List.mem_map_of_mem (f := Prod.fst) h
    rw [ch_ids] at hm
    obtain ⟨x, hx, rfl⟩ := List.mem_map.1 hm
    exact hb x hx⟩, List.Perm.refl _⟩
theorem getU2 (base sb : Nat) (nr : Value) (id : List UInt8) (l : List Nd) : FnW Tryz.prog 82 [Pt sb 0, S id] base [stg 2 sb nr (l)] (fun v Hs => (∃ o, v = .tuple #[o, .bool (decide (id ∈ l.map Nd.id))]) ∧ Hs = [stg 2 sb nr (l)]) := by
  rcases nd_split id l with ⟨A0, x, B, rfl, rfl, hA⟩ | hn
  · refine rpq (GetH2 base sb A0 B x _ rfl hA) rfl (fun v hv => ⟨⟨wv 232 x, ?_⟩, rfl⟩)
    rw [hv, decide_eq_true (by simp)]
  · refine rpq (GetM2 base sb id l hn) rfl (fun v hv => ⟨⟨.nilIface, ?_⟩, rfl⟩)
    rw [hv, decide_eq_false (fun h => by obtain ⟨x, hx, e⟩ := List.mem_map.1 h; exact hn x hx e)]
theorem lstU2 (sb : Nat) (nr : Value) (l : List Nd) (hl : l.length ≤ 100000) : FnA Tryz.prog 80 [Pt sb 0] (stg 2 sb nr (l)) (fun v N => OwS 0 9 1 v N l.length (strsV (l.map Nd.id))) := by
  cases l with
  | nil => exact listN2 sb
  | cons x r => exact listC2 sb (x :: r) x r rfl hl

theorem addU3 (base sb : Nat) (nr : Value) (id : List UInt8) (fv : Value) (aft : Bool) (l : List Nd) : FnW Tryz.prog 87 [Pt sb 0, .iface 239 (.agg #[S id, fv]), I (if aft then 0 else 1)] base [stg 3 sb nr (l)] (fun v Hs => ∃ e, base ≤ e ∧ OpR 3 sb nr l (some (putE aft ⟨e, id, fv⟩ l)) v Hs) := by
  cases l with
  | nil =>
    refine (addN3 base sb id fv _).reg (List.Perm.refl _) ?_
    rintro v Hs ⟨rfl, e, he, rfl⟩
    exact ⟨_, ⟨e, he, rfl, rfl⟩, by cases aft <;> exact List.Perm.refl _⟩
  | cons x r =>
    cases aft with
    | false =>
      refine ((addB3 base sb x.b (lastp (x :: r)) id fv).frame (ch 210 241 239 (x :: r) .nilIface)).reg (List.Perm.refl _) ?_
      rintro v Hs ⟨Hs1, ⟨rfl, e, he, rfl⟩, rfl⟩
      exact ⟨_, ⟨e, he, rfl, rfl⟩, List.Perm.refl _⟩
    | true =>
      obtain h | ⟨A', y, h⟩ := nd_ends (x :: r)
      · cases h
      · have hl : lastp (x :: r) = Pt y.b 0 := by rw [h, lastp_snoc]
        have hx : hdp (A' ++ [y]) = Pt x.b 0 := by rw [← h]; rfl
        refine ((addA3 base sb x.b y.b (wv 239 y) id fv).frame (ch 210 241 239 A' (.iface 210 (Pt y.b 0)))).reg ?_ ?_
        · show (stg 3 sb nr (x :: r) ++ []).Perm _
          unfold stg
          rw [hl, h, ch_app, hx]
          show ([(sb, _)] ++ (_ ++ [_]) ++ []).Perm ([(sb, _)] ++ ([_] ++ (_ ++ [])))
          rw [List.append_nil, List.append_nil]
          exact List.perm_append_comm.append_left _
        · rintro v Hs ⟨Hs1, ⟨rfl, e, he, rfl⟩, rfl⟩
          refine ⟨_, ⟨e, he, rfl, rfl⟩, ?_⟩
          show List.Perm _ (stg 3 sb nr ((x :: r) ++ [Nd.mk e id fv]) ++ [])
          have hh2 : hdp ((x :: r) ++ [Nd.mk e id fv]) = Pt x.b 0 := rfl
          unfold stg
          rw [hh2, lastp_snoc, h, ch_app, ch_app]
          show List.Perm ([(sb, _)] ++ ([_] ++ ([_] ++ (_ ++ [])))) ([(sb, _)] ++ ((_ ++ [_]) ++ [_]) ++ [])
          rw [List.append_nil, List.append_nil]
          refine List.Perm.append_left _ ?_
          rw [← List.append_assoc]
          exact List.perm_append_comm.trans (.of_eq (by rw [List.append_assoc]; rfl))

theorem insU3 (base sb : Nat) (nr : Value) (id : List UInt8) (fv : Value) (by_ : List UInt8) (aft : Bool) (l : List Nd) : FnW Tryz.prog 89 [Pt sb 0, .iface 239 (.agg #[S id, fv]), S by_, I (if aft then 0 else 1)] base [stg 3 sb nr (l)] (fun v Hs => ∃ e, base ≤ e ∧ OpR 3 sb nr l (insL by_ aft ⟨e, id, fv⟩ l) v Hs) := by
  rcases nd_split by_ l with ⟨A0, x, B, rfl, rfl, hA⟩ | hn
  · cases aft with
    | false =>
      obtain rfl | ⟨A2, p, rfl⟩ := nd_ends A0
      · exact rpe (A := fun m => [(sb, .cells #[(hdp m), (lastp m)] 212 (0, 0))]) (C := fun m => ch 210 241 239 m .nilIface) (insF3 base sb x _ id fv B rfl) rfl (fun _ => rfl) (fun v e he hv => ⟨e, he, by rw [insL_hit false _ x _ _ hA]; exact ⟨hv, rfl⟩⟩)
      · refine rpe (A := fun m => [(sb, .cells #[(hdp m), (lastp m)] 212 (0, 0))]) (C := fun m => ch 210 241 239 m .nilIface) (insM3 base sb x _ id fv A2 B p rfl hA) rfl (fun _ => rfl) (fun v e he hv => ⟨e, he, by rw [insL_hit false _ x _ _ hA]; exact ⟨hv, by simp⟩⟩)
    | true =>
      cases B with
      | nil => exact rpe (A := fun m => [(sb, .cells #[(hdp m), (lastp m)] 212 (0, 0))]) (C := fun m => ch 210 241 239 m .nilIface) (insE3 base sb x _ id fv A0 rfl hA) rfl (fun _ => rfl) (fun v e he hv => ⟨e, he, by rw [insL_hit true _ x _ _ hA]; exact ⟨hv, rfl⟩⟩)
      | cons y B => exact rpe (A := fun m => [(sb, .cells #[(hdp m), (lastp m)] 212 (0, 0))]) (C := fun m => ch 210 241 239 m .nilIface) (insA3 base sb x _ id fv A0 B y rfl hA) rfl (fun _ => rfl) (fun v e he hv => ⟨e, he, by rw [insL_hit true _ x _ _ hA]; exact ⟨hv, rfl⟩⟩)
  · exact rpq (insN3 base sb id by_ fv l hn _) rfl (fun v hv => ⟨base, Nat.le_refl _, by rw [insL_miss _ _ _ _ hn]; exact ⟨hv, rfl⟩⟩)

theorem swpU3 (base sb : Nat) (nr : Value) (id : List UInt8) (fv : Value) (by_ : List UInt8) (l : List Nd) : FnW Tryz.prog 91 [Pt sb 0, S by_, .iface 239 (.agg #[S id, fv])] base [stg 3 sb nr (l)] (OpT 3 sb nr l (swpL by_ id fv l)) := by
  rcases nd_split by_ l with ⟨A0, x, B, rfl, rfl, hA⟩ | hn
  · rw [swpL_hit id fv x B A0 hA]
    exact rpo (swapH3 base sb id fv A0 B x _ rfl hA) rfl rfl ⟨⟨_, rfl⟩, rfl⟩
  · rw [swpL_miss by_ id fv l hn]
    exact rpq (swapN3 base sb by_ _ l hn) rfl (fun v hv => ⟨hv, rfl⟩)
theorem remU3 (base sb : Nat) (nr : Value) (id : List UInt8) (l : List Nd) (hb : ∀ x ∈ l, base ≤ x.b) : FnW Tryz.prog 93 [Pt sb 0, S id] base [stg 3 sb nr (l)] (OpT 3 sb nr l (remL id l)) := by
  rcases nd_split id l with ⟨A0, x, B, rfl, rfl, hA⟩ | hn
  · rw [remL_hit x B A0 hA]
    have hbx : base ≤ x.b := hb x (by simp)
    obtain rfl | ⟨A2, p, rfl⟩ := nd_ends A0
    · cases B with
      | nil => exact rpo (remO3 base sb x _ hbx rfl) rfl rfl ⟨⟨_, rfl⟩, rfl⟩
      | cons y B2 =>
        obtain h | ⟨B3, z, h⟩ := nd_ends (y :: B2)
        · cases h
        · exact rpo (remF3 base sb x _ hbx y B2 B3 z rfl h) rfl rfl ⟨⟨_, rfl⟩, rfl⟩
    · obtain ⟨h0, rr, hA0⟩ : ∃ h0 rr, A2 ++ [p] = h0 :: rr := by cases A2 with | nil => exact ⟨_, _, rfl⟩ | cons a r => exact ⟨_, _, rfl⟩
      cases B with
      | nil => exact rpo (remL3 base sb x _ hbx h0 rr A2 p hA0 rfl hA) rfl rfl ⟨⟨_, rfl⟩, by simp⟩
      | cons y B2 =>
        obtain h | ⟨B3, z, h⟩ := nd_ends (y :: B2)
        · cases h
        · exact rpo (remM3 base sb x _ hbx y B2 B3 z h h0 rr A2 p hA0 rfl hA) rfl rfl ⟨⟨_, rfl⟩, by simp⟩
  · rw [remL_miss id l hn]
    exact rpq (remN3 base sb id l hn) rfl (fun v hv => ⟨hv, rfl⟩)
theorem clrU3 (base sb : Nat) (nr : Value) (l : List Nd) (hb : ∀ x ∈ l, base ≤ x.b) : FnW Tryz.prog 94 [Pt sb 0] base [stg 3 sb nr (l)] (fun v Hs => ∃ X, Hs = [stg 3 sb nr [], X] ∧ ∀ b o, (b, o) ∈ X → base ≤ b) := by
  refine ((Clear3 base sb (hdp l) (lastp l)).frame (ch 210 241 239 l .nilIface)).reg (List.Perm.refl _) ?_
  rintro v Hs ⟨Hs1, rfl, rfl⟩
  exact ⟨_, ⟨_, rfl, fun b o h => by
    have hm := List.mem_map_of_mem (f := Prod.fst) h
    rw [ch_ids] at hm
    obtain ⟨x, hx, rfl⟩ := List.mem_map.1 hm
    exact hb x hx⟩, List.Perm.refl _⟩
theorem getU3 (base sb : Nat) (nr : Value) (id : List UInt8) (l : List Nd) : FnW Tryz.prog 97 [Pt sb 0, S id] base [stg 3 sb nr (l)] (fun v Hs => (∃ o, v = .tuple #[o, .bool (decide (id ∈ l.map Nd.id))]) ∧ Hs = [stg 3 sb nr (l)]) := by
  rcases nd_split id l with ⟨A0, x, B, rfl, rfl, hA⟩ | hn
  · refine rpq (GetH3 base sb A0 B x _ rfl hA) rfl (fun v hv => ⟨⟨wv 239 x, ?_⟩, rfl⟩)
    rw [hv, decide_eq_true (by simp)]
  · refine rpq (GetM3 base sb id l hn) rfl (fun v hv => ⟨⟨.nilIface, ?_⟩, rfl⟩)
    rw [hv, decide_eq_false (fun h => by obtain ⟨x, hx, e⟩ := List.mem_map.1 h; exact hn x hx e)]
theorem lstU3 (sb : Nat) (nr : Value) (l : List Nd) (hl : l.length ≤ 100000) : FnA Tryz.prog 95 [Pt sb 0] (stg 3 sb nr (l)) (fun v N => OwS 0 9 1 v N l.length (strsV (l.map Nd.id))) := by
  cases l with
  | nil => exact listN3 sb
  | cons x r => exact listC3 sb (x :: r) x r rfl hl

theorem addU4 (base sb : Nat) (nr : Value) (id : List UInt8) (fv : Value) (aft : Bool) (l : List Nd) : FnW Tryz.prog 102 [Pt sb 0, .iface 246 (.agg #[S id, fv]), I (if aft then 0 else 1)] base [stg 4 sb nr (l)] (fun v Hs => ∃ e, base ≤ e ∧ OpR 4 sb nr l (some (putE aft ⟨e, id, fv⟩ l)) v Hs) := by
  cases l with
  | nil =>
    refine (addN4 base sb id fv _).reg (List.Perm.refl _) ?_
    rintro v Hs ⟨rfl, e, he, rfl⟩
    exact ⟨_, ⟨e, he, rfl, rfl⟩, by cases aft <;> exact List.Perm.refl _⟩
  | cons x r =>
    cases aft with
    | false =>
      refine ((addB4 base sb x.b (lastp (x :: r)) id fv).frame (ch 213 248 246 (x :: r) .nilIface)).reg (List.Perm.refl _) ?_
      rintro v Hs ⟨Hs1, ⟨rfl, e, he, rfl⟩, rfl⟩
      exact ⟨_, ⟨e, he, rfl, rfl⟩, List.Perm.refl _⟩
    | true =>
      obtain h | ⟨A', y, h⟩ := nd_ends (x :: r)
      · cases h
      · have hl : lastp (x :: r) = Pt y.b 0 := by rw [h, lastp_snoc]
        have hx : hdp (A' ++ [y]) = Pt x.b 0 := by rw [← h]; rfl
        refine ((addA4 base sb x.b y.b (wv 246 y) id fv).frame (ch 213 248 246 A' (.iface 213 (Pt y.b 0)))).reg ?_ ?_
        · show (stg 4 sb nr (x :: r) ++ []).Perm _
          unfold stg
          rw [hl, h, ch_app, hx]
          show ([(sb, _)] ++ (_ ++ [_]) ++ []).Perm ([(sb, _)] ++ ([_] ++ (_ ++ [])))
          rw [List.append_nil, List.append_nil]
          exact List.perm_append_comm.append_left _
        · rintro v Hs ⟨Hs1, ⟨rfl, e, he, rfl⟩, rfl⟩
          refine ⟨_, ⟨e, he, rfl, rfl⟩, ?_⟩
          show List.Perm _ (stg 4 sb nr ((x :: r) ++ [Nd.mk e id fv]) ++ [])
          have hh2 : hdp ((x :: r) ++ [Nd.mk e id fv]) = Pt x.b 0 := rfl
          unfold stg
          rw [hh2, lastp_snoc, h, ch_app, ch_app]
          show List.Perm ([(sb, _)] ++ ([_] ++ ([_] ++ (_ ++ [])))) ([(sb, _)] ++ ((_ ++ [_]) ++ [_]) ++ [])
          rw [List.append_nil, List.append_nil]
          refine List.Perm.append_left _ ?_
          rw [← List.append_assoc]
          exact List.perm_append_comm.trans (.of_eq (by rw [List.append_assoc]; rfl))

theorem insU4 (base sb : Nat) (nr : Value) (id : List UInt8) (fv : Value) (by_ : List UInt8) (aft : Bool) (l : List Nd) : FnW Tryz.prog 104 [Pt sb 0, .iface 246 (.agg #[S id, fv]), S by_, I (if aft then 0 else 1)] base [stg 4 sb nr (l)] (fun v Hs => ∃ e, base ≤ e ∧ OpR 4 sb nr l (insL by_ aft ⟨e, id, fv⟩ l) v Hs) := by
  rcases nd_split by_ l with ⟨A0, x, B, rfl, rfl, hA⟩ | hn
  · cases aft with
    | false =>
      obtain rfl | ⟨A2, p, rfl⟩ := nd_ends A0
      · exact rpe (A := fun m => [(sb, .cells #[(hdp m), (lastp m)] 215 (0, 0))]) (C := fun m => ch 213 248 246 m .nilIface) (insF4 base sb x _ id fv B rfl) rfl (fun _ => rfl) (fun v e he hv => ⟨e, he, by rw [insL_hit false _ x _ _ hA]; exact ⟨hv, rfl⟩⟩)
      · refine rpe (A := fun m => [(sb, .cells #[(hdp m), (lastp m)] 215 (0, 0))]) (C := fun m => ch 213 248 246 m .nilIface) (insM4 base sb x _ id fv A2 B p rfl hA) rfl (fun _ => rfl) (fun v e he hv => ⟨e, he, by rw [insL_hit false _ x _ _ hA]; exact ⟨hv, by simp⟩⟩)
    | true =>
      cases B with
      | nil => exact rpe (A := fun m => [(sb, .cells #[(hdp m), (lastp m)] 215 (0, 0))]) (C := fun m => ch 213 248 246 m .nilIface) (insE4 base sb x _ id fv A0 rfl hA) rfl (fun _ => rfl) (fun v e he hv => ⟨e, he, by rw [insL_hit true _ x _ _ hA]; exact ⟨hv, rfl⟩⟩)
      | cons y B => exact rpe (A := fun m => [(sb, .cells #[(hdp m), (lastp m)] 215 (0, 0))]) (C := fun m => ch 213 248 246 m .nilIface) (insA4 base sb x _ id fv A0 B y rfl hA) rfl (fun _ => rfl) (fun v e he hv => ⟨e, he, by rw [insL_hit true _ x _ _ hA]; exact ⟨hv, rfl⟩⟩)
  · exact rpq (insN4 base sb id by_ fv l hn _) rfl (fun v hv => ⟨base, Nat.le_refl _, by rw [insL_miss _ _ _ _ hn]; exact ⟨hv, rfl⟩⟩)

theorem swpU4 (base sb : Nat) (nr : Value) (id : List UInt8) (fv : Value) (by_ : List UInt8) (l : List Nd) : FnW Tryz.prog 106 [Pt sb 0, S by_, .iface 246 (.agg #[S id, fv])] base [stg 4 sb nr (l)] (OpT 4 sb nr l (swpL by_ id fv l)) := by
  rcases nd_split by_ l with ⟨A0, x, B, rfl, rfl, hA⟩ | hn
  · rw [swpL_hit id fv x B A0 hA]
    exact rpo (swapH4 base sb id fv A0 B x _ rfl hA) rfl rfl ⟨⟨_, rfl⟩, rfl⟩
  · rw [swpL_miss by_ id fv l hn]
    exact rpq (swapN4 base sb by_ _ l hn) rfl (fun v hv => ⟨hv, rfl⟩)
theorem remU4 (base sb : Nat) (nr : Value) (id : List UInt8) (l : List Nd) (hb : ∀ x ∈ l, base ≤ x.b) : FnW Tryz.prog 108 [Pt sb 0, S id] base [stg 4 sb nr (l)] (OpT 4 sb nr l (remL id l)) := by
  rcases nd_split id l with ⟨A0, x, B, rfl, rfl, hA⟩ | hn
  · rw [remL_hit x B A0 hA]
    have hbx : base ≤ x.b := hb x (by simp)
    obtain rfl | ⟨A2, p, rfl⟩ := nd_ends A0
    · cases B with
      | nil => exact rpo (remO4 base sb x _ hbx rfl) rfl rfl ⟨⟨_, rfl⟩, rfl⟩
      | cons y B2 =>
        obtain h | ⟨B3, z, h⟩ := nd_ends (y :: B2)
        · cases h
        · exact rpo (remF4 base sb x _ hbx y B2 B3 z rfl h) rfl rfl ⟨⟨_, rfl⟩, rfl⟩
    · obtain ⟨h0, rr, hA0⟩ : ∃ h0 rr, A2 ++ [p] = h0 :: rr := by cases A2 with | nil => exact ⟨_, _, rfl⟩ | cons a r => exact ⟨_, _, rfl⟩
      cases B with
      | nil => exact rpo (remL4 base sb x _ hbx h0 rr A2 p hA0 rfl hA) rfl rfl ⟨⟨_, rfl⟩, by simp⟩
      | cons y B2 =>
        obtain h | ⟨B3, z, h⟩ := nd_ends (y :: B2)
        · cases h
        · exact rpo (remM4 base sb x _ hbx y B2 B3 z h h0 rr A2 p hA0 rfl hA) rfl rfl ⟨⟨_, rfl⟩, by simp⟩
  · rw [remL_miss id l hn]
    exact rpq (remN4 base sb id l hn) rfl (fun v hv => ⟨hv, rfl⟩)
theorem clrU4 (base sb : Nat) (nr : Value) (l : List Nd) (hb : ∀ x ∈ l, base ≤ x.b) : FnW Tryz.prog 109 [Pt sb 0] base [stg 4 sb nr (l)] (fun v Hs => ∃ X, Hs = [stg 4 sb nr [], X] ∧ ∀ b o, (b, o) ∈ X → base ≤ b) := by
  refine ((Clear4 base sb (hdp l) (lastp l)).frame (ch 213 248 246 l .nilIface)).reg (List.Perm.refl _) ?_
  rintro v Hs ⟨Hs1, rfl, rfl⟩
  exact ⟨_, ⟨_, rfl, fun b o h => by
    have hm := List.mem_map_of_mem (f := Prod.fst) h
    rw [ch_ids] at hm
    obtain ⟨x, hx, rfl⟩ := List.mem_map.1 hm
    exact hb x hx⟩, List.Perm.refl _⟩
theorem getU4 (base sb : Nat) (nr : Value) (id : List UInt8) (l : List Nd) : FnW Tryz.prog 112 [Pt sb 0, S id] base [stg 4 sb nr (l)] (fun v Hs => (∃ o, v = .tuple #[o, .bool (decide (id ∈ l.map Nd.id))]) ∧ Hs = [stg 4 sb nr (l)]) := by
  rcases nd_split id l with ⟨A0, x, B, rfl, rfl, hA⟩ | hn
  · refine rpq (GetH4 base sb A0 B x _ rfl hA) rfl (fun v hv => ⟨⟨wv 246 x, ?_⟩, rfl⟩)
    rw [hv, decide_eq_true (by simp)]
  · refine rpq (GetM4 base sb id l hn) rfl (fun v hv => ⟨⟨.nilIface, ?_⟩, rfl⟩)
    rw [hv, decide_eq_false (fun h => by obtain ⟨x, hx, e⟩ := List.mem_map.1 h; exact hn x hx e)]
theorem lstU4 (sb : Nat) (nr : Value) (l : List Nd) (hl : l.length ≤ 100000) : FnA Tryz.prog 110 [Pt sb 0] (stg 4 sb nr (l)) (fun v N => OwS 0 9 1 v N l.length (strsV (l.map Nd.id))) := by
  cases l with
  | nil => exact listN4 sb
  | cons x r => exact listC4 sb (x :: r) x r rfl hl
end S5
end Go.Proofs.YtclafiglpcjhdaaGreat
