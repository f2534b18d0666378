/- Steps: the functions of each one. -/
import Derived.Test.YtclafiglpcjhdaaGreatS5
namespace Go.Proofs.YtclafiglpcjhdaaGreat
open Go Go.RowKit V S0 S1 S2 S3 S4 S5
set_option linter.unusedSimpArgs false
set_option linter.unusedVariables false
set_option maxRecDepth 10000
namespace S6
theorem call36 : Callable Tryz.prog 36 := ⟨_, Tryz.func36, rfl, by kernel_rfl⟩
theorem call37 : Callable Tryz.prog 37 := ⟨_, Tryz.func37, rfl, by kernel_rfl⟩
theorem call42 : Callable Tryz.prog 42 := ⟨_, Tryz.func42, rfl, by kernel_rfl⟩
theorem call44 : Callable Tryz.prog 44 := ⟨_, Tryz.func44, rfl, by kernel_rfl⟩
theorem call46 : Callable Tryz.prog 46 := ⟨_, Tryz.func46, rfl, by kernel_rfl⟩
theorem call48 : Callable Tryz.prog 48 := ⟨_, Tryz.func48, rfl, by kernel_rfl⟩
theorem call52 : Callable Tryz.prog 52 := ⟨_, Tryz.func52, rfl, by kernel_rfl⟩
theorem call53 : Callable Tryz.prog 53 := ⟨_, Tryz.func53, rfl, by kernel_rfl⟩
theorem call54 : Callable Tryz.prog 54 := ⟨_, Tryz.func54, rfl, by kernel_rfl⟩
theorem call57 : Callable Tryz.prog 57 := ⟨_, Tryz.func57, rfl, by kernel_rfl⟩
theorem call59 : Callable Tryz.prog 59 := ⟨_, Tryz.func59, rfl, by kernel_rfl⟩
theorem call61 : Callable Tryz.prog 61 := ⟨_, Tryz.func61, rfl, by kernel_rfl⟩
theorem call63 : Callable Tryz.prog 63 := ⟨_, Tryz.func63, rfl, by kernel_rfl⟩
theorem call67 : Callable Tryz.prog 67 := ⟨_, Tryz.func67, rfl, by kernel_rfl⟩
theorem call68 : Callable Tryz.prog 68 := ⟨_, Tryz.func68, rfl, by kernel_rfl⟩
theorem call69 : Callable Tryz.prog 69 := ⟨_, Tryz.func69, rfl, by kernel_rfl⟩
theorem call72 : Callable Tryz.prog 72 := ⟨_, Tryz.func72, rfl, by kernel_rfl⟩
theorem call74 : Callable Tryz.prog 74 := ⟨_, Tryz.func74, rfl, by kernel_rfl⟩
theorem call76 : Callable Tryz.prog 76 := ⟨_, Tryz.func76, rfl, by kernel_rfl⟩
theorem call78 : Callable Tryz.prog 78 := ⟨_, Tryz.func78, rfl, by kernel_rfl⟩
theorem call82 : Callable Tryz.prog 82 := ⟨_, Tryz.func82, rfl, by kernel_rfl⟩
theorem call83 : Callable Tryz.prog 83 := ⟨_, Tryz.func83, rfl, by kernel_rfl⟩
theorem call84 : Callable Tryz.prog 84 := ⟨_, Tryz.func84, rfl, by kernel_rfl⟩
theorem call87 : Callable Tryz.prog 87 := ⟨_, Tryz.func87, rfl, by kernel_rfl⟩
theorem call89 : Callable Tryz.prog 89 := ⟨_, Tryz.func89, rfl, by kernel_rfl⟩
theorem call91 : Callable Tryz.prog 91 := ⟨_, Tryz.func91, rfl, by kernel_rfl⟩
theorem call93 : Callable Tryz.prog 93 := ⟨_, Tryz.func93, rfl, by kernel_rfl⟩
theorem call97 : Callable Tryz.prog 97 := ⟨_, Tryz.func97, rfl, by kernel_rfl⟩
theorem call98 : Callable Tryz.prog 98 := ⟨_, Tryz.func98, rfl, by kernel_rfl⟩
theorem call99 : Callable Tryz.prog 99 := ⟨_, Tryz.func99, rfl, by kernel_rfl⟩
theorem call102 : Callable Tryz.prog 102 := ⟨_, Tryz.func102, rfl, by kernel_rfl⟩
theorem call104 : Callable Tryz.prog 104 := ⟨_, Tryz.func104, rfl, by kernel_rfl⟩
theorem call106 : Callable Tryz.prog 106 := ⟨_, Tryz.func106, rfl, by kernel_rfl⟩
theorem call108 : Callable Tryz.prog 108 := ⟨_, Tryz.func108, rfl, by kernel_rfl⟩
theorem call112 : Callable Tryz.prog 112 := ⟨_, Tryz.func112, rfl, by kernel_rfl⟩
theorem flat9 : Flat Tryz.prog 9 := ⟨_, Tryz.underlying9, by simp⟩
theorem flat80 : Flat Tryz.prog 80 := ⟨_, Tryz.underlying80, by simp⟩
theorem flat81 : Flat Tryz.prog 81 := ⟨_, Tryz.underlying81, by simp⟩
theorem flat82 : Flat Tryz.prog 82 := ⟨_, Tryz.underlying82, by simp⟩
theorem flat83 : Flat Tryz.prog 83 := ⟨_, Tryz.underlying83, by simp⟩
theorem flat84 : Flat Tryz.prog 84 := ⟨_, Tryz.underlying84, by simp⟩
theorem flat118 : Flat Tryz.prog 118 := ⟨_, Tryz.underlying118, by simp⟩
theorem flat137 : Flat Tryz.prog 137 := ⟨_, Tryz.underlying137, by simp⟩
theorem flat156 : Flat Tryz.prog 156 := ⟨_, Tryz.underlying156, by simp⟩
theorem flat174 : Flat Tryz.prog 174 := ⟨_, Tryz.underlying174, by simp⟩
theorem flat193 : Flat Tryz.prog 193 := ⟨_, Tryz.underlying193, by simp⟩
theorem ty217 : Ty Tryz.prog 217 (.agg #[(S []), .nilFunc]) 2 24 := ty_of (by kernel_rfl)
theorem ty225 : Ty Tryz.prog 225 (.agg #[(S []), .nilFunc]) 2 24 := ty_of (by kernel_rfl)
theorem ty232 : Ty Tryz.prog 232 (.agg #[(S []), .nilFunc]) 2 24 := ty_of (by kernel_rfl)
theorem ty239 : Ty Tryz.prog 239 (.agg #[(S []), .nilFunc]) 2 24 := ty_of (by kernel_rfl)
theorem ty246 : Ty Tryz.prog 246 (.agg #[(S []), .nilFunc]) 2 24 := ty_of (by kernel_rfl)
theorem conc217 : Conc Tryz.prog 217 := ⟨_, Tryz.underlying217, by simp⟩
theorem conc225 : Conc Tryz.prog 225 := ⟨_, Tryz.underlying225, by simp⟩
theorem conc232 : Conc Tryz.prog 232 := ⟨_, Tryz.underlying232, by simp⟩
theorem conc239 : Conc Tryz.prog 239 := ⟨_, Tryz.underlying239, by simp⟩
theorem conc246 : Conc Tryz.prog 246 := ⟨_, Tryz.underlying246, by simp⟩
theorem str217 : Str Tryz.prog 217 #[(0, 1), (1, 1)] := ⟨_, Tryz.underlying217, fun w => by kernel_rfl⟩
theorem str225 : Str Tryz.prog 225 #[(0, 1), (1, 1)] := ⟨_, Tryz.underlying225, fun w => by kernel_rfl⟩
theorem str232 : Str Tryz.prog 232 #[(0, 1), (1, 1)] := ⟨_, Tryz.underlying232, fun w => by kernel_rfl⟩
theorem str239 : Str Tryz.prog 239 #[(0, 1), (1, 1)] := ⟨_, Tryz.underlying239, fun w => by kernel_rfl⟩
theorem str246 : Str Tryz.prog 246 #[(0, 1), (1, 1)] := ⟨_, Tryz.underlying246, fun w => by kernel_rfl⟩
def PSn : Nat → TypeId
  | 0 => 80
  | 1 => 81
  | 2 => 82
  | 3 => 83
  | _ => 84
def OFn : Nat → TypeId
  | 0 => 118
  | 1 => 137
  | 2 => 156
  | 3 => 174
  | _ => 193
def cOf : Nat → FuncId
  | 0 => 36
  | 1 => 53
  | 2 => 68
  | 3 => 83
  | _ => 98
def cIn : Nat → FuncId
  | 0 => 38
  | 1 => 55
  | 2 => 70
  | 3 => 85
  | _ => 100
def cAdd : Nat → FuncId
  | 0 => 41
  | 1 => 56
  | 2 => 71
  | 3 => 86
  | _ => 101
def cIns : Nat → FuncId
  | 0 => 43
  | 1 => 58
  | 2 => 73
  | 3 => 88
  | _ => 103
def cSwp : Nat → FuncId
  | 0 => 45
  | 1 => 60
  | 2 => 75
  | 3 => 90
  | _ => 105
def cRem : Nat → FuncId
  | 0 => 47
  | 1 => 62
  | 2 => 77
  | 3 => 92
  | _ => 107
def cHas : Nat → FuncId
  | 0 => 51
  | 1 => 66
  | 2 => 81
  | 3 => 96
  | _ => 111

def FOF (i b3 : Nat) : Value := .func (.func (cOf i)) #[] #[Pt b3 0]
def FVN (i b3 q : Nat) : Value := .func (.func (cIn i)) #[] #[Pt b3 0, Pt q 0]
/-- the boxes that the functions of a step have -/
def env (i sb b2 b5 b3 : Nat) : Hp := [(b2, .cells #[Pt sb 0] (PSn i) (0, 0)), (b5, .cells #[FOF i b3] (OFn i) (0, 0))]
def stp (i sb b2 b5 : Nat) : Array Value := #[.func (.func (cAdd i)) #[] #[Pt b2 0, Pt b5 0], .func (.func (cIns i)) #[] #[Pt b2 0, Pt b5 0], .func (.func (cSwp i)) #[] #[Pt b2 0, Pt b5 0], .func (.func (cRem i)) #[] #[Pt b2 0], .func (.func (fClear i)) #[Pt sb 0] #[], .func (.func (fList i)) #[Pt sb 0] #[], .func (.func (cHas i)) #[] #[Pt b2 0]]
def Okn (i b3 : Nat) (X : Hp) (y : Nd) : Prop := ∃ q, y.fv = FVN i b3 q ∧ (q, Obj.cells #[S y.id] 9 (0, 0)) ∈ X
/-! ### The same on names -/
def putI (aft : Bool) (y : List UInt8) (l : List (List UInt8)) : List (List UInt8) := if aft then l ++ [y] else y :: l
def insI (by_ : List UInt8) (aft : Bool) (y : List UInt8) : List (List UInt8) → Option (List (List UInt8))
  | [] => none
  | x :: r => if x = by_ then some (if aft then x :: y :: r else y :: x :: r) else (insI by_ aft y r).map (x :: ·)
def swpI (by_ id : List UInt8) : List (List UInt8) → Option (List (List UInt8))
  | [] => none
  | x :: r => if x = by_ then some (id :: r) else (swpI by_ id r).map (x :: ·)
def remI (id : List UInt8) : List (List UInt8) → Option (List (List UInt8))
  | [] => none
  | x :: r => if x = id then some r else (remI id r).map (x :: ·)
theorem putE_map (aft : Bool) (y : Nd) (l : List Nd) : (putE aft y l).map Nd.id = putI aft y.id (l.map Nd.id) := by cases aft <;> simp [putE, putI]
theorem insL_map (by_ : List UInt8) (aft : Bool) (y : Nd) : ∀ (l : List Nd), (insL by_ aft y l).map (List.map Nd.id) = insI by_ aft y.id (l.map Nd.id)
  | [] => rfl
  | x :: r => by
    show (if x.id = by_ then _ else _ : Option _).map _ = (if x.id = by_ then _ else _)
    by_cases h : x.id = by_
    · rw [if_pos h, if_pos h]; cases aft <;> rfl
    · rw [if_neg h, if_neg h, ← insL_map by_ aft y r]; cases insL by_ aft y r <;> rfl
theorem swpL_map (by_ id : List UInt8) (fv : Value) : ∀ (l : List Nd), (swpL by_ id fv l).map (List.map Nd.id) = swpI by_ id (l.map Nd.id)
  | [] => rfl
  | x :: r => by
    show (if x.id = by_ then _ else _ : Option _).map _ = (if x.id = by_ then _ else _)
    by_cases h : x.id = by_
    · rw [if_pos h, if_pos h]; rfl
    · rw [if_neg h, if_neg h, ← swpL_map by_ id fv r]; cases swpL by_ id fv r <;> rfl
theorem remL_map (id : List UInt8) : ∀ (l : List Nd), (remL id l).map (List.map Nd.id) = remI id (l.map Nd.id)
  | [] => rfl
  | x :: r => by
    show (if x.id = id then _ else _ : Option _).map _ = (if x.id = id then _ else _)
    by_cases h : x.id = id
    · rw [if_pos h, if_pos h]; rfl
    · rw [if_neg h, if_neg h, ← remL_map id r]; cases remL id r <;> rfl
theorem putE_mem {aft : Bool} {y z : Nd} {l : List Nd} (h : z ∈ putE aft y l) : z ∈ l ∨ z = y := by
  cases aft with
  | false => exact (List.mem_cons.1 h).symm
  | true => exact (List.mem_append.1 h).imp (fun h => h) List.mem_singleton.1
theorem insL_mem {by_ : List UInt8} {aft : Bool} {y : Nd} : ∀ {l m : List Nd}, insL by_ aft y l = some m → ∀ z ∈ m, z ∈ l ∨ z = y
  | [], m, h => by cases h
  | x :: r, m, h => by
    have h2 : (if x.id = by_ then some (if aft then x :: y :: r else y :: x :: r) else (insL by_ aft y r).map (x :: ·)) = some m := h
    by_cases hx : x.id = by_
    · rw [if_pos hx] at h2
      injection h2 with h2
      subst h2
      intro z hz
      cases aft with
      | false =>
        rcases List.mem_cons.1 hz with rfl | hz
        · exact .inr rfl
        · exact .inl hz
      | true =>
        rcases List.mem_cons.1 hz with rfl | hz
        · exact .inl List.mem_cons_self
        · rcases List.mem_cons.1 hz with rfl | hz
          · exact .inr rfl
          · exact .inl (List.mem_cons_of_mem _ hz)
    · rw [if_neg hx] at h2
      obtain ⟨m2, hm, rfl⟩ := Option.map_eq_some_iff.1 h2
      intro z hz
      rcases List.mem_cons.1 hz with rfl | hz
      · exact .inl List.mem_cons_self
      · exact (insL_mem hm z hz).imp (List.mem_cons_of_mem _) (fun h => h)
theorem swpL_mem {by_ id : List UInt8} {fv : Value} : ∀ {l m : List Nd}, swpL by_ id fv l = some m → ∀ z ∈ m, z ∈ l ∨ ∃ x ∈ l, z = ⟨x.b, id, fv⟩
  | [], m, h => by cases h
  | x :: r, m, h => by
    have h2 : (if x.id = by_ then some (⟨x.b, id, fv⟩ :: r) else (swpL by_ id fv r).map (x :: ·)) = some m := h
    by_cases hx : x.id = by_
    · rw [if_pos hx] at h2
      injection h2 with h2
      subst h2
      intro z hz
      rcases List.mem_cons.1 hz with rfl | hz
      · exact .inr ⟨x, List.mem_cons_self, rfl⟩
      · exact .inl (List.mem_cons_of_mem _ hz)
    · rw [if_neg hx] at h2
      obtain ⟨m2, hm, rfl⟩ := Option.map_eq_some_iff.1 h2
      intro z hz
      rcases List.mem_cons.1 hz with rfl | hz
      · exact .inl List.mem_cons_self
      · rcases swpL_mem hm z hz with h | ⟨x', h, e⟩
        · exact .inl (List.mem_cons_of_mem _ h)
        · exact .inr ⟨x', List.mem_cons_of_mem _ h, e⟩
theorem remL_mem {id : List UInt8} : ∀ {l m : List Nd}, remL id l = some m → ∀ z ∈ m, z ∈ l
  | [], m, h => by cases h
  | x :: r, m, h => by
    have h2 : (if x.id = id then some r else (remL id r).map (x :: ·)) = some m := h
    by_cases hx : x.id = id
    · rw [if_pos hx] at h2
      injection h2 with h2
      subst h2
      exact fun z hz => List.mem_cons_of_mem _ hz
    · rw [if_neg hx] at h2
      obtain ⟨m2, hm, rfl⟩ := Option.map_eq_some_iff.1 h2
      intro z hz
      rcases List.mem_cons.1 hz with rfl | hz
      · exact List.mem_cons_self
      · exact List.mem_cons_of_mem _ (remL_mem hm z hz)
def OrE (l m : List Nd) (r : Option (List Nd)) (v : Value) : Prop := (r = some m ∧ v = .nilIface) ∨ (r = none ∧ m = l ∧ ∃ k u, v = .iface k u)
theorem opr1 {i sb : Nat} {nr : Value} {l : List Nd} {r : Option (List Nd)} {v : Value} {Hs : List Hp} (h : OpR i sb nr l r v Hs) : ∃ m, Hs = [stg i sb nr m] ∧ OrE l m r v := by
  cases r with
  | none => exact ⟨l, h.2, .inr ⟨rfl, rfl, h.1⟩⟩
  | some m => exact ⟨m, h.2, .inl ⟨rfl, h.1⟩⟩
theorem opt1 {i sb : Nat} {nr : Value} {l : List Nd} {r : Option (List Nd)} {v : Value} {Hs : List Hp} (h : OpT i sb nr l r v Hs) : ∃ m o w, Hs = [stg i sb nr m] ∧ v = .tuple #[o, w] ∧ OrE l m r w := by
  cases r with
  | none => obtain ⟨⟨k, u, h1⟩, h2⟩ := h; exact ⟨l, _, _, h2, h1, .inr ⟨rfl, rfl, k, u, rfl⟩⟩
  | some m => obtain ⟨⟨o, h1⟩, h2⟩ := h; exact ⟨m, o, _, h2, h1, .inl ⟨rfl, rfl⟩⟩
/-- what a step's function answers, with its boxes and what it made -/
def ClR (i base sb b2 b5 b3 : Nat) (nr : Value) (l : List Nd) (ri : Option (List (List UInt8))) (v : Value) (Hs : List Hp) : Prop :=
  ∃ m X, Hs = [env i sb b2 b5 b3, stg i sb nr m, X] ∧ (∀ b o, (b, o) ∈ X → base ≤ b) ∧ (∀ y ∈ m, y ∈ l ∨ (base ≤ y.b ∧ Okn i b3 X y)) ∧ ((ri = some (m.map Nd.id) ∧ v = .nilIface) ∨ (ri = none ∧ m = l ∧ ∃ k u, v = .iface k u))
theorem cl_mk {i base sb b2 b5 b3 : Nat} {nr : Value} {l m : List Nd} {rL : Option (List Nd)} {ri : Option (List (List UInt8))} {v : Value} {X : Hp} (hX : ∀ b o, (b, o) ∈ X → base ≤ b) (hv : OrE l m rL v)
    (hmem : rL = some m → ∀ y ∈ m, y ∈ l ∨ (base ≤ y.b ∧ Okn i b3 X y)) (hr : rL.map (List.map Nd.id) = ri) : ClR i base sb b2 b5 b3 nr l ri v [env i sb b2 b5 b3, stg i sb nr m, X] := by
  refine ⟨m, X, rfl, hX, ?_, ?_⟩
  · rcases hv with ⟨h, _⟩ | ⟨_, h, _⟩
    · exact hmem h
    · exact fun y hy => .inl (h ▸ hy)
  · rcases hv with ⟨h, h2⟩ | ⟨h, h2, h3⟩
    · exact .inl ⟨by rw [← hr, h]; rfl, h2⟩
    · exact .inr ⟨by rw [← hr, h]; rfl, h2, h3⟩
theorem okq {i b3 q : Nat} {y : Nd} (h : y.fv = FVN i b3 q) : Okn i b3 [(q, .cells #[S y.id] 9 (0, 0))] y := ⟨q, h, List.mem_singleton.2 rfl⟩
/-- given.example/pub-tinwright/pub/smithy/middleware.InitializeMiddlewareFunc -/
theorem mwf0 (b3 q : Nat) (id : List UInt8) : Fn0 Tryz.prog 37 [S id, .func (.func 38) #[] #[Pt b3 0, Pt q 0]] (.iface 217 (.agg #[S id, FVN 0 b3 q])) := by
  refine Fn0.enter (n := 9) Tryz.func37 rfl rfl fun w0 => ?_
  refine WC.sub (fr' := [(0, _), (1, _)]) ?_ ⟨rfl, rfl, trivial⟩
  refine WC.seq (WC.region ?_)
  refine WL.q (oq_assign rfl) rfl rfl rfl ?_
  refine WL.nil (WE.then_normal (WC.sub (fr' := [(0, _), (1, _)]) ?_ ⟨rfl, rfl, trivial⟩))
  refine WC.seq (WC.region ?_)
  refine WL.q (oq_move rfl) rfl rfl rfl ?_
  refine WL.q (oq_move rfl) rfl rfl rfl ?_
  refine WL.q (oq_build #[_, _] str217 ty217 rfl rfl) rfl rfl rfl ?_
  refine WL.q (oq_makeI conc217 rfl) rfl rfl rfl ?_
  refine WL.q (oq_assign rfl) rfl rfl rfl ?_
  refine WL.nil (WE.then_normal (WC.sub (fr' := [(4, _)]) ?_ ⟨rfl, trivial⟩))
  refine WC.ret ?_
  refine WE.end0 (.inl rfl) (res1 Tryz.results37 rfl) ?_
  -- end 0
  rfl

/-- given.example/pub-tinwright/impl.initializeStep$1 -/
theorem of0 (base b3 : Nat) (id : List UInt8) : FnW Tryz.prog 36 [S id, Pt b3 0] base [] (fun v Hs => ∃ q, base ≤ q ∧ v = .iface 217 (.agg #[S id, FVN 0 b3 q]) ∧ Hs = [[(q, .cells #[S id] 9 (0, 0))]]) := by
  refine FnW.enter (n := 7) Tryz.func36 rfl rfl fun w0 R0 hbase => ?_
  subst hbase
  show WC _ _ _ _ _ _ _ ([R0])
  refine WC.sub (fr' := [(0, _), (1, _)]) ?_ ⟨rfl, rfl, trivial⟩
  refine WC.seq (WC.region ?_)
  refine WL.box rfl rfl rfl fun q hq => ?_
  refine WL.q (oq_assign rfl) rfl rfl rfl ?_
  refine WL.nil (WE.then_normal (WC.sub (fr' := [(1, _), (2, _)]) ?_ ⟨rfl, rfl, trivial⟩))
  refine WC.seq (WC.region ?_)
  refine WL.q (oq_load flat9 rfl (.head _) (List.mem_singleton.2 rfl) rfl) rfl rfl rfl ?_
  refine WL.q (oq_makeFn rfl) rfl rfl rfl ?_
  refine WL.qc (oq_call (mwf0 b3 q id) call37 rfl) rfl rfl rfl ?_
  refine WL.q (oq_assign rfl) rfl rfl rfl ?_
  refine WL.nil (WE.then_normal (WC.sub (fr' := [(3, _)]) ?_ ⟨rfl, trivial⟩))
  refine WC.ret ?_
  refine WE.endW1 (.inl rfl) (res1 Tryz.results36 rfl) ?_
  -- end 0
  exact ⟨q, hq, rfl, rfl⟩

/-- given.example/pub-tinwright/impl.initializeStep$2 -/
theorem clAdd0 (base sb b2 b5 b3 : Nat) (nr : Value) (l : List Nd) (id : List UInt8) (aft : Bool) : FnW Tryz.prog 41 [S id, I (if aft then 0 else 1), Pt b2 0, Pt b5 0] base [env 0 sb b2 b5 b3, stg 0 sb nr l] (ClR 0 base sb b2 b5 b3 nr l (some (putI aft id (l.map Nd.id)))) := by
  refine FnW.enter (n := 13) Tryz.func41 rfl rfl fun w0 R0 hbase => ?_
  subst hbase
  show WC _ _ _ _ _ _ _ ([env 0 sb b2 b5 b3, stg 0 sb nr l, R0])
  refine WC.sub (fr' := [(0, _), (1, _), (2, _), (3, _)]) ?_ ⟨rfl, rfl, rfl, rfl, trivial⟩
  refine WC.seq (WC.region ?_)
  refine WL.q (oq_assign rfl) rfl rfl rfl ?_
  refine WL.nil (WE.then_normal (WC.sub (fr' := [(0, _), (1, _), (2, _), (3, _)]) ?_ ⟨rfl, rfl, rfl, rfl, trivial⟩))
  refine WC.seq ?_
  refine WC.held (env 0 sb b2 b5 b3) (by kernel_rfl) ?_
  refine WH.q 0 rfl (.head _) (fun w0 => oq_load flat80 rfl (.head _) (.head _) rfl) rfl rfl rfl ?_
  refine WH.q 1 rfl (.head _) (fun w0 => oq_load flat118 rfl (.head _) (.tail _ (.head _)) rfl) rfl rfl rfl ?_
  refine WH.q 2 rfl (.head _) (fun w0 => oq_move rfl) rfl rfl rfl ?_
  refine WH.q 4 rfl (.head _) (fun w0 => oq_move rfl) rfl rfl rfl ?_
  refine WH.step (i := 3) (by kernel_rfl) rfl ?_
  refine WL.callWE (args := [S id, Pt b3 0]) (fun a w hf => run_enterv (first := []) (vs := [S id]) (cap := [Pt b3 0]) call36 rfl rfl hf w) (of0 _ b3 id) rfl rfl rfl rfl fun v1_3 Hs1_3 hR1_3 => ?_
  obtain ⟨q, hq, rfl, rfl⟩ := hR1_3
  refine WL.app1 ?_
  refine WL.nil ?_
  refine WE.toH (.tail _ (.head _)) ?_
  refine WH.step (i := 5) (by kernel_rfl) rfl ?_
  refine WL.f2 ?_
  refine WL.callW1 (addU0 _ sb nr id (FVN 0 b3 q) aft l) call42 rfl rfl rfl fun v1_5 Hs1_5 hR1_5 => ?_
  obtain ⟨e, he, hO⟩ := hR1_5
  obtain ⟨m, rfl, hv⟩ := opr1 hO
  refine WL.to1 ?_
  refine WL.nil ?_
  refine WE.toH (.tail _ (.tail _ (.head _))) ?_
  refine WH.q 6 rfl (.tail _ (.tail _ (.head _))) (fun w0 => oq_assign rfl) rfl rfl rfl ?_
  refine WH.done (by kernel_rfl) ?_
  refine WE.then_normal (WC.sub (fr' := [(6, _)]) ?_ ⟨rfl, trivial⟩)
  refine WC.ret ?_
  refine WE.f3 ?_
  refine WE.f2 ?_
  refine WE.f2 ?_
  refine WE.f3 ?_
  refine WE.endW3 (.inl rfl) (res1 Tryz.results41 rfl) ?_
  -- end 0
  exact cl_mk (fresh1 hq) hv (fun h y hy => by injection h with h; subst h; exact (putE_mem hy).imp (fun h => h) (fun h => by subst h; exact ⟨he, okq rfl⟩)) (by show some _ = _; rw [putE_map])

/-- given.example/pub-tinwright/impl.initializeStep$3 -/
theorem clIns0 (base sb b2 b5 b3 : Nat) (nr : Value) (l : List Nd) (id by_ : List UInt8) (aft : Bool) : FnW Tryz.prog 43 [S id, S by_, I (if aft then 0 else 1), Pt b2 0, Pt b5 0] base [env 0 sb b2 b5 b3, stg 0 sb nr l] (ClR 0 base sb b2 b5 b3 nr l (insI by_ aft id (l.map Nd.id))) := by
  refine FnW.enter (n := 16) Tryz.func43 rfl rfl fun w0 R0 hbase => ?_
  subst hbase
  show WC _ _ _ _ _ _ _ ([env 0 sb b2 b5 b3, stg 0 sb nr l, R0])
  refine WC.sub (fr' := [(0, _), (1, _), (2, _), (3, _), (4, _)]) ?_ ⟨rfl, rfl, rfl, rfl, rfl, trivial⟩
  refine WC.seq (WC.region ?_)
  refine WL.q (oq_assign rfl) rfl rfl rfl ?_
  refine WL.nil (WE.then_normal (WC.sub (fr' := [(0, _), (1, _), (2, _), (3, _), (4, _)]) ?_ ⟨rfl, rfl, rfl, rfl, rfl, trivial⟩))
  refine WC.seq ?_
  refine WC.held (env 0 sb b2 b5 b3) (by kernel_rfl) ?_
  refine WH.q 0 rfl (.head _) (fun w0 => oq_load flat80 rfl (.head _) (.head _) rfl) rfl rfl rfl ?_
  refine WH.q 1 rfl (.head _) (fun w0 => oq_load flat118 rfl (.head _) (.tail _ (.head _)) rfl) rfl rfl rfl ?_
  refine WH.q 2 rfl (.head _) (fun w0 => oq_move rfl) rfl rfl rfl ?_
  refine WH.q 4 rfl (.head _) (fun w0 => oq_move rfl) rfl rfl rfl ?_
  refine WH.q 5 rfl (.head _) (fun w0 => oq_move rfl) rfl rfl rfl ?_
  refine WH.step (i := 3) (by kernel_rfl) rfl ?_
  refine WL.callWE (args := [S id, Pt b3 0]) (fun a w hf => run_enterv (first := []) (vs := [S id]) (cap := [Pt b3 0]) call36 rfl rfl hf w) (of0 _ b3 id) rfl rfl rfl rfl fun v1_3 Hs1_3 hR1_3 => ?_
  obtain ⟨q, hq, rfl, rfl⟩ := hR1_3
  refine WL.app1 ?_
  refine WL.nil ?_
  refine WE.toH (.tail _ (.head _)) ?_
  refine WH.step (i := 6) (by kernel_rfl) rfl ?_
  refine WL.f2 ?_
  refine WL.callW1 (insU0 _ sb nr id (FVN 0 b3 q) by_ aft l) call44 rfl rfl rfl fun v1_6 Hs1_6 hR1_6 => ?_
  obtain ⟨e, he, hO⟩ := hR1_6
  obtain ⟨m, rfl, hv⟩ := opr1 hO
  refine WL.to1 ?_
  refine WL.nil ?_
  refine WE.toH (.tail _ (.tail _ (.head _))) ?_
  refine WH.q 7 rfl (.tail _ (.tail _ (.head _))) (fun w0 => oq_assign rfl) rfl rfl rfl ?_
  refine WH.done (by kernel_rfl) ?_
  refine WE.then_normal (WC.sub (fr' := [(8, _)]) ?_ ⟨rfl, trivial⟩)
  refine WC.ret ?_
  refine WE.f3 ?_
  refine WE.f2 ?_
  refine WE.f2 ?_
  refine WE.f3 ?_
  refine WE.endW3 (.inl rfl) (res1 Tryz.results43 rfl) ?_
  -- end 0
  exact cl_mk (fresh1 hq) hv (fun h y hy => (insL_mem h y hy).imp (fun h => h) (fun h => by subst h; exact ⟨he, okq rfl⟩)) (insL_map _ _ _ _)

/-- given.example/pub-tinwright/impl.initializeStep$4 -/
theorem clSwp0 (base sb b2 b5 b3 : Nat) (nr : Value) (l : List Nd) (id by_ : List UInt8) (hb : ∀ x ∈ l, base ≤ x.b) : FnW Tryz.prog 45 [S by_, S id, Pt b2 0, Pt b5 0] base [env 0 sb b2 b5 b3, stg 0 sb nr l] (ClR 0 base sb b2 b5 b3 nr l (swpI by_ id (l.map Nd.id))) := by
  refine FnW.enter (n := 19) Tryz.func45 rfl rfl fun w0 R0 hbase => ?_
  subst hbase
  show WC _ _ _ _ _ _ _ ([env 0 sb b2 b5 b3, stg 0 sb nr l, R0])
  refine WC.sub (fr' := [(0, _), (1, _), (2, _), (3, _)]) ?_ ⟨rfl, rfl, rfl, rfl, trivial⟩
  refine WC.seq (WC.region ?_)
  refine WL.q (oq_assign rfl) rfl rfl rfl ?_
  refine WL.nil (WE.then_normal (WC.sub (fr' := [(0, _), (1, _), (2, _), (3, _)]) ?_ ⟨rfl, rfl, rfl, rfl, trivial⟩))
  refine WC.seq ?_
  refine WC.held (env 0 sb b2 b5 b3) (by kernel_rfl) ?_
  refine WH.q 0 rfl (.head _) (fun w0 => oq_load flat80 rfl (.head _) (.head _) rfl) rfl rfl rfl ?_
  refine WH.q 1 rfl (.head _) (fun w0 => oq_move rfl) rfl rfl rfl ?_
  refine WH.q 2 rfl (.head _) (fun w0 => oq_load flat118 rfl (.head _) (.tail _ (.head _)) rfl) rfl rfl rfl ?_
  refine WH.q 3 rfl (.head _) (fun w0 => oq_move rfl) rfl rfl rfl ?_
  refine WH.step (i := 4) (by kernel_rfl) rfl ?_
  refine WL.callWE (args := [S id, Pt b3 0]) (fun a w hf => run_enterv (first := []) (vs := [S id]) (cap := [Pt b3 0]) call36 rfl rfl hf w) (of0 _ b3 id) rfl rfl rfl rfl fun v1_4 Hs1_4 hR1_4 => ?_
  obtain ⟨q, hq, rfl, rfl⟩ := hR1_4
  refine WL.app1 ?_
  refine WL.nil ?_
  refine WE.toH (.tail _ (.head _)) ?_
  refine WH.step (i := 5) (by kernel_rfl) rfl ?_
  refine WL.f2 ?_
  refine WL.callW1 (swpU0 _ sb nr id (FVN 0 b3 q) by_ l) call46 rfl rfl rfl fun v1_5 Hs1_5 hR1_5 => ?_
  obtain ⟨m, o, w, rfl, rfl, hv⟩ := opt1 hR1_5
  refine WL.to1 ?_
  refine WL.nil ?_
  refine WE.toH (.tail _ (.tail _ (.head _))) ?_
  refine WH.q 6 rfl (.tail _ (.tail _ (.head _))) (fun w0 => oq_move rfl) rfl rfl rfl ?_
  refine WH.q 7 rfl (.tail _ (.tail _ (.head _))) (fun w0 => oq_extract rfl rfl) rfl rfl rfl ?_
  refine WH.q 8 rfl (.tail _ (.tail _ (.head _))) (fun w0 => oq_extract rfl rfl) rfl rfl rfl ?_
  refine WH.q 9 rfl (.tail _ (.tail _ (.head _))) (fun w0 => oq_assign rfl) rfl rfl rfl ?_
  refine WH.q 10 rfl (.tail _ (.tail _ (.head _))) (fun w0 => oq_assign rfl) rfl rfl rfl ?_
  refine WH.done (by kernel_rfl) ?_
  refine WE.then_normal (WC.sub (fr' := [(8, _)]) ?_ ⟨rfl, trivial⟩)
  refine WC.seq (WC.region ?_)
  refine WL.q (oq_move rfl) rfl rfl rfl ?_
  refine WL.q (oq_assign rfl) rfl rfl rfl ?_
  refine WL.nil (WE.then_normal (WC.sub (fr' := [(6, _)]) ?_ ⟨rfl, trivial⟩))
  refine WC.ret ?_
  refine WE.f3 ?_
  refine WE.f2 ?_
  refine WE.f2 ?_
  refine WE.f3 ?_
  refine WE.endW3 (.inl rfl) (res1 Tryz.results45 rfl) ?_
  -- end 0
  exact cl_mk (fresh1 hq) hv (fun h y hy => (swpL_mem h y hy).imp (fun h => h) (fun h => by obtain ⟨x, hx, rfl⟩ := h; exact ⟨hb x hx, okq rfl⟩)) (swpL_map _ _ _ _)

/-- given.example/pub-tinwright/impl.initializeStep$5 -/
theorem clRem0 (base sb b2 b5 b3 : Nat) (nr : Value) (l : List Nd) (id : List UInt8) (hb : ∀ x ∈ l, base ≤ x.b) : FnW Tryz.prog 47 [S id, Pt b2 0] base [env 0 sb b2 b5 b3, stg 0 sb nr l, []] (ClR 0 base sb b2 b5 b3 nr l (remI id (l.map Nd.id))) := by
  refine FnW.enter (n := 13) Tryz.func47 rfl rfl fun w0 R0 hbase => ?_
  subst hbase
  show WC _ _ _ _ _ _ _ ([env 0 sb b2 b5 b3, stg 0 sb nr l, [], R0])
  refine WC.sub (fr' := [(0, _), (1, _)]) ?_ ⟨rfl, rfl, trivial⟩
  refine WC.seq (WC.region ?_)
  refine WL.q (oq_assign rfl) rfl rfl rfl ?_
  refine WL.nil (WE.then_normal (WC.sub (fr' := [(0, _), (1, _)]) ?_ ⟨rfl, rfl, trivial⟩))
  refine WC.seq (WC.region ?_)
  refine WL.q (oq_load flat80 rfl (.head _) (.head _) rfl) rfl rfl rfl ?_
  refine WL.q (oq_move rfl) rfl rfl rfl ?_
  refine WL.f1 ?_
  refine WL.callW1 (remU0 _ sb nr id l hb) call48 rfl rfl rfl fun v1_2 Hs1_2 hR1_2 => ?_
  obtain ⟨m, o, w, rfl, rfl, hv⟩ := opt1 hR1_2
  refine WL.to1 ?_
  refine WL.q (oq_move rfl) rfl rfl rfl ?_
  refine WL.q (oq_extract rfl rfl) rfl rfl rfl ?_
  refine WL.q (oq_extract rfl rfl) rfl rfl rfl ?_
  refine WL.q (oq_assign rfl) rfl rfl rfl ?_
  refine WL.q (oq_assign rfl) rfl rfl rfl ?_
  refine WL.nil (WE.then_normal (WC.sub (fr' := [(5, _)]) ?_ ⟨rfl, trivial⟩))
  refine WC.seq (WC.region ?_)
  refine WL.q (oq_move rfl) rfl rfl rfl ?_
  refine WL.q (oq_assign rfl) rfl rfl rfl ?_
  refine WL.nil (WE.then_normal (WC.sub (fr' := [(3, _)]) ?_ ⟨rfl, trivial⟩))
  refine WC.ret ?_
  refine WE.f3 ?_
  refine WE.f3 ?_
  refine WE.f2 ?_
  refine WE.f3 ?_
  refine WE.endW3 (.inl rfl) (res1 Tryz.results47 rfl) ?_
  -- end 0
  exact cl_mk (fun _ _ h => nomatch h) hv (fun h y hy => .inl (remL_mem h y hy)) (remL_map _ _)

/-- given.example/pub-tinwright/impl.initializeStep$6 -/
theorem clHas0 (base sb b2 b5 b3 : Nat) (nr : Value) (l : List Nd) (id : List UInt8) : FnW Tryz.prog 51 [S id, Pt b2 0] base [env 0 sb b2 b5 b3, stg 0 sb nr l] (fun v Hs => v = .bool (decide (id ∈ l.map Nd.id)) ∧ Hs = [env 0 sb b2 b5 b3, stg 0 sb nr l]) := by
  refine FnW.enter (n := 13) Tryz.func51 rfl rfl fun w0 R0 hbase => ?_
  subst hbase
  show WC _ _ _ _ _ _ _ ([env 0 sb b2 b5 b3, stg 0 sb nr l, R0])
  refine WC.sub (fr' := [(0, _), (1, _)]) ?_ ⟨rfl, rfl, trivial⟩
  refine WC.seq (WC.region ?_)
  refine WL.q (oq_assign rfl) rfl rfl rfl ?_
  refine WL.nil (WE.then_normal (WC.sub (fr' := [(0, _), (1, _)]) ?_ ⟨rfl, rfl, trivial⟩))
  refine WC.seq (WC.region ?_)
  refine WL.q (oq_load flat80 rfl (.head _) (.head _) rfl) rfl rfl rfl ?_
  refine WL.q (oq_move rfl) rfl rfl rfl ?_
  refine WL.f1 ?_
  refine WL.callW1 (getU0 _ sb nr id l) call52 rfl rfl rfl fun v1_2 Hs1_2 hR1_2 => ?_
  obtain ⟨⟨o, rfl⟩, rfl⟩ := hR1_2
  refine WL.to1 ?_
  refine WL.q (oq_move rfl) rfl rfl rfl ?_
  refine WL.q (oq_extract rfl rfl) rfl rfl rfl ?_
  refine WL.q (oq_extract rfl rfl) rfl rfl rfl ?_
  refine WL.q (oq_assign rfl) rfl rfl rfl ?_
  refine WL.q (oq_assign rfl) rfl rfl rfl ?_
  refine WL.nil (WE.then_normal (WC.sub (fr' := [(5, _)]) ?_ ⟨rfl, trivial⟩))
  refine WC.seq (WC.region ?_)
  refine WL.q (oq_move rfl) rfl rfl rfl ?_
  refine WL.q (oq_assign rfl) rfl rfl rfl ?_
  refine WL.nil (WE.then_normal (WC.sub (fr' := [(3, _)]) ?_ ⟨rfl, trivial⟩))
  refine WC.ret ?_
  refine WE.f2 ?_
  refine WE.f1 ?_
  refine WE.f2 ?_
  refine WE.endW2 (.inl rfl) (res1 Tryz.results51 rfl) ?_
  -- end 0
  exact ⟨rfl, rfl⟩

/-- given.example/pub-tinwright/pub/smithy/middleware.SerializeMiddlewareFunc -/
theorem mwf1 (b3 q : Nat) (id : List UInt8) : Fn0 Tryz.prog 54 [S id, .func (.func 55) #[] #[Pt b3 0, Pt q 0]] (.iface 225 (.agg #[S id, FVN 1 b3 q])) := by
  refine Fn0.enter (n := 9) Tryz.func54 rfl rfl fun w0 => ?_
  refine WC.sub (fr' := [(0, _), (1, _)]) ?_ ⟨rfl, rfl, trivial⟩
  refine WC.seq (WC.region ?_)
  refine WL.q (oq_assign rfl) rfl rfl rfl ?_
  refine WL.nil (WE.then_normal (WC.sub (fr' := [(0, _), (1, _)]) ?_ ⟨rfl, rfl, trivial⟩))
  refine WC.seq (WC.region ?_)
  refine WL.q (oq_move rfl) rfl rfl rfl ?_
  refine WL.q (oq_move rfl) rfl rfl rfl ?_
  refine WL.q (oq_build #[_, _] str225 ty225 rfl rfl) rfl rfl rfl ?_
  refine WL.q (oq_makeI conc225 rfl) rfl rfl rfl ?_
  refine WL.q (oq_assign rfl) rfl rfl rfl ?_
  refine WL.nil (WE.then_normal (WC.sub (fr' := [(4, _)]) ?_ ⟨rfl, trivial⟩))
  refine WC.ret ?_
  refine WE.end0 (.inl rfl) (res1 Tryz.results54 rfl) ?_
  -- end 0
  rfl

/-- given.example/pub-tinwright/impl.serializeStep$1 -/
theorem of1 (base b3 : Nat) (id : List UInt8) : FnW Tryz.prog 53 [S id, Pt b3 0] base [] (fun v Hs => ∃ q, base ≤ q ∧ v = .iface 225 (.agg #[S id, FVN 1 b3 q]) ∧ Hs = [[(q, .cells #[S id] 9 (0, 0))]]) := by
  refine FnW.enter (n := 7) Tryz.func53 rfl rfl fun w0 R0 hbase => ?_
  subst hbase
  show WC _ _ _ _ _ _ _ ([R0])
  refine WC.sub (fr' := [(0, _), (1, _)]) ?_ ⟨rfl, rfl, trivial⟩
  refine WC.seq (WC.region ?_)
  refine WL.box rfl rfl rfl fun q hq => ?_
  refine WL.q (oq_assign rfl) rfl rfl rfl ?_
  refine WL.nil (WE.then_normal (WC.sub (fr' := [(1, _), (2, _)]) ?_ ⟨rfl, rfl, trivial⟩))
  refine WC.seq (WC.region ?_)
  refine WL.q (oq_load flat9 rfl (.head _) (List.mem_singleton.2 rfl) rfl) rfl rfl rfl ?_
  refine WL.q (oq_makeFn rfl) rfl rfl rfl ?_
  refine WL.qc (oq_call (mwf1 b3 q id) call54 rfl) rfl rfl rfl ?_
  refine WL.q (oq_assign rfl) rfl rfl rfl ?_
  refine WL.nil (WE.then_normal (WC.sub (fr' := [(3, _)]) ?_ ⟨rfl, trivial⟩))
  refine WC.ret ?_
  refine WE.endW1 (.inl rfl) (res1 Tryz.results53 rfl) ?_
  -- end 0
  exact ⟨q, hq, rfl, rfl⟩

/-- given.example/pub-tinwright/impl.serializeStep$2 -/
theorem clAdd1 (base sb b2 b5 b3 : Nat) (nr : Value) (l : List Nd) (id : List UInt8) (aft : Bool) : FnW Tryz.prog 56 [S id, I (if aft then 0 else 1), Pt b2 0, Pt b5 0] base [env 1 sb b2 b5 b3, stg 1 sb nr l] (ClR 1 base sb b2 b5 b3 nr l (some (putI aft id (l.map Nd.id)))) := by
  refine FnW.enter (n := 13) Tryz.func56 rfl rfl fun w0 R0 hbase => ?_
  subst hbase
  show WC _ _ _ _ _ _ _ ([env 1 sb b2 b5 b3, stg 1 sb nr l, R0])
  refine WC.sub (fr' := [(0, _), (1, _), (2, _), (3, _)]) ?_ ⟨rfl, rfl, rfl, rfl, trivial⟩
  refine WC.seq (WC.region ?_)
  refine WL.q (oq_assign rfl) rfl rfl rfl ?_
  refine WL.nil (WE.then_normal (WC.sub (fr' := [(0, _), (1, _), (2, _), (3, _)]) ?_ ⟨rfl, rfl, rfl, rfl, trivial⟩))
  refine WC.seq ?_
  refine WC.held (env 1 sb b2 b5 b3) (by kernel_rfl) ?_
  refine WH.q 0 rfl (.head _) (fun w0 => oq_load flat81 rfl (.head _) (.head _) rfl) rfl rfl rfl ?_
  refine WH.q 1 rfl (.head _) (fun w0 => oq_load flat137 rfl (.head _) (.tail _ (.head _)) rfl) rfl rfl rfl ?_
  refine WH.q 2 rfl (.head _) (fun w0 => oq_move rfl) rfl rfl rfl ?_
  refine WH.q 4 rfl (.head _) (fun w0 => oq_move rfl) rfl rfl rfl ?_
  refine WH.step (i := 3) (by kernel_rfl) rfl ?_
  refine WL.callWE (args := [S id, Pt b3 0]) (fun a w hf => run_enterv (first := []) (vs := [S id]) (cap := [Pt b3 0]) call53 rfl rfl hf w) (of1 _ b3 id) rfl rfl rfl rfl fun v1_3 Hs1_3 hR1_3 => ?_
  obtain ⟨q, hq, rfl, rfl⟩ := hR1_3
  refine WL.app1 ?_
  refine WL.nil ?_
  refine WE.toH (.tail _ (.head _)) ?_
  refine WH.step (i := 5) (by kernel_rfl) rfl ?_
  refine WL.f2 ?_
  refine WL.callW1 (addU1 _ sb nr id (FVN 1 b3 q) aft l) call57 rfl rfl rfl fun v1_5 Hs1_5 hR1_5 => ?_
  obtain ⟨e, he, hO⟩ := hR1_5
  obtain ⟨m, rfl, hv⟩ := opr1 hO
  refine WL.to1 ?_
  refine WL.nil ?_
  refine WE.toH (.tail _ (.tail _ (.head _))) ?_
  refine WH.q 6 rfl (.tail _ (.tail _ (.head _))) (fun w0 => oq_assign rfl) rfl rfl rfl ?_
  refine WH.done (by kernel_rfl) ?_
  refine WE.then_normal (WC.sub (fr' := [(6, _)]) ?_ ⟨rfl, trivial⟩)
  refine WC.ret ?_
  refine WE.f3 ?_
  refine WE.f2 ?_
  refine WE.f2 ?_
  refine WE.f3 ?_
  refine WE.endW3 (.inl rfl) (res1 Tryz.results56 rfl) ?_
  -- end 0
  exact cl_mk (fresh1 hq) hv (fun h y hy => by injection h with h; subst h; exact (putE_mem hy).imp (fun h => h) (fun h => by subst h; exact ⟨he, okq rfl⟩)) (by show some _ = _; rw [putE_map])

/-- given.example/pub-tinwright/impl.serializeStep$3 -/
theorem clIns1 (base sb b2 b5 b3 : Nat) (nr : Value) (l : List Nd) (id by_ : List UInt8) (aft : Bool) : FnW Tryz.prog 58 [S id, S by_, I (if aft then 0 else 1), Pt b2 0, Pt b5 0] base [env 1 sb b2 b5 b3, stg 1 sb nr l] (ClR 1 base sb b2 b5 b3 nr l (insI by_ aft id (l.map Nd.id))) := by
  refine FnW.enter (n := 16) Tryz.func58 rfl rfl fun w0 R0 hbase => ?_
  subst hbase
  show WC _ _ _ _ _ _ _ ([env 1 sb b2 b5 b3, stg 1 sb nr l, R0])
  refine WC.sub (fr' := [(0, _), (1, _), (2, _), (3, _), (4, _)]) ?_ ⟨rfl, rfl, rfl, rfl, rfl, trivial⟩
  refine WC.seq (WC.region ?_)
  refine WL.q (oq_assign rfl) rfl rfl rfl ?_
  refine WL.nil (WE.then_normal (WC.sub (fr' := [(0, _), (1, _), (2, _), (3, _), (4, _)]) ?_ ⟨rfl, rfl, rfl, rfl, rfl, trivial⟩))
  refine WC.seq ?_
  refine WC.held (env 1 sb b2 b5 b3) (by kernel_rfl) ?_
  refine WH.q 0 rfl (.head _) (fun w0 => oq_load flat81 rfl (.head _) (.head _) rfl) rfl rfl rfl ?_
  refine WH.q 1 rfl (.head _) (fun w0 => oq_load flat137 rfl (.head _) (.tail _ (.head _)) rfl) rfl rfl rfl ?_
  refine WH.q 2 rfl (.head _) (fun w0 => oq_move rfl) rfl rfl rfl ?_
  refine WH.q 4 rfl (.head _) (fun w0 => oq_move rfl) rfl rfl rfl ?_
  refine WH.q 5 rfl (.head _) (fun w0 => oq_move rfl) rfl rfl rfl ?_
  refine WH.step (i := 3) (by kernel_rfl) rfl ?_
  refine WL.callWE (args := [S id, Pt b3 0]) (fun a w hf => run_enterv (first := []) (vs := [S id]) (cap := [Pt b3 0]) call53 rfl rfl hf w) (of1 _ b3 id) rfl rfl rfl rfl fun v1_3 Hs1_3 hR1_3 => ?_
  obtain ⟨q, hq, rfl, rfl⟩ := hR1_3
  refine WL.app1 ?_
  refine WL.nil ?_
  refine WE.toH (.tail _ (.head _)) ?_
  refine WH.step (i := 6) (by kernel_rfl) rfl ?_
  refine WL.f2 ?_
  refine WL.callW1 (insU1 _ sb nr id (FVN 1 b3 q) by_ aft l) call59 rfl rfl rfl fun v1_6 Hs1_6 hR1_6 => ?_
  obtain ⟨e, he, hO⟩ := hR1_6
  obtain ⟨m, rfl, hv⟩ := opr1 hO
  refine WL.to1 ?_
  refine WL.nil ?_
  refine WE.toH (.tail _ (.tail _ (.head _))) ?_
  refine WH.q 7 rfl (.tail _ (.tail _ (.head _))) (fun w0 => oq_assign rfl) rfl rfl rfl ?_
  refine WH.done (by kernel_rfl) ?_
  refine WE.then_normal (WC.sub (fr' := [(8, _)]) ?_ ⟨rfl, trivial⟩)
  refine WC.ret ?_
  refine WE.f3 ?_
  refine WE.f2 ?_
  refine WE.f2 ?_
  refine WE.f3 ?_
  refine WE.endW3 (.inl rfl) (res1 Tryz.results58 rfl) ?_
  -- end 0
  exact cl_mk (fresh1 hq) hv (fun h y hy => (insL_mem h y hy).imp (fun h => h) (fun h => by subst h; exact ⟨he, okq rfl⟩)) (insL_map _ _ _ _)

/-- given.example/pub-tinwright/impl.serializeStep$4 -/
theorem clSwp1 (base sb b2 b5 b3 : Nat) (nr : Value) (l : List Nd) (id by_ : List UInt8) (hb : ∀ x ∈ l, base ≤ x.b) : FnW Tryz.prog 60 [S by_, S id, Pt b2 0, Pt b5 0] base [env 1 sb b2 b5 b3, stg 1 sb nr l] (ClR 1 base sb b2 b5 b3 nr l (swpI by_ id (l.map Nd.id))) := by
  refine FnW.enter (n := 19) Tryz.func60 rfl rfl fun w0 R0 hbase => ?_
  subst hbase
  show WC _ _ _ _ _ _ _ ([env 1 sb b2 b5 b3, stg 1 sb nr l, R0])
  refine WC.sub (fr' := [(0, _), (1, _), (2, _), (3, _)]) ?_ ⟨rfl, rfl, rfl, rfl, trivial⟩
  refine WC.seq (WC.region ?_)
  refine WL.q (oq_assign rfl) rfl rfl rfl ?_
  refine WL.nil (WE.then_normal (WC.sub (fr' := [(0, _), (1, _), (2, _), (3, _)]) ?_ ⟨rfl, rfl, rfl, rfl, trivial⟩))
  refine WC.seq ?_
  refine WC.held (env 1 sb b2 b5 b3) (by kernel_rfl) ?_
  refine WH.q 0 rfl (.head _) (fun w0 => oq_load flat81 rfl (.head _) (.head _) rfl) rfl rfl rfl ?_
  refine WH.q 1 rfl (.head _) (fun w0 => oq_move rfl) rfl rfl rfl ?_
  refine WH.q 2 rfl (.head _) (fun w0 => oq_load flat137 rfl (.head _) (.tail _ (.head _)) rfl) rfl rfl rfl ?_
  refine WH.q 3 rfl (.head _) (fun w0 => oq_move rfl) rfl rfl rfl ?_
  refine WH.step (i := 4) (by kernel_rfl) rfl ?_
  refine WL.callWE (args := [S id, Pt b3 0]) (fun a w hf => run_enterv (first := []) (vs := [S id]) (cap := [Pt b3 0]) call53 rfl rfl hf w) (of1 _ b3 id) rfl rfl rfl rfl fun v1_4 Hs1_4 hR1_4 => ?_
  obtain ⟨q, hq, rfl, rfl⟩ := hR1_4
  refine WL.app1 ?_
  refine WL.nil ?_
  refine WE.toH (.tail _ (.head _)) ?_
  refine WH.step (i := 5) (by kernel_rfl) rfl ?_
  refine WL.f2 ?_
  refine WL.callW1 (swpU1 _ sb nr id (FVN 1 b3 q) by_ l) call61 rfl rfl rfl fun v1_5 Hs1_5 hR1_5 => ?_
  obtain ⟨m, o, w, rfl, rfl, hv⟩ := opt1 hR1_5
  refine WL.to1 ?_
  refine WL.nil ?_
  refine WE.toH (.tail _ (.tail _ (.head _))) ?_
  refine WH.q 6 rfl (.tail _ (.tail _ (.head _))) (fun w0 => oq_move rfl) rfl rfl rfl ?_
  refine WH.q 7 rfl (.tail _ (.tail _ (.head _))) (fun w0 => oq_extract rfl rfl) rfl rfl rfl ?_
  refine WH.q 8 rfl (.tail _ (.tail _ (.head _))) (fun w0 => oq_extract rfl rfl) rfl rfl rfl ?_
  refine WH.q 9 rfl (.tail _ (.tail _ (.head _))) (fun w0 => oq_assign rfl) rfl rfl rfl ?_
  refine WH.q 10 rfl (.tail _ (.tail _ (.head _))) (fun w0 => oq_assign rfl) rfl rfl rfl ?_
  refine WH.done (by kernel_rfl) ?_
  refine WE.then_normal (WC.sub (fr' := [(8, _)]) ?_ ⟨rfl, trivial⟩)
  refine WC.seq (WC.region ?_)
  refine WL.q (oq_move rfl) rfl rfl rfl ?_
  refine WL.q (oq_assign rfl) rfl rfl rfl ?_
  refine WL.nil (WE.then_normal (WC.sub (fr' := [(6, _)]) ?_ ⟨rfl, trivial⟩))
  refine WC.ret ?_
  refine WE.f3 ?_
  refine WE.f2 ?_
  refine WE.f2 ?_
  refine WE.f3 ?_
  refine WE.endW3 (.inl rfl) (res1 Tryz.results60 rfl) ?_
  -- end 0
  exact cl_mk (fresh1 hq) hv (fun h y hy => (swpL_mem h y hy).imp (fun h => h) (fun h => by obtain ⟨x, hx, rfl⟩ := h; exact ⟨hb x hx, okq rfl⟩)) (swpL_map _ _ _ _)

/-- given.example/pub-tinwright/impl.serializeStep$5 -/
theorem clRem1 (base sb b2 b5 b3 : Nat) (nr : Value) (l : List Nd) (id : List UInt8) (hb : ∀ x ∈ l, base ≤ x.b) : FnW Tryz.prog 62 [S id, Pt b2 0] base [env 1 sb b2 b5 b3, stg 1 sb nr l, []] (ClR 1 base sb b2 b5 b3 nr l (remI id (l.map Nd.id))) := by
  refine FnW.enter (n := 13) Tryz.func62 rfl rfl fun w0 R0 hbase => ?_
  subst hbase
  show WC _ _ _ _ _ _ _ ([env 1 sb b2 b5 b3, stg 1 sb nr l, [], R0])
  refine WC.sub (fr' := [(0, _), (1, _)]) ?_ ⟨rfl, rfl, trivial⟩
  refine WC.seq (WC.region ?_)
  refine WL.q (oq_assign rfl) rfl rfl rfl ?_
  refine WL.nil (WE.then_normal (WC.sub (fr' := [(0, _), (1, _)]) ?_ ⟨rfl, rfl, trivial⟩))
  refine WC.seq (WC.region ?_)
  refine WL.q (oq_load flat81 rfl (.head _) (.head _) rfl) rfl rfl rfl ?_
  refine WL.q (oq_move rfl) rfl rfl rfl ?_
  refine WL.f1 ?_
  refine WL.callW1 (remU1 _ sb nr id l hb) call63 rfl rfl rfl fun v1_2 Hs1_2 hR1_2 => ?_
  obtain ⟨m, o, w, rfl, rfl, hv⟩ := opt1 hR1_2
  refine WL.to1 ?_
  refine WL.q (oq_move rfl) rfl rfl rfl ?_
  refine WL.q (oq_extract rfl rfl) rfl rfl rfl ?_
  refine WL.q (oq_extract rfl rfl) rfl rfl rfl ?_
  refine WL.q (oq_assign rfl) rfl rfl rfl ?_
  refine WL.q (oq_assign rfl) rfl rfl rfl ?_
  refine WL.nil (WE.then_normal (WC.sub (fr' := [(5, _)]) ?_ ⟨rfl, trivial⟩))
  refine WC.seq (WC.region ?_)
  refine WL.q (oq_move rfl) rfl rfl rfl ?_
  refine WL.q (oq_assign rfl) rfl rfl rfl ?_
  refine WL.nil (WE.then_normal (WC.sub (fr' := [(3, _)]) ?_ ⟨rfl, trivial⟩))
  refine WC.ret ?_
  refine WE.f3 ?_
  refine WE.f3 ?_
  refine WE.f2 ?_
  refine WE.f3 ?_
  refine WE.endW3 (.inl rfl) (res1 Tryz.results62 rfl) ?_
  -- end 0
  exact cl_mk (fun _ _ h => nomatch h) hv (fun h y hy => .inl (remL_mem h y hy)) (remL_map _ _)

/-- given.example/pub-tinwright/impl.serializeStep$6 -/
theorem clHas1 (base sb b2 b5 b3 : Nat) (nr : Value) (l : List Nd) (id : List UInt8) : FnW Tryz.prog 66 [S id, Pt b2 0] base [env 1 sb b2 b5 b3, stg 1 sb nr l] (fun v Hs => v = .bool (decide (id ∈ l.map Nd.id)) ∧ Hs = [env 1 sb b2 b5 b3, stg 1 sb nr l]) := by
  refine FnW.enter (n := 13) Tryz.func66 rfl rfl fun w0 R0 hbase => ?_
  subst hbase
  show WC _ _ _ _ _ _ _ ([env 1 sb b2 b5 b3, stg 1 sb nr l, R0])
  refine WC.sub (fr' := [(0, _), (1, _)]) ?_ ⟨rfl, rfl, trivial⟩
  refine WC.seq (WC.region ?_)
  refine WL.q (oq_assign rfl) rfl rfl rfl ?_
  refine WL.nil (WE.then_normal (WC.sub (fr' := [(0, _), (1, _)]) ?_ ⟨rfl, rfl, trivial⟩))
  refine WC.seq (WC.region ?_)
  refine WL.q (oq_load flat81 rfl (.head _) (.head _) rfl) rfl rfl rfl ?_
  refine WL.q (oq_move rfl) rfl rfl rfl ?_
  refine WL.f1 ?_
  refine WL.callW1 (getU1 _ sb nr id l) call67 rfl rfl rfl fun v1_2 Hs1_2 hR1_2 => ?_
  obtain ⟨⟨o, rfl⟩, rfl⟩ := hR1_2
  refine WL.to1 ?_
  refine WL.q (oq_move rfl) rfl rfl rfl ?_
  refine WL.q (oq_extract rfl rfl) rfl rfl rfl ?_
  refine WL.q (oq_extract rfl rfl) rfl rfl rfl ?_
  refine WL.q (oq_assign rfl) rfl rfl rfl ?_
  refine WL.q (oq_assign rfl) rfl rfl rfl ?_
  refine WL.nil (WE.then_normal (WC.sub (fr' := [(5, _)]) ?_ ⟨rfl, trivial⟩))
  refine WC.seq (WC.region ?_)
  refine WL.q (oq_move rfl) rfl rfl rfl ?_
  refine WL.q (oq_assign rfl) rfl rfl rfl ?_
  refine WL.nil (WE.then_normal (WC.sub (fr' := [(3, _)]) ?_ ⟨rfl, trivial⟩))
  refine WC.ret ?_
  refine WE.f2 ?_
  refine WE.f1 ?_
  refine WE.f2 ?_
  refine WE.endW2 (.inl rfl) (res1 Tryz.results66 rfl) ?_
  -- end 0
  exact ⟨rfl, rfl⟩

/-- given.example/pub-tinwright/pub/smithy/middleware.BuildMiddlewareFunc -/
theorem mwf2 (b3 q : Nat) (id : List UInt8) : Fn0 Tryz.prog 69 [S id, .func (.func 70) #[] #[Pt b3 0, Pt q 0]] (.iface 232 (.agg #[S id, FVN 2 b3 q])) := by
  refine Fn0.enter (n := 9) Tryz.func69 rfl rfl fun w0 => ?_
  refine WC.sub (fr' := [(0, _), (1, _)]) ?_ ⟨rfl, rfl, trivial⟩
  refine WC.seq (WC.region ?_)
  refine WL.q (oq_assign rfl) rfl rfl rfl ?_
  refine WL.nil (WE.then_normal (WC.sub (fr' := [(0, _), (1, _)]) ?_ ⟨rfl, rfl, trivial⟩))
  refine WC.seq (WC.region ?_)
  refine WL.q (oq_move rfl) rfl rfl rfl ?_
  refine WL.q (oq_move rfl) rfl rfl rfl ?_
  refine WL.q (oq_build #[_, _] str232 ty232 rfl rfl) rfl rfl rfl ?_
  refine WL.q (oq_makeI conc232 rfl) rfl rfl rfl ?_
  refine WL.q (oq_assign rfl) rfl rfl rfl ?_
  refine WL.nil (WE.then_normal (WC.sub (fr' := [(4, _)]) ?_ ⟨rfl, trivial⟩))
  refine WC.ret ?_
  refine WE.end0 (.inl rfl) (res1 Tryz.results69 rfl) ?_
  -- end 0
  rfl

/-- given.example/pub-tinwright/impl.buildStep$1 -/
theorem of2 (base b3 : Nat) (id : List UInt8) : FnW Tryz.prog 68 [S id, Pt b3 0] base [] (fun v Hs => ∃ q, base ≤ q ∧ v = .iface 232 (.agg #[S id, FVN 2 b3 q]) ∧ Hs = [[(q, .cells #[S id] 9 (0, 0))]]) := by
  refine FnW.enter (n := 7) Tryz.func68 rfl rfl fun w0 R0 hbase => ?_
  subst hbase
  show WC _ _ _ _ _ _ _ ([R0])
  refine WC.sub (fr' := [(0, _), (1, _)]) ?_ ⟨rfl, rfl, trivial⟩
  refine WC.seq (WC.region ?_)
  refine WL.box rfl rfl rfl fun q hq => ?_
  refine WL.q (oq_assign rfl) rfl rfl rfl ?_
  refine WL.nil (WE.then_normal (WC.sub (fr' := [(1, _), (2, _)]) ?_ ⟨rfl, rfl, trivial⟩))
  refine WC.seq (WC.region ?_)
  refine WL.q (oq_load flat9 rfl (.head _) (List.mem_singleton.2 rfl) rfl) rfl rfl rfl ?_
  refine WL.q (oq_makeFn rfl) rfl rfl rfl ?_
  refine WL.qc (oq_call (mwf2 b3 q id) call69 rfl) rfl rfl rfl ?_
  refine WL.q (oq_assign rfl) rfl rfl rfl ?_
  refine WL.nil (WE.then_normal (WC.sub (fr' := [(3, _)]) ?_ ⟨rfl, trivial⟩))
  refine WC.ret ?_
  refine WE.endW1 (.inl rfl) (res1 Tryz.results68 rfl) ?_
  -- end 0
  exact ⟨q, hq, rfl, rfl⟩

/-- given.example/pub-tinwright/impl.buildStep$2 -/
theorem clAdd2 (base sb b2 b5 b3 : Nat) (nr : Value) (l : List Nd) (id : List UInt8) (aft : Bool) : FnW Tryz.prog 71 [S id, I (if aft then 0 else 1), Pt b2 0, Pt b5 0] base [env 2 sb b2 b5 b3, stg 2 sb nr l] (ClR 2 base sb b2 b5 b3 nr l (some (putI aft id (l.map Nd.id)))) := by
  refine FnW.enter (n := 13) Tryz.func71 rfl rfl fun w0 R0 hbase => ?_
  subst hbase
  show WC _ _ _ _ _ _ _ ([env 2 sb b2 b5 b3, stg 2 sb nr l, R0])
  refine WC.sub (fr' := [(0, _), (1, _), (2, _), (3, _)]) ?_ ⟨rfl, rfl, rfl, rfl, trivial⟩
  refine WC.seq (WC.region ?_)
  refine WL.q (oq_assign rfl) rfl rfl rfl ?_
  refine WL.nil (WE.then_normal (WC.sub (fr' := [(0, _), (1, _), (2, _), (3, _)]) ?_ ⟨rfl, rfl, rfl, rfl, trivial⟩))
  refine WC.seq ?_
  refine WC.held (env 2 sb b2 b5 b3) (by kernel_rfl) ?_
  refine WH.q 0 rfl (.head _) (fun w0 => oq_load flat82 rfl (.head _) (.head _) rfl) rfl rfl rfl ?_
  refine WH.q 1 rfl (.head _) (fun w0 => oq_load flat156 rfl (.head _) (.tail _ (.head _)) rfl) rfl rfl rfl ?_
  refine WH.q 2 rfl (.head _) (fun w0 => oq_move rfl) rfl rfl rfl ?_
  refine WH.q 4 rfl (.head _) (fun w0 => oq_move rfl) rfl rfl rfl ?_
  refine WH.step (i := 3) (by kernel_rfl) rfl ?_
  refine WL.callWE (args := [S id, Pt b3 0]) (fun a w hf => run_enterv (first := []) (vs := [S id]) (cap := [Pt b3 0]) call68 rfl rfl hf w) (of2 _ b3 id) rfl rfl rfl rfl fun v1_3 Hs1_3 hR1_3 => ?_
  obtain ⟨q, hq, rfl, rfl⟩ := hR1_3
  refine WL.app1 ?_
  refine WL.nil ?_
  refine WE.toH (.tail _ (.head _)) ?_
  refine WH.step (i := 5) (by kernel_rfl) rfl ?_
  refine WL.f2 ?_
  refine WL.callW1 (addU2 _ sb nr id (FVN 2 b3 q) aft l) call72 rfl rfl rfl fun v1_5 Hs1_5 hR1_5 => ?_
  obtain ⟨e, he, hO⟩ := hR1_5
  obtain ⟨m, rfl, hv⟩ := opr1 hO
  refine WL.to1 ?_
  refine WL.nil ?_
  refine WE.toH (.tail _ (.tail _ (.head _))) ?_
  refine WH.q 6 rfl (.tail _ (.tail _ (.head _))) (fun w0 => oq_assign rfl) rfl rfl rfl ?_
  refine WH.done (by kernel_rfl) ?_
  refine WE.then_normal (WC.sub (fr' := [(6, _)]) ?_ ⟨rfl, trivial⟩)
  refine WC.ret ?_
  refine WE.f3 ?_
  refine WE.f2 ?_
  refine WE.f2 ?_
  refine WE.f3 ?_
  refine WE.endW3 (.inl rfl) (res1 Tryz.results71 rfl) ?_
  -- end 0
  exact cl_mk (fresh1 hq) hv (fun h y hy => by injection h with h; subst h; exact (putE_mem hy).imp (fun h => h) (fun h => by subst h; exact ⟨he, okq rfl⟩)) (by show some _ = _; rw [putE_map])

/-- given.example/pub-tinwright/impl.buildStep$3 -/
theorem clIns2 (base sb b2 b5 b3 : Nat) (nr : Value) (l : List Nd) (id by_ : List UInt8) (aft : Bool) : FnW Tryz.prog 73 [S id, S by_, I (if aft then 0 else 1), Pt b2 0, Pt b5 0] base [env 2 sb b2 b5 b3, stg 2 sb nr l] (ClR 2 base sb b2 b5 b3 nr l (insI by_ aft id (l.map Nd.id))) := by
  refine FnW.enter (n := 16) Tryz.func73 rfl rfl fun w0 R0 hbase => ?_
  subst hbase
  show WC _ _ _ _ _ _ _ ([env 2 sb b2 b5 b3, stg 2 sb nr l, R0])
  refine WC.sub (fr' := [(0, _), (1, _), (2, _), (3, _), (4, _)]) ?_ ⟨rfl, rfl, rfl, rfl, rfl, trivial⟩
  refine WC.seq (WC.region ?_)
  refine WL.q (oq_assign rfl) rfl rfl rfl ?_
  refine WL.nil (WE.then_normal (WC.sub (fr' := [(0, _), (1, _), (2, _), (3, _), (4, _)]) ?_ ⟨rfl, rfl, rfl, rfl, rfl, trivial⟩))
  refine WC.seq ?_
  refine WC.held (env 2 sb b2 b5 b3) (by kernel_rfl) ?_
  refine WH.q 0 rfl (.head _) (fun w0 => oq_load flat82 rfl (.head _) (.head _) rfl) rfl rfl rfl ?_
  refine WH.q 1 rfl (.head _) (fun w0 => oq_load flat156 rfl (.head _) (.tail _ (.head _)) rfl) rfl rfl rfl ?_
  refine WH.q 2 rfl (.head _) (fun w0 => oq_move rfl) rfl rfl rfl ?_
  refine WH.q 4 rfl (.head _) (fun w0 => oq_move rfl) rfl rfl rfl ?_
  refine WH.q 5 rfl (.head _) (fun w0 => oq_move rfl) rfl rfl rfl ?_
  refine WH.step (i := 3) (by kernel_rfl) rfl ?_
  refine WL.callWE (args := [S id, Pt b3 0]) (fun a w hf => run_enterv (first := []) (vs := [S id]) (cap := [Pt b3 0]) call68 rfl rfl hf w) (of2 _ b3 id) rfl rfl rfl rfl fun v1_3 Hs1_3 hR1_3 => ?_
  obtain ⟨q, hq, rfl, rfl⟩ := hR1_3
  refine WL.app1 ?_
  refine WL.nil ?_
  refine WE.toH (.tail _ (.head _)) ?_
  refine WH.step (i := 6) (by kernel_rfl) rfl ?_
  refine WL.f2 ?_
  refine WL.callW1 (insU2 _ sb nr id (FVN 2 b3 q) by_ aft l) call74 rfl rfl rfl fun v1_6 Hs1_6 hR1_6 => ?_
  obtain ⟨e, he, hO⟩ := hR1_6
  obtain ⟨m, rfl, hv⟩ := opr1 hO
  refine WL.to1 ?_
  refine WL.nil ?_
  refine WE.toH (.tail _ (.tail _ (.head _))) ?_
  refine WH.q 7 rfl (.tail _ (.tail _ (.head _))) (fun w0 => oq_assign rfl) rfl rfl rfl ?_
  refine WH.done (by kernel_rfl) ?_
  refine WE.then_normal (WC.sub (fr' := [(8, _)]) ?_ ⟨rfl, trivial⟩)
  refine WC.ret ?_
  refine WE.f3 ?_
  refine WE.f2 ?_
  refine WE.f2 ?_
  refine WE.f3 ?_
  refine WE.endW3 (.inl rfl) (res1 Tryz.results73 rfl) ?_
  -- end 0
  exact cl_mk (fresh1 hq) hv (fun h y hy => (insL_mem h y hy).imp (fun h => h) (fun h => by subst h; exact ⟨he, okq rfl⟩)) (insL_map _ _ _ _)

/-- given.example/pub-tinwright/impl.buildStep$4 -/
theorem clSwp2 (base sb b2 b5 b3 : Nat) (nr : Value) (l : List Nd) (id by_ : List UInt8) (hb : ∀ x ∈ l, base ≤ x.b) : FnW Tryz.prog 75 [S by_, S id, Pt b2 0, Pt b5 0] base [env 2 sb b2 b5 b3, stg 2 sb nr l] (ClR 2 base sb b2 b5 b3 nr l (swpI by_ id (l.map Nd.id))) := by
  refine FnW.enter (n := 19) Tryz.func75 rfl rfl fun w0 R0 hbase => ?_
  subst hbase
  show WC _ _ _ _ _ _ _ ([env 2 sb b2 b5 b3, stg 2 sb nr l, R0])
  refine WC.sub (fr' := [(0, _), (1, _), (2, _), (3, _)]) ?_ ⟨rfl, rfl, rfl, rfl, trivial⟩
  refine WC.seq (WC.region ?_)
  refine WL.q (oq_assign rfl) rfl rfl rfl ?_
  refine WL.nil (WE.then_normal (WC.sub (fr' := [(0, _), (1, _), (2, _), (3, _)]) ?_ ⟨rfl, rfl, rfl, rfl, trivial⟩))
  refine WC.seq ?_
  refine WC.held (env 2 sb b2 b5 b3) (by kernel_rfl) ?_
  refine WH.q 0 rfl (.head _) (fun w0 => oq_load flat82 rfl (.head _) (.head _) rfl) rfl rfl rfl ?_
  refine WH.q 1 rfl (.head _) (fun w0 => oq_move rfl) rfl rfl rfl ?_
  refine WH.q 2 rfl (.head _) (fun w0 => oq_load flat156 rfl (.head _) (.tail _ (.head _)) rfl) rfl rfl rfl ?_
  refine WH.q 3 rfl (.head _) (fun w0 => oq_move rfl) rfl rfl rfl ?_
  refine WH.step (i := 4) (by kernel_rfl) rfl ?_
  refine WL.callWE (args := [S id, Pt b3 0]) (fun a w hf => run_enterv (first := []) (vs := [S id]) (cap := [Pt b3 0]) call68 rfl rfl hf w) (of2 _ b3 id) rfl rfl rfl rfl fun v1_4 Hs1_4 hR1_4 => ?_
  obtain ⟨q, hq, rfl, rfl⟩ := hR1_4
  refine WL.app1 ?_
  refine WL.nil ?_
  refine WE.toH (.tail _ (.head _)) ?_
  refine WH.step (i := 5) (by kernel_rfl) rfl ?_
  refine WL.f2 ?_
  refine WL.callW1 (swpU2 _ sb nr id (FVN 2 b3 q) by_ l) call76 rfl rfl rfl fun v1_5 Hs1_5 hR1_5 => ?_
  obtain ⟨m, o, w, rfl, rfl, hv⟩ := opt1 hR1_5
  refine WL.to1 ?_
  refine WL.nil ?_
  refine WE.toH (.tail _ (.tail _ (.head _))) ?_
  refine WH.q 6 rfl (.tail _ (.tail _ (.head _))) (fun w0 => oq_move rfl) rfl rfl rfl ?_
  refine WH.q 7 rfl (.tail _ (.tail _ (.head _))) (fun w0 => oq_extract rfl rfl) rfl rfl rfl ?_
  refine WH.q 8 rfl (.tail _ (.tail _ (.head _))) (fun w0 => oq_extract rfl rfl) rfl rfl rfl ?_
  refine WH.q 9 rfl (.tail _ (.tail _ (.head _))) (fun w0 => oq_assign rfl) rfl rfl rfl ?_
  refine WH.q 10 rfl (.tail _ (.tail _ (.head _))) (fun w0 => oq_assign rfl) rfl rfl rfl ?_
  refine WH.done (by kernel_rfl) ?_
  refine WE.then_normal (WC.sub (fr' := [(8, _)]) ?_ ⟨rfl, trivial⟩)
  refine WC.seq (WC.region ?_)
  refine WL.q (oq_move rfl) rfl rfl rfl ?_
  refine WL.q (oq_assign rfl) rfl rfl rfl ?_
  refine WL.nil (WE.then_normal (WC.sub (fr' := [(6, _)]) ?_ ⟨rfl, trivial⟩))
  refine WC.ret ?_
  refine WE.f3 ?_
  refine WE.f2 ?_
  refine WE.f2 ?_
  refine WE.f3 ?_
  refine WE.endW3 (.inl rfl) (res1 Tryz.results75 rfl) ?_
  -- end 0
  exact cl_mk (fresh1 hq) hv (fun h y hy => (swpL_mem h y hy).imp (fun h => h) (fun h => by obtain ⟨x, hx, rfl⟩ := h; exact ⟨hb x hx, okq rfl⟩)) (swpL_map _ _ _ _)

/-- given.example/pub-tinwright/impl.buildStep$5 -/
theorem clRem2 (base sb b2 b5 b3 : Nat) (nr : Value) (l : List Nd) (id : List UInt8) (hb : ∀ x ∈ l, base ≤ x.b) : FnW Tryz.prog 77 [S id, Pt b2 0] base [env 2 sb b2 b5 b3, stg 2 sb nr l, []] (ClR 2 base sb b2 b5 b3 nr l (remI id (l.map Nd.id))) := by
  refine FnW.enter (n := 13) Tryz.func77 rfl rfl fun w0 R0 hbase => ?_
  subst hbase
  show WC _ _ _ _ _ _ _ ([env 2 sb b2 b5 b3, stg 2 sb nr l, [], R0])
  refine WC.sub (fr' := [(0, _), (1, _)]) ?_ ⟨rfl, rfl, trivial⟩
  refine WC.seq (WC.region ?_)
  refine WL.q (oq_assign rfl) rfl rfl rfl ?_
  refine WL.nil (WE.then_normal (WC.sub (fr' := [(0, _), (1, _)]) ?_ ⟨rfl, rfl, trivial⟩))
  refine WC.seq (WC.region ?_)
  refine WL.q (oq_load flat82 rfl (.head _) (.head _) rfl) rfl rfl rfl ?_
  refine WL.q (oq_move rfl) rfl rfl rfl ?_
  refine WL.f1 ?_
  refine WL.callW1 (remU2 _ sb nr id l hb) call78 rfl rfl rfl fun v1_2 Hs1_2 hR1_2 => ?_
  obtain ⟨m, o, w, rfl, rfl, hv⟩ := opt1 hR1_2
  refine WL.to1 ?_
  refine WL.q (oq_move rfl) rfl rfl rfl ?_
  refine WL.q (oq_extract rfl rfl) rfl rfl rfl ?_
  refine WL.q (oq_extract rfl rfl) rfl rfl rfl ?_
  refine WL.q (oq_assign rfl) rfl rfl rfl ?_
  refine WL.q (oq_assign rfl) rfl rfl rfl ?_
  refine WL.nil (WE.then_normal (WC.sub (fr' := [(5, _)]) ?_ ⟨rfl, trivial⟩))
  refine WC.seq (WC.region ?_)
  refine WL.q (oq_move rfl) rfl rfl rfl ?_
  refine WL.q (oq_assign rfl) rfl rfl rfl ?_
  refine WL.nil (WE.then_normal (WC.sub (fr' := [(3, _)]) ?_ ⟨rfl, trivial⟩))
  refine WC.ret ?_
  refine WE.f3 ?_
  refine WE.f3 ?_
  refine WE.f2 ?_
  refine WE.f3 ?_
  refine WE.endW3 (.inl rfl) (res1 Tryz.results77 rfl) ?_
  -- end 0
  exact cl_mk (fun _ _ h => nomatch h) hv (fun h y hy => .inl (remL_mem h y hy)) (remL_map _ _)

/-- given.example/pub-tinwright/impl.buildStep$6 -/
theorem clHas2 (base sb b2 b5 b3 : Nat) (nr : Value) (l : List Nd) (id : List UInt8) : FnW Tryz.prog 81 [S id, Pt b2 0] base [env 2 sb b2 b5 b3, stg 2 sb nr l] (fun v Hs => v = .bool (decide (id ∈ l.map Nd.id)) ∧ Hs = [env 2 sb b2 b5 b3, stg 2 sb nr l]) := by
  refine FnW.enter (n := 13) Tryz.func81 rfl rfl fun w0 R0 hbase => ?_
  subst hbase
  show WC _ _ _ _ _ _ _ ([env 2 sb b2 b5 b3, stg 2 sb nr l, R0])
  refine WC.sub (fr' := [(0, _), (1, _)]) ?_ ⟨rfl, rfl, trivial⟩
  refine WC.seq (WC.region ?_)
  refine WL.q (oq_assign rfl) rfl rfl rfl ?_
  refine WL.nil (WE.then_normal (WC.sub (fr' := [(0, _), (1, _)]) ?_ ⟨rfl, rfl, trivial⟩))
  refine WC.seq (WC.region ?_)
  refine WL.q (oq_load flat82 rfl (.head _) (.head _) rfl) rfl rfl rfl ?_
  refine WL.q (oq_move rfl) rfl rfl rfl ?_
  refine WL.f1 ?_
  refine WL.callW1 (getU2 _ sb nr id l) call82 rfl rfl rfl fun v1_2 Hs1_2 hR1_2 => ?_
  obtain ⟨⟨o, rfl⟩, rfl⟩ := hR1_2
  refine WL.to1 ?_
  refine WL.q (oq_move rfl) rfl rfl rfl ?_
  refine WL.q (oq_extract rfl rfl) rfl rfl rfl ?_
  refine WL.q (oq_extract rfl rfl) rfl rfl rfl ?_
  refine WL.q (oq_assign rfl) rfl rfl rfl ?_
  refine WL.q (oq_assign rfl) rfl rfl rfl ?_
  refine WL.nil (WE.then_normal (WC.sub (fr' := [(5, _)]) ?_ ⟨rfl, trivial⟩))
  refine WC.seq (WC.region ?_)
  refine WL.q (oq_move rfl) rfl rfl rfl ?_
  refine WL.q (oq_assign rfl) rfl rfl rfl ?_
  refine WL.nil (WE.then_normal (WC.sub (fr' := [(3, _)]) ?_ ⟨rfl, trivial⟩))
  refine WC.ret ?_
  refine WE.f2 ?_
  refine WE.f1 ?_
  refine WE.f2 ?_
  refine WE.endW2 (.inl rfl) (res1 Tryz.results81 rfl) ?_
  -- end 0
  exact ⟨rfl, rfl⟩

/-- given.example/pub-tinwright/pub/smithy/middleware.FinalizeMiddlewareFunc -/
theorem mwf3 (b3 q : Nat) (id : List UInt8) : Fn0 Tryz.prog 84 [S id, .func (.func 85) #[] #[Pt b3 0, Pt q 0]] (.iface 239 (.agg #[S id, FVN 3 b3 q])) := by
  refine Fn0.enter (n := 9) Tryz.func84 rfl rfl fun w0 => ?_
  refine WC.sub (fr' := [(0, _), (1, _)]) ?_ ⟨rfl, rfl, trivial⟩
  refine WC.seq (WC.region ?_)
  refine WL.q (oq_assign rfl) rfl rfl rfl ?_
  refine WL.nil (WE.then_normal (WC.sub (fr' := [(0, _), (1, _)]) ?_ ⟨rfl, rfl, trivial⟩))
  refine WC.seq (WC.region ?_)
  refine WL.q (oq_move rfl) rfl rfl rfl ?_
  refine WL.q (oq_move rfl) rfl rfl rfl ?_
  refine WL.q (oq_build #[_, _] str239 ty239 rfl rfl) rfl rfl rfl ?_
  refine WL.q (oq_makeI conc239 rfl) rfl rfl rfl ?_
  refine WL.q (oq_assign rfl) rfl rfl rfl ?_
  refine WL.nil (WE.then_normal (WC.sub (fr' := [(4, _)]) ?_ ⟨rfl, trivial⟩))
  refine WC.ret ?_
  refine WE.end0 (.inl rfl) (res1 Tryz.results84 rfl) ?_
  -- end 0
  rfl

/-- given.example/pub-tinwright/impl.finalizeStep$1 -/
theorem of3 (base b3 : Nat) (id : List UInt8) : FnW Tryz.prog 83 [S id, Pt b3 0] base [] (fun v Hs => ∃ q, base ≤ q ∧ v = .iface 239 (.agg #[S id, FVN 3 b3 q]) ∧ Hs = [[(q, .cells #[S id] 9 (0, 0))]]) := by
  refine FnW.enter (n := 7) Tryz.func83 rfl rfl fun w0 R0 hbase => ?_
  subst hbase
  show WC _ _ _ _ _ _ _ ([R0])
  refine WC.sub (fr' := [(0, _), (1, _)]) ?_ ⟨rfl, rfl, trivial⟩
  refine WC.seq (WC.region ?_)
  refine WL.box rfl rfl rfl fun q hq => ?_
  refine WL.q (oq_assign rfl) rfl rfl rfl ?_
  refine WL.nil (WE.then_normal (WC.sub (fr' := [(1, _), (2, _)]) ?_ ⟨rfl, rfl, trivial⟩))
  refine WC.seq (WC.region ?_)
  refine WL.q (oq_load flat9 rfl (.head _) (List.mem_singleton.2 rfl) rfl) rfl rfl rfl ?_
  refine WL.q (oq_makeFn rfl) rfl rfl rfl ?_
  refine WL.qc (oq_call (mwf3 b3 q id) call84 rfl) rfl rfl rfl ?_
  refine WL.q (oq_assign rfl) rfl rfl rfl ?_
  refine WL.nil (WE.then_normal (WC.sub (fr' := [(3, _)]) ?_ ⟨rfl, trivial⟩))
  refine WC.ret ?_
  refine WE.endW1 (.inl rfl) (res1 Tryz.results83 rfl) ?_
  -- end 0
  exact ⟨q, hq, rfl, rfl⟩

/-- given.example/pub-tinwright/impl.finalizeStep$2 -/
theorem clAdd3 (base sb b2 b5 b3 : Nat) (nr : Value) (l : List Nd) (id : List UInt8) (aft : Bool) : FnW Tryz.prog 86 [S id, I (if aft then 0 else 1), Pt b2 0, Pt b5 0] base [env 3 sb b2 b5 b3, stg 3 sb nr l] (ClR 3 base sb b2 b5 b3 nr l (some (putI aft id (l.map Nd.id)))) := by
  refine FnW.enter (n := 13) Tryz.func86 rfl rfl fun w0 R0 hbase => ?_
  subst hbase
  show WC _ _ _ _ _ _ _ ([env 3 sb b2 b5 b3, stg 3 sb nr l, R0])
  refine WC.sub (fr' := [(0, _), (1, _), (2, _), (3, _)]) ?_ ⟨rfl, rfl, rfl, rfl, trivial⟩
  refine WC.seq (WC.region ?_)
  refine WL.q (oq_assign rfl) rfl rfl rfl ?_
  refine WL.nil (WE.then_normal (WC.sub (fr' := [(0, _), (1, _), (2, _), (3, _)]) ?_ ⟨rfl, rfl, rfl, rfl, trivial⟩))
  refine WC.seq ?_
  refine WC.held (env 3 sb b2 b5 b3) (by kernel_rfl) ?_
  refine WH.q 0 rfl (.head _) (fun w0 => oq_load flat83 rfl (.head _) (.head _) rfl) rfl rfl rfl ?_
  refine WH.q 1 rfl (.head _) (fun w0 => oq_load flat174 rfl (.head _) (.tail _ (.head _)) rfl) rfl rfl rfl ?_
  refine WH.q 2 rfl (.head _) (fun w0 => oq_move rfl) rfl rfl rfl ?_
  refine WH.q 4 rfl (.head _) (fun w0 => oq_move rfl) rfl rfl rfl ?_
  refine WH.step (i := 3) (by kernel_rfl) rfl ?_
  refine WL.callWE (args := [S id, Pt b3 0]) (fun a w hf => run_enterv (first := []) (vs := [S id]) (cap := [Pt b3 0]) call83 rfl rfl hf w) (of3 _ b3 id) rfl rfl rfl rfl fun v1_3 Hs1_3 hR1_3 => ?_
  obtain ⟨q, hq, rfl, rfl⟩ := hR1_3
  refine WL.app1 ?_
  refine WL.nil ?_
  refine WE.toH (.tail _ (.head _)) ?_
  refine WH.step (i := 5) (by kernel_rfl) rfl ?_
  refine WL.f2 ?_
  refine WL.callW1 (addU3 _ sb nr id (FVN 3 b3 q) aft l) call87 rfl rfl rfl fun v1_5 Hs1_5 hR1_5 => ?_
  obtain ⟨e, he, hO⟩ := hR1_5
  obtain ⟨m, rfl, hv⟩ := opr1 hO
  refine WL.to1 ?_
  refine WL.nil ?_
  refine WE.toH (.tail _ (.tail _ (.head _))) ?_
  refine WH.q 6 rfl (.tail _ (.tail _ (.head _))) (fun w0 => oq_assign rfl) rfl rfl rfl ?_
  refine WH.done (by kernel_rfl) ?_
  refine WE.then_normal (WC.sub (fr' := [(6, _)]) ?_ ⟨rfl, trivial⟩)
  refine WC.ret ?_
  refine WE.f3 ?_
  refine WE.f2 ?_
  refine WE.f2 ?_
  refine WE.f3 ?_
  refine WE.endW3 (.inl rfl) (res1 Tryz.results86 rfl) ?_
  -- end 0
  exact cl_mk (fresh1 hq) hv (fun h y hy => by injection h with h; subst h; exact (putE_mem hy).imp (fun h => h) (fun h => by subst h; exact ⟨he, okq rfl⟩)) (by show some _ = _; rw [putE_map])

/-- given.example/pub-tinwright/impl.finalizeStep$3 -/
theorem clIns3 (base sb b2 b5 b3 : Nat) (nr : Value) (l : List Nd) (id by_ : List UInt8) (aft : Bool) : FnW Tryz.prog 88 [S id, S by_, I (if aft then 0 else 1), Pt b2 0, Pt b5 0] base [env 3 sb b2 b5 b3, stg 3 sb nr l] (ClR 3 base sb b2 b5 b3 nr l (insI by_ aft id (l.map Nd.id))) := by
  refine FnW.enter (n := 16) Tryz.func88 rfl rfl fun w0 R0 hbase => ?_
  subst hbase
  show WC _ _ _ _ _ _ _ ([env 3 sb b2 b5 b3, stg 3 sb nr l, R0])
  refine WC.sub (fr' := [(0, _), (1, _), (2, _), (3, _), (4, _)]) ?_ ⟨rfl, rfl, rfl, rfl, rfl, trivial⟩
  refine WC.seq (WC.region ?_)
  refine WL.q (oq_assign rfl) rfl rfl rfl ?_
  refine WL.nil (WE.then_normal (WC.sub (fr' := [(0, _), (1, _), (2, _), (3, _), (4, _)]) ?_ ⟨rfl, rfl, rfl, rfl, rfl, trivial⟩))
  refine WC.seq ?_
  refine WC.held (env 3 sb b2 b5 b3) (by kernel_rfl) ?_
  refine WH.q 0 rfl (.head _) (fun w0 => oq_load flat83 rfl (.head _) (.head _) rfl) rfl rfl rfl ?_
  refine WH.q 1 rfl (.head _) (fun w0 => oq_load flat174 rfl (.head _) (.tail _ (.head _)) rfl) rfl rfl rfl ?_
  refine WH.q 2 rfl (.head _) (fun w0 => oq_move rfl) rfl rfl rfl ?_
  refine WH.q 4 rfl (.head _) (fun w0 => oq_move rfl) rfl rfl rfl ?_
  refine WH.q 5 rfl (.head _) (fun w0 => oq_move rfl) rfl rfl rfl ?_
  refine WH.step (i := 3) (by kernel_rfl) rfl ?_
  refine WL.callWE (args := [S id, Pt b3 0]) (fun a w hf => run_enterv (first := []) (vs := [S id]) (cap := [Pt b3 0]) call83 rfl rfl hf w) (of3 _ b3 id) rfl rfl rfl rfl fun v1_3 Hs1_3 hR1_3 => ?_
  obtain ⟨q, hq, rfl, rfl⟩ := hR1_3
  refine WL.app1 ?_
  refine WL.nil ?_
  refine WE.toH (.tail _ (.head _)) ?_
  refine WH.step (i := 6) (by kernel_rfl) rfl ?_
  refine WL.f2 ?_
  refine WL.callW1 (insU3 _ sb nr id (FVN 3 b3 q) by_ aft l) call89 rfl rfl rfl fun v1_6 Hs1_6 hR1_6 => ?_
  obtain ⟨e, he, hO⟩ := hR1_6
  obtain ⟨m, rfl, hv⟩ := opr1 hO
  refine WL.to1 ?_
  refine WL.nil ?_
  refine WE.toH (.tail _ (.tail _ (.head _))) ?_
  refine WH.q 7 rfl (.tail _ (.tail _ (.head _))) (fun w0 => oq_assign rfl) rfl rfl rfl ?_
  refine WH.done (by kernel_rfl) ?_
  refine WE.then_normal (WC.sub (fr' := [(8, _)]) ?_ ⟨rfl, trivial⟩)
  refine WC.ret ?_
  refine WE.f3 ?_
  refine WE.f2 ?_
  refine WE.f2 ?_
  refine WE.f3 ?_
  refine WE.endW3 (.inl rfl) (res1 Tryz.results88 rfl) ?_
  -- end 0
  exact cl_mk (fresh1 hq) hv (fun h y hy => (insL_mem h y hy).imp (fun h => h) (fun h => by subst h; exact ⟨he, okq rfl⟩)) (insL_map _ _ _ _)

/-- given.example/pub-tinwright/impl.finalizeStep$4 -/
theorem clSwp3 (base sb b2 b5 b3 : Nat) (nr : Value) (l : List Nd) (id by_ : List UInt8) (hb : ∀ x ∈ l, base ≤ x.b) : FnW Tryz.prog 90 [S by_, S id, Pt b2 0, Pt b5 0] base [env 3 sb b2 b5 b3, stg 3 sb nr l] (ClR 3 base sb b2 b5 b3 nr l (swpI by_ id (l.map Nd.id))) := by
  refine FnW.enter (n := 19) Tryz.func90 rfl rfl fun w0 R0 hbase => ?_
  subst hbase
  show WC _ _ _ _ _ _ _ ([env 3 sb b2 b5 b3, stg 3 sb nr l, R0])
  refine WC.sub (fr' := [(0, _), (1, _), (2, _), (3, _)]) ?_ ⟨rfl, rfl, rfl, rfl, trivial⟩
  refine WC.seq (WC.region ?_)
  refine WL.q (oq_assign rfl) rfl rfl rfl ?_
  refine WL.nil (WE.then_normal (WC.sub (fr' := [(0, _), (1, _), (2, _), (3, _)]) ?_ ⟨rfl, rfl, rfl, rfl, trivial⟩))
  refine WC.seq ?_
  refine WC.held (env 3 sb b2 b5 b3) (by kernel_rfl) ?_
  refine WH.q 0 rfl (.head _) (fun w0 => oq_load flat83 rfl (.head _) (.head _) rfl) rfl rfl rfl ?_
  refine WH.q 1 rfl (.head _) (fun w0 => oq_move rfl) rfl rfl rfl ?_
  refine WH.q 2 rfl (.head _) (fun w0 => oq_load flat174 rfl (.head _) (.tail _ (.head _)) rfl) rfl rfl rfl ?_
  refine WH.q 3 rfl (.head _) (fun w0 => oq_move rfl) rfl rfl rfl ?_
  refine WH.step (i := 4) (by kernel_rfl) rfl ?_
  refine WL.callWE (args := [S id, Pt b3 0]) (fun a w hf => run_enterv (first := []) (vs := [S id]) (cap := [Pt b3 0]) call83 rfl rfl hf w) (of3 _ b3 id) rfl rfl rfl rfl fun v1_4 Hs1_4 hR1_4 => ?_
  obtain ⟨q, hq, rfl, rfl⟩ := hR1_4
  refine WL.app1 ?_
  refine WL.nil ?_
  refine WE.toH (.tail _ (.head _)) ?_
  refine WH.step (i := 5) (by kernel_rfl) rfl ?_
  refine WL.f2 ?_
  refine WL.callW1 (swpU3 _ sb nr id (FVN 3 b3 q) by_ l) call91 rfl rfl rfl fun v1_5 Hs1_5 hR1_5 => ?_
  obtain ⟨m, o, w, rfl, rfl, hv⟩ := opt1 hR1_5
  refine WL.to1 ?_
  refine WL.nil ?_
  refine WE.toH (.tail _ (.tail _ (.head _))) ?_
  refine WH.q 6 rfl (.tail _ (.tail _ (.head _))) (fun w0 => oq_move rfl) rfl rfl rfl ?_
  refine WH.q 7 rfl (.tail _ (.tail _ (.head _))) (fun w0 => oq_extract rfl rfl) rfl rfl rfl ?_
  refine WH.q 8 rfl (.tail _ (.tail _ (.head _))) (fun w0 => oq_extract rfl rfl) rfl rfl rfl ?_
  refine WH.q 9 rfl (.tail _ (.tail _ (.head _))) (fun w0 => oq_assign rfl) rfl rfl rfl ?_
  refine WH.q 10 rfl (.tail _ (.tail _ (.head _))) (fun w0 => oq_assign rfl) rfl rfl rfl ?_
  refine WH.done (by kernel_rfl) ?_
  refine WE.then_normal (WC.sub (fr' := [(8, _)]) ?_ ⟨rfl, trivial⟩)
  refine WC.seq (WC.region ?_)
  refine WL.q (oq_move rfl) rfl rfl rfl ?_
  refine WL.q (oq_assign rfl) rfl rfl rfl ?_
  refine WL.nil (WE.then_normal (WC.sub (fr' := [(6, _)]) ?_ ⟨rfl, trivial⟩))
  refine WC.ret ?_
  refine WE.f3 ?_
  refine WE.f2 ?_
  refine WE.f2 ?_
  refine WE.f3 ?_
  refine WE.endW3 (.inl rfl) (res1 Tryz.results90 rfl) ?_
  -- end 0
  exact cl_mk (fresh1 hq) hv (fun h y hy => (swpL_mem h y hy).imp (fun h => h) (fun h => by obtain ⟨x, hx, rfl⟩ := h; exact ⟨hb x hx, okq rfl⟩)) (swpL_map _ _ _ _)

/-- given.example/pub-tinwright/impl.finalizeStep$5 -/
theorem clRem3 (base sb b2 b5 b3 : Nat) (nr : Value) (l : List Nd) (id : List UInt8) (hb : ∀ x ∈ l, base ≤ x.b) : FnW Tryz.prog 92 [S id, Pt b2 0] base [env 3 sb b2 b5 b3, stg 3 sb nr l, []] (ClR 3 base sb b2 b5 b3 nr l (remI id (l.map Nd.id))) := by
  refine FnW.enter (n := 13) Tryz.func92 rfl rfl fun w0 R0 hbase => ?_
  subst hbase
  show WC _ _ _ _ _ _ _ ([env 3 sb b2 b5 b3, stg 3 sb nr l, [], R0])
  refine WC.sub (fr' := [(0, _), (1, _)]) ?_ ⟨rfl, rfl, trivial⟩
  refine WC.seq (WC.region ?_)
  refine WL.q (oq_assign rfl) rfl rfl rfl ?_
  refine WL.nil (WE.then_normal (WC.sub (fr' := [(0, _), (1, _)]) ?_ ⟨rfl, rfl, trivial⟩))
  refine WC.seq (WC.region ?_)
  refine WL.q (oq_load flat83 rfl (.head _) (.head _) rfl) rfl rfl rfl ?_
  refine WL.q (oq_move rfl) rfl rfl rfl ?_
  refine WL.f1 ?_
  refine WL.callW1 (remU3 _ sb nr id l hb) call93 rfl rfl rfl fun v1_2 Hs1_2 hR1_2 => ?_
  obtain ⟨m, o, w, rfl, rfl, hv⟩ := opt1 hR1_2
  refine WL.to1 ?_
  refine WL.q (oq_move rfl) rfl rfl rfl ?_
  refine WL.q (oq_extract rfl rfl) rfl rfl rfl ?_
  refine WL.q (oq_extract rfl rfl) rfl rfl rfl ?_
  refine WL.q (oq_assign rfl) rfl rfl rfl ?_
  refine WL.q (oq_assign rfl) rfl rfl rfl ?_
  refine WL.nil (WE.then_normal (WC.sub (fr' := [(5, _)]) ?_ ⟨rfl, trivial⟩))
  refine WC.seq (WC.region ?_)
  refine WL.q (oq_move rfl) rfl rfl rfl ?_
  refine WL.q (oq_assign rfl) rfl rfl rfl ?_
  refine WL.nil (WE.then_normal (WC.sub (fr' := [(3, _)]) ?_ ⟨rfl, trivial⟩))
  refine WC.ret ?_
  refine WE.f3 ?_
  refine WE.f3 ?_
  refine WE.f2 ?_
  refine WE.f3 ?_
  refine WE.endW3 (.inl rfl) (res1 Tryz.results92 rfl) ?_
  -- end 0
  exact cl_mk (fun _ _ h => nomatch h) hv (fun h y hy => .inl (remL_mem h y hy)) (remL_map _ _)

/-- given.example/pub-tinwright/impl.finalizeStep$6 -/
theorem clHas3 (base sb b2 b5 b3 : Nat) (nr : Value) (l : List Nd) (id : List UInt8) : FnW Tryz.prog 96 [S id, Pt b2 0] base [env 3 sb b2 b5 b3, stg 3 sb nr l] (fun v Hs => v = .bool (decide (id ∈ l.map Nd.id)) ∧ Hs = [env 3 sb b2 b5 b3, stg 3 sb nr l]) := by
  refine FnW.enter (n := 13) Tryz.func96 rfl rfl fun w0 R0 hbase => ?_
  subst hbase
  show WC _ _ _ _ _ _ _ ([env 3 sb b2 b5 b3, stg 3 sb nr l, R0])
  refine WC.sub (fr' := [(0, _), (1, _)]) ?_ ⟨rfl, rfl, trivial⟩
  refine WC.seq (WC.region ?_)
  refine WL.q (oq_assign rfl) rfl rfl rfl ?_
  refine WL.nil (WE.then_normal (WC.sub (fr' := [(0, _), (1, _)]) ?_ ⟨rfl, rfl, trivial⟩))
  refine WC.seq (WC.region ?_)
  refine WL.q (oq_load flat83 rfl (.head _) (.head _) rfl) rfl rfl rfl ?_
  refine WL.q (oq_move rfl) rfl rfl rfl ?_
  refine WL.f1 ?_
  refine WL.callW1 (getU3 _ sb nr id l) call97 rfl rfl rfl fun v1_2 Hs1_2 hR1_2 => ?_
  obtain ⟨⟨o, rfl⟩, rfl⟩ := hR1_2
  refine WL.to1 ?_
  refine WL.q (oq_move rfl) rfl rfl rfl ?_
  refine WL.q (oq_extract rfl rfl) rfl rfl rfl ?_
  refine WL.q (oq_extract rfl rfl) rfl rfl rfl ?_
  refine WL.q (oq_assign rfl) rfl rfl rfl ?_
  refine WL.q (oq_assign rfl) rfl rfl rfl ?_
  refine WL.nil (WE.then_normal (WC.sub (fr' := [(5, _)]) ?_ ⟨rfl, trivial⟩))
  refine WC.seq (WC.region ?_)
  refine WL.q (oq_move rfl) rfl rfl rfl ?_
  refine WL.q (oq_assign rfl) rfl rfl rfl ?_
  refine WL.nil (WE.then_normal (WC.sub (fr' := [(3, _)]) ?_ ⟨rfl, trivial⟩))
  refine WC.ret ?_
  refine WE.f2 ?_
  refine WE.f1 ?_
  refine WE.f2 ?_
  refine WE.endW2 (.inl rfl) (res1 Tryz.results96 rfl) ?_
  -- end 0
  exact ⟨rfl, rfl⟩

/-- given.example/pub-tinwright/pub/smithy/middleware.DeserializeMiddlewareFunc -/
theorem mwf4 (b3 q : Nat) (id : List UInt8) : Fn0 Tryz.prog 99 [S id, .func (.func 100) #[] #[Pt b3 0, Pt q 0]] (.iface 246 (.agg #[S id, FVN 4 b3 q])) := by
  refine Fn0.enter (n := 9) Tryz.func99 rfl rfl fun w0 => ?_
  refine WC.sub (fr' := [(0, _), (1, _)]) ?_ ⟨rfl, rfl, trivial⟩
  refine WC.seq (WC.region ?_)
  refine WL.q (oq_assign rfl) rfl rfl rfl ?_
  refine WL.nil (WE.then_normal (WC.sub (fr' := [(0, _), (1, _)]) ?_ ⟨rfl, rfl, trivial⟩))
  refine WC.seq (WC.region ?_)
  refine WL.q (oq_move rfl) rfl rfl rfl ?_
  refine WL.q (oq_move rfl) rfl rfl rfl ?_
  refine WL.q (oq_build #[_, _] str246 ty246 rfl rfl) rfl rfl rfl ?_
  refine WL.q (oq_makeI conc246 rfl) rfl rfl rfl ?_
  refine WL.q (oq_assign rfl) rfl rfl rfl ?_
  refine WL.nil (WE.then_normal (WC.sub (fr' := [(4, _)]) ?_ ⟨rfl, trivial⟩))
  refine WC.ret ?_
  refine WE.end0 (.inl rfl) (res1 Tryz.results99 rfl) ?_
  -- end 0
  rfl

/-- given.example/pub-tinwright/impl.deserializeStep$1 -/
theorem of4 (base b3 : Nat) (id : List UInt8) : FnW Tryz.prog 98 [S id, Pt b3 0] base [] (fun v Hs => ∃ q, base ≤ q ∧ v = .iface 246 (.agg #[S id, FVN 4 b3 q]) ∧ Hs = [[(q, .cells #[S id] 9 (0, 0))]]) := by
  refine FnW.enter (n := 7) Tryz.func98 rfl rfl fun w0 R0 hbase => ?_
  subst hbase
  show WC _ _ _ _ _ _ _ ([R0])
  refine WC.sub (fr' := [(0, _), (1, _)]) ?_ ⟨rfl, rfl, trivial⟩
  refine WC.seq (WC.region ?_)
  refine WL.box rfl rfl rfl fun q hq => ?_
  refine WL.q (oq_assign rfl) rfl rfl rfl ?_
  refine WL.nil (WE.then_normal (WC.sub (fr' := [(1, _), (2, _)]) ?_ ⟨rfl, rfl, trivial⟩))
  refine WC.seq (WC.region ?_)
  refine WL.q (oq_load flat9 rfl (.head _) (List.mem_singleton.2 rfl) rfl) rfl rfl rfl ?_
  refine WL.q (oq_makeFn rfl) rfl rfl rfl ?_
  refine WL.qc (oq_call (mwf4 b3 q id) call99 rfl) rfl rfl rfl ?_
  refine WL.q (oq_assign rfl) rfl rfl rfl ?_
  refine WL.nil (WE.then_normal (WC.sub (fr' := [(3, _)]) ?_ ⟨rfl, trivial⟩))
  refine WC.ret ?_
  refine WE.endW1 (.inl rfl) (res1 Tryz.results98 rfl) ?_
  -- end 0
  exact ⟨q, hq, rfl, rfl⟩

/-- given.example/pub-tinwright/impl.deserializeStep$2 -/
theorem clAdd4 (base sb b2 b5 b3 : Nat) (nr : Value) (l : List Nd) (id : List UInt8) (aft : Bool) : FnW Tryz.prog 101 [S id, I (if aft then 0 else 1), Pt b2 0, Pt b5 0] base [env 4 sb b2 b5 b3, stg 4 sb nr l] (ClR 4 base sb b2 b5 b3 nr l (some (putI aft id (l.map Nd.id)))) := by
  refine FnW.enter (n := 13) Tryz.func101 rfl rfl fun w0 R0 hbase => ?_
  subst hbase
  show WC _ _ _ _ _ _ _ ([env 4 sb b2 b5 b3, stg 4 sb nr l, R0])
  refine WC.sub (fr' := [(0, _), (1, _), (2, _), (3, _)]) ?_ ⟨rfl, rfl, rfl, rfl, trivial⟩
  refine WC.seq (WC.region ?_)
  refine WL.q (oq_assign rfl) rfl rfl rfl ?_
  refine WL.nil (WE.then_normal (WC.sub (fr' := [(0, _), (1, _), (2, _), (3, _)]) ?_ ⟨rfl, rfl, rfl, rfl, trivial⟩))
  refine WC.seq ?_
  refine WC.held (env 4 sb b2 b5 b3) (by kernel_rfl) ?_
  refine WH.q 0 rfl (.head _) (fun w0 => oq_load flat84 rfl (.head _) (.head _) rfl) rfl rfl rfl ?_
  refine WH.q 1 rfl (.head _) (fun w0 => oq_load flat193 rfl (.head _) (.tail _ (.head _)) rfl) rfl rfl rfl ?_
  refine WH.q 2 rfl (.head _) (fun w0 => oq_move rfl) rfl rfl rfl ?_
  refine WH.q 4 rfl (.head _) (fun w0 => oq_move rfl) rfl rfl rfl ?_
  refine WH.step (i := 3) (by kernel_rfl) rfl ?_
  refine WL.callWE (args := [S id, Pt b3 0]) (fun a w hf => run_enterv (first := []) (vs := [S id]) (cap := [Pt b3 0]) call98 rfl rfl hf w) (of4 _ b3 id) rfl rfl rfl rfl fun v1_3 Hs1_3 hR1_3 => ?_
  obtain ⟨q, hq, rfl, rfl⟩ := hR1_3
  refine WL.app1 ?_
  refine WL.nil ?_
  refine WE.toH (.tail _ (.head _)) ?_
  refine WH.step (i := 5) (by kernel_rfl) rfl ?_
  refine WL.f2 ?_
  refine WL.callW1 (addU4 _ sb nr id (FVN 4 b3 q) aft l) call102 rfl rfl rfl fun v1_5 Hs1_5 hR1_5 => ?_
  obtain ⟨e, he, hO⟩ := hR1_5
  obtain ⟨m, rfl, hv⟩ := opr1 hO
  refine WL.to1 ?_
  refine WL.nil ?_
  refine WE.toH (.tail _ (.tail _ (.head _))) ?_
  refine WH.q 6 rfl (.tail _ (.tail _ (.head _))) (fun w0 => oq_assign rfl) rfl rfl rfl ?_
  refine WH.done (by kernel_rfl) ?_
  refine WE.then_normal (WC.sub (fr' := [(6, _)]) ?_ ⟨rfl, trivial⟩)
  refine WC.ret ?_
  refine WE.f3 ?_
  refine WE.f2 ?_
  refine WE.f2 ?_
  refine WE.f3 ?_
  refine WE.endW3 (.inl rfl) (res1 Tryz.results101 rfl) ?_
  -- end 0
  exact cl_mk (fresh1 hq) hv (fun h y hy => by injection h with h; subst h; exact (putE_mem hy).imp (fun h => h) (fun h => by subst h; exact ⟨he, okq rfl⟩)) (by show some _ = _; rw [putE_map])

/-- given.example/pub-tinwright/impl.deserializeStep$3 -/
theorem clIns4 (base sb b2 b5 b3 : Nat) (nr : Value) (l : List Nd) (id by_ : List UInt8) (aft : Bool) : FnW Tryz.prog 103 [S id, S by_, I (if aft then 0 else 1), Pt b2 0, Pt b5 0] base [env 4 sb b2 b5 b3, stg 4 sb nr l] (ClR 4 base sb b2 b5 b3 nr l (insI by_ aft id (l.map Nd.id))) := by
  refine FnW.enter (n := 16) Tryz.func103 rfl rfl fun w0 R0 hbase => ?_
  subst hbase
  show WC _ _ _ _ _ _ _ ([env 4 sb b2 b5 b3, stg 4 sb nr l, R0])
  refine WC.sub (fr' := [(0, _), (1, _), (2, _), (3, _), (4, _)]) ?_ ⟨rfl, rfl, rfl, rfl, rfl, trivial⟩
  refine WC.seq (WC.region ?_)
  refine WL.q (oq_assign rfl) rfl rfl rfl ?_
  refine WL.nil (WE.then_normal (WC.sub (fr' := [(0, _), (1, _), (2, _), (3, _), (4, _)]) ?_ ⟨rfl, rfl, rfl, rfl, rfl, trivial⟩))
  refine WC.seq ?_
  refine WC.held (env 4 sb b2 b5 b3) (by kernel_rfl) ?_
  refine WH.q 0 rfl (.head _) (fun w0 => oq_load flat84 rfl (.head _) (.head _) rfl) rfl rfl rfl ?_
  refine WH.q 1 rfl (.head _) (fun w0 => oq_load flat193 rfl (.head _) (.tail _ (.head _)) rfl) rfl rfl rfl ?_
  refine WH.q 2 rfl (.head _) (fun w0 => oq_move rfl) rfl rfl rfl ?_
  refine WH.q 4 rfl (.head _) (fun w0 => oq_move rfl) rfl rfl rfl ?_
  refine WH.q 5 rfl (.head _) (fun w0 => oq_move rfl) rfl rfl rfl ?_
  refine WH.step (i := 3) (by kernel_rfl) rfl ?_
  refine WL.callWE (args := [S id, Pt b3 0]) (fun a w hf => run_enterv (first := []) (vs := [S id]) (cap := [Pt b3 0]) call98 rfl rfl hf w) (of4 _ b3 id) rfl rfl rfl rfl fun v1_3 Hs1_3 hR1_3 => ?_
  obtain ⟨q, hq, rfl, rfl⟩ := hR1_3
  refine WL.app1 ?_
  refine WL.nil ?_
  refine WE.toH (.tail _ (.head _)) ?_
  refine WH.step (i := 6) (by kernel_rfl) rfl ?_
  refine WL.f2 ?_
  refine WL.callW1 (insU4 _ sb nr id (FVN 4 b3 q) by_ aft l) call104 rfl rfl rfl fun v1_6 Hs1_6 hR1_6 => ?_
  obtain ⟨e, he, hO⟩ := hR1_6
  obtain ⟨m, rfl, hv⟩ := opr1 hO
  refine WL.to1 ?_
  refine WL.nil ?_
  refine WE.toH (.tail _ (.tail _ (.head _))) ?_
  refine WH.q 7 rfl (.tail _ (.tail _ (.head _))) (fun w0 => oq_assign rfl) rfl rfl rfl ?_
  refine WH.done (by kernel_rfl) ?_
  refine WE.then_normal (WC.sub (fr' := [(8, _)]) ?_ ⟨rfl, trivial⟩)
  refine WC.ret ?_
  refine WE.f3 ?_
  refine WE.f2 ?_
  refine WE.f2 ?_
  refine WE.f3 ?_
  refine WE.endW3 (.inl rfl) (res1 Tryz.results103 rfl) ?_
  -- end 0
  exact cl_mk (fresh1 hq) hv (fun h y hy => (insL_mem h y hy).imp (fun h => h) (fun h => by subst h; exact ⟨he, okq rfl⟩)) (insL_map _ _ _ _)

/-- given.example/pub-tinwright/impl.deserializeStep$4 -/
theorem clSwp4 (base sb b2 b5 b3 : Nat) (nr : Value) (l : List Nd) (id by_ : List UInt8) (hb : ∀ x ∈ l, base ≤ x.b) : FnW Tryz.prog 105 [S by_, S id, Pt b2 0, Pt b5 0] base [env 4 sb b2 b5 b3, stg 4 sb nr l] (ClR 4 base sb b2 b5 b3 nr l (swpI by_ id (l.map Nd.id))) := by
  refine FnW.enter (n := 19) Tryz.func105 rfl rfl fun w0 R0 hbase => ?_
  subst hbase
  show WC _ _ _ _ _ _ _ ([env 4 sb b2 b5 b3, stg 4 sb nr l, R0])
  refine WC.sub (fr' := [(0, _), (1, _), (2, _), (3, _)]) ?_ ⟨rfl, rfl, rfl, rfl, trivial⟩
  refine WC.seq (WC.region ?_)
  refine WL.q (oq_assign rfl) rfl rfl rfl ?_
  refine WL.nil (WE.then_normal (WC.sub (fr' := [(0, _), (1, _), (2, _), (3, _)]) ?_ ⟨rfl, rfl, rfl, rfl, trivial⟩))
  refine WC.seq ?_
  refine WC.held (env 4 sb b2 b5 b3) (by kernel_rfl) ?_
  refine WH.q 0 rfl (.head _) (fun w0 => oq_load flat84 rfl (.head _) (.head _) rfl) rfl rfl rfl ?_
  refine WH.q 1 rfl (.head _) (fun w0 => oq_move rfl) rfl rfl rfl ?_
  refine WH.q 2 rfl (.head _) (fun w0 => oq_load flat193 rfl (.head _) (.tail _ (.head _)) rfl) rfl rfl rfl ?_
  refine WH.q 3 rfl (.head _) (fun w0 => oq_move rfl) rfl rfl rfl ?_
  refine WH.step (i := 4) (by kernel_rfl) rfl ?_
  refine WL.callWE (args := [S id, Pt b3 0]) (fun a w hf => run_enterv (first := []) (vs := [S id]) (cap := [Pt b3 0]) call98 rfl rfl hf w) (of4 _ b3 id) rfl rfl rfl rfl fun v1_4 Hs1_4 hR1_4 => ?_
  obtain ⟨q, hq, rfl, rfl⟩ := hR1_4
  refine WL.app1 ?_
  refine WL.nil ?_
  refine WE.toH (.tail _ (.head _)) ?_
  refine WH.step (i := 5) (by kernel_rfl) rfl ?_
  refine WL.f2 ?_
  refine WL.callW1 (swpU4 _ sb nr id (FVN 4 b3 q) by_ l) call106 rfl rfl rfl fun v1_5 Hs1_5 hR1_5 => ?_
  obtain ⟨m, o, w, rfl, rfl, hv⟩ := opt1 hR1_5
  refine WL.to1 ?_
  refine WL.nil ?_
  refine WE.toH (.tail _ (.tail _ (.head _))) ?_
  refine WH.q 6 rfl (.tail _ (.tail _ (.head _))) (fun w0 => oq_move rfl) rfl rfl rfl ?_
  refine WH.q 7 rfl (.tail _ (.tail _ (.head _))) (fun w0 => oq_extract rfl rfl) rfl rfl rfl ?_
  refine WH.q 8 rfl (.tail _ (.tail _ (.head _))) (fun w0 => oq_extract rfl rfl) rfl rfl rfl ?_
  refine WH.q 9 rfl (.tail _ (.tail _ (.head _))) (fun w0 => oq_assign rfl) rfl rfl rfl ?_
  refine WH.q 10 rfl (.tail _ (.tail _ (.head _))) (fun w0 => oq_assign rfl) rfl rfl rfl ?_
  refine WH.done (by kernel_rfl) ?_
  refine WE.then_normal (WC.sub (fr' := [(8, _)]) ?_ ⟨rfl, trivial⟩)
  refine WC.seq (WC.region ?_)
  refine WL.q (oq_move rfl) rfl rfl rfl ?_
  refine WL.q (oq_assign rfl) rfl rfl rfl ?_
  refine WL.nil (WE.then_normal (WC.sub (fr' := [(6, _)]) ?_ ⟨rfl, trivial⟩))
  refine WC.ret ?_
  refine WE.f3 ?_
  refine WE.f2 ?_
  refine WE.f2 ?_
  refine WE.f3 ?_
  refine WE.endW3 (.inl rfl) (res1 Tryz.results105 rfl) ?_
  -- end 0
  exact cl_mk (fresh1 hq) hv (fun h y hy => (swpL_mem h y hy).imp (fun h => h) (fun h => by obtain ⟨x, hx, rfl⟩ := h; exact ⟨hb x hx, okq rfl⟩)) (swpL_map _ _ _ _)

/-- given.example/pub-tinwright/impl.deserializeStep$5 -/
theorem clRem4 (base sb b2 b5 b3 : Nat) (nr : Value) (l : List Nd) (id : List UInt8) (hb : ∀ x ∈ l, base ≤ x.b) : FnW Tryz.prog 107 [S id, Pt b2 0] base [env 4 sb b2 b5 b3, stg 4 sb nr l, []] (ClR 4 base sb b2 b5 b3 nr l (remI id (l.map Nd.id))) := by
  refine FnW.enter (n := 13) Tryz.func107 rfl rfl fun w0 R0 hbase => ?_
  subst hbase
  show WC _ _ _ _ _ _ _ ([env 4 sb b2 b5 b3, stg 4 sb nr l, [], R0])
  refine WC.sub (fr' := [(0, _), (1, _)]) ?_ ⟨rfl, rfl, trivial⟩
  refine WC.seq (WC.region ?_)
  refine WL.q (oq_assign rfl) rfl rfl rfl ?_
  refine WL.nil (WE.then_normal (WC.sub (fr' := [(0, _), (1, _)]) ?_ ⟨rfl, rfl, trivial⟩))
  refine WC.seq (WC.region ?_)
  refine WL.q (oq_load flat84 rfl (.head _) (.head _) rfl) rfl rfl rfl ?_
  refine WL.q (oq_move rfl) rfl rfl rfl ?_
  refine WL.f1 ?_
  refine WL.callW1 (remU4 _ sb nr id l hb) call108 rfl rfl rfl fun v1_2 Hs1_2 hR1_2 => ?_
  obtain ⟨m, o, w, rfl, rfl, hv⟩ := opt1 hR1_2
  refine WL.to1 ?_
  refine WL.q (oq_move rfl) rfl rfl rfl ?_
  refine WL.q (oq_extract rfl rfl) rfl rfl rfl ?_
  refine WL.q (oq_extract rfl rfl) rfl rfl rfl ?_
  refine WL.q (oq_assign rfl) rfl rfl rfl ?_
  refine WL.q (oq_assign rfl) rfl rfl rfl ?_
  refine WL.nil (WE.then_normal (WC.sub (fr' := [(5, _)]) ?_ ⟨rfl, trivial⟩))
  refine WC.seq (WC.region ?_)
  refine WL.q (oq_move rfl) rfl rfl rfl ?_
  refine WL.q (oq_assign rfl) rfl rfl rfl ?_
  refine WL.nil (WE.then_normal (WC.sub (fr' := [(3, _)]) ?_ ⟨rfl, trivial⟩))
  refine WC.ret ?_
  refine WE.f3 ?_
  refine WE.f3 ?_
  refine WE.f2 ?_
  refine WE.f3 ?_
  refine WE.endW3 (.inl rfl) (res1 Tryz.results107 rfl) ?_
  -- end 0
  exact cl_mk (fun _ _ h => nomatch h) hv (fun h y hy => .inl (remL_mem h y hy)) (remL_map _ _)

/-- given.example/pub-tinwright/impl.deserializeStep$6 -/
theorem clHas4 (base sb b2 b5 b3 : Nat) (nr : Value) (l : List Nd) (id : List UInt8) : FnW Tryz.prog 111 [S id, Pt b2 0] base [env 4 sb b2 b5 b3, stg 4 sb nr l] (fun v Hs => v = .bool (decide (id ∈ l.map Nd.id)) ∧ Hs = [env 4 sb b2 b5 b3, stg 4 sb nr l]) := by
  refine FnW.enter (n := 13) Tryz.func111 rfl rfl fun w0 R0 hbase => ?_
  subst hbase
  show WC _ _ _ _ _ _ _ ([env 4 sb b2 b5 b3, stg 4 sb nr l, R0])
  refine WC.sub (fr' := [(0, _), (1, _)]) ?_ ⟨rfl, rfl, trivial⟩
  refine WC.seq (WC.region ?_)
  refine WL.q (oq_assign rfl) rfl rfl rfl ?_
  refine WL.nil (WE.then_normal (WC.sub (fr' := [(0, _), (1, _)]) ?_ ⟨rfl, rfl, trivial⟩))
  refine WC.seq (WC.region ?_)
  refine WL.q (oq_load flat84 rfl (.head _) (.head _) rfl) rfl rfl rfl ?_
  refine WL.q (oq_move rfl) rfl rfl rfl ?_
  refine WL.f1 ?_
  refine WL.callW1 (getU4 _ sb nr id l) call112 rfl rfl rfl fun v1_2 Hs1_2 hR1_2 => ?_
  obtain ⟨⟨o, rfl⟩, rfl⟩ := hR1_2
  refine WL.to1 ?_
  refine WL.q (oq_move rfl) rfl rfl rfl ?_
  refine WL.q (oq_extract rfl rfl) rfl rfl rfl ?_
  refine WL.q (oq_extract rfl rfl) rfl rfl rfl ?_
  refine WL.q (oq_assign rfl) rfl rfl rfl ?_
  refine WL.q (oq_assign rfl) rfl rfl rfl ?_
  refine WL.nil (WE.then_normal (WC.sub (fr' := [(5, _)]) ?_ ⟨rfl, trivial⟩))
  refine WC.seq (WC.region ?_)
  refine WL.q (oq_move rfl) rfl rfl rfl ?_
  refine WL.q (oq_assign rfl) rfl rfl rfl ?_
  refine WL.nil (WE.then_normal (WC.sub (fr' := [(3, _)]) ?_ ⟨rfl, trivial⟩))
  refine WC.ret ?_
  refine WE.f2 ?_
  refine WE.f1 ?_
  refine WE.f2 ?_
  refine WE.endW2 (.inl rfl) (res1 Tryz.results111 rfl) ?_
  -- end 0
  exact ⟨rfl, rfl⟩

end S6
end Go.Proofs.YtclafiglpcjhdaaGreat
