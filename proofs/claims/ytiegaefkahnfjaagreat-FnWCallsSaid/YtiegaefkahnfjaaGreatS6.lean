/- Steps: the functions of each one. -/
import Derived.Test.YtiegaefkahnfjaaGreatS5
namespace Go.Proofs.YtiegaefkahnfjaaGreat
open Go Go.RowKit V S0 S1 S2 S3 S4 S5
set_option linter.unusedSimpArgs false
set_option linter.unusedVariables false
set_option maxRecDepth 10000
namespace S6
theorem call50 : Callable Tryz.prog 50 := ⟨_, Tryz.func50, rfl, by kernel_rfl⟩
theorem call51 : Callable Tryz.prog 51 := ⟨_, Tryz.func51, rfl, by kernel_rfl⟩
theorem call56 : Callable Tryz.prog 56 := ⟨_, Tryz.func56, rfl, by kernel_rfl⟩
theorem call58 : Callable Tryz.prog 58 := ⟨_, Tryz.func58, rfl, by kernel_rfl⟩
theorem call60 : Callable Tryz.prog 60 := ⟨_, Tryz.func60, rfl, by kernel_rfl⟩
theorem call62 : Callable Tryz.prog 62 := ⟨_, Tryz.func62, rfl, by kernel_rfl⟩
theorem call65 : Callable Tryz.prog 65 := ⟨_, Tryz.func65, rfl, by kernel_rfl⟩
theorem call66 : Callable Tryz.prog 66 := ⟨_, Tryz.func66, rfl, by kernel_rfl⟩
theorem call67 : Callable Tryz.prog 67 := ⟨_, Tryz.func67, rfl, by kernel_rfl⟩
theorem call70 : Callable Tryz.prog 70 := ⟨_, Tryz.func70, rfl, by kernel_rfl⟩
theorem call72 : Callable Tryz.prog 72 := ⟨_, Tryz.func72, rfl, by kernel_rfl⟩
theorem call74 : Callable Tryz.prog 74 := ⟨_, Tryz.func74, rfl, by kernel_rfl⟩
theorem call76 : Callable Tryz.prog 76 := ⟨_, Tryz.func76, rfl, by kernel_rfl⟩
theorem call79 : Callable Tryz.prog 79 := ⟨_, Tryz.func79, rfl, by kernel_rfl⟩
theorem call80 : Callable Tryz.prog 80 := ⟨_, Tryz.func80, rfl, by kernel_rfl⟩
theorem call81 : Callable Tryz.prog 81 := ⟨_, Tryz.func81, rfl, by kernel_rfl⟩
theorem call84 : Callable Tryz.prog 84 := ⟨_, Tryz.func84, rfl, by kernel_rfl⟩
theorem call86 : Callable Tryz.prog 86 := ⟨_, Tryz.func86, rfl, by kernel_rfl⟩
theorem call88 : Callable Tryz.prog 88 := ⟨_, Tryz.func88, rfl, by kernel_rfl⟩
theorem call90 : Callable Tryz.prog 90 := ⟨_, Tryz.func90, rfl, by kernel_rfl⟩
theorem call93 : Callable Tryz.prog 93 := ⟨_, Tryz.func93, rfl, by kernel_rfl⟩
theorem call94 : Callable Tryz.prog 94 := ⟨_, Tryz.func94, rfl, by kernel_rfl⟩
theorem call95 : Callable Tryz.prog 95 := ⟨_, Tryz.func95, rfl, by kernel_rfl⟩
theorem call98 : Callable Tryz.prog 98 := ⟨_, Tryz.func98, rfl, by kernel_rfl⟩
theorem call100 : Callable Tryz.prog 100 := ⟨_, Tryz.func100, rfl, by kernel_rfl⟩
theorem call102 : Callable Tryz.prog 102 := ⟨_, Tryz.func102, rfl, by kernel_rfl⟩
theorem call104 : Callable Tryz.prog 104 := ⟨_, Tryz.func104, rfl, by kernel_rfl⟩
theorem call107 : Callable Tryz.prog 107 := ⟨_, Tryz.func107, rfl, by kernel_rfl⟩
theorem call108 : Callable Tryz.prog 108 := ⟨_, Tryz.func108, rfl, by kernel_rfl⟩
theorem call109 : Callable Tryz.prog 109 := ⟨_, Tryz.func109, rfl, by kernel_rfl⟩
theorem call112 : Callable Tryz.prog 112 := ⟨_, Tryz.func112, rfl, by kernel_rfl⟩
theorem call114 : Callable Tryz.prog 114 := ⟨_, Tryz.func114, rfl, by kernel_rfl⟩
theorem call116 : Callable Tryz.prog 116 := ⟨_, Tryz.func116, rfl, by kernel_rfl⟩
theorem call118 : Callable Tryz.prog 118 := ⟨_, Tryz.func118, rfl, by kernel_rfl⟩
theorem call121 : Callable Tryz.prog 121 := ⟨_, Tryz.func121, rfl, by kernel_rfl⟩
theorem flat9 : Flat Tryz.prog 9 := ⟨_, Tryz.underlying9, by simp⟩
theorem flat74 : Flat Tryz.prog 74 := ⟨_, Tryz.underlying74, by simp⟩
theorem flat75 : Flat Tryz.prog 75 := ⟨_, Tryz.underlying75, by simp⟩
theorem flat76 : Flat Tryz.prog 76 := ⟨_, Tryz.underlying76, by simp⟩
theorem flat77 : Flat Tryz.prog 77 := ⟨_, Tryz.underlying77, by simp⟩
theorem flat78 : Flat Tryz.prog 78 := ⟨_, Tryz.underlying78, by simp⟩
theorem flat112 : Flat Tryz.prog 112 := ⟨_, Tryz.underlying112, by simp⟩
theorem flat131 : Flat Tryz.prog 131 := ⟨_, Tryz.underlying131, by simp⟩
theorem flat150 : Flat Tryz.prog 150 := ⟨_, Tryz.underlying150, by simp⟩
theorem flat168 : Flat Tryz.prog 168 := ⟨_, Tryz.underlying168, by simp⟩
theorem flat187 : Flat Tryz.prog 187 := ⟨_, Tryz.underlying187, by simp⟩
theorem ty231 : Ty Tryz.prog 231 (.agg #[(S []), .nilFunc]) 2 24 := ty_of (by kernel_rfl)
theorem ty235 : Ty Tryz.prog 235 (.agg #[(S []), .nilFunc]) 2 24 := ty_of (by kernel_rfl)
theorem ty239 : Ty Tryz.prog 239 (.agg #[(S []), .nilFunc]) 2 24 := ty_of (by kernel_rfl)
theorem ty243 : Ty Tryz.prog 243 (.agg #[(S []), .nilFunc]) 2 24 := ty_of (by kernel_rfl)
theorem ty247 : Ty Tryz.prog 247 (.agg #[(S []), .nilFunc]) 2 24 := ty_of (by kernel_rfl)
theorem conc231 : Conc Tryz.prog 231 := ⟨_, Tryz.underlying231, by simp⟩
theorem conc235 : Conc Tryz.prog 235 := ⟨_, Tryz.underlying235, by simp⟩
theorem conc239 : Conc Tryz.prog 239 := ⟨_, Tryz.underlying239, by simp⟩
theorem conc243 : Conc Tryz.prog 243 := ⟨_, Tryz.underlying243, by simp⟩
theorem conc247 : Conc Tryz.prog 247 := ⟨_, Tryz.underlying247, by simp⟩
theorem str231 : Str Tryz.prog 231 #[(0, 1), (1, 1)] := ⟨_, Tryz.underlying231, fun w => by kernel_rfl⟩
theorem str235 : Str Tryz.prog 235 #[(0, 1), (1, 1)] := ⟨_, Tryz.underlying235, fun w => by kernel_rfl⟩
theorem str239 : Str Tryz.prog 239 #[(0, 1), (1, 1)] := ⟨_, Tryz.underlying239, fun w => by kernel_rfl⟩
theorem str243 : Str Tryz.prog 243 #[(0, 1), (1, 1)] := ⟨_, Tryz.underlying243, fun w => by kernel_rfl⟩
theorem str247 : Str Tryz.prog 247 #[(0, 1), (1, 1)] := ⟨_, Tryz.underlying247, fun w => by kernel_rfl⟩
def PSn : Nat → TypeId
 | 0 => 74
 | 1 => 75
 | 2 => 76
 | 3 => 77
 | _ => 78
def OFn : Nat → TypeId
 | 0 => 112
 | 1 => 131
 | 2 => 150
 | 3 => 168
 | _ => 187
def cOf : Nat → FuncId
 | 0 => 50
 | 1 => 66
 | 2 => 80
 | 3 => 94
 | _ => 108
def cIn : Nat → FuncId
 | 0 => 52
 | 1 => 68
 | 2 => 82
 | 3 => 96
 | _ => 110
def cAdd : Nat → FuncId
 | 0 => 55
 | 1 => 69
 | 2 => 83
 | 3 => 97
 | _ => 111
def cIns : Nat → FuncId
 | 0 => 57
 | 1 => 71
 | 2 => 85
 | 3 => 99
 | _ => 113
def cSwp : Nat → FuncId
 | 0 => 59
 | 1 => 73
 | 2 => 87
 | 3 => 101
 | _ => 115
def cRem : Nat → FuncId
 | 0 => 61
 | 1 => 75
 | 2 => 89
 | 3 => 103
 | _ => 117
def cHas : Nat → FuncId
 | 0 => 64
 | 1 => 78
 | 2 => 92
 | 3 => 106
 | _ => 120
def FOF (i b3 : Nat) : Value := .func (.func (cOf i)) #[] #[Pt b3 0]
def FVN (i b3 q : Nat) : Value := .func (.func (cIn i)) #[] #[Pt b3 0, Pt q 0]
def env (i sb b2 b5 b3 : Nat) : Hp := [(b2, .cells #[Pt sb 0] (PSn i) (0, 0)), (b5, .cells #[FOF i b3] (OFn i) (0, 0))]
def stp (i sb b2 b5 : Nat) : Array Value := #[.func (.func (cAdd i)) #[] #[Pt b2 0, Pt b5 0], .func (.func (cIns i)) #[] #[Pt b2 0, Pt b5 0], .func (.func (cSwp i)) #[] #[Pt b2 0, Pt b5 0], .func (.func (cRem i)) #[] #[Pt b2 0], .func (.func (fClear i)) #[Pt sb 0] #[], .func (.func (fList i)) #[Pt sb 0] #[], .func (.func (cHas i)) #[] #[Pt b2 0]]
def Okn (i b3 : Nat) (X : Hp) (y : Nd) : Prop := ∃ q, y.fv = FVN i b3 q ∧ (q, Obj.cells #[S y.id] 9 (0, 0)) ∈ X
/-! ### The same on names -/
def putI (aft : Bool) (y : List UInt8) (l : List (List UInt8)) : List (List UInt8) := if aft then l ++ [y] else y :: l
def insI (by_ : List UInt8) (aft : Bool) (y : List UInt8) : List (List UInt8) → Option (List (List UInt8))
 | [] => none
 | x :: r => if x = by_ then some (if aft then x :: y :: r else y :: x :: r) else (insI by_ aft y r).map (x :: ·)
def swpI (by_ id : List UInt8) : List (List UInt8) → Option (List (List UInt8))
 | [] => none
 | x :: r => if x = by_ then some (id :: r) else (swpI by_ id r).map (x :: ·)
def remI (id : List UInt8) : List (List UInt8) → Option (List (List UInt8))
 | [] => none
 | x :: r => if x = id then some r else (remI id r).map (x :: ·)
theorem putE_map (aft : Bool) (y : Nd) (l : List Nd) : (putE aft y l).map Nd.id = putI aft y.id (l.map Nd.id) := by cases aft <;> simp [putE, putI]
theorem insL_map (by_ : List UInt8) (aft : Bool) (y : Nd) : ∀ (l : List Nd), (insL by_ aft y l).map (List.map Nd.id) = insI by_ aft y.id (l.map Nd.id)
 | [] => rfl
 | x :: r => by
  show (if x.id = by_ then _ else _ : Option _).map _ = (if x.id = by_ then _ else _)
  by_cases h : x.id = by_
  ·rw [if_pos h, if_pos h]; cases aft <;> rfl
  ·rw [if_neg h, if_neg h, ← insL_map by_ aft y r]; cases insL by_ aft y r <;> rfl
theorem swpL_map (by_ id : List UInt8) (fv : Value) : ∀ (l : List Nd), (swpL by_ id fv l).map (List.map Nd.id) = swpI by_ id (l.map Nd.id)
 | [] => rfl
 | x :: r => by
  show (if x.id = by_ then _ else _ : Option _).map _ = (if x.id = by_ then _ else _)
  by_cases h : x.id = by_
  ·rw [if_pos h, if_pos h]; rfl
  ·rw [if_neg h, if_neg h, ← swpL_map by_ id fv r]; cases swpL by_ id fv r <;> rfl
theorem remL_map (id : List UInt8) : ∀ (l : List Nd), (remL id l).map (List.map Nd.id) = remI id (l.map Nd.id)
 | [] => rfl
 | x :: r => by
  show (if x.id = id then _ else _ : Option _).map _ = (if x.id = id then _ else _)
  by_cases h : x.id = id
  ·rw [if_pos h, if_pos h]; rfl
  ·rw [if_neg h, if_neg h, ← remL_map id r]; cases remL id r <;> rfl
theorem putE_mem {aft : Bool} {y z : Nd} {l : List Nd} (h : z ∈ putE aft y l) : z ∈ l ∨ z = y := by
 cases aft with
 | false => exact (List.mem_cons.1 h).symm
 | true => exact (List.mem_append.1 h).imp (fun h => h) List.mem_singleton.1
theorem insL_mem {by_ : List UInt8} {aft : Bool} {y : Nd} : ∀ {l m : List Nd}, insL by_ aft y l = some m → ∀ z ∈ m, z ∈ l ∨ z = y
 | [], m, h => by cases h
 | x :: r, m, h => by
  have h2 : (if x.id = by_ then some (if aft then x :: y :: r else y :: x :: r) else (insL by_ aft y r).map (x :: ·)) = some m := h
  by_cases hx : x.id = by_
  ·rw [if_pos hx] at h2
   injection h2 with h2
   subst h2
   intro z hz
   cases aft with
   | false =>
    rcases List.mem_cons.1 hz with rfl | hz
    ·exact .inr rfl
    ·exact .inl hz
   | true =>
    rcases List.mem_cons.1 hz with rfl | hz
    ·exact .inl List.mem_cons_self
    ·rcases List.mem_cons.1 hz with rfl | hz
     ·exact .inr rfl
     ·exact .inl (List.mem_cons_of_mem _ hz)
  ·rw [if_neg hx] at h2
   obtain ⟨m2, hm, rfl⟩ := Option.map_eq_some_iff.1 h2
   intro z hz
   rcases List.mem_cons.1 hz with rfl | hz
   ·exact .inl List.mem_cons_self
   ·exact (insL_mem hm z hz).imp (List.mem_cons_of_mem _) (fun h => h)
theorem swpL_mem {by_ id : List UInt8} {fv : Value} : ∀ {l m : List Nd}, swpL by_ id fv l = some m → ∀ z ∈ m, z ∈ l ∨ ∃ x ∈ l, z = ⟨x.b, id, fv⟩
 | [], m, h => by cases h
 | x :: r, m, h => by
  have h2 : (if x.id = by_ then some (⟨x.b, id, fv⟩ :: r) else (swpL by_ id fv r).map (x :: ·)) = some m := h
  by_cases hx : x.id = by_
  ·rw [if_pos hx] at h2
   injection h2 with h2
   subst h2
   intro z hz
   rcases List.mem_cons.1 hz with rfl | hz
   ·exact .inr ⟨x, List.mem_cons_self, rfl⟩
   ·exact .inl (List.mem_cons_of_mem _ hz)
  ·rw [if_neg hx] at h2
   obtain ⟨m2, hm, rfl⟩ := Option.map_eq_some_iff.1 h2
   intro z hz
   rcases List.mem_cons.1 hz with rfl | hz
   ·exact .inl List.mem_cons_self
   ·rcases swpL_mem hm z hz with h | ⟨x', h, e⟩
    ·exact .inl (List.mem_cons_of_mem _ h)
    ·exact .inr ⟨x', List.mem_cons_of_mem _ h, e⟩
theorem remL_mem {id : List UInt8} : ∀ {l m : List Nd}, remL id l = some m → ∀ z ∈ m, z ∈ l
 | [], m, h => by cases h
 | x :: r, m, h => by
  have h2 : (if x.id = id then some r else (remL id r).map (x :: ·)) = some m := h
  by_cases hx : x.id = id
  ·rw [if_pos hx] at h2
   injection h2 with h2
   subst h2
   exact fun z hz => List.mem_cons_of_mem _ hz
  ·rw [if_neg hx] at h2
   obtain ⟨m2, hm, rfl⟩ := Option.map_eq_some_iff.1 h2
   intro z hz
   rcases List.mem_cons.1 hz with rfl | hz
   ·exact List.mem_cons_self
   ·exact List.mem_cons_of_mem _ (remL_mem hm z hz)
def OrE (l m : List Nd) (r : Option (List Nd)) (v : Value) : Prop := (r = some m ∧ v = .nilIface) ∨ (r = none ∧ m = l ∧ ∃ k u, v = .iface k u)
theorem opr1 {i sb : Nat} {nr : Value} {l : List Nd} {r : Option (List Nd)} {v : Value} {Hs : List Hp} (h : OpR i sb nr l r v Hs) : ∃ m, Hs = [stg i sb nr m] ∧ OrE l m r v := by
 cases r with
 | none => exact ⟨l, h.2, .inr ⟨rfl, rfl, h.1⟩⟩
 | some m => exact ⟨m, h.2, .inl ⟨rfl, h.1⟩⟩
theorem opt1 {i sb : Nat} {nr : Value} {l : List Nd} {r : Option (List Nd)} {v : Value} {Hs : List Hp} (h : OpT i sb nr l r v Hs) : ∃ m o w, Hs = [stg i sb nr m] ∧ v = .tuple #[o, w] ∧ OrE l m r w := by
 cases r with
 | none => obtain ⟨⟨k, u, h1⟩, h2⟩ := h; exact ⟨l, _, _, h2, h1, .inr ⟨rfl, rfl, k, u, rfl⟩⟩
 | some m => obtain ⟨⟨o, h1⟩, h2⟩ := h; exact ⟨m, o, _, h2, h1, .inl ⟨rfl, rfl⟩⟩
def ClR (i base sb b2 b5 b3 : Nat) (nr : Value) (l : List Nd) (ri : Option (List (List UInt8))) (v : Value) (Hs : List Hp) : Prop :=
 ∃ m X, Hs = [env i sb b2 b5 b3, stg i sb nr m, X] ∧ (∀ b o, (b, o) ∈ X → base ≤ b) ∧ (∀ y ∈ m, y ∈ l ∨ (base ≤ y.b ∧ Okn i b3 X y)) ∧ ((ri = some (m.map Nd.id) ∧ v = .nilIface) ∨ (ri = none ∧ m = l ∧ ∃ k u, v = .iface k u))
theorem cl_mk {i base sb b2 b5 b3 : Nat} {nr : Value} {l m : List Nd} {rL : Option (List Nd)} {ri : Option (List (List UInt8))} {v : Value} {X : Hp} (hX : ∀ b o, (b, o) ∈ X → base ≤ b) (hv : OrE l m rL v)
  (hmem : rL = some m → ∀ y ∈ m, y ∈ l ∨ (base ≤ y.b ∧ Okn i b3 X y)) (hr : rL.map (List.map Nd.id) = ri) : ClR i base sb b2 b5 b3 nr l ri v [env i sb b2 b5 b3, stg i sb nr m, X] := by
 refine ⟨m, X, rfl, hX, ?_, ?_⟩
 ·rcases hv with ⟨h, _⟩ | ⟨_, h, _⟩
  ·exact hmem h
  ·exact fun y hy => .inl (h ▸ hy)
 ·rcases hv with ⟨h, h2⟩ | ⟨h, h2, h3⟩
  ·exact .inl ⟨by rw [← hr, h]; rfl, h2⟩
  ·exact .inr ⟨by rw [← hr, h]; rfl, h2, h3⟩
theorem okq {i b3 q : Nat} {y : Nd} (h : y.fv = FVN i b3 q) : Okn i b3 [(q, .cells #[S y.id] 9 (0, 0))] y := ⟨q, h, List.mem_singleton.2 rfl⟩
theorem mwf0 (b3 q : Nat) (id : List UInt8) : Fn0 Tryz.prog 51 [S id, .func (.func 52) #[] #[Pt b3 0, Pt q 0]] (.iface 231 (.agg #[S id, FVN 0 b3 q])) := by
 refine Fn0.enter (n := 9) Tryz.func51 rfl rfl fun w0 => ?_
 refine WC.sub (fr' := [(0, _), (1, _)]) ?_ ⟨rfl, rfl, trivial⟩
 refine WC.seq (WC.region ?_)
 refine WL.q (oq_assign rfl) rfl rfl rfl ?_
 refine WL.nil (WE.then_normal (WC.sub (fr' := [(0, _), (1, _)]) ?_ ⟨rfl, rfl, trivial⟩))
 refine WC.seq (WC.region ?_)
 refine WL.q (oq_move rfl) rfl rfl rfl ?_
 refine WL.q (oq_move rfl) rfl rfl rfl ?_
 refine WL.q (oq_build #[_, _] str231 ty231 rfl rfl) rfl rfl rfl ?_
 refine WL.q (oq_makeI conc231 rfl) rfl rfl rfl ?_
 refine WL.q (oq_assign rfl) rfl rfl rfl ?_
 refine WL.nil (WE.then_normal (WC.sub (fr' := [(4, _)]) ?_ ⟨rfl, trivial⟩))
 refine WC.ret ?_
 refine WE.end0 (.inl rfl) (res1 Tryz.results51 rfl) ?_
 rfl
theorem of0 (base b3 : Nat) (id : List UInt8) : FnW Tryz.prog 50 [S id, Pt b3 0] base [] (fun v Hs => ∃ q, base ≤ q ∧ v = .iface 231 (.agg #[S id, FVN 0 b3 q]) ∧ Hs = [[(q, .cells #[S id] 9 (0, 0))]]) := by
 refine FnW.enter (n := 7) Tryz.func50 rfl rfl fun w0 R0 hbase => ?_
 subst hbase
 show WC _ _ _ _ _ _ _ ([R0])
 refine WC.sub (fr' := [(0, _), (1, _)]) ?_ ⟨rfl, rfl, trivial⟩
 refine WC.seq (WC.region ?_)
 refine WL.box rfl rfl rfl fun q hq => ?_
 refine WL.q (oq_assign rfl) rfl rfl rfl ?_
 refine WL.nil (WE.then_normal (WC.sub (fr' := [(1, _), (2, _)]) ?_ ⟨rfl, rfl, trivial⟩))
 refine WC.seq (WC.region ?_)
 refine WL.q (oq_load flat9 rfl (.head _) (List.mem_singleton.2 rfl) rfl) rfl rfl rfl ?_
 refine WL.q (oq_makeFn rfl) rfl rfl rfl ?_
 refine WL.qc (oq_call (mwf0 b3 q id) call51 rfl) rfl rfl rfl ?_
 refine WL.q (oq_assign rfl) rfl rfl rfl ?_
 refine WL.nil (WE.then_normal (WC.sub (fr' := [(3, _)]) ?_ ⟨rfl, trivial⟩))
 refine WC.ret ?_
 refine WE.endW1 (.inl rfl) (res1 Tryz.results50 rfl) ?_
 exact ⟨q, hq, rfl, rfl⟩
theorem clAdd0 (base sb b2 b5 b3 : Nat) (nr : Value) (l : List Nd) (id : List UInt8) (aft : Bool) : FnW Tryz.prog 55 [S id, I (if aft then 0 else 1), Pt b2 0, Pt b5 0] base [env 0 sb b2 b5 b3, stg 0 sb nr l] (ClR 0 base sb b2 b5 b3 nr l (some (putI aft id (l.map Nd.id)))) := by
 refine FnW.enter (n := 13) Tryz.func55 rfl rfl fun w0 R0 hbase => ?_
 subst hbase
 show WC _ _ _ _ _ _ _ ([env 0 sb b2 b5 b3, stg 0 sb nr l, R0])
 refine WC.sub (fr' := [(0, _), (1, _), (2, _), (3, _)]) ?_ ⟨rfl, rfl, rfl, rfl, trivial⟩
 refine WC.seq (WC.region ?_)
 refine WL.q (oq_assign rfl) rfl rfl rfl ?_
 refine WL.nil (WE.then_normal (WC.sub (fr' := [(0, _), (1, _), (2, _), (3, _)]) ?_ ⟨rfl, rfl, rfl, rfl, trivial⟩))
 refine WC.seq ?_
 refine WC.held (env 0 sb b2 b5 b3) (by kernel_rfl) ?_
 refine WH.q 0 rfl (.head _) (fun w0 => oq_load flat74 rfl (.head _) (.head _) rfl) rfl rfl rfl ?_
 refine WH.q 1 rfl (.head _) (fun w0 => oq_load flat112 rfl (.head _) (.tail _ (.head _)) rfl) rfl rfl rfl ?_
 refine WH.q 2 rfl (.head _) (fun w0 => oq_move rfl) rfl rfl rfl ?_
 refine WH.q 4 rfl (.head _) (fun w0 => oq_move rfl) rfl rfl rfl ?_
 refine WH.step (i := 3) (by kernel_rfl) rfl ?_
 refine WL.callWE (args := [S id, Pt b3 0]) (fun a w hf => run_enterv (first := []) (vs := [S id]) (cap := [Pt b3 0]) call50 rfl rfl hf w) (of0 _ b3 id) rfl rfl rfl rfl fun v1_3 Hs1_3 hR1_3 => ?_
 obtain ⟨q, hq, rfl, rfl⟩ := hR1_3
 refine WL.app1 ?_
 refine WL.nil ?_
 refine WE.toH (.tail _ (.head _)) ?_
 refine WH.step (i := 5) (by kernel_rfl) rfl ?_
 refine WL.f2 ?_
 refine WL.callW1 (addU0 _ sb nr id (FVN 0 b3 q) aft l) call56 rfl rfl rfl fun v1_5 Hs1_5 hR1_5 => ?_
 obtain ⟨e, he, hO⟩ := hR1_5
 obtain ⟨m, rfl, hv⟩ := opr1 hO
 refine WL.to1 ?_
 refine WL.nil ?_
 refine WE.toH (.tail _ (.tail _ (.head _))) ?_
 refine WH.q 6 rfl (.tail _ (.tail _ (.head _))) (fun w0 => oq_assign rfl) rfl rfl rfl ?_
 refine WH.done (by kernel_rfl) ?_
 refine WE.then_normal (WC.sub (fr' := [(6, _)]) ?_ ⟨rfl, trivial⟩)
 refine WC.ret ?_
 refine WE.f3 ?_
 refine WE.f2 ?_
 refine WE.f2 ?_
 refine WE.f3 ?_
 refine WE.endW3 (.inl rfl) (res1 Tryz.results55 rfl) ?_
 exact cl_mk (fresh1 hq) hv (fun h y hy => by injection h with h; subst h; exact (putE_mem hy).imp (fun h => h) (fun h => by subst h; exact ⟨he, okq rfl⟩)) (by show some _ = _; rw [putE_map])
theorem clIns0 (base sb b2 b5 b3 : Nat) (nr : Value) (l : List Nd) (id by_ : List UInt8) (aft : Bool) : FnW Tryz.prog 57 [S id, S by_, I (if aft then 0 else 1), Pt b2 0, Pt b5 0] base [env 0 sb b2 b5 b3, stg 0 sb nr l] (ClR 0 base sb b2 b5 b3 nr l (insI by_ aft id (l.map Nd.id))) := by
 refine FnW.enter (n := 16) Tryz.func57 rfl rfl fun w0 R0 hbase => ?_
 subst hbase
 show WC _ _ _ _ _ _ _ ([env 0 sb b2 b5 b3, stg 0 sb nr l, R0])
 refine WC.sub (fr' := [(0, _), (1, _), (2, _), (3, _), (4, _)]) ?_ ⟨rfl, rfl, rfl, rfl, rfl, trivial⟩
 refine WC.seq (WC.region ?_)
 refine WL.q (oq_assign rfl) rfl rfl rfl ?_
 refine WL.nil (WE.then_normal (WC.sub (fr' := [(0, _), (1, _), (2, _), (3, _), (4, _)]) ?_ ⟨rfl, rfl, rfl, rfl, rfl, trivial⟩))
 refine WC.seq ?_
 refine WC.held (env 0 sb b2 b5 b3) (by kernel_rfl) ?_
 refine WH.q 0 rfl (.head _) (fun w0 => oq_load flat74 rfl (.head _) (.head _) rfl) rfl rfl rfl ?_
 refine WH.q 1 rfl (.head _) (fun w0 => oq_load flat112 rfl (.head _) (.tail _ (.head _)) rfl) rfl rfl rfl ?_
 refine WH.q 2 rfl (.head _) (fun w0 => oq_move rfl) rfl rfl rfl ?_
 refine WH.q 4 rfl (.head _) (fun w0 => oq_move rfl) rfl rfl rfl ?_
 refine WH.q 5 rfl (.head _) (fun w0 => oq_move rfl) rfl rfl rfl ?_
 refine WH.step (i := 3) (by kernel_rfl) rfl ?_
 refine WL.callWE (args := [S id, Pt b3 0]) (fun a w hf => run_enterv (first := []) (vs := [S id]) (cap := [Pt b3 0]) call50 rfl rfl hf w) (of0 _ b3 id) rfl rfl rfl rfl fun v1_3 Hs1_3 hR1_3 => ?_
 obtain ⟨q, hq, rfl, rfl⟩ := hR1_3
 refine WL.app1 ?_
 refine WL.nil ?_
 refine WE.toH (.tail _ (.head _)) ?_
 refine WH.step (i := 6) (by kernel_rfl) rfl ?_
 refine WL.f2 ?_
 refine WL.callW1 (insU0 _ sb nr id (FVN 0 b3 q) by_ aft l) call58 rfl rfl rfl fun v1_6 Hs1_6 hR1_6 => ?_
 obtain ⟨e, he, hO⟩ := hR1_6
 obtain ⟨m, rfl, hv⟩ := opr1 hO
 refine WL.to1 ?_
 refine WL.nil ?_
 refine WE.toH (.tail _ (.tail _ (.head _))) ?_
 refine WH.q 7 rfl (.tail _ (.tail _ (.head _))) (fun w0 => oq_assign rfl) rfl rfl rfl ?_
 refine WH.done (by kernel_rfl) ?_
 refine WE.then_normal (WC.sub (fr' := [(8, _)]) ?_ ⟨rfl, trivial⟩)
 refine WC.ret ?_
 refine WE.f3 ?_
 refine WE.f2 ?_
 refine WE.f2 ?_
 refine WE.f3 ?_
 refine WE.endW3 (.inl rfl) (res1 Tryz.results57 rfl) ?_
 exact cl_mk (fresh1 hq) hv (fun h y hy => (insL_mem h y hy).imp (fun h => h) (fun h => by subst h; exact ⟨he, okq rfl⟩)) (insL_map _ _ _ _)
theorem clSwp0 (base sb b2 b5 b3 : Nat) (nr : Value) (l : List Nd) (id by_ : List UInt8) (hb : ∀ x ∈ l, base ≤ x.b) : FnW Tryz.prog 59 [S by_, S id, Pt b2 0, Pt b5 0] base [env 0 sb b2 b5 b3, stg 0 sb nr l] (ClR 0 base sb b2 b5 b3 nr l (swpI by_ id (l.map Nd.id))) := by
 refine FnW.enter (n := 19) Tryz.func59 rfl rfl fun w0 R0 hbase => ?_
 subst hbase
 show WC _ _ _ _ _ _ _ ([env 0 sb b2 b5 b3, stg 0 sb nr l, R0])
 refine WC.sub (fr' := [(0, _), (1, _), (2, _), (3, _)]) ?_ ⟨rfl, rfl, rfl, rfl, trivial⟩
 refine WC.seq (WC.region ?_)
 refine WL.q (oq_assign rfl) rfl rfl rfl ?_
 refine WL.nil (WE.then_normal (WC.sub (fr' := [(0, _), (1, _), (2, _), (3, _)]) ?_ ⟨rfl, rfl, rfl, rfl, trivial⟩))
 refine WC.seq ?_
 refine WC.held (env 0 sb b2 b5 b3) (by kernel_rfl) ?_
 refine WH.q 0 rfl (.head _) (fun w0 => oq_load flat74 rfl (.head _) (.head _) rfl) rfl rfl rfl ?_
 refine WH.q 1 rfl (.head _) (fun w0 => oq_move rfl) rfl rfl rfl ?_
 refine WH.q 2 rfl (.head _) (fun w0 => oq_load flat112 rfl (.head _) (.tail _ (.head _)) rfl) rfl rfl rfl ?_
 refine WH.q 3 rfl (.head _) (fun w0 => oq_move rfl) rfl rfl rfl ?_
 refine WH.step (i := 4) (by kernel_rfl) rfl ?_
 refine WL.callWE (args := [S id, Pt b3 0]) (fun a w hf => run_enterv (first := []) (vs := [S id]) (cap := [Pt b3 0]) call50 rfl rfl hf w) (of0 _ b3 id) rfl rfl rfl rfl fun v1_4 Hs1_4 hR1_4 => ?_
 obtain ⟨q, hq, rfl, rfl⟩ := hR1_4
 refine WL.app1 ?_
 refine WL.nil ?_
 refine WE.toH (.tail _ (.head _)) ?_
 refine WH.step (i := 5) (by kernel_rfl) rfl ?_
 refine WL.f2 ?_
 refine WL.callW1 (swpU0 _ sb nr id (FVN 0 b3 q) by_ l) call60 rfl rfl rfl fun v1_5 Hs1_5 hR1_5 => ?_
 obtain ⟨m, o, w, rfl, rfl, hv⟩ := opt1 hR1_5
 refine WL.to1 ?_
 refine WL.nil ?_
 refine WE.toH (.tail _ (.tail _ (.head _))) ?_
 refine WH.q 6 rfl (.tail _ (.tail _ (.head _))) (fun w0 => oq_move rfl) rfl rfl rfl ?_
 refine WH.q 7 rfl (.tail _ (.tail _ (.head _))) (fun w0 => oq_extract rfl rfl) rfl rfl rfl ?_
 refine WH.q 8 rfl (.tail _ (.tail _ (.head _))) (fun w0 => oq_extract rfl rfl) rfl rfl rfl ?_
 refine WH.q 9 rfl (.tail _ (.tail _ (.head _))) (fun w0 => oq_assign rfl) rfl rfl rfl ?_
 refine WH.q 10 rfl (.tail _ (.tail _ (.head _))) (fun w0 => oq_assign rfl) rfl rfl rfl ?_
 refine WH.done (by kernel_rfl) ?_
 refine WE.then_normal (WC.sub (fr' := [(8, _)]) ?_ ⟨rfl, trivial⟩)
 refine WC.seq (WC.region ?_)
 refine WL.q (oq_move rfl) rfl rfl rfl ?_
 refine WL.q (oq_assign rfl) rfl rfl rfl ?_
 refine WL.nil (WE.then_normal (WC.sub (fr' := [(6, _)]) ?_ ⟨rfl, trivial⟩))
 refine WC.ret ?_
 refine WE.f3 ?_
 refine WE.f2 ?_
 refine WE.f2 ?_
 refine WE.f3 ?_
 refine WE.endW3 (.inl rfl) (res1 Tryz.results59 rfl) ?_
 exact cl_mk (fresh1 hq) hv (fun h y hy => (swpL_mem h y hy).imp (fun h => h) (fun h => by obtain ⟨x, hx, rfl⟩ := h; exact ⟨hb x hx, okq rfl⟩)) (swpL_map _ _ _ _)
theorem clRem0 (base sb b2 b5 b3 : Nat) (nr : Value) (l : List Nd) (id : List UInt8) (hb : ∀ x ∈ l, base ≤ x.b) : FnW Tryz.prog 61 [S id, Pt b2 0] base [env 0 sb b2 b5 b3, stg 0 sb nr l, []] (ClR 0 base sb b2 b5 b3 nr l (remI id (l.map Nd.id))) := by
 refine FnW.enter (n := 13) Tryz.func61 rfl rfl fun w0 R0 hbase => ?_
 subst hbase
 show WC _ _ _ _ _ _ _ ([env 0 sb b2 b5 b3, stg 0 sb nr l, [], R0])
 refine WC.sub (fr' := [(0, _), (1, _)]) ?_ ⟨rfl, rfl, trivial⟩
 refine WC.seq (WC.region ?_)
 refine WL.q (oq_assign rfl) rfl rfl rfl ?_
 refine WL.nil (WE.then_normal (WC.sub (fr' := [(0, _), (1, _)]) ?_ ⟨rfl, rfl, trivial⟩))
 refine WC.seq (WC.region ?_)
 refine WL.q (oq_load flat74 rfl (.head _) (.head _) rfl) rfl rfl rfl ?_
 refine WL.q (oq_move rfl) rfl rfl rfl ?_
 refine WL.f1 ?_
 refine WL.callW1 (remU0 _ sb nr id l hb) call62 rfl rfl rfl fun v1_2 Hs1_2 hR1_2 => ?_
 obtain ⟨m, o, w, rfl, rfl, hv⟩ := opt1 hR1_2
 refine WL.to1 ?_
 refine WL.q (oq_move rfl) rfl rfl rfl ?_
 refine WL.q (oq_extract rfl rfl) rfl rfl rfl ?_
 refine WL.q (oq_extract rfl rfl) rfl rfl rfl ?_
 refine WL.q (oq_assign rfl) rfl rfl rfl ?_
 refine WL.q (oq_assign rfl) rfl rfl rfl ?_
 refine WL.nil (WE.then_normal (WC.sub (fr' := [(5, _)]) ?_ ⟨rfl, trivial⟩))
 refine WC.seq (WC.region ?_)
 refine WL.q (oq_move rfl) rfl rfl rfl ?_
 refine WL.q (oq_assign rfl) rfl rfl rfl ?_
 refine WL.nil (WE.then_normal (WC.sub (fr' := [(3, _)]) ?_ ⟨rfl, trivial⟩))
 refine WC.ret ?_
 refine WE.f3 ?_
 refine WE.f3 ?_
 refine WE.f2 ?_
 refine WE.f3 ?_
 refine WE.endW3 (.inl rfl) (res1 Tryz.results61 rfl) ?_
 exact cl_mk (fun _ _ h => nomatch h) hv (fun h y hy => .inl (remL_mem h y hy)) (remL_map _ _)
theorem clHas0 (base sb b2 b5 b3 : Nat) (nr : Value) (l : List Nd) (id : List UInt8) : FnW Tryz.prog 64 [S id, Pt b2 0] base [env 0 sb b2 b5 b3, stg 0 sb nr l] (fun v Hs => v = .bool (decide (id ∈ l.map Nd.id)) ∧ Hs = [env 0 sb b2 b5 b3, stg 0 sb nr l]) := by
 refine FnW.enter (n := 13) Tryz.func64 rfl rfl fun w0 R0 hbase => ?_
 subst hbase
 show WC _ _ _ _ _ _ _ ([env 0 sb b2 b5 b3, stg 0 sb nr l, R0])
 refine WC.sub (fr' := [(0, _), (1, _)]) ?_ ⟨rfl, rfl, trivial⟩
 refine WC.seq (WC.region ?_)
 refine WL.q (oq_assign rfl) rfl rfl rfl ?_
 refine WL.nil (WE.then_normal (WC.sub (fr' := [(0, _), (1, _)]) ?_ ⟨rfl, rfl, trivial⟩))
 refine WC.seq (WC.region ?_)
 refine WL.q (oq_load flat74 rfl (.head _) (.head _) rfl) rfl rfl rfl ?_
 refine WL.q (oq_move rfl) rfl rfl rfl ?_
 refine WL.f1 ?_
 refine WL.callW1 (getU0 _ sb nr id l) call65 rfl rfl rfl fun v1_2 Hs1_2 hR1_2 => ?_
 obtain ⟨⟨o, rfl⟩, rfl⟩ := hR1_2
 refine WL.to1 ?_
 refine WL.q (oq_move rfl) rfl rfl rfl ?_
 refine WL.q (oq_extract rfl rfl) rfl rfl rfl ?_
 refine WL.q (oq_extract rfl rfl) rfl rfl rfl ?_
 refine WL.q (oq_assign rfl) rfl rfl rfl ?_
 refine WL.q (oq_assign rfl) rfl rfl rfl ?_
 refine WL.nil (WE.then_normal (WC.sub (fr' := [(5, _)]) ?_ ⟨rfl, trivial⟩))
 refine WC.seq (WC.region ?_)
 refine WL.q (oq_move rfl) rfl rfl rfl ?_
 refine WL.q (oq_assign rfl) rfl rfl rfl ?_
 refine WL.nil (WE.then_normal (WC.sub (fr' := [(3, _)]) ?_ ⟨rfl, trivial⟩))
 refine WC.ret ?_
 refine WE.f2 ?_
 refine WE.f1 ?_
 refine WE.f2 ?_
 refine WE.endW2 (.inl rfl) (res1 Tryz.results64 rfl) ?_
 exact ⟨rfl, rfl⟩
theorem mwf1 (b3 q : Nat) (id : List UInt8) : Fn0 Tryz.prog 67 [S id, .func (.func 68) #[] #[Pt b3 0, Pt q 0]] (.iface 235 (.agg #[S id, FVN 1 b3 q])) := by
 refine Fn0.enter (n := 9) Tryz.func67 rfl rfl fun w0 => ?_
 refine WC.sub (fr' := [(0, _), (1, _)]) ?_ ⟨rfl, rfl, trivial⟩
 refine WC.seq (WC.region ?_)
 refine WL.q (oq_assign rfl) rfl rfl rfl ?_
 refine WL.nil (WE.then_normal (WC.sub (fr' := [(0, _), (1, _)]) ?_ ⟨rfl, rfl, trivial⟩))
 refine WC.seq (WC.region ?_)
 refine WL.q (oq_move rfl) rfl rfl rfl ?_
 refine WL.q (oq_move rfl) rfl rfl rfl ?_
 refine WL.q (oq_build #[_, _] str235 ty235 rfl rfl) rfl rfl rfl ?_
 refine WL.q (oq_makeI conc235 rfl) rfl rfl rfl ?_
 refine WL.q (oq_assign rfl) rfl rfl rfl ?_
 refine WL.nil (WE.then_normal (WC.sub (fr' := [(4, _)]) ?_ ⟨rfl, trivial⟩))
 refine WC.ret ?_
 refine WE.end0 (.inl rfl) (res1 Tryz.results67 rfl) ?_
 rfl
theorem of1 (base b3 : Nat) (id : List UInt8) : FnW Tryz.prog 66 [S id, Pt b3 0] base [] (fun v Hs => ∃ q, base ≤ q ∧ v = .iface 235 (.agg #[S id, FVN 1 b3 q]) ∧ Hs = [[(q, .cells #[S id] 9 (0, 0))]]) := by
 refine FnW.enter (n := 7) Tryz.func66 rfl rfl fun w0 R0 hbase => ?_
 subst hbase
 show WC _ _ _ _ _ _ _ ([R0])
 refine WC.sub (fr' := [(0, _), (1, _)]) ?_ ⟨rfl, rfl, trivial⟩
 refine WC.seq (WC.region ?_)
 refine WL.box rfl rfl rfl fun q hq => ?_
 refine WL.q (oq_assign rfl) rfl rfl rfl ?_
 refine WL.nil (WE.then_normal (WC.sub (fr' := [(1, _), (2, _)]) ?_ ⟨rfl, rfl, trivial⟩))
 refine WC.seq (WC.region ?_)
 refine WL.q (oq_load flat9 rfl (.head _) (List.mem_singleton.2 rfl) rfl) rfl rfl rfl ?_
 refine WL.q (oq_makeFn rfl) rfl rfl rfl ?_
 refine WL.qc (oq_call (mwf1 b3 q id) call67 rfl) rfl rfl rfl ?_
 refine WL.q (oq_assign rfl) rfl rfl rfl ?_
 refine WL.nil (WE.then_normal (WC.sub (fr' := [(3, _)]) ?_ ⟨rfl, trivial⟩))
 refine WC.ret ?_
 refine WE.endW1 (.inl rfl) (res1 Tryz.results66 rfl) ?_
 exact ⟨q, hq, rfl, rfl⟩
theorem clAdd1 (base sb b2 b5 b3 : Nat) (nr : Value) (l : List Nd) (id : List UInt8) (aft : Bool) : FnW Tryz.prog 69 [S id, I (if aft then 0 else 1), Pt b2 0, Pt b5 0] base [env 1 sb b2 b5 b3, stg 1 sb nr l] (ClR 1 base sb b2 b5 b3 nr l (some (putI aft id (l.map Nd.id)))) := by
 refine FnW.enter (n := 13) Tryz.func69 rfl rfl fun w0 R0 hbase => ?_
 subst hbase
 show WC _ _ _ _ _ _ _ ([env 1 sb b2 b5 b3, stg 1 sb nr l, R0])
 refine WC.sub (fr' := [(0, _), (1, _), (2, _), (3, _)]) ?_ ⟨rfl, rfl, rfl, rfl, trivial⟩
 refine WC.seq (WC.region ?_)
 refine WL.q (oq_assign rfl) rfl rfl rfl ?_
 refine WL.nil (WE.then_normal (WC.sub (fr' := [(0, _), (1, _), (2, _), (3, _)]) ?_ ⟨rfl, rfl, rfl, rfl, trivial⟩))
 refine WC.seq ?_
 refine WC.held (env 1 sb b2 b5 b3) (by kernel_rfl) ?_
 refine WH.q 0 rfl (.head _) (fun w0 => oq_load flat75 rfl (.head _) (.head _) rfl) rfl rfl rfl ?_
 refine WH.q 1 rfl (.head _) (fun w0 => oq_load flat131 rfl (.head _) (.tail _ (.head _)) rfl) rfl rfl rfl ?_
 refine WH.q 2 rfl (.head _) (fun w0 => oq_move rfl) rfl rfl rfl ?_
 refine WH.q 4 rfl (.head _) (fun w0 => oq_move rfl) rfl rfl rfl ?_
 refine WH.step (i := 3) (by kernel_rfl) rfl ?_
 refine WL.callWE (args := [S id, Pt b3 0]) (fun a w hf => run_enterv (first := []) (vs := [S id]) (cap := [Pt b3 0]) call66 rfl rfl hf w) (of1 _ b3 id) rfl rfl rfl rfl fun v1_3 Hs1_3 hR1_3 => ?_
 obtain ⟨q, hq, rfl, rfl⟩ := hR1_3
 refine WL.app1 ?_
 refine WL.nil ?_
 refine WE.toH (.tail _ (.head _)) ?_
 refine WH.step (i := 5) (by kernel_rfl) rfl ?_
 refine WL.f2 ?_
 refine WL.callW1 (addU1 _ sb nr id (FVN 1 b3 q) aft l) call70 rfl rfl rfl fun v1_5 Hs1_5 hR1_5 => ?_
 obtain ⟨e, he, hO⟩ := hR1_5
 obtain ⟨m, rfl, hv⟩ := opr1 hO
 refine WL.to1 ?_
 refine WL.nil ?_
 refine WE.toH (.tail _ (.tail _ (.head _))) ?_
 refine WH.q 6 rfl (.tail _ (.tail _ (.head _))) (fun w0 => oq_assign rfl) rfl rfl rfl ?_
 refine WH.done (by kernel_rfl) ?_
 refine WE.then_normal (WC.sub (fr' := [(6, _)]) ?_ ⟨rfl, trivial⟩)
 refine WC.ret ?_
 refine WE.f3 ?_
 refine WE.f2 ?_
 refine WE.f2 ?_
 refine WE.f3 ?_
 refine WE.endW3 (.inl rfl) (res1 Tryz.results69 rfl) ?_
 exact cl_mk (fresh1 hq) hv (fun h y hy => by injection h with h; subst h; exact (putE_mem hy).imp (fun h => h) (fun h => by subst h; exact ⟨he, okq rfl⟩)) (by show some _ = _; rw [putE_map])
theorem clIns1 (base sb b2 b5 b3 : Nat) (nr : Value) (l : List Nd) (id by_ : List UInt8) (aft : Bool) : FnW Tryz.prog 71 [S id, S by_, I (if aft then 0 else 1), Pt b2 0, Pt b5 0] base [env 1 sb b2 b5 b3, stg 1 sb nr l] (ClR 1 base sb b2 b5 b3 nr l (insI by_ aft id (l.map Nd.id))) := by
 refine FnW.enter (n := 16) Tryz.func71 rfl rfl fun w0 R0 hbase => ?_
 subst hbase
 show WC _ _ _ _ _ _ _ ([env 1 sb b2 b5 b3, stg 1 sb nr l, R0])
 refine WC.sub (fr' := [(0, _), (1, _), (2, _), (3, _), (4, _)]) ?_ ⟨rfl, rfl, rfl, rfl, rfl, trivial⟩
 refine WC.seq (WC.region ?_)
 refine WL.q (oq_assign rfl) rfl rfl rfl ?_
 refine WL.nil (WE.then_normal (WC.sub (fr' := [(0, _), (1, _), (2, _), (3, _), (4, _)]) ?_ ⟨rfl, rfl, rfl, rfl, rfl, trivial⟩))
 refine WC.seq ?_
 refine WC.held (env 1 sb b2 b5 b3) (by kernel_rfl) ?_
 refine WH.q 0 rfl (.head _) (fun w0 => oq_load flat75 rfl (.head _) (.head _) rfl) rfl rfl rfl ?_
 refine WH.q 1 rfl (.head _) (fun w0 => oq_load flat131 rfl (.head _) (.tail _ (.head _)) rfl) rfl rfl rfl ?_
 refine WH.q 2 rfl (.head _) (fun w0 => oq_move rfl) rfl rfl rfl ?_
 refine WH.q 4 rfl (.head _) (fun w0 => oq_move rfl) rfl rfl rfl ?_
 refine WH.q 5 rfl (.head _) (fun w0 => oq_move rfl) rfl rfl rfl ?_
 refine WH.step (i := 3) (by kernel_rfl) rfl ?_
 refine WL.callWE (args := [S id, Pt b3 0]) (fun a w hf => run_enterv (first := []) (vs := [S id]) (cap := [Pt b3 0]) call66 rfl rfl hf w) (of1 _ b3 id) rfl rfl rfl rfl fun v1_3 Hs1_3 hR1_3 => ?_
 obtain ⟨q, hq, rfl, rfl⟩ := hR1_3
 refine WL.app1 ?_
 refine WL.nil ?_
 refine WE.toH (.tail _ (.head _)) ?_
 refine WH.step (i := 6) (by kernel_rfl) rfl ?_
 refine WL.f2 ?_
 refine WL.callW1 (insU1 _ sb nr id (FVN 1 b3 q) by_ aft l) call72 rfl rfl rfl fun v1_6 Hs1_6 hR1_6 => ?_
 obtain ⟨e, he, hO⟩ := hR1_6
 obtain ⟨m, rfl, hv⟩ := opr1 hO
 refine WL.to1 ?_
 refine WL.nil ?_
 refine WE.toH (.tail _ (.tail _ (.head _))) ?_
 refine WH.q 7 rfl (.tail _ (.tail _ (.head _))) (fun w0 => oq_assign rfl) rfl rfl rfl ?_
 refine WH.done (by kernel_rfl) ?_
 refine WE.then_normal (WC.sub (fr' := [(8, _)]) ?_ ⟨rfl, trivial⟩)
 refine WC.ret ?_
 refine WE.f3 ?_
 refine WE.f2 ?_
 refine WE.f2 ?_
 refine WE.f3 ?_
 refine WE.endW3 (.inl rfl) (res1 Tryz.results71 rfl) ?_
 exact cl_mk (fresh1 hq) hv (fun h y hy => (insL_mem h y hy).imp (fun h => h) (fun h => by subst h; exact ⟨he, okq rfl⟩)) (insL_map _ _ _ _)
theorem clSwp1 (base sb b2 b5 b3 : Nat) (nr : Value) (l : List Nd) (id by_ : List UInt8) (hb : ∀ x ∈ l, base ≤ x.b) : FnW Tryz.prog 73 [S by_, S id, Pt b2 0, Pt b5 0] base [env 1 sb b2 b5 b3, stg 1 sb nr l] (ClR 1 base sb b2 b5 b3 nr l (swpI by_ id (l.map Nd.id))) := by
 refine FnW.enter (n := 19) Tryz.func73 rfl rfl fun w0 R0 hbase => ?_
 subst hbase
 show WC _ _ _ _ _ _ _ ([env 1 sb b2 b5 b3, stg 1 sb nr l, R0])
 refine WC.sub (fr' := [(0, _), (1, _), (2, _), (3, _)]) ?_ ⟨rfl, rfl, rfl, rfl, trivial⟩
 refine WC.seq (WC.region ?_)
 refine WL.q (oq_assign rfl) rfl rfl rfl ?_
 refine WL.nil (WE.then_normal (WC.sub (fr' := [(0, _), (1, _), (2, _), (3, _)]) ?_ ⟨rfl, rfl, rfl, rfl, trivial⟩))
 refine WC.seq ?_
 refine WC.held (env 1 sb b2 b5 b3) (by kernel_rfl) ?_
 refine WH.q 0 rfl (.head _) (fun w0 => oq_load flat75 rfl (.head _) (.head _) rfl) rfl rfl rfl ?_
 refine WH.q 1 rfl (.head _) (fun w0 => oq_move rfl) rfl rfl rfl ?_
 refine WH.q 2 rfl (.head _) (fun w0 => oq_load flat131 rfl (.head _) (.tail _ (.head _)) rfl) rfl rfl rfl ?_
 refine WH.q 3 rfl (.head _) (fun w0 => oq_move rfl) rfl rfl rfl ?_
 refine WH.step (i := 4) (by kernel_rfl) rfl ?_
 refine WL.callWE (args := [S id, Pt b3 0]) (fun a w hf => run_enterv (first := []) (vs := [S id]) (cap := [Pt b3 0]) call66 rfl rfl hf w) (of1 _ b3 id) rfl rfl rfl rfl fun v1_4 Hs1_4 hR1_4 => ?_
 obtain ⟨q, hq, rfl, rfl⟩ := hR1_4
 refine WL.app1 ?_
 refine WL.nil ?_
 refine WE.toH (.tail _ (.head _)) ?_
 refine WH.step (i := 5) (by kernel_rfl) rfl ?_
 refine WL.f2 ?_
 refine WL.callW1 (swpU1 _ sb nr id (FVN 1 b3 q) by_ l) call74 rfl rfl rfl fun v1_5 Hs1_5 hR1_5 => ?_
 obtain ⟨m, o, w, rfl, rfl, hv⟩ := opt1 hR1_5
 refine WL.to1 ?_
 refine WL.nil ?_
 refine WE.toH (.tail _ (.tail _ (.head _))) ?_
 refine WH.q 6 rfl (.tail _ (.tail _ (.head _))) (fun w0 => oq_move rfl) rfl rfl rfl ?_
 refine WH.q 7 rfl (.tail _ (.tail _ (.head _))) (fun w0 => oq_extract rfl rfl) rfl rfl rfl ?_
 refine WH.q 8 rfl (.tail _ (.tail _ (.head _))) (fun w0 => oq_extract rfl rfl) rfl rfl rfl ?_
 refine WH.q 9 rfl (.tail _ (.tail _ (.head _))) (fun w0 => oq_assign rfl) rfl rfl rfl ?_
 refine WH.q 10 rfl (.tail _ (.tail _ (.head _))) (fun w0 => oq_assign rfl) rfl rfl rfl ?_
 refine WH.done (by kernel_rfl) ?_
 refine WE.then_normal (WC.sub (fr' := [(8, _)]) ?_ ⟨rfl, trivial⟩)
 refine WC.seq (WC.region ?_)
 refine WL.q (oq_move rfl) rfl rfl rfl ?_
 refine WL.q (oq_assign rfl) rfl rfl rfl ?_
 refine WL.nil (WE.then_normal (WC.sub (fr' := [(6, _)]) ?_ ⟨rfl, trivial⟩))
 refine WC.ret ?_
 refine WE.f3 ?_
 refine WE.f2 ?_
 refine WE.f2 ?_
 refine WE.f3 ?_
 refine WE.endW3 (.inl rfl) (res1 Tryz.results73 rfl) ?_
 exact cl_mk (fresh1 hq) hv (fun h y hy => (swpL_mem h y hy).imp (fun h => h) (fun h => by obtain ⟨x, hx, rfl⟩ := h; exact ⟨hb x hx, okq rfl⟩)) (swpL_map _ _ _ _)
theorem clRem1 (base sb b2 b5 b3 : Nat) (nr : Value) (l : List Nd) (id : List UInt8) (hb : ∀ x ∈ l, base ≤ x.b) : FnW Tryz.prog 75 [S id, Pt b2 0] base [env 1 sb b2 b5 b3, stg 1 sb nr l, []] (ClR 1 base sb b2 b5 b3 nr l (remI id (l.map Nd.id))) := by
 refine FnW.enter (n := 13) Tryz.func75 rfl rfl fun w0 R0 hbase => ?_
 subst hbase
 show WC _ _ _ _ _ _ _ ([env 1 sb b2 b5 b3, stg 1 sb nr l, [], R0])
 refine WC.sub (fr' := [(0, _), (1, _)]) ?_ ⟨rfl, rfl, trivial⟩
 refine WC.seq (WC.region ?_)
 refine WL.q (oq_assign rfl) rfl rfl rfl ?_
 refine WL.nil (WE.then_normal (WC.sub (fr' := [(0, _), (1, _)]) ?_ ⟨rfl, rfl, trivial⟩))
 refine WC.seq (WC.region ?_)
 refine WL.q (oq_load flat75 rfl (.head _) (.head _) rfl) rfl rfl rfl ?_
 refine WL.q (oq_move rfl) rfl rfl rfl ?_
 refine WL.f1 ?_
 refine WL.callW1 (remU1 _ sb nr id l hb) call76 rfl rfl rfl fun v1_2 Hs1_2 hR1_2 => ?_
 obtain ⟨m, o, w, rfl, rfl, hv⟩ := opt1 hR1_2
 refine WL.to1 ?_
 refine WL.q (oq_move rfl) rfl rfl rfl ?_
 refine WL.q (oq_extract rfl rfl) rfl rfl rfl ?_
 refine WL.q (oq_extract rfl rfl) rfl rfl rfl ?_
 refine WL.q (oq_assign rfl) rfl rfl rfl ?_
 refine WL.q (oq_assign rfl) rfl rfl rfl ?_
 refine WL.nil (WE.then_normal (WC.sub (fr' := [(5, _)]) ?_ ⟨rfl, trivial⟩))
 refine WC.seq (WC.region ?_)
 refine WL.q (oq_move rfl) rfl rfl rfl ?_
 refine WL.q (oq_assign rfl) rfl rfl rfl ?_
 refine WL.nil (WE.then_normal (WC.sub (fr' := [(3, _)]) ?_ ⟨rfl, trivial⟩))
 refine WC.ret ?_
 refine WE.f3 ?_
 refine WE.f3 ?_
 refine WE.f2 ?_
 refine WE.f3 ?_
 refine WE.endW3 (.inl rfl) (res1 Tryz.results75 rfl) ?_
 exact cl_mk (fun _ _ h => nomatch h) hv (fun h y hy => .inl (remL_mem h y hy)) (remL_map _ _)
theorem clHas1 (base sb b2 b5 b3 : Nat) (nr : Value) (l : List Nd) (id : List UInt8) : FnW Tryz.prog 78 [S id, Pt b2 0] base [env 1 sb b2 b5 b3, stg 1 sb nr l] (fun v Hs => v = .bool (decide (id ∈ l.map Nd.id)) ∧ Hs = [env 1 sb b2 b5 b3, stg 1 sb nr l]) := by
 refine FnW.enter (n := 13) Tryz.func78 rfl rfl fun w0 R0 hbase => ?_
 subst hbase
 show WC _ _ _ _ _ _ _ ([env 1 sb b2 b5 b3, stg 1 sb nr l, R0])
 refine WC.sub (fr' := [(0, _), (1, _)]) ?_ ⟨rfl, rfl, trivial⟩
 refine WC.seq (WC.region ?_)
 refine WL.q (oq_assign rfl) rfl rfl rfl ?_
 refine WL.nil (WE.then_normal (WC.sub (fr' := [(0, _), (1, _)]) ?_ ⟨rfl, rfl, trivial⟩))
 refine WC.seq (WC.region ?_)
 refine WL.q (oq_load flat75 rfl (.head _) (.head _) rfl) rfl rfl rfl ?_
 refine WL.q (oq_move rfl) rfl rfl rfl ?_
 refine WL.f1 ?_
 refine WL.callW1 (getU1 _ sb nr id l) call79 rfl rfl rfl fun v1_2 Hs1_2 hR1_2 => ?_
 obtain ⟨⟨o, rfl⟩, rfl⟩ := hR1_2
 refine WL.to1 ?_
 refine WL.q (oq_move rfl) rfl rfl rfl ?_
 refine WL.q (oq_extract rfl rfl) rfl rfl rfl ?_
 refine WL.q (oq_extract rfl rfl) rfl rfl rfl ?_
 refine WL.q (oq_assign rfl) rfl rfl rfl ?_
 refine WL.q (oq_assign rfl) rfl rfl rfl ?_
 refine WL.nil (WE.then_normal (WC.sub (fr' := [(5, _)]) ?_ ⟨rfl, trivial⟩))
 refine WC.seq (WC.region ?_)
 refine WL.q (oq_move rfl) rfl rfl rfl ?_
 refine WL.q (oq_assign rfl) rfl rfl rfl ?_
 refine WL.nil (WE.then_normal (WC.sub (fr' := [(3, _)]) ?_ ⟨rfl, trivial⟩))
 refine WC.ret ?_
 refine WE.f2 ?_
 refine WE.f1 ?_
 refine WE.f2 ?_
 refine WE.endW2 (.inl rfl) (res1 Tryz.results78 rfl) ?_
 exact ⟨rfl, rfl⟩
theorem mwf2 (b3 q : Nat) (id : List UInt8) : Fn0 Tryz.prog 81 [S id, .func (.func 82) #[] #[Pt b3 0, Pt q 0]] (.iface 239 (.agg #[S id, FVN 2 b3 q])) := by
 refine Fn0.enter (n := 9) Tryz.func81 rfl rfl fun w0 => ?_
 refine WC.sub (fr' := [(0, _), (1, _)]) ?_ ⟨rfl, rfl, trivial⟩
 refine WC.seq (WC.region ?_)
 refine WL.q (oq_assign rfl) rfl rfl rfl ?_
 refine WL.nil (WE.then_normal (WC.sub (fr' := [(0, _), (1, _)]) ?_ ⟨rfl, rfl, trivial⟩))
 refine WC.seq (WC.region ?_)
 refine WL.q (oq_move rfl) rfl rfl rfl ?_
 refine WL.q (oq_move rfl) rfl rfl rfl ?_
 refine WL.q (oq_build #[_, _] str239 ty239 rfl rfl) rfl rfl rfl ?_
 refine WL.q (oq_makeI conc239 rfl) rfl rfl rfl ?_
 refine WL.q (oq_assign rfl) rfl rfl rfl ?_
 refine WL.nil (WE.then_normal (WC.sub (fr' := [(4, _)]) ?_ ⟨rfl, trivial⟩))
 refine WC.ret ?_
 refine WE.end0 (.inl rfl) (res1 Tryz.results81 rfl) ?_
 rfl
theorem of2 (base b3 : Nat) (id : List UInt8) : FnW Tryz.prog 80 [S id, Pt b3 0] base [] (fun v Hs => ∃ q, base ≤ q ∧ v = .iface 239 (.agg #[S id, FVN 2 b3 q]) ∧ Hs = [[(q, .cells #[S id] 9 (0, 0))]]) := by
 refine FnW.enter (n := 7) Tryz.func80 rfl rfl fun w0 R0 hbase => ?_
 subst hbase
 show WC _ _ _ _ _ _ _ ([R0])
 refine WC.sub (fr' := [(0, _), (1, _)]) ?_ ⟨rfl, rfl, trivial⟩
 refine WC.seq (WC.region ?_)
 refine WL.box rfl rfl rfl fun q hq => ?_
 refine WL.q (oq_assign rfl) rfl rfl rfl ?_
 refine WL.nil (WE.then_normal (WC.sub (fr' := [(1, _), (2, _)]) ?_ ⟨rfl, rfl, trivial⟩))
 refine WC.seq (WC.region ?_)
 refine WL.q (oq_load flat9 rfl (.head _) (List.mem_singleton.2 rfl) rfl) rfl rfl rfl ?_
 refine WL.q (oq_makeFn rfl) rfl rfl rfl ?_
 refine WL.qc (oq_call (mwf2 b3 q id) call81 rfl) rfl rfl rfl ?_
 refine WL.q (oq_assign rfl) rfl rfl rfl ?_
 refine WL.nil (WE.then_normal (WC.sub (fr' := [(3, _)]) ?_ ⟨rfl, trivial⟩))
 refine WC.ret ?_
 refine WE.endW1 (.inl rfl) (res1 Tryz.results80 rfl) ?_
 exact ⟨q, hq, rfl, rfl⟩
theorem clAdd2 (base sb b2 b5 b3 : Nat) (nr : Value) (l : List Nd) (id : List UInt8) (aft : Bool) : FnW Tryz.prog 83 [S id, I (if aft then 0 else 1), Pt b2 0, Pt b5 0] base [env 2 sb b2 b5 b3, stg 2 sb nr l] (ClR 2 base sb b2 b5 b3 nr l (some (putI aft id (l.map Nd.id)))) := by
 refine FnW.enter (n := 13) Tryz.func83 rfl rfl fun w0 R0 hbase => ?_
 subst hbase
 show WC _ _ _ _ _ _ _ ([env 2 sb b2 b5 b3, stg 2 sb nr l, R0])
 refine WC.sub (fr' := [(0, _), (1, _), (2, _), (3, _)]) ?_ ⟨rfl, rfl, rfl, rfl, trivial⟩
 refine WC.seq (WC.region ?_)
 refine WL.q (oq_assign rfl) rfl rfl rfl ?_
 refine WL.nil (WE.then_normal (WC.sub (fr' := [(0, _), (1, _), (2, _), (3, _)]) ?_ ⟨rfl, rfl, rfl, rfl, trivial⟩))
 refine WC.seq ?_
 refine WC.held (env 2 sb b2 b5 b3) (by kernel_rfl) ?_
 refine WH.q 0 rfl (.head _) (fun w0 => oq_load flat76 rfl (.head _) (.head _) rfl) rfl rfl rfl ?_
 refine WH.q 1 rfl (.head _) (fun w0 => oq_load flat150 rfl (.head _) (.tail _ (.head _)) rfl) rfl rfl rfl ?_
 refine WH.q 2 rfl (.head _) (fun w0 => oq_move rfl) rfl rfl rfl ?_
 refine WH.q 4 rfl (.head _) (fun w0 => oq_move rfl) rfl rfl rfl ?_
 refine WH.step (i := 3) (by kernel_rfl) rfl ?_
 refine WL.callWE (args := [S id, Pt b3 0]) (fun a w hf => run_enterv (first := []) (vs := [S id]) (cap := [Pt b3 0]) call80 rfl rfl hf w) (of2 _ b3 id) rfl rfl rfl rfl fun v1_3 Hs1_3 hR1_3 => ?_
 obtain ⟨q, hq, rfl, rfl⟩ := hR1_3
 refine WL.app1 ?_
 refine WL.nil ?_
 refine WE.toH (.tail _ (.head _)) ?_
 refine WH.step (i := 5) (by kernel_rfl) rfl ?_
 refine WL.f2 ?_
 refine WL.callW1 (addU2 _ sb nr id (FVN 2 b3 q) aft l) call84 rfl rfl rfl fun v1_5 Hs1_5 hR1_5 => ?_
 obtain ⟨e, he, hO⟩ := hR1_5
 obtain ⟨m, rfl, hv⟩ := opr1 hO
 refine WL.to1 ?_
 refine WL.nil ?_
 refine WE.toH (.tail _ (.tail _ (.head _))) ?_
 refine WH.q 6 rfl (.tail _ (.tail _ (.head _))) (fun w0 => oq_assign rfl) rfl rfl rfl ?_
 refine WH.done (by kernel_rfl) ?_
 refine WE.then_normal (WC.sub (fr' := [(6, _)]) ?_ ⟨rfl, trivial⟩)
 refine WC.ret ?_
 refine WE.f3 ?_
 refine WE.f2 ?_
 refine WE.f2 ?_
 refine WE.f3 ?_
 refine WE.endW3 (.inl rfl) (res1 Tryz.results83 rfl) ?_
 exact cl_mk (fresh1 hq) hv (fun h y hy => by injection h with h; subst h; exact (putE_mem hy).imp (fun h => h) (fun h => by subst h; exact ⟨he, okq rfl⟩)) (by show some _ = _; rw [putE_map])
theorem clIns2 (base sb b2 b5 b3 : Nat) (nr : Value) (l : List Nd) (id by_ : List UInt8) (aft : Bool) : FnW Tryz.prog 85 [S id, S by_, I (if aft then 0 else 1), Pt b2 0, Pt b5 0] base [env 2 sb b2 b5 b3, stg 2 sb nr l] (ClR 2 base sb b2 b5 b3 nr l (insI by_ aft id (l.map Nd.id))) := by
 refine FnW.enter (n := 16) Tryz.func85 rfl rfl fun w0 R0 hbase => ?_
 subst hbase
 show WC _ _ _ _ _ _ _ ([env 2 sb b2 b5 b3, stg 2 sb nr l, R0])
 refine WC.sub (fr' := [(0, _), (1, _), (2, _), (3, _), (4, _)]) ?_ ⟨rfl, rfl, rfl, rfl, rfl, trivial⟩
 refine WC.seq (WC.region ?_)
 refine WL.q (oq_assign rfl) rfl rfl rfl ?_
 refine WL.nil (WE.then_normal (WC.sub (fr' := [(0, _), (1, _), (2, _), (3, _), (4, _)]) ?_ ⟨rfl, rfl, rfl, rfl, rfl, trivial⟩))
 refine WC.seq ?_
 refine WC.held (env 2 sb b2 b5 b3) (by kernel_rfl) ?_
 refine WH.q 0 rfl (.head _) (fun w0 => oq_load flat76 rfl (.head _) (.head _) rfl) rfl rfl rfl ?_
 refine WH.q 1 rfl (.head _) (fun w0 => oq_load flat150 rfl (.head _) (.tail _ (.head _)) rfl) rfl rfl rfl ?_
 refine WH.q 2 rfl (.head _) (fun w0 => oq_move rfl) rfl rfl rfl ?_
 refine WH.q 4 rfl (.head _) (fun w0 => oq_move rfl) rfl rfl rfl ?_
 refine WH.q 5 rfl (.head _) (fun w0 => oq_move rfl) rfl rfl rfl ?_
 refine WH.step (i := 3) (by kernel_rfl) rfl ?_
 refine WL.callWE (args := [S id, Pt b3 0]) (fun a w hf => run_enterv (first := []) (vs := [S id]) (cap := [Pt b3 0]) call80 rfl rfl hf w) (of2 _ b3 id) rfl rfl rfl rfl fun v1_3 Hs1_3 hR1_3 => ?_
 obtain ⟨q, hq, rfl, rfl⟩ := hR1_3
 refine WL.app1 ?_
 refine WL.nil ?_
 refine WE.toH (.tail _ (.head _)) ?_
 refine WH.step (i := 6) (by kernel_rfl) rfl ?_
 refine WL.f2 ?_
 refine WL.callW1 (insU2 _ sb nr id (FVN 2 b3 q) by_ aft l) call86 rfl rfl rfl fun v1_6 Hs1_6 hR1_6 => ?_
 obtain ⟨e, he, hO⟩ := hR1_6
 obtain ⟨m, rfl, hv⟩ := opr1 hO
 refine WL.to1 ?_
 refine WL.nil ?_
 refine WE.toH (.tail _ (.tail _ (.head _))) ?_
 refine WH.q 7 rfl (.tail _ (.tail _ (.head _))) (fun w0 => oq_assign rfl) rfl rfl rfl ?_
 refine WH.done (by kernel_rfl) ?_
 refine WE.then_normal (WC.sub (fr' := [(8, _)]) ?_ ⟨rfl, trivial⟩)
 refine WC.ret ?_
 refine WE.f3 ?_
 refine WE.f2 ?_
 refine WE.f2 ?_
 refine WE.f3 ?_
 refine WE.endW3 (.inl rfl) (res1 Tryz.results85 rfl) ?_
 exact cl_mk (fresh1 hq) hv (fun h y hy => (insL_mem h y hy).imp (fun h => h) (fun h => by subst h; exact ⟨he, okq rfl⟩)) (insL_map _ _ _ _)
theorem clSwp2 (base sb b2 b5 b3 : Nat) (nr : Value) (l : List Nd) (id by_ : List UInt8) (hb : ∀ x ∈ l, base ≤ x.b) : FnW Tryz.prog 87 [S by_, S id, Pt b2 0, Pt b5 0] base [env 2 sb b2 b5 b3, stg 2 sb nr l] (ClR 2 base sb b2 b5 b3 nr l (swpI by_ id (l.map Nd.id))) := by
 refine FnW.enter (n := 19) Tryz.func87 rfl rfl fun w0 R0 hbase => ?_
 subst hbase
 show WC _ _ _ _ _ _ _ ([env 2 sb b2 b5 b3, stg 2 sb nr l, R0])
 refine WC.sub (fr' := [(0, _), (1, _), (2, _), (3, _)]) ?_ ⟨rfl, rfl, rfl, rfl, trivial⟩
 refine WC.seq (WC.region ?_)
 refine WL.q (oq_assign rfl) rfl rfl rfl ?_
 refine WL.nil (WE.then_normal (WC.sub (fr' := [(0, _), (1, _), (2, _), (3, _)]) ?_ ⟨rfl, rfl, rfl, rfl, trivial⟩))
 refine WC.seq ?_
 refine WC.held (env 2 sb b2 b5 b3) (by kernel_rfl) ?_
 refine WH.q 0 rfl (.head _) (fun w0 => oq_load flat76 rfl (.head _) (.head _) rfl) rfl rfl rfl ?_
 refine WH.q 1 rfl (.head _) (fun w0 => oq_move rfl) rfl rfl rfl ?_
 refine WH.q 2 rfl (.head _) (fun w0 => oq_load flat150 rfl (.head _) (.tail _ (.head _)) rfl) rfl rfl rfl ?_
 refine WH.q 3 rfl (.head _) (fun w0 => oq_move rfl) rfl rfl rfl ?_
 refine WH.step (i := 4) (by kernel_rfl) rfl ?_
 refine WL.callWE (args := [S id, Pt b3 0]) (fun a w hf => run_enterv (first := []) (vs := [S id]) (cap := [Pt b3 0]) call80 rfl rfl hf w) (of2 _ b3 id) rfl rfl rfl rfl fun v1_4 Hs1_4 hR1_4 => ?_
 obtain ⟨q, hq, rfl, rfl⟩ := hR1_4
 refine WL.app1 ?_
 refine WL.nil ?_
 refine WE.toH (.tail _ (.head _)) ?_
 refine WH.step (i := 5) (by kernel_rfl) rfl ?_
 refine WL.f2 ?_
 refine WL.callW1 (swpU2 _ sb nr id (FVN 2 b3 q) by_ l) call88 rfl rfl rfl fun v1_5 Hs1_5 hR1_5 => ?_
 obtain ⟨m, o, w, rfl, rfl, hv⟩ := opt1 hR1_5
 refine WL.to1 ?_
 refine WL.nil ?_
 refine WE.toH (.tail _ (.tail _ (.head _))) ?_
 refine WH.q 6 rfl (.tail _ (.tail _ (.head _))) (fun w0 => oq_move rfl) rfl rfl rfl ?_
 refine WH.q 7 rfl (.tail _ (.tail _ (.head _))) (fun w0 => oq_extract rfl rfl) rfl rfl rfl ?_
 refine WH.q 8 rfl (.tail _ (.tail _ (.head _))) (fun w0 => oq_extract rfl rfl) rfl rfl rfl ?_
 refine WH.q 9 rfl (.tail _ (.tail _ (.head _))) (fun w0 => oq_assign rfl) rfl rfl rfl ?_
 refine WH.q 10 rfl (.tail _ (.tail _ (.head _))) (fun w0 => oq_assign rfl) rfl rfl rfl ?_
 refine WH.done (by kernel_rfl) ?_
 refine WE.then_normal (WC.sub (fr' := [(8, _)]) ?_ ⟨rfl, trivial⟩)
 refine WC.seq (WC.region ?_)
 refine WL.q (oq_move rfl) rfl rfl rfl ?_
 refine WL.q (oq_assign rfl) rfl rfl rfl ?_
 refine WL.nil (WE.then_normal (WC.sub (fr' := [(6, _)]) ?_ ⟨rfl, trivial⟩))
 refine WC.ret ?_
 refine WE.f3 ?_
 refine WE.f2 ?_
 refine WE.f2 ?_
 refine WE.f3 ?_
 refine WE.endW3 (.inl rfl) (res1 Tryz.results87 rfl) ?_
 exact cl_mk (fresh1 hq) hv (fun h y hy => (swpL_mem h y hy).imp (fun h => h) (fun h => by obtain ⟨x, hx, rfl⟩ := h; exact ⟨hb x hx, okq rfl⟩)) (swpL_map _ _ _ _)
theorem clRem2 (base sb b2 b5 b3 : Nat) (nr : Value) (l : List Nd) (id : List UInt8) (hb : ∀ x ∈ l, base ≤ x.b) : FnW Tryz.prog 89 [S id, Pt b2 0] base [env 2 sb b2 b5 b3, stg 2 sb nr l, []] (ClR 2 base sb b2 b5 b3 nr l (remI id (l.map Nd.id))) := by
 refine FnW.enter (n := 13) Tryz.func89 rfl rfl fun w0 R0 hbase => ?_
 subst hbase
 show WC _ _ _ _ _ _ _ ([env 2 sb b2 b5 b3, stg 2 sb nr l, [], R0])
 refine WC.sub (fr' := [(0, _), (1, _)]) ?_ ⟨rfl, rfl, trivial⟩
 refine WC.seq (WC.region ?_)
 refine WL.q (oq_assign rfl) rfl rfl rfl ?_
 refine WL.nil (WE.then_normal (WC.sub (fr' := [(0, _), (1, _)]) ?_ ⟨rfl, rfl, trivial⟩))
 refine WC.seq (WC.region ?_)
 refine WL.q (oq_load flat76 rfl (.head _) (.head _) rfl) rfl rfl rfl ?_
 refine WL.q (oq_move rfl) rfl rfl rfl ?_
 refine WL.f1 ?_
 refine WL.callW1 (remU2 _ sb nr id l hb) call90 rfl rfl rfl fun v1_2 Hs1_2 hR1_2 => ?_
 obtain ⟨m, o, w, rfl, rfl, hv⟩ := opt1 hR1_2
 refine WL.to1 ?_
 refine WL.q (oq_move rfl) rfl rfl rfl ?_
 refine WL.q (oq_extract rfl rfl) rfl rfl rfl ?_
 refine WL.q (oq_extract rfl rfl) rfl rfl rfl ?_
 refine WL.q (oq_assign rfl) rfl rfl rfl ?_
 refine WL.q (oq_assign rfl) rfl rfl rfl ?_
 refine WL.nil (WE.then_normal (WC.sub (fr' := [(5, _)]) ?_ ⟨rfl, trivial⟩))
 refine WC.seq (WC.region ?_)
 refine WL.q (oq_move rfl) rfl rfl rfl ?_
 refine WL.q (oq_assign rfl) rfl rfl rfl ?_
 refine WL.nil (WE.then_normal (WC.sub (fr' := [(3, _)]) ?_ ⟨rfl, trivial⟩))
 refine WC.ret ?_
 refine WE.f3 ?_
 refine WE.f3 ?_
 refine WE.f2 ?_
 refine WE.f3 ?_
 refine WE.endW3 (.inl rfl) (res1 Tryz.results89 rfl) ?_
 exact cl_mk (fun _ _ h => nomatch h) hv (fun h y hy => .inl (remL_mem h y hy)) (remL_map _ _)
theorem clHas2 (base sb b2 b5 b3 : Nat) (nr : Value) (l : List Nd) (id : List UInt8) : FnW Tryz.prog 92 [S id, Pt b2 0] base [env 2 sb b2 b5 b3, stg 2 sb nr l] (fun v Hs => v = .bool (decide (id ∈ l.map Nd.id)) ∧ Hs = [env 2 sb b2 b5 b3, stg 2 sb nr l]) := by
 refine FnW.enter (n := 13) Tryz.func92 rfl rfl fun w0 R0 hbase => ?_
 subst hbase
 show WC _ _ _ _ _ _ _ ([env 2 sb b2 b5 b3, stg 2 sb nr l, R0])
 refine WC.sub (fr' := [(0, _), (1, _)]) ?_ ⟨rfl, rfl, trivial⟩
 refine WC.seq (WC.region ?_)
 refine WL.q (oq_assign rfl) rfl rfl rfl ?_
 refine WL.nil (WE.then_normal (WC.sub (fr' := [(0, _), (1, _)]) ?_ ⟨rfl, rfl, trivial⟩))
 refine WC.seq (WC.region ?_)
 refine WL.q (oq_load flat76 rfl (.head _) (.head _) rfl) rfl rfl rfl ?_
 refine WL.q (oq_move rfl) rfl rfl rfl ?_
 refine WL.f1 ?_
 refine WL.callW1 (getU2 _ sb nr id l) call93 rfl rfl rfl fun v1_2 Hs1_2 hR1_2 => ?_
 obtain ⟨⟨o, rfl⟩, rfl⟩ := hR1_2
 refine WL.to1 ?_
 refine WL.q (oq_move rfl) rfl rfl rfl ?_
 refine WL.q (oq_extract rfl rfl) rfl rfl rfl ?_
 refine WL.q (oq_extract rfl rfl) rfl rfl rfl ?_
 refine WL.q (oq_assign rfl) rfl rfl rfl ?_
 refine WL.q (oq_assign rfl) rfl rfl rfl ?_
 refine WL.nil (WE.then_normal (WC.sub (fr' := [(5, _)]) ?_ ⟨rfl, trivial⟩))
 refine WC.seq (WC.region ?_)
 refine WL.q (oq_move rfl) rfl rfl rfl ?_
 refine WL.q (oq_assign rfl) rfl rfl rfl ?_
 refine WL.nil (WE.then_normal (WC.sub (fr' := [(3, _)]) ?_ ⟨rfl, trivial⟩))
 refine WC.ret ?_
 refine WE.f2 ?_
 refine WE.f1 ?_
 refine WE.f2 ?_
 refine WE.endW2 (.inl rfl) (res1 Tryz.results92 rfl) ?_
 exact ⟨rfl, rfl⟩
theorem mwf3 (b3 q : Nat) (id : List UInt8) : Fn0 Tryz.prog 95 [S id, .func (.func 96) #[] #[Pt b3 0, Pt q 0]] (.iface 243 (.agg #[S id, FVN 3 b3 q])) := by
 refine Fn0.enter (n := 9) Tryz.func95 rfl rfl fun w0 => ?_
 refine WC.sub (fr' := [(0, _), (1, _)]) ?_ ⟨rfl, rfl, trivial⟩
 refine WC.seq (WC.region ?_)
 refine WL.q (oq_assign rfl) rfl rfl rfl ?_
 refine WL.nil (WE.then_normal (WC.sub (fr' := [(0, _), (1, _)]) ?_ ⟨rfl, rfl, trivial⟩))
 refine WC.seq (WC.region ?_)
 refine WL.q (oq_move rfl) rfl rfl rfl ?_
 refine WL.q (oq_move rfl) rfl rfl rfl ?_
 refine WL.q (oq_build #[_, _] str243 ty243 rfl rfl) rfl rfl rfl ?_
 refine WL.q (oq_makeI conc243 rfl) rfl rfl rfl ?_
 refine WL.q (oq_assign rfl) rfl rfl rfl ?_
 refine WL.nil (WE.then_normal (WC.sub (fr' := [(4, _)]) ?_ ⟨rfl, trivial⟩))
 refine WC.ret ?_
 refine WE.end0 (.inl rfl) (res1 Tryz.results95 rfl) ?_
 rfl
theorem of3 (base b3 : Nat) (id : List UInt8) : FnW Tryz.prog 94 [S id, Pt b3 0] base [] (fun v Hs => ∃ q, base ≤ q ∧ v = .iface 243 (.agg #[S id, FVN 3 b3 q]) ∧ Hs = [[(q, .cells #[S id] 9 (0, 0))]]) := by
 refine FnW.enter (n := 7) Tryz.func94 rfl rfl fun w0 R0 hbase => ?_
 subst hbase
 show WC _ _ _ _ _ _ _ ([R0])
 refine WC.sub (fr' := [(0, _), (1, _)]) ?_ ⟨rfl, rfl, trivial⟩
 refine WC.seq (WC.region ?_)
 refine WL.box rfl rfl rfl fun q hq => ?_
 refine WL.q (oq_assign rfl) rfl rfl rfl ?_
 refine WL.nil (WE.then_normal (WC.sub (fr' := [(1, _), (2, _)]) ?_ ⟨rfl, rfl, trivial⟩))
 refine WC.seq (WC.region ?_)
 refine WL.q (oq_load flat9 rfl (.head _) (List.mem_singleton.2 rfl) rfl) rfl rfl rfl ?_
 refine WL.q (oq_makeFn rfl) rfl rfl rfl ?_
 refine WL.qc (oq_call (mwf3 b3 q id) call95 rfl) rfl rfl rfl ?_
 refine WL.q (oq_assign rfl) rfl rfl rfl ?_
 refine WL.nil (WE.then_normal (WC.sub (fr' := [(3, _)]) ?_ ⟨rfl, trivial⟩))
 refine WC.ret ?_
 refine WE.endW1 (.inl rfl) (res1 Tryz.results94 rfl) ?_
 exact ⟨q, hq, rfl, rfl⟩
theorem clAdd3 (base sb b2 b5 b3 : Nat) (nr : Value) (l : List Nd) (id : List UInt8) (aft : Bool) : FnW Tryz.prog 97 [S id, I (if aft then 0 else 1), Pt b2 0, Pt b5 0] base [env 3 sb b2 b5 b3, stg 3 sb nr l] (ClR 3 base sb b2 b5 b3 nr l (some (putI aft id (l.map Nd.id)))) := by
 refine FnW.enter (n := 13) Tryz.func97 rfl rfl fun w0 R0 hbase => ?_
 subst hbase
 show WC _ _ _ _ _ _ _ ([env 3 sb b2 b5 b3, stg 3 sb nr l, R0])
 refine WC.sub (fr' := [(0, _), (1, _), (2, _), (3, _)]) ?_ ⟨rfl, rfl, rfl, rfl, trivial⟩
 refine WC.seq (WC.region ?_)
 refine WL.q (oq_assign rfl) rfl rfl rfl ?_
 refine WL.nil (WE.then_normal (WC.sub (fr' := [(0, _), (1, _), (2, _), (3, _)]) ?_ ⟨rfl, rfl, rfl, rfl, trivial⟩))
 refine WC.seq ?_
 refine WC.held (env 3 sb b2 b5 b3) (by kernel_rfl) ?_
 refine WH.q 0 rfl (.head _) (fun w0 => oq_load flat77 rfl (.head _) (.head _) rfl) rfl rfl rfl ?_
 refine WH.q 1 rfl (.head _) (fun w0 => oq_load flat168 rfl (.head _) (.tail _ (.head _)) rfl) rfl rfl rfl ?_
 refine WH.q 2 rfl (.head _) (fun w0 => oq_move rfl) rfl rfl rfl ?_
 refine WH.q 4 rfl (.head _) (fun w0 => oq_move rfl) rfl rfl rfl ?_
 refine WH.step (i := 3) (by kernel_rfl) rfl ?_
 refine WL.callWE (args := [S id, Pt b3 0]) (fun a w hf => run_enterv (first := []) (vs := [S id]) (cap := [Pt b3 0]) call94 rfl rfl hf w) (of3 _ b3 id) rfl rfl rfl rfl fun v1_3 Hs1_3 hR1_3 => ?_
 obtain ⟨q, hq, rfl, rfl⟩ := hR1_3
 refine WL.app1 ?_
 refine WL.nil ?_
 refine WE.toH (.tail _ (.head _)) ?_
 refine WH.step (i := 5) (by kernel_rfl) rfl ?_
 refine WL.f2 ?_
 refine WL.callW1 (addU3 _ sb nr id (FVN 3 b3 q) aft l) call98 rfl rfl rfl fun v1_5 Hs1_5 hR1_5 => ?_
 obtain ⟨e, he, hO⟩ := hR1_5
 obtain ⟨m, rfl, hv⟩ := opr1 hO
 refine WL.to1 ?_
 refine WL.nil ?_
 refine WE.toH (.tail _ (.tail _ (.head _))) ?_
 refine WH.q 6 rfl (.tail _ (.tail _ (.head _))) (fun w0 => oq_assign rfl) rfl rfl rfl ?_
 refine WH.done (by kernel_rfl) ?_
 refine WE.then_normal (WC.sub (fr' := [(6, _)]) ?_ ⟨rfl, trivial⟩)
 refine WC.ret ?_
 refine WE.f3 ?_
 refine WE.f2 ?_
 refine WE.f2 ?_
 refine WE.f3 ?_
 refine WE.endW3 (.inl rfl) (res1 Tryz.results97 rfl) ?_
 exact cl_mk (fresh1 hq) hv (fun h y hy => by injection h with h; subst h; exact (putE_mem hy).imp (fun h => h) (fun h => by subst h; exact ⟨he, okq rfl⟩)) (by show some _ = _; rw [putE_map])
theorem clIns3 (base sb b2 b5 b3 : Nat) (nr : Value) (l : List Nd) (id by_ : List UInt8) (aft : Bool) : FnW Tryz.prog 99 [S id, S by_, I (if aft then 0 else 1), Pt b2 0, Pt b5 0] base [env 3 sb b2 b5 b3, stg 3 sb nr l] (ClR 3 base sb b2 b5 b3 nr l (insI by_ aft id (l.map Nd.id))) := by
 refine FnW.enter (n := 16) Tryz.func99 rfl rfl fun w0 R0 hbase => ?_
 subst hbase
 show WC _ _ _ _ _ _ _ ([env 3 sb b2 b5 b3, stg 3 sb nr l, R0])
 refine WC.sub (fr' := [(0, _), (1, _), (2, _), (3, _), (4, _)]) ?_ ⟨rfl, rfl, rfl, rfl, rfl, trivial⟩
 refine WC.seq (WC.region ?_)
 refine WL.q (oq_assign rfl) rfl rfl rfl ?_
 refine WL.nil (WE.then_normal (WC.sub (fr' := [(0, _), (1, _), (2, _), (3, _), (4, _)]) ?_ ⟨rfl, rfl, rfl, rfl, rfl, trivial⟩))
 refine WC.seq ?_
 refine WC.held (env 3 sb b2 b5 b3) (by kernel_rfl) ?_
 refine WH.q 0 rfl (.head _) (fun w0 => oq_load flat77 rfl (.head _) (.head _) rfl) rfl rfl rfl ?_
 refine WH.q 1 rfl (.head _) (fun w0 => oq_load flat168 rfl (.head _) (.tail _ (.head _)) rfl) rfl rfl rfl ?_
 refine WH.q 2 rfl (.head _) (fun w0 => oq_move rfl) rfl rfl rfl ?_
 refine WH.q 4 rfl (.head _) (fun w0 => oq_move rfl) rfl rfl rfl ?_
 refine WH.q 5 rfl (.head _) (fun w0 => oq_move rfl) rfl rfl rfl ?_
 refine WH.step (i := 3) (by kernel_rfl) rfl ?_
 refine WL.callWE (args := [S id, Pt b3 0]) (fun a w hf => run_enterv (first := []) (vs := [S id]) (cap := [Pt b3 0]) call94 rfl rfl hf w) (of3 _ b3 id) rfl rfl rfl rfl fun v1_3 Hs1_3 hR1_3 => ?_
 obtain ⟨q, hq, rfl, rfl⟩ := hR1_3
 refine WL.app1 ?_
 refine WL.nil ?_
 refine WE.toH (.tail _ (.head _)) ?_
 refine WH.step (i := 6) (by kernel_rfl) rfl ?_
 refine WL.f2 ?_
 refine WL.callW1 (insU3 _ sb nr id (FVN 3 b3 q) by_ aft l) call100 rfl rfl rfl fun v1_6 Hs1_6 hR1_6 => ?_
 obtain ⟨e, he, hO⟩ := hR1_6
 obtain ⟨m, rfl, hv⟩ := opr1 hO
 refine WL.to1 ?_
 refine WL.nil ?_
 refine WE.toH (.tail _ (.tail _ (.head _))) ?_
 refine WH.q 7 rfl (.tail _ (.tail _ (.head _))) (fun w0 => oq_assign rfl) rfl rfl rfl ?_
 refine WH.done (by kernel_rfl) ?_
 refine WE.then_normal (WC.sub (fr' := [(8, _)]) ?_ ⟨rfl, trivial⟩)
 refine WC.ret ?_
 refine WE.f3 ?_
 refine WE.f2 ?_
 refine WE.f2 ?_
 refine WE.f3 ?_
 refine WE.endW3 (.inl rfl) (res1 Tryz.results99 rfl) ?_
 exact cl_mk (fresh1 hq) hv (fun h y hy => (insL_mem h y hy).imp (fun h => h) (fun h => by subst h; exact ⟨he, okq rfl⟩)) (insL_map _ _ _ _)
theorem clSwp3 (base sb b2 b5 b3 : Nat) (nr : Value) (l : List Nd) (id by_ : List UInt8) (hb : ∀ x ∈ l, base ≤ x.b) : FnW Tryz.prog 101 [S by_, S id, Pt b2 0, Pt b5 0] base [env 3 sb b2 b5 b3, stg 3 sb nr l] (ClR 3 base sb b2 b5 b3 nr l (swpI by_ id (l.map Nd.id))) := by
 refine FnW.enter (n := 19) Tryz.func101 rfl rfl fun w0 R0 hbase => ?_
 subst hbase
 show WC _ _ _ _ _ _ _ ([env 3 sb b2 b5 b3, stg 3 sb nr l, R0])
 refine WC.sub (fr' := [(0, _), (1, _), (2, _), (3, _)]) ?_ ⟨rfl, rfl, rfl, rfl, trivial⟩
 refine WC.seq (WC.region ?_)
 refine WL.q (oq_assign rfl) rfl rfl rfl ?_
 refine WL.nil (WE.then_normal (WC.sub (fr' := [(0, _), (1, _), (2, _), (3, _)]) ?_ ⟨rfl, rfl, rfl, rfl, trivial⟩))
 refine WC.seq ?_
 refine WC.held (env 3 sb b2 b5 b3) (by kernel_rfl) ?_
 refine WH.q 0 rfl (.head _) (fun w0 => oq_load flat77 rfl (.head _) (.head _) rfl) rfl rfl rfl ?_
 refine WH.q 1 rfl (.head _) (fun w0 => oq_move rfl) rfl rfl rfl ?_
 refine WH.q 2 rfl (.head _) (fun w0 => oq_load flat168 rfl (.head _) (.tail _ (.head _)) rfl) rfl rfl rfl ?_
 refine WH.q 3 rfl (.head _) (fun w0 => oq_move rfl) rfl rfl rfl ?_
 refine WH.step (i := 4) (by kernel_rfl) rfl ?_
 refine WL.callWE (args := [S id, Pt b3 0]) (fun a w hf => run_enterv (first := []) (vs := [S id]) (cap := [Pt b3 0]) call94 rfl rfl hf w) (of3 _ b3 id) rfl rfl rfl rfl fun v1_4 Hs1_4 hR1_4 => ?_
 obtain ⟨q, hq, rfl, rfl⟩ := hR1_4
 refine WL.app1 ?_
 refine WL.nil ?_
 refine WE.toH (.tail _ (.head _)) ?_
 refine WH.step (i := 5) (by kernel_rfl) rfl ?_
 refine WL.f2 ?_
 refine WL.callW1 (swpU3 _ sb nr id (FVN 3 b3 q) by_ l) call102 rfl rfl rfl fun v1_5 Hs1_5 hR1_5 => ?_
 obtain ⟨m, o, w, rfl, rfl, hv⟩ := opt1 hR1_5
 refine WL.to1 ?_
 refine WL.nil ?_
 refine WE.toH (.tail _ (.tail _ (.head _))) ?_
 refine WH.q 6 rfl (.tail _ (.tail _ (.head _))) (fun w0 => oq_move rfl) rfl rfl rfl ?_
 refine WH.q 7 rfl (.tail _ (.tail _ (.head _))) (fun w0 => oq_extract rfl rfl) rfl rfl rfl ?_
 refine WH.q 8 rfl (.tail _ (.tail _ (.head _))) (fun w0 => oq_extract rfl rfl) rfl rfl rfl ?_
 refine WH.q 9 rfl (.tail _ (.tail _ (.head _))) (fun w0 => oq_assign rfl) rfl rfl rfl ?_
 refine WH.q 10 rfl (.tail _ (.tail _ (.head _))) (fun w0 => oq_assign rfl) rfl rfl rfl ?_
 refine WH.done (by kernel_rfl) ?_
 refine WE.then_normal (WC.sub (fr' := [(8, _)]) ?_ ⟨rfl, trivial⟩)
 refine WC.seq (WC.region ?_)
 refine WL.q (oq_move rfl) rfl rfl rfl ?_
 refine WL.q (oq_assign rfl) rfl rfl rfl ?_
 refine WL.nil (WE.then_normal (WC.sub (fr' := [(6, _)]) ?_ ⟨rfl, trivial⟩))
 refine WC.ret ?_
 refine WE.f3 ?_
 refine WE.f2 ?_
 refine WE.f2 ?_
 refine WE.f3 ?_
 refine WE.endW3 (.inl rfl) (res1 Tryz.results101 rfl) ?_
 exact cl_mk (fresh1 hq) hv (fun h y hy => (swpL_mem h y hy).imp (fun h => h) (fun h => by obtain ⟨x, hx, rfl⟩ := h; exact ⟨hb x hx, okq rfl⟩)) (swpL_map _ _ _ _)
theorem clRem3 (base sb b2 b5 b3 : Nat) (nr : Value) (l : List Nd) (id : List UInt8) (hb : ∀ x ∈ l, base ≤ x.b) : FnW Tryz.prog 103 [S id, Pt b2 0] base [env 3 sb b2 b5 b3, stg 3 sb nr l, []] (ClR 3 base sb b2 b5 b3 nr l (remI id (l.map Nd.id))) := by
 refine FnW.enter (n := 13) Tryz.func103 rfl rfl fun w0 R0 hbase => ?_
 subst hbase
 show WC _ _ _ _ _ _ _ ([env 3 sb b2 b5 b3, stg 3 sb nr l, [], R0])
 refine WC.sub (fr' := [(0, _), (1, _)]) ?_ ⟨rfl, rfl, trivial⟩
 refine WC.seq (WC.region ?_)
 refine WL.q (oq_assign rfl) rfl rfl rfl ?_
 refine WL.nil (WE.then_normal (WC.sub (fr' := [(0, _), (1, _)]) ?_ ⟨rfl, rfl, trivial⟩))
 refine WC.seq (WC.region ?_)
 refine WL.q (oq_load flat77 rfl (.head _) (.head _) rfl) rfl rfl rfl ?_
 refine WL.q (oq_move rfl) rfl rfl rfl ?_
 refine WL.f1 ?_
 refine WL.callW1 (remU3 _ sb nr id l hb) call104 rfl rfl rfl fun v1_2 Hs1_2 hR1_2 => ?_
 obtain ⟨m, o, w, rfl, rfl, hv⟩ := opt1 hR1_2
 refine WL.to1 ?_
 refine WL.q (oq_move rfl) rfl rfl rfl ?_
 refine WL.q (oq_extract rfl rfl) rfl rfl rfl ?_
 refine WL.q (oq_extract rfl rfl) rfl rfl rfl ?_
 refine WL.q (oq_assign rfl) rfl rfl rfl ?_
 refine WL.q (oq_assign rfl) rfl rfl rfl ?_
 refine WL.nil (WE.then_normal (WC.sub (fr' := [(5, _)]) ?_ ⟨rfl, trivial⟩))
 refine WC.seq (WC.region ?_)
 refine WL.q (oq_move rfl) rfl rfl rfl ?_
 refine WL.q (oq_assign rfl) rfl rfl rfl ?_
 refine WL.nil (WE.then_normal (WC.sub (fr' := [(3, _)]) ?_ ⟨rfl, trivial⟩))
 refine WC.ret ?_
 refine WE.f3 ?_
 refine WE.f3 ?_
 refine WE.f2 ?_
 refine WE.f3 ?_
 refine WE.endW3 (.inl rfl) (res1 Tryz.results103 rfl) ?_
 exact cl_mk (fun _ _ h => nomatch h) hv (fun h y hy => .inl (remL_mem h y hy)) (remL_map _ _)
theorem clHas3 (base sb b2 b5 b3 : Nat) (nr : Value) (l : List Nd) (id : List UInt8) : FnW Tryz.prog 106 [S id, Pt b2 0] base [env 3 sb b2 b5 b3, stg 3 sb nr l] (fun v Hs => v = .bool (decide (id ∈ l.map Nd.id)) ∧ Hs = [env 3 sb b2 b5 b3, stg 3 sb nr l]) := by
 refine FnW.enter (n := 13) Tryz.func106 rfl rfl fun w0 R0 hbase => ?_
 subst hbase
 show WC _ _ _ _ _ _ _ ([env 3 sb b2 b5 b3, stg 3 sb nr l, R0])
 refine WC.sub (fr' := [(0, _), (1, _)]) ?_ ⟨rfl, rfl, trivial⟩
 refine WC.seq (WC.region ?_)
 refine WL.q (oq_assign rfl) rfl rfl rfl ?_
 refine WL.nil (WE.then_normal (WC.sub (fr' := [(0, _), (1, _)]) ?_ ⟨rfl, rfl, trivial⟩))
 refine WC.seq (WC.region ?_)
 refine WL.q (oq_load flat77 rfl (.head _) (.head _) rfl) rfl rfl rfl ?_
 refine WL.q (oq_move rfl) rfl rfl rfl ?_
 refine WL.f1 ?_
 refine WL.callW1 (getU3 _ sb nr id l) call107 rfl rfl rfl fun v1_2 Hs1_2 hR1_2 => ?_
 obtain ⟨⟨o, rfl⟩, rfl⟩ := hR1_2
 refine WL.to1 ?_
 refine WL.q (oq_move rfl) rfl rfl rfl ?_
 refine WL.q (oq_extract rfl rfl) rfl rfl rfl ?_
 refine WL.q (oq_extract rfl rfl) rfl rfl rfl ?_
 refine WL.q (oq_assign rfl) rfl rfl rfl ?_
 refine WL.q (oq_assign rfl) rfl rfl rfl ?_
 refine WL.nil (WE.then_normal (WC.sub (fr' := [(5, _)]) ?_ ⟨rfl, trivial⟩))
 refine WC.seq (WC.region ?_)
 refine WL.q (oq_move rfl) rfl rfl rfl ?_
 refine WL.q (oq_assign rfl) rfl rfl rfl ?_
 refine WL.nil (WE.then_normal (WC.sub (fr' := [(3, _)]) ?_ ⟨rfl, trivial⟩))
 refine WC.ret ?_
 refine WE.f2 ?_
 refine WE.f1 ?_
 refine WE.f2 ?_
 refine WE.endW2 (.inl rfl) (res1 Tryz.results106 rfl) ?_
 exact ⟨rfl, rfl⟩
theorem mwf4 (b3 q : Nat) (id : List UInt8) : Fn0 Tryz.prog 109 [S id, .func (.func 110) #[] #[Pt b3 0, Pt q 0]] (.iface 247 (.agg #[S id, FVN 4 b3 q])) := by
 refine Fn0.enter (n := 9) Tryz.func109 rfl rfl fun w0 => ?_
 refine WC.sub (fr' := [(0, _), (1, _)]) ?_ ⟨rfl, rfl, trivial⟩
 refine WC.seq (WC.region ?_)
 refine WL.q (oq_assign rfl) rfl rfl rfl ?_
 refine WL.nil (WE.then_normal (WC.sub (fr' := [(0, _), (1, _)]) ?_ ⟨rfl, rfl, trivial⟩))
 refine WC.seq (WC.region ?_)
 refine WL.q (oq_move rfl) rfl rfl rfl ?_
 refine WL.q (oq_move rfl) rfl rfl rfl ?_
 refine WL.q (oq_build #[_, _] str247 ty247 rfl rfl) rfl rfl rfl ?_
 refine WL.q (oq_makeI conc247 rfl) rfl rfl rfl ?_
 refine WL.q (oq_assign rfl) rfl rfl rfl ?_
 refine WL.nil (WE.then_normal (WC.sub (fr' := [(4, _)]) ?_ ⟨rfl, trivial⟩))
 refine WC.ret ?_
 refine WE.end0 (.inl rfl) (res1 Tryz.results109 rfl) ?_
 rfl
theorem of4 (base b3 : Nat) (id : List UInt8) : FnW Tryz.prog 108 [S id, Pt b3 0] base [] (fun v Hs => ∃ q, base ≤ q ∧ v = .iface 247 (.agg #[S id, FVN 4 b3 q]) ∧ Hs = [[(q, .cells #[S id] 9 (0, 0))]]) := by
 refine FnW.enter (n := 7) Tryz.func108 rfl rfl fun w0 R0 hbase => ?_
 subst hbase
 show WC _ _ _ _ _ _ _ ([R0])
 refine WC.sub (fr' := [(0, _), (1, _)]) ?_ ⟨rfl, rfl, trivial⟩
 refine WC.seq (WC.region ?_)
 refine WL.box rfl rfl rfl fun q hq => ?_
 refine WL.q (oq_assign rfl) rfl rfl rfl ?_
 refine WL.nil (WE.then_normal (WC.sub (fr' := [(1, _), (2, _)]) ?_ ⟨rfl, rfl, trivial⟩))
 refine WC.seq (WC.region ?_)
 refine WL.q (oq_load flat9 rfl (.head _) (List.mem_singleton.2 rfl) rfl) rfl rfl rfl ?_
 refine WL.q (oq_makeFn rfl) rfl rfl rfl ?_
 refine WL.qc (oq_call (mwf4 b3 q id) call109 rfl) rfl rfl rfl ?_
 refine WL.q (oq_assign rfl) rfl rfl rfl ?_
 refine WL.nil (WE.then_normal (WC.sub (fr' := [(3, _)]) ?_ ⟨rfl, trivial⟩))
 refine WC.ret ?_
 refine WE.endW1 (.inl rfl) (res1 Tryz.results108 rfl) ?_
 exact ⟨q, hq, rfl, rfl⟩
theorem clAdd4 (base sb b2 b5 b3 : Nat) (nr : Value) (l : List Nd) (id : List UInt8) (aft : Bool) : FnW Tryz.prog 111 [S id, I (if aft then 0 else 1), Pt b2 0, Pt b5 0] base [env 4 sb b2 b5 b3, stg 4 sb nr l] (ClR 4 base sb b2 b5 b3 nr l (some (putI aft id (l.map Nd.id)))) := by
 refine FnW.enter (n := 13) Tryz.func111 rfl rfl fun w0 R0 hbase => ?_
 subst hbase
 show WC _ _ _ _ _ _ _ ([env 4 sb b2 b5 b3, stg 4 sb nr l, R0])
 refine WC.sub (fr' := [(0, _), (1, _), (2, _), (3, _)]) ?_ ⟨rfl, rfl, rfl, rfl, trivial⟩
 refine WC.seq (WC.region ?_)
 refine WL.q (oq_assign rfl) rfl rfl rfl ?_
 refine WL.nil (WE.then_normal (WC.sub (fr' := [(0, _), (1, _), (2, _), (3, _)]) ?_ ⟨rfl, rfl, rfl, rfl, trivial⟩))
 refine WC.seq ?_
 refine WC.held (env 4 sb b2 b5 b3) (by kernel_rfl) ?_
 refine WH.q 0 rfl (.head _) (fun w0 => oq_load flat78 rfl (.head _) (.head _) rfl) rfl rfl rfl ?_
 refine WH.q 1 rfl (.head _) (fun w0 => oq_load flat187 rfl (.head _) (.tail _ (.head _)) rfl) rfl rfl rfl ?_
 refine WH.q 2 rfl (.head _) (fun w0 => oq_move rfl) rfl rfl rfl ?_
 refine WH.q 4 rfl (.head _) (fun w0 => oq_move rfl) rfl rfl rfl ?_
 refine WH.step (i := 3) (by kernel_rfl) rfl ?_
 refine WL.callWE (args := [S id, Pt b3 0]) (fun a w hf => run_enterv (first := []) (vs := [S id]) (cap := [Pt b3 0]) call108 rfl rfl hf w) (of4 _ b3 id) rfl rfl rfl rfl fun v1_3 Hs1_3 hR1_3 => ?_
 obtain ⟨q, hq, rfl, rfl⟩ := hR1_3
 refine WL.app1 ?_
 refine WL.nil ?_
 refine WE.toH (.tail _ (.head _)) ?_
 refine WH.step (i := 5) (by kernel_rfl) rfl ?_
 refine WL.f2 ?_
 refine WL.callW1 (addU4 _ sb nr id (FVN 4 b3 q) aft l) call112 rfl rfl rfl fun v1_5 Hs1_5 hR1_5 => ?_
 obtain ⟨e, he, hO⟩ := hR1_5
 obtain ⟨m, rfl, hv⟩ := opr1 hO
 refine WL.to1 ?_
 refine WL.nil ?_
 refine WE.toH (.tail _ (.tail _ (.head _))) ?_
 refine WH.q 6 rfl (.tail _ (.tail _ (.head _))) (fun w0 => oq_assign rfl) rfl rfl rfl ?_
 refine WH.done (by kernel_rfl) ?_
 refine WE.then_normal (WC.sub (fr' := [(6, _)]) ?_ ⟨rfl, trivial⟩)
 refine WC.ret ?_
 refine WE.f3 ?_
 refine WE.f2 ?_
 refine WE.f2 ?_
 refine WE.f3 ?_
 refine WE.endW3 (.inl rfl) (res1 Tryz.results111 rfl) ?_
 exact cl_mk (fresh1 hq) hv (fun h y hy => by injection h with h; subst h; exact (putE_mem hy).imp (fun h => h) (fun h => by subst h; exact ⟨he, okq rfl⟩)) (by show some _ = _; rw [putE_map])
theorem clIns4 (base sb b2 b5 b3 : Nat) (nr : Value) (l : List Nd) (id by_ : List UInt8) (aft : Bool) : FnW Tryz.prog 113 [S id, S by_, I (if aft then 0 else 1), Pt b2 0, Pt b5 0] base [env 4 sb b2 b5 b3, stg 4 sb nr l] (ClR 4 base sb b2 b5 b3 nr l (insI by_ aft id (l.map Nd.id))) := by
 refine FnW.enter (n := 16) Tryz.func113 rfl rfl fun w0 R0 hbase => ?_
 subst hbase
 show WC _ _ _ _ _ _ _ ([env 4 sb b2 b5 b3, stg 4 sb nr l, R0])
 refine WC.sub (fr' := [(0, _), (1, _), (2, _), (3, _), (4, _)]) ?_ ⟨rfl, rfl, rfl, rfl, rfl, trivial⟩
 refine WC.seq (WC.region ?_)
 refine WL.q (oq_assign rfl) rfl rfl rfl ?_
 refine WL.nil (WE.then_normal (WC.sub (fr' := [(0, _), (1, _), (2, _), (3, _), (4, _)]) ?_ ⟨rfl, rfl, rfl, rfl, rfl, trivial⟩))
 refine WC.seq ?_
 refine WC.held (env 4 sb b2 b5 b3) (by kernel_rfl) ?_
 refine WH.q 0 rfl (.head _) (fun w0 => oq_load flat78 rfl (.head _) (.head _) rfl) rfl rfl rfl ?_
 refine WH.q 1 rfl (.head _) (fun w0 => oq_load flat187 rfl (.head _) (.tail _ (.head _)) rfl) rfl rfl rfl ?_
 refine WH.q 2 rfl (.head _) (fun w0 => oq_move rfl) rfl rfl rfl ?_
 refine WH.q 4 rfl (.head _) (fun w0 => oq_move rfl) rfl rfl rfl ?_
 refine WH.q 5 rfl (.head _) (fun w0 => oq_move rfl) rfl rfl rfl ?_
 refine WH.step (i := 3) (by kernel_rfl) rfl ?_
 refine WL.callWE (args := [S id, Pt b3 0]) (fun a w hf => run_enterv (first := []) (vs := [S id]) (cap := [Pt b3 0]) call108 rfl rfl hf w) (of4 _ b3 id) rfl rfl rfl rfl fun v1_3 Hs1_3 hR1_3 => ?_
 obtain ⟨q, hq, rfl, rfl⟩ := hR1_3
 refine WL.app1 ?_
 refine WL.nil ?_
 refine WE.toH (.tail _ (.head _)) ?_
 refine WH.step (i := 6) (by kernel_rfl) rfl ?_
 refine WL.f2 ?_
 refine WL.callW1 (insU4 _ sb nr id (FVN 4 b3 q) by_ aft l) call114 rfl rfl rfl fun v1_6 Hs1_6 hR1_6 => ?_
 obtain ⟨e, he, hO⟩ := hR1_6
 obtain ⟨m, rfl, hv⟩ := opr1 hO
 refine WL.to1 ?_
 refine WL.nil ?_
 refine WE.toH (.tail _ (.tail _ (.head _))) ?_
 refine WH.q 7 rfl (.tail _ (.tail _ (.head _))) (fun w0 => oq_assign rfl) rfl rfl rfl ?_
 refine WH.done (by kernel_rfl) ?_
 refine WE.then_normal (WC.sub (fr' := [(8, _)]) ?_ ⟨rfl, trivial⟩)
 refine WC.ret ?_
 refine WE.f3 ?_
 refine WE.f2 ?_
 refine WE.f2 ?_
 refine WE.f3 ?_
 refine WE.endW3 (.inl rfl) (res1 Tryz.results113 rfl) ?_
 exact cl_mk (fresh1 hq) hv (fun h y hy => (insL_mem h y hy).imp (fun h => h) (fun h => by subst h; exact ⟨he, okq rfl⟩)) (insL_map _ _ _ _)
theorem clSwp4 (base sb b2 b5 b3 : Nat) (nr : Value) (l : List Nd) (id by_ : List UInt8) (hb : ∀ x ∈ l, base ≤ x.b) : FnW Tryz.prog 115 [S by_, S id, Pt b2 0, Pt b5 0] base [env 4 sb b2 b5 b3, stg 4 sb nr l] (ClR 4 base sb b2 b5 b3 nr l (swpI by_ id (l.map Nd.id))) := by
 refine FnW.enter (n := 19) Tryz.func115 rfl rfl fun w0 R0 hbase => ?_
 subst hbase
 show WC _ _ _ _ _ _ _ ([env 4 sb b2 b5 b3, stg 4 sb nr l, R0])
 refine WC.sub (fr' := [(0, _), (1, _), (2, _), (3, _)]) ?_ ⟨rfl, rfl, rfl, rfl, trivial⟩
 refine WC.seq (WC.region ?_)
 refine WL.q (oq_assign rfl) rfl rfl rfl ?_
 refine WL.nil (WE.then_normal (WC.sub (fr' := [(0, _), (1, _), (2, _), (3, _)]) ?_ ⟨rfl, rfl, rfl, rfl, trivial⟩))
 refine WC.seq ?_
 refine WC.held (env 4 sb b2 b5 b3) (by kernel_rfl) ?_
 refine WH.q 0 rfl (.head _) (fun w0 => oq_load flat78 rfl (.head _) (.head _) rfl) rfl rfl rfl ?_
 refine WH.q 1 rfl (.head _) (fun w0 => oq_move rfl) rfl rfl rfl ?_
 refine WH.q 2 rfl (.head _) (fun w0 => oq_load flat187 rfl (.head _) (.tail _ (.head _)) rfl) rfl rfl rfl ?_
 refine WH.q 3 rfl (.head _) (fun w0 => oq_move rfl) rfl rfl rfl ?_
 refine WH.step (i := 4) (by kernel_rfl) rfl ?_
 refine WL.callWE (args := [S id, Pt b3 0]) (fun a w hf => run_enterv (first := []) (vs := [S id]) (cap := [Pt b3 0]) call108 rfl rfl hf w) (of4 _ b3 id) rfl rfl rfl rfl fun v1_4 Hs1_4 hR1_4 => ?_
 obtain ⟨q, hq, rfl, rfl⟩ := hR1_4
 refine WL.app1 ?_
 refine WL.nil ?_
 refine WE.toH (.tail _ (.head _)) ?_
 refine WH.step (i := 5) (by kernel_rfl) rfl ?_
 refine WL.f2 ?_
 refine WL.callW1 (swpU4 _ sb nr id (FVN 4 b3 q) by_ l) call116 rfl rfl rfl fun v1_5 Hs1_5 hR1_5 => ?_
 obtain ⟨m, o, w, rfl, rfl, hv⟩ := opt1 hR1_5
 refine WL.to1 ?_
 refine WL.nil ?_
 refine WE.toH (.tail _ (.tail _ (.head _))) ?_
 refine WH.q 6 rfl (.tail _ (.tail _ (.head _))) (fun w0 => oq_move rfl) rfl rfl rfl ?_
 refine WH.q 7 rfl (.tail _ (.tail _ (.head _))) (fun w0 => oq_extract rfl rfl) rfl rfl rfl ?_
 refine WH.q 8 rfl (.tail _ (.tail _ (.head _))) (fun w0 => oq_extract rfl rfl) rfl rfl rfl ?_
 refine WH.q 9 rfl (.tail _ (.tail _ (.head _))) (fun w0 => oq_assign rfl) rfl rfl rfl ?_
 refine WH.q 10 rfl (.tail _ (.tail _ (.head _))) (fun w0 => oq_assign rfl) rfl rfl rfl ?_
 refine WH.done (by kernel_rfl) ?_
 refine WE.then_normal (WC.sub (fr' := [(8, _)]) ?_ ⟨rfl, trivial⟩)
 refine WC.seq (WC.region ?_)
 refine WL.q (oq_move rfl) rfl rfl rfl ?_
 refine WL.q (oq_assign rfl) rfl rfl rfl ?_
 refine WL.nil (WE.then_normal (WC.sub (fr' := [(6, _)]) ?_ ⟨rfl, trivial⟩))
 refine WC.ret ?_
 refine WE.f3 ?_
 refine WE.f2 ?_
 refine WE.f2 ?_
 refine WE.f3 ?_
 refine WE.endW3 (.inl rfl) (res1 Tryz.results115 rfl) ?_
 exact cl_mk (fresh1 hq) hv (fun h y hy => (swpL_mem h y hy).imp (fun h => h) (fun h => by obtain ⟨x, hx, rfl⟩ := h; exact ⟨hb x hx, okq rfl⟩)) (swpL_map _ _ _ _)
theorem clRem4 (base sb b2 b5 b3 : Nat) (nr : Value) (l : List Nd) (id : List UInt8) (hb : ∀ x ∈ l, base ≤ x.b) : FnW Tryz.prog 117 [S id, Pt b2 0] base [env 4 sb b2 b5 b3, stg 4 sb nr l, []] (ClR 4 base sb b2 b5 b3 nr l (remI id (l.map Nd.id))) := by
 refine FnW.enter (n := 13) Tryz.func117 rfl rfl fun w0 R0 hbase => ?_
 subst hbase
 show WC _ _ _ _ _ _ _ ([env 4 sb b2 b5 b3, stg 4 sb nr l, [], R0])
 refine WC.sub (fr' := [(0, _), (1, _)]) ?_ ⟨rfl, rfl, trivial⟩
 refine WC.seq (WC.region ?_)
 refine WL.q (oq_assign rfl) rfl rfl rfl ?_
 refine WL.nil (WE.then_normal (WC.sub (fr' := [(0, _), (1, _)]) ?_ ⟨rfl, rfl, trivial⟩))
 refine WC.seq (WC.region ?_)
 refine WL.q (oq_load flat78 rfl (.head _) (.head _) rfl) rfl rfl rfl ?_
 refine WL.q (oq_move rfl) rfl rfl rfl ?_
 refine WL.f1 ?_
 refine WL.callW1 (remU4 _ sb nr id l hb) call118 rfl rfl rfl fun v1_2 Hs1_2 hR1_2 => ?_
 obtain ⟨m, o, w, rfl, rfl, hv⟩ := opt1 hR1_2
 refine WL.to1 ?_
 refine WL.q (oq_move rfl) rfl rfl rfl ?_
 refine WL.q (oq_extract rfl rfl) rfl rfl rfl ?_
 refine WL.q (oq_extract rfl rfl) rfl rfl rfl ?_
 refine WL.q (oq_assign rfl) rfl rfl rfl ?_
 refine WL.q (oq_assign rfl) rfl rfl rfl ?_
 refine WL.nil (WE.then_normal (WC.sub (fr' := [(5, _)]) ?_ ⟨rfl, trivial⟩))
 refine WC.seq (WC.region ?_)
 refine WL.q (oq_move rfl) rfl rfl rfl ?_
 refine WL.q (oq_assign rfl) rfl rfl rfl ?_
 refine WL.nil (WE.then_normal (WC.sub (fr' := [(3, _)]) ?_ ⟨rfl, trivial⟩))
 refine WC.ret ?_
 refine WE.f3 ?_
 refine WE.f3 ?_
 refine WE.f2 ?_
 refine WE.f3 ?_
 refine WE.endW3 (.inl rfl) (res1 Tryz.results117 rfl) ?_
 exact cl_mk (fun _ _ h => nomatch h) hv (fun h y hy => .inl (remL_mem h y hy)) (remL_map _ _)
theorem clHas4 (base sb b2 b5 b3 : Nat) (nr : Value) (l : List Nd) (id : List UInt8) : FnW Tryz.prog 120 [S id, Pt b2 0] base [env 4 sb b2 b5 b3, stg 4 sb nr l] (fun v Hs => v = .bool (decide (id ∈ l.map Nd.id)) ∧ Hs = [env 4 sb b2 b5 b3, stg 4 sb nr l]) := by
 refine FnW.enter (n := 13) Tryz.func120 rfl rfl fun w0 R0 hbase => ?_
 subst hbase
 show WC _ _ _ _ _ _ _ ([env 4 sb b2 b5 b3, stg 4 sb nr l, R0])
 refine WC.sub (fr' := [(0, _), (1, _)]) ?_ ⟨rfl, rfl, trivial⟩
 refine WC.seq (WC.region ?_)
 refine WL.q (oq_assign rfl) rfl rfl rfl ?_
 refine WL.nil (WE.then_normal (WC.sub (fr' := [(0, _), (1, _)]) ?_ ⟨rfl, rfl, trivial⟩))
 refine WC.seq (WC.region ?_)
 refine WL.q (oq_load flat78 rfl (.head _) (.head _) rfl) rfl rfl rfl ?_
 refine WL.q (oq_move rfl) rfl rfl rfl ?_
 refine WL.f1 ?_
 refine WL.callW1 (getU4 _ sb nr id l) call121 rfl rfl rfl fun v1_2 Hs1_2 hR1_2 => ?_
 obtain ⟨⟨o, rfl⟩, rfl⟩ := hR1_2
 refine WL.to1 ?_
 refine WL.q (oq_move rfl) rfl rfl rfl ?_
 refine WL.q (oq_extract rfl rfl) rfl rfl rfl ?_
 refine WL.q (oq_extract rfl rfl) rfl rfl rfl ?_
 refine WL.q (oq_assign rfl) rfl rfl rfl ?_
 refine WL.q (oq_assign rfl) rfl rfl rfl ?_
 refine WL.nil (WE.then_normal (WC.sub (fr' := [(5, _)]) ?_ ⟨rfl, trivial⟩))
 refine WC.seq (WC.region ?_)
 refine WL.q (oq_move rfl) rfl rfl rfl ?_
 refine WL.q (oq_assign rfl) rfl rfl rfl ?_
 refine WL.nil (WE.then_normal (WC.sub (fr' := [(3, _)]) ?_ ⟨rfl, trivial⟩))
 refine WC.ret ?_
 refine WE.f2 ?_
 refine WE.f1 ?_
 refine WE.f2 ?_
 refine WE.endW2 (.inl rfl) (res1 Tryz.results120 rfl) ?_
 exact ⟨rfl, rfl⟩
end S6
end Go.Proofs.YtiegaefkahnfjaaGreat
