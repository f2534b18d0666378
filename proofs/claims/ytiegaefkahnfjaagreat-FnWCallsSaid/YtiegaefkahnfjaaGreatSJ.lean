/- What notes the calls of middleware. -/
import Derived.Test.YtiegaefkahnfjaaGreatS8
import Derived.Test.YtiegaefkahnfjaaGreatVQ
namespace Go.Proofs.YtiegaefkahnfjaaGreat
open Go Go.RowKit V S0 S1 S2 S3 S4 S5 S6 S7 S8
set_option linter.unusedSimpArgs false
set_option linter.unusedVariables false
set_option maxRecDepth 10000
namespace SJ
theorem call122 : Callable Tryz.prog 122 := ⟨_, Tryz.func122, rfl, by kernel_rfl⟩
theorem flat4 : Flat Tryz.prog 4 := ⟨_, Tryz.underlying4, by simp⟩
theorem flat9 : Flat Tryz.prog 9 := ⟨_, Tryz.underlying9, by simp⟩
theorem flat26 : Flat Tryz.prog 26 := ⟨_, Tryz.underlying26, by simp⟩
theorem ty4 : Ty Tryz.prog 4 (.bool false) 1 1 := ty_of (by kernel_rfl)
theorem ty9 : Ty Tryz.prog 9 (S []) 1 16 := ty_of (by kernel_rfl)
theorem ty26 : Ty Tryz.prog 26 (.slice none 0 0) 1 24 := ty_of (by kernel_rfl)
theorem fld56_0 : Fld Tryz.prog 56 0 0 26 := fld_of Tryz.underlying56 rfl rfl rfl ty26 (by decide)
theorem fld56_1 : Fld Tryz.prog 56 1 1 9 := fld_of Tryz.underlying56 rfl rfl rfl ty9 (by decide)
theorem fld56_2 : Fld Tryz.prog 56 2 2 4 := fld_of Tryz.underlying56 rfl rfl rfl ty4 (by decide)
def CS (cb : Nat) (lv : Value) (stop : List UInt8) (fail : Bool) : Hp := [(cb, .cells #[lv, S stop, .bool fail] 56 (0, 0))]
def KB (kb : Nat) (c : Bool) : Hp := [(kb, .cells #[.bool c] 4 (0, 0))]
def hit (stop id : List UInt8) : Bool := decide (id = stop) && !decide (stop = [])
def dash (id : List UInt8) : List UInt8 := 45 :: id
def Tr (stop : List UInt8) : List (List UInt8) → List (List UInt8) × Bool
 | [] => ([], true)
 | id :: r => if hit stop id then ([id, dash id], false) else (id :: ((Tr stop r).1 ++ [dash id]), (Tr stop r).2)
theorem Tr_len (stop : List UInt8) : ∀ l : List (List UInt8), (Tr stop l).1.length ≤ 2 * l.length
 | [] => by show 0 ≤ _; omega
 | id :: r => by
  have := Tr_len stop r
  unfold Tr
  split
  ·simp only [List.length_cons, List.length_nil]; omega
  ·simp only [List.length_cons, List.length_append, List.length_nil]; omega
abbrev META : Value := .agg #[.map none]
abbrev CTX : Value := .iface 90 (.agg #[])
def ErrOk (e : Value) (stopped fail : Bool) : Prop := if stopped && fail then ∃ k u, e = .iface k u else e = .nilIface
abbrev OwL (base : Nat) (lv : Value) (L : Hp) (l : List (List UInt8)) : Prop := OwS base 9 1 lv L l.length (strsV l)
theorem OwL.snoc {base : Nat} {lv : Value} {L : Hp} {l : List (List UInt8)} {x : List UInt8} {n : Nat} {xs : List Value} (h : OwS base 9 1 lv L n xs) (hn : n = l.length + 1) (hx : xs = strsV l ++ [S x]) : OwL base lv L (l ++ [x]) := by
 subst hn; subst hx
 have e1 : (l ++ [x]).length = l.length + 1 := by simp
 have e2 : strsV (l ++ [x]) = strsV l ++ [S x] := by simp [strsV]
 show OwS base 9 1 lv L (l ++ [x]).length (strsV (l ++ [x]))
 rw [e1, e2]; exact h
structure KE where
 cb : Nat
 kb : Nat
 stop : List UInt8
 fail : Bool
def CR (base : Nat) (K : KE) (X : Hp) (l ids : List (List UInt8)) (ov v : Value) (Hs : List Hp) : Prop :=
 ∃ lv L Y e, Hs = [CS K.cb lv K.stop K.fail, L, KB K.kb (Tr K.stop ids).2, X, Y] ∧ v = .tuple #[ov, META, e] ∧ OwL base lv L (l ++ (Tr K.stop ids).1) ∧ (∀ b o, (b, o) ∈ Y → base ≤ b) ∧ ErrOk e (!(Tr K.stop ids).2) K.fail
def HC (base : Nat) (K : KE) (f : FuncId) (args : List Value) (X Y : Hp) (ov : Value) (ids : List (List UInt8)) : Prop :=
 ∀ (l : List (List UInt8)) (lv : Value) (L : Hp), OwL base lv L l → l.length + 2 * ids.length ≤ 100000 → FnW Tryz.prog f args base [CS K.cb lv K.stop K.fail, L, KB K.kb false, X, Y] (CR base K X l ids ov)
def HD (base : Nat) (K : KE) (name : String) (iv : Value) (X Y : Hp) (h ov : Value) (ids : List (List UInt8)) : Prop :=
 ∃ f args, InvH Tryz.prog Y name h [CTX, iv] f args ∧ HC base K f args X Y ov ids
theorem HC.frame {base : Nat} {K : KE} {f : FuncId} {args : List Value} {X Y : Hp} {ov : Value} {ids : List (List UInt8)} (h : HC base K f args X Y ov ids) (A : Hp) (hA : ∀ b o, (b, o) ∈ A → base ≤ b) : HC base K f args X (A ++ Y) ov ids := by
 intro l lv L ho hl
 refine ((h l lv L ho hl).frame A).reg ?_ ?_
 ·simp only [List.flatten_cons, List.flatten_nil, List.append_nil, List.cons_append, List.nil_append, List.append_assoc]
  exact List.Perm.append_left _ (List.Perm.append_left _ (List.Perm.append_left _ (List.Perm.append_left _ List.perm_append_comm)))
 ·rintro v Hs ⟨Hs1, ⟨lv', L', Y', e, rfl, rfl, h1, h2, h3⟩, rfl⟩
  refine ⟨_, ⟨lv', L', A ++ Y', e, rfl, rfl, h1, fresh_cat hA h2, h3⟩, ?_⟩
  simp only [List.flatten_cons, List.flatten_nil, List.append_nil, List.cons_append, List.nil_append, List.append_assoc]
  exact List.Perm.append_left _ (List.Perm.append_left _ (List.Perm.append_left _ (List.Perm.append_left _ List.perm_append_comm)))
theorem HD.frame {base : Nat} {K : KE} {name : String} {iv : Value} {X Y : Hp} {h ov : Value} {ids : List (List UInt8)} (hd : HD base K name iv X Y h ov ids) (A : Hp) (hA : ∀ b o, (b, o) ∈ A → base ≤ b) : HD base K name iv X (A ++ Y) h ov ids := by
 obtain ⟨f, args, h1, h2⟩ := hd
 exact ⟨f, args, h1.weaken fun w hw => hw.right, h2.frame A hA⟩
theorem Tr_hit {stop id : List UInt8} {r : List (List UInt8)} (h : hit stop id = true) : Tr stop (id :: r) = ([id, dash id], false) := by unfold Tr; rw [if_pos h]
theorem Tr_miss {stop id : List UInt8} {r : List (List UInt8)} (h : hit stop id = false) : Tr stop (id :: r) = (id :: ((Tr stop r).1 ++ [dash id]), (Tr stop r).2) := by
 show (if hit stop id then _ else _) = _
 rw [h]; rfl
theorem enter (base cb : Nat) (lv : Value) (L : Hp) (l : List (List UInt8)) (stop : List UInt8) (fail : Bool) (ho : OwL base lv L l) (hl : l.length ≤ 100000) (id : List UInt8) : FnW Tryz.prog 53 [Pt cb 0, S id] base [CS cb lv stop fail, L] (fun v Hs => ∃ lv1 L1 e, Hs = [CS cb lv1 stop fail, L1] ∧ OwL base lv1 L1 (l ++ [id]) ∧ v = .tuple #[.bool (hit stop id), e] ∧ (if hit stop id && fail then ∃ k u, e = .iface k u else e = .nilIface)) := by
 refine FnW.enter (n := 34) Tryz.func53 rfl rfl fun w0 R0 hbase => ?_
 subst hbase
 show WC _ _ _ _ _ _ _ ([CS cb lv stop fail, L, R0])
 refine WC.sub (fr' := [(0, _), (1, _)]) ?_ ⟨rfl, rfl, trivial⟩
 refine WC.seq (WC.region ?_)
 refine WL.q (oq_assign rfl) rfl rfl rfl ?_
 refine WL.q (oq_assign rfl) rfl rfl rfl ?_
 refine WL.nil (WE.then_normal (WC.sub (fr' := [(0, _), (1, _)]) ?_ ⟨rfl, rfl, trivial⟩))
 refine WC.seq (WC.region ?_)
 refine WL.q (oq_move rfl) rfl rfl rfl ?_
 refine WL.q (oq_move rfl) rfl rfl rfl ?_
 refine WL.q (oq_nilCheck rfl) rfl rfl rfl ?_
 refine WL.q (oq_fieldAddr fld56_0 rfl) rfl rfl rfl ?_
 refine WL.q (oq_load flat26 rfl (.head _) (List.mem_singleton.2 rfl) rfl) rfl rfl rfl ?_
 refine WL.q (oq_move rfl) rfl rfl rfl ?_
 refine WL.f1 ?_
 refine WL.append1 ho Tryz.underlying26 ty9 rfl (by decide) (fun _ => rfl) rfl rfl (by unfold maxLen; omega) (by omega) rfl rfl (fun _ => rfl) rfl fun v1 A1 u1 ho1 hne1 => ?_
 refine WL.q (oq_nilCheck rfl) rfl rfl rfl ?_
 refine WL.q (oq_fieldAddr fld56_0 rfl) rfl rfl rfl ?_
 refine WL.f1 ?_
 refine WL.store1 #[_, _, _] ty26 rfl rfl (by first | rfl | exact OwS.one ho1) (Nat.lt_of_lt_of_le (Nat.lt_succ_self _) (Nat.le_of_ble_eq_true rfl)) rfl rfl ?_
 refine WL.nil (WE.then_normal (WC.sub (fr' := [(0, _), (1, _)]) ?_ ⟨rfl, rfl, trivial⟩))
 refine WC.seq (WC.seq (WC.region ?_))
 refine WL.q (oq_move rfl) rfl rfl rfl ?_
 refine WL.q (oq_move rfl) rfl rfl rfl ?_
 refine WL.q (oq_nilCheck rfl) rfl rfl rfl ?_
 refine WL.q (oq_fieldAddr fld56_1 rfl) rfl rfl rfl ?_
 refine WL.q (oq_load flat9 rfl (.head _) (List.mem_singleton.2 rfl) rfl) rfl rfl rfl ?_
 refine WL.q (oq_sneq rfl rfl) rfl rfl rfl ?_
 refine WL.q (oq_move rfl) rfl rfl rfl ?_
 refine WL.split 22 rfl (fun s2_6 => ?_) (fun s2_6 => ?_)
 ·
  try simp only [Z1, Z2, Z3, Z4, Z5, Z6, Z7, Z8, Z9, Z0] at s2_6
  refine WL.skip rfl rfl rfl ?_
  refine WL.skip rfl rfl rfl ?_
  refine WL.skip rfl rfl rfl ?_
  refine WL.skip rfl rfl rfl ?_
  refine WL.skip rfl rfl rfl ?_
  refine WL.q (oq_pick_t rfl rfl) rfl rfl rfl ?_
  refine WL.nil (WE.then_normal (WC.sub (fr' := [(0, _), (28, _)]) ?_ ⟨rfl, rfl, trivial⟩))
  refine WC.cond_t rfl ?_
  refine WC.seq (WC.region ?_)
  refine WL.q (oq_assign rfl) rfl rfl rfl ?_
  refine WL.q (oq_assign rfl) rfl rfl rfl ?_
  refine WL.nil (WE.then_normal (WC.sub (fr' := [(4, _), (5, _)]) ?_ ⟨rfl, rfl, trivial⟩))
  refine WC.ret (WE.then_ret ?_)
  refine WE.endW2 (.inl rfl) (res2 Tryz.results53 rfl rfl) ?_
  have hh : hit stop id = false := by unfold hit; first | (rw [decide_eq_false (by assumption)]; rfl) | (rw [show stop = [] from List.eq_nil_of_length_eq_zero (by assumption), decide_eq_true rfl, Bool.and_false]) | (simp_all; done)
  rw [hh]
  exact ⟨_, _, _, rfl, OwL.snoc ho1 rfl rfl, rfl, rfl⟩
 ·
  try simp only [Z1, Z2, Z3, Z4, Z5, Z6, Z7, Z8, Z9, Z0] at s2_6
  refine WL.q (oq_move rfl) rfl rfl rfl ?_
  refine WL.q (oq_nilCheck rfl) rfl rfl rfl ?_
  refine WL.q (oq_fieldAddr fld56_1 rfl) rfl rfl rfl ?_
  refine WL.q (oq_load flat9 rfl (.head _) (List.mem_singleton.2 rfl) rfl) rfl rfl rfl ?_
  refine WL.q (oq_seql rfl rfl) rfl rfl rfl ?_
  refine WL.q (oq_pick_f rfl rfl) rfl rfl rfl ?_
  refine WL.nil (WE.then_normal (WC.sub (fr' := [(0, _), (28, _)]) ?_ ⟨rfl, rfl, trivial⟩))
  refine WC.cond rfl (fun q2 => ?_) (fun q2 => ?_)
  ·
   try simp only [Z1, Z2, Z3, Z4, Z5, Z6, Z7, Z8, Z9, Z0] at q2
   refine WC.seq (WC.region ?_)
   refine WL.q (oq_assign rfl) rfl rfl rfl ?_
   refine WL.q (oq_assign rfl) rfl rfl rfl ?_
   refine WL.nil (WE.then_normal (WC.sub (fr' := [(4, _), (5, _)]) ?_ ⟨rfl, rfl, trivial⟩))
   refine WC.ret (WE.then_ret ?_)
   refine WE.endW2 (.inl rfl) (res2 Tryz.results53 rfl rfl) ?_
   have hh : hit stop id = false := by unfold hit; first | (rw [decide_eq_false (by assumption)]; rfl) | (rw [show stop = [] from List.eq_nil_of_length_eq_zero (by assumption), decide_eq_true rfl, Bool.and_false]) | (simp_all; done)
   rw [hh]
   exact ⟨_, _, _, rfl, OwL.snoc ho1 rfl rfl, rfl, rfl⟩
  ·
   try simp only [Z1, Z2, Z3, Z4, Z5, Z6, Z7, Z8, Z9, Z0] at q2
   refine WC.skip (WE.then_normal (WC.sub (fr' := [(0, _)]) ?_ ⟨rfl, trivial⟩))
   refine WC.seq (WC.seq (WC.region ?_))
   refine WL.q (oq_move rfl) rfl rfl rfl ?_
   refine WL.q (oq_nilCheck rfl) rfl rfl rfl ?_
   refine WL.q (oq_fieldAddr fld56_2 rfl) rfl rfl rfl ?_
   refine WL.q (oq_load flat4 rfl (.head _) (List.mem_singleton.2 rfl) rfl) rfl rfl rfl ?_
   refine WL.nil (WE.then_normal (WC.sub (fr' := [(32, _)]) ?_ ⟨rfl, trivial⟩))
   refine WC.cond rfl (fun q4 => ?_) (fun q4 => ?_)
   ·
    try simp only [Z1, Z2, Z3, Z4, Z5, Z6, Z7, Z8, Z9, Z0] at q4
    refine WC.seq (WC.region ?_)
    refine WL.callA0 (errNew _) call122 rfl rfl rfl fun v5_0 N5_0 hR5_0 hN5_0 => ?_
    obtain ⟨ek, eu, rfl⟩ := hR5_0
    refine WL.q (oq_assign rfl) rfl rfl rfl ?_
    refine WL.q (oq_assign rfl) rfl rfl rfl ?_
    refine WL.nil (WE.then_normal (WC.sub (fr' := [(4, _), (5, _)]) ?_ ⟨rfl, rfl, trivial⟩))
    refine WC.ret (WE.then_ret ?_)
    refine WE.forget hN5_0 ?_
    refine WE.endW2 (.inl rfl) (res2 Tryz.results53 rfl rfl) ?_
    have hh : hit stop id = true := by unfold hit; simp_all
    have hf : fail = true := by assumption
    rw [hh, hf]
    exact ⟨_, _, _, rfl, OwL.snoc ho1 rfl rfl, rfl, _, _, rfl⟩
   ·
    try simp only [Z1, Z2, Z3, Z4, Z5, Z6, Z7, Z8, Z9, Z0] at q4
    refine WC.skip (WE.then_normal (WC.sub (fr' := []) ?_ trivial))
    refine WC.seq (WC.region ?_)
    refine WL.q (oq_assign rfl) rfl rfl rfl ?_
    refine WL.q (oq_assign rfl) rfl rfl rfl ?_
    refine WL.nil (WE.then_normal (WC.sub (fr' := [(4, _), (5, _)]) ?_ ⟨rfl, rfl, trivial⟩))
    refine WC.ret ?_
    refine WE.endW2 (.inl rfl) (res2 Tryz.results53 rfl rfl) ?_
    have hh : hit stop id = true := by unfold hit; simp_all
    have hf : fail = false := by first | assumption | simp_all
    rw [hh, hf]
    exact ⟨_, _, _, rfl, OwL.snoc ho1 rfl rfl, rfl, rfl⟩
theorem leave (base cb : Nat) (lv : Value) (L : Hp) (l : List (List UInt8)) (stop : List UInt8) (fail : Bool) (ho : OwL base lv L l) (hl : l.length ≤ 100000) (id : List UInt8) (hi : id.length ≤ 100000) : FnW Tryz.prog 54 [Pt cb 0, S id] base [CS cb lv stop fail, L] (fun v Hs => ∃ lv1 L1, Hs = [CS cb lv1 stop fail, L1] ∧ OwL base lv1 L1 (l ++ [dash id]) ∧ v = .tuple #[]) := by
 refine FnW.enter (n := 15) Tryz.func54 rfl rfl fun w0 R0 hbase => ?_
 subst hbase
 show WC _ _ _ _ _ _ _ ([CS cb lv stop fail, L, R0])
 refine WC.sub (fr' := [(0, _), (1, _)]) ?_ ⟨rfl, rfl, trivial⟩
 refine WC.region ?_
 refine WL.q (oq_move rfl) rfl rfl rfl ?_
 refine WL.q (oq_move rfl) rfl rfl rfl ?_
 refine WL.q (oq_nilCheck rfl) rfl rfl rfl ?_
 refine WL.q (oq_fieldAddr fld56_0 rfl) rfl rfl rfl ?_
 refine WL.q (oq_load flat26 rfl (.head _) (List.mem_singleton.2 rfl) rfl) rfl rfl rfl ?_
 refine WL.q (oq_move rfl) rfl rfl rfl ?_
 refine WL.q (oq_concat rfl rfl (by (first | omega | (simp only [List.length_cons, List.length_nil, List.length_append, List.length_drop, List.length_take]; omega)))) rfl rfl rfl ?_
 refine WL.f1 ?_
 refine WL.append1 ho Tryz.underlying26 ty9 rfl (by decide) (fun _ => rfl) rfl rfl (by unfold maxLen; omega) (by omega) rfl rfl (fun _ => rfl) rfl fun v0 A0 u0 ho0 hne0 => ?_
 refine WL.q (oq_nilCheck rfl) rfl rfl rfl ?_
 refine WL.q (oq_fieldAddr fld56_0 rfl) rfl rfl rfl ?_
 refine WL.f1 ?_
 refine WL.store1 #[_, _, _] ty26 rfl rfl (by first | rfl | exact OwS.one ho0) (Nat.lt_of_lt_of_le (Nat.lt_succ_self _) (Nat.le_of_ble_eq_true rfl)) rfl rfl ?_
 refine WL.nil ?_
 refine WE.endW2 (.inr rfl) (res0 Tryz.results54) ?_
 exact ⟨_, _, rfl, OwL.snoc ho0 rfl rfl, rfl⟩
end SJ
end Go.Proofs.YtiegaefkahnfjaaGreat
