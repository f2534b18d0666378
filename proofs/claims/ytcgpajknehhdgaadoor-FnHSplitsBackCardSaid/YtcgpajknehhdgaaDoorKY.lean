/- The walk of the splitting of a text at its commas, with quotes. -/
import Derived.Test.YtcgpajknehhdgaaDoorKX
namespace Go.Proofs.YtcgpajknehhdgaaDoor
open Go Go.RowKit V KP KQ H1 H2 H0 KU KV KW KX L2 L1
set_option linter.unusedSimpArgs false
set_option linter.unusedVariables false
set_option maxRecDepth 10000
namespace KY
theorem call61 : Callable Tryd.prog 61 := ⟨_, Tryd.func61, rfl, by kernel_rfl⟩
theorem call82 : Callable Tryd.prog 82 := ⟨_, Tryd.func82, rfl, by kernel_rfl⟩
theorem call83 : Callable Tryd.prog 83 := ⟨_, Tryd.func83, rfl, by kernel_rfl⟩
theorem call84 : Callable Tryd.prog 84 := ⟨_, Tryd.func84, rfl, by kernel_rfl⟩
theorem call85 : Callable Tryd.prog 85 := ⟨_, Tryd.func85, rfl, by kernel_rfl⟩
theorem ty9 : Ty Tryd.prog 9 (S []) 1 16 := ty_of (by kernel_rfl)

def ix44 (s : List UInt8) : Int := if i44 s = s.length then -1 else (i44 s : Int)
theorem cut1 (s : List UInt8) (i : Nat) (h : i < s.length) : cut s (i : Int) ((i : Int) + 1) = [s[i]] := by
  have := cut_one s i h
  exact this
theorem cut1_44 (s : List UInt8) (i : Nat) (h : i < s.length) : (cut s (i : Int) ((i : Int) + 1) = [44] ↔ byteAt s i = 44) := by
  rw [cut1 s i h, byteAt_get s i h]
  constructor
  · intro e; have := List.cons.inj e; rw [this.1]; rfl
  · intro e; rw [UInt8.toNat_inj.1 (show s[i].toNat = (44 : UInt8).toNat by show s[i].toNat = 44; omega)]
theorem cj_step (t : List UInt8) (b : Bool) (j : Nat) (h : j < t.length) : cj b (t.drop j) = if byteAt t j = 92 ∨ b = true then cj (!b) (t.drop (j + 1)) + 1 else if byteAt t j = 34 then 0 else cj b (t.drop (j + 1)) + 1 := by
  rw [List.drop_eq_getElem_cons h, byteAt_get t j h, cj]
  have e1 : (((t[j].toNat : Nat) : Int) = 92 ↔ t[j] = 92) := ⟨fun e => UInt8.toNat_inj.1 (by show t[j].toNat = 92; omega), fun e => by rw [e]; rfl⟩
  have e2 : (((t[j].toNat : Nat) : Int) = 34 ↔ t[j] = 34) := ⟨fun e => UInt8.toNat_inj.1 (by show t[j].toNat = 34; omega), fun e => by rw [e]; rfl⟩
  simp only [e1, e2]
def QRes (o : Option (List (List UInt8))) (v : Value) (N : Hp) : Prop :=
  ∃ u e, v = .tuple #[u, e] ∧ (o.isSome = true → e = .nilIface ∧ OwS 0 9 1 u N (o.getD []).length (strsV (o.getD []))) ∧ (o.isSome = false → ∃ k x, e = .iface k x)
theorem qres_no {R : HR} {k : TypeId} {x u : Value} {N : Hp} {b : Bool} (h : R = (none, b)) : QRes R.1 (.tuple #[u, .iface k x]) N := ⟨_, _, rfl, fun h2 => by rw [h] at h2; (cases h2), fun _ => ⟨k, x, rfl⟩⟩
theorem qres_yes {R : HR} {l : List (List UInt8)} {b : Bool} {base m : Nat} {xs : List Value} {u : Value} {N : Hp} (h : R = (some l, b)) (ho : OwS base 9 1 u N m xs) (hx : xs = strsV l) : QRes R.1 (.tuple #[u, .nilIface]) N :=
  ⟨_, _, rfl, fun _ => ⟨rfl, by rw [h]; exact own_eq (ho.mono (Nat.zero_le _)) hx⟩, fun h2 => by rw [h] at h2; cases h2⟩
theorem drop44 (r : List UInt8) (k : Nat) (h : k < r.length) (hb : byteAt r k = 44) : r.drop k = 44 :: r.drop (k + 1) := by
  rw [List.drop_eq_getElem_cons h]
  rw [byteAt_get r k h] at hb
  rw [UInt8.toNat_inj.1 (show r[k].toNat = (44 : UInt8).toNat by show r[k].toNat = 44; omega)]
theorem dropn44 (r : List UInt8) (k : Nat) (h : k < r.length) (hb : byteAt r k ≠ 44) : ∃ d y, r.drop k = d :: y ∧ d ≠ 44 := by
  refine ⟨_, _, List.drop_eq_getElem_cons h, fun e => hb ?_⟩
  rw [byteAt_get r k h, e]; rfl
theorem blk44 {c : Int} (h : c = 44) : blk c = false := by rw [h]; decide
theorem pre_none {acc : List (List UInt8)} {b : Bool} : pre acc (none, b) = (none, b) := rfl
/-- given.example/pub-tinwright/pub/smithy/transport/http.zzIndex -/
theorem zzIndex44 (s : List UInt8) (hs : s.length ≤ 40000) : Fn0 Tryd.prog 85 [S s, S [44]] (I (ix44 s)) := by
  have h1 : (([44] : List UInt8).length : Int) = 1 := rfl
  refine Fn0.enter (n := 25) Tryd.func85 rfl rfl fun w0 => ?_
  refine WC.sub (fr' := [(0, _), (1, _)]) ?_ ⟨rfl, rfl, trivial⟩
  refine WC.seq ?_
  refine WC.region ?_
  refine WL.q (oq_assign rfl) rfl rfl rfl ?_
  refine WL.nil ?_
  refine WE.then_normal ?_
  refine WC.sub (fr' := [(0, _), (1, _)]) ?_ ⟨rfl, rfl, trivial⟩
  refine WC.seq ?_
  refine WC.seq ?_
  refine WC.region ?_
  refine WL.q (oq_assign rfl) rfl rfl rfl ?_
  refine WL.nil ?_
  refine WE.then_normal ?_
  refine WC.sub (fr' := [(0, _), (1, _), (5, _)]) ?_ ⟨rfl, rfl, rfl, trivial⟩
  refine WC.block ?_
  refine WC.loop (ι := Nat) (fun (i : Nat) => [(0, S s), (1, S [44]), (5, I (i : Int))]) (fun (i : Nat) => []) (fun (i : Nat) => i ≤ s.length ∧ i + i44 (s.drop i) = i44 s) (fun (i : Nat) => s.length - i) (0) ?_ ⟨rfl, rfl, rfl, trivial⟩ (List.Perm.refl _) ?_
  · try dsimp only
    exact ⟨by omega, by simp⟩
  · rintro i hp
    try dsimp only at hp
    obtain ⟨hi, hl⟩ := hp
    show WC _ _ _ _ _ _ ([(0, S s), (1, S [44]), (5, I (i : Int))]) ([])
    refine WC.seq ?_
    refine WC.seq ?_
    refine WC.region ?_
    refine WL.q (oq_move rfl) rfl rfl rfl ?_
    refine WL.q (oq_move rfl) rfl rfl rfl ?_
    refine WL.q (oq_len_s Tryd.underlying9 rfl) rfl rfl rfl ?_
    refine WL.q (oq_add rfl rfl (by rw [i64_lo, i64_hi]; (first | omega | (simp only [List.length_cons, List.length_nil, List.length_append, List.length_drop, List.length_take]; omega)))) rfl rfl rfl ?_
    refine WL.q (oq_move rfl) rfl rfl rfl ?_
    refine WL.q (oq_len_s Tryd.underlying9 rfl) rfl rfl rfl ?_
    refine WL.q (oq_leq rfl rfl) rfl rfl rfl ?_
    refine WL.nil ?_
    refine WE.then_normal ?_
    refine WC.sub (fr' := [(0, _), (1, _), (5, _), (12, _)]) ?_ ⟨rfl, rfl, rfl, rfl, trivial⟩
    refine WC.cond rfl (fun q2 => ?_) (fun q2 => ?_)
    ·
      try simp only [Bool.not_eq_eq_eq_not, Bool.not_true, Bool.not_false, decide_eq_true_eq, decide_eq_false_iff_not, Int.not_lt, Int.not_le, ne_eq, Decidable.not_not, ← List.length_eq_zero_iff] at q2
      refine WC.skip ?_
      refine WE.then_normal ?_
      refine WC.sub (fr' := [(0, _), (1, _), (5, _)]) ?_ ⟨rfl, rfl, rfl, trivial⟩
      refine WC.seq ?_
      refine WC.block ?_
      refine WC.seq ?_
      refine WC.region ?_
      refine WL.q (oq_move rfl) rfl rfl rfl ?_
      refine WL.q (oq_move rfl) rfl rfl rfl ?_
      refine WL.q (oq_move rfl) rfl rfl rfl ?_
      refine WL.q (oq_move rfl) rfl rfl rfl ?_
      refine WL.q (oq_len_s Tryd.underlying9 rfl) rfl rfl rfl ?_
      refine WL.q (oq_add rfl rfl (by rw [i64_lo, i64_hi]; (first | omega | (simp only [List.length_cons, List.length_nil, List.length_append, List.length_drop, List.length_take]; omega)))) rfl rfl rfl ?_
      refine WL.q (oq_slice_s2 Tryd.underlying9 rfl rfl rfl (by (first | omega | (simp only [List.length_cons, List.length_nil, List.length_append, List.length_drop, List.length_take]; omega)))) rfl rfl rfl ?_
      refine WL.q (oq_move rfl) rfl rfl rfl ?_
      refine WL.q (oq_seql rfl rfl) rfl rfl rfl ?_
      refine WL.nil ?_
      refine WE.then_normal ?_
      refine WC.sub (fr' := [(0, _), (1, _), (5, _), (23, _)]) ?_ ⟨rfl, rfl, rfl, rfl, trivial⟩
      refine WC.cond rfl (fun q4 => ?_) (fun q4 => ?_)
      ·
        try simp only [Bool.not_eq_eq_eq_not, Bool.not_true, Bool.not_false, decide_eq_true_eq, decide_eq_false_iff_not, Int.not_lt, Int.not_le, ne_eq, Decidable.not_not, ← List.length_eq_zero_iff] at q4
        refine WC.seq ?_
        refine WC.region ?_
        refine WL.q (oq_move rfl) rfl rfl rfl ?_
        refine WL.q (oq_assign rfl) rfl rfl rfl ?_
        refine WL.nil ?_
        refine WE.then_normal ?_
        refine WC.sub (fr' := [(4, _)]) ?_ ⟨rfl, trivial⟩
        refine WC.ret ?_
        refine WE.block_ret ?_
        refine WE.then_ret ?_
        refine WE.then_ret ?_
        refine WE.block_ret ?_
        refine WE.then_ret ?_
        refine WE.end0 (.inl rfl) (res1 Tryd.results85 rfl) ?_
        -- end 0
        have hst := i44_step s i (by omega)
        have q5 : cut s (i : Int) ((i : Int) + 1) = [44] := q4
        rw [if_pos ((cut1_44 s i (by omega)).1 q5)] at hst
        unfold ix44; rw [if_neg (by omega), show i = i44 s by omega]
      ·
        try simp only [Bool.not_eq_eq_eq_not, Bool.not_true, Bool.not_false, decide_eq_true_eq, decide_eq_false_iff_not, Int.not_lt, Int.not_le, ne_eq, Decidable.not_not, ← List.length_eq_zero_iff] at q4
        refine WC.skip ?_
        refine WE.block_normal ?_
        refine WE.then_normal ?_
        refine WC.sub (fr' := [(0, _), (1, _), (5, _)]) ?_ ⟨rfl, rfl, rfl, trivial⟩
        refine WC.region ?_
        refine WL.q (oq_move rfl) rfl rfl rfl ?_
        refine WL.q (oq_add rfl rfl (by rw [i64_lo, i64_hi]; (first | omega | (simp only [List.length_cons, List.length_nil, List.length_append, List.length_drop, List.length_take]; omega)))) rfl rfl rfl ?_
        refine WL.q (oq_assign rfl) rfl rfl rfl ?_
        refine WL.nil ?_
        have hst := i44_step s i (by omega)
        refine WE.again (i + 1) ?_ ?_ ⟨rfl, rfl, rfl, trivial⟩ (List.Perm.refl _)
        · try dsimp only   -- again 0
          have q5 : ¬ cut s (i : Int) ((i : Int) + 1) = [44] := q4
          rw [if_neg (fun e => q5 ((cut1_44 s i (by omega)).2 e))] at hst
          exact ⟨by omega, by omega⟩
        · (try dsimp only); omega
    ·
      try simp only [Bool.not_eq_eq_eq_not, Bool.not_true, Bool.not_false, decide_eq_true_eq, decide_eq_false_iff_not, Int.not_lt, Int.not_le, ne_eq, Decidable.not_not, ← List.length_eq_zero_iff] at q2
      refine WC.exit ?_
      refine WE.then_exit ?_
      refine WE.then_exit ?_
      refine WE.block_same ?_
      refine WE.then_normal ?_
      refine WC.sub (fr' := []) ?_ trivial
      refine WC.seq ?_
      refine WC.region ?_
      refine WL.q (oq_assign rfl) rfl rfl rfl ?_
      refine WL.nil ?_
      refine WE.then_normal ?_
      refine WC.sub (fr' := [(4, _)]) ?_ ⟨rfl, trivial⟩
      refine WC.ret ?_
      refine WE.end0 (.inl rfl) (res1 Tryd.results85 rfl) ?_
      -- end 1
      rw [List.drop_eq_nil_of_le (by omega)] at hl
      have h0 : i44 [] = 0 := rfl
      unfold ix44; rw [if_pos (by omega)]

/-- given.example/pub-tinwright/pub/smithy/transport/http.quotedCommaSplit -/
theorem quotedSplit (v : List UInt8) (hl : v.length ≤ 6000) (ha : Asc v) (hsd : (hpF (v.length + 1) (trim v)).2 = true) : FnA Tryd.prog 68 [S v] [] (QRes (hpF (v.length + 1) (trim v)).1) := by
  refine FnA.enter0 (n := 132) Tryd.func68 rfl rfl fun w0 => ?_
  refine WC.sub (fr' := [(0, _)]) ?_ ⟨rfl, trivial⟩
  refine WC.seq ?_
  refine WC.region ?_
  refine WL.q (oq_assign rfl) rfl rfl rfl ?_
  refine WL.q (oq_assign rfl) rfl rfl rfl ?_
  refine WL.nil ?_
  refine WE.then_normal ?_
  refine WC.sub (fr' := [(0, _), (2, _)]) ?_ ⟨rfl, rfl, trivial⟩
  refine WC.seq ?_
  refine WC.region ?_
  refine WL.q (oq_move rfl) rfl rfl rfl ?_
  refine WL.qc (oq_call (trimSpace _ (by (try simp only [List.length_take, List.length_drop]); omega) (by first | exact ha | exact asc_take (asc_drop haw _) _)) call82 rfl) rfl rfl rfl ?_
  refine WL.q (oq_assign rfl) rfl rfl rfl ?_
  refine WL.nil ?_
  refine WE.then_normal ?_
  refine WC.sub (fr' := [(0, _), (2, _)]) ?_ ⟨rfl, rfl, trivial⟩
  refine WC.seq ?_
  obtain ⟨w, hw⟩ : ∃ w, w = trim v := ⟨_, rfl⟩
  rw [← hw]
  rw [← hw] at hsd
  have haw : Asc w := by rw [hw]; exact asc_trim ha
  have hrw : Rt w := by rw [hw]; exact rt_of_trim v
  have hwl : w.length ≤ v.length := by rw [hw]; exact trim_len v
  refine WC.add0 ?_
  refine WC.region ?_
  refine WL.q (oq_assign rfl) rfl rfl rfl ?_
  refine WL.nil ?_
  refine WE.then_normal ?_
  refine WC.sub (fr' := [(0, _), (2, _), (4, _)]) ?_ ⟨rfl, rfl, rfl, trivial⟩
  refine WC.seq ?_
  refine WC.seq ?_
  refine WC.region ?_
  refine WL.q (oq_assign rfl) rfl rfl rfl ?_
  refine WL.nil ?_
  refine WE.then_normal ?_
  refine WC.sub (fr' := [(0, _), (2, _), (4, _), (5, _)]) ?_ ⟨rfl, rfl, rfl, rfl, trivial⟩
  refine WC.block ?_
  refine WC.loop (ι := Nat × (List (List UInt8)) × Bool × Nat × Value × Hp) (fun i_ => (fun (i : Nat) (acc : List (List UInt8)) (em : Bool) (f : Nat) (vw : Value) (B : Hp) => [(0, S w), (2, vw), (4, .bool em), (5, I (i : Int))]) i_.1 i_.2.1 i_.2.2.1 i_.2.2.2.1 i_.2.2.2.2.1 i_.2.2.2.2.2) (fun i_ => (fun (i : Nat) (acc : List (List UInt8)) (em : Bool) (f : Nat) (vw : Value) (B : Hp) => [B]) i_.1 i_.2.1 i_.2.2.1 i_.2.2.2.1 i_.2.2.2.2.1 i_.2.2.2.2.2) (fun i_ => (fun (i : Nat) (acc : List (List UInt8)) (em : Bool) (f : Nat) (vw : Value) (B : Hp) => acc.length ≤ i ∧ ((em = true ∧ i ≤ w.length ∧ hpF (v.length + 1) w = pre acc (hpF (f + 1) (w.drop i)) ∧ w.length - i ≤ f) ∨ (em = false ∧ w.length ≤ i ∧ i ≤ w.length + 1 ∧ hpF (v.length + 1) w = (some acc, true))) ∧ OwS w0.heap.size 9 1 vw B acc.length (strsV acc)) i_.1 i_.2.1 i_.2.2.1 i_.2.2.2.1 i_.2.2.2.2.1 i_.2.2.2.2.2) (fun i_ => (fun (i : Nat) (acc : List (List UInt8)) (em : Bool) (f : Nat) (vw : Value) (B : Hp) => w.length + 1 - i) i_.1 i_.2.1 i_.2.2.1 i_.2.2.2.1 i_.2.2.2.2.1 i_.2.2.2.2.2) ((0, [], true, v.length, _, _)) ?_ ⟨rfl, rfl, rfl, rfl, trivial⟩ (List.Perm.refl _) ?_
  · try dsimp only
    exact ⟨by simp, .inl ⟨rfl, by omega, by rw [List.drop_zero]; exact (pre_nil _).symm, by omega⟩, OwS.nil _ _ _⟩
  · rintro ⟨i, acc, em, f, vw, B⟩ hp
    try dsimp only at hp
    obtain ⟨hai, hor, ho⟩ := hp
    show WC _ _ _ _ _ _ ([(0, S w), (2, vw), (4, .bool em), (5, I (i : Int))]) ([B])
    refine WC.seq ?_
    refine WC.seq ?_
    refine WC.region ?_
    refine WL.q (oq_move rfl) rfl rfl rfl ?_
    refine WL.q (oq_move rfl) rfl rfl rfl ?_
    refine WL.q (oq_len_s Tryd.underlying9 rfl) rfl rfl rfl ?_
    refine WL.q (oq_lss rfl rfl) rfl rfl rfl ?_
    refine WL.nil ?_
    refine WE.then_normal ?_
    refine WC.sub (fr' := [(0, _), (2, _), (4, _), (5, _), (18, _)]) ?_ ⟨rfl, rfl, rfl, rfl, rfl, trivial⟩
    refine WC.cond rfl (fun q4 => ?_) (fun q4 => ?_)
    ·
      try simp only [Bool.not_eq_eq_eq_not, Bool.not_true, Bool.not_false, decide_eq_true_eq, decide_eq_false_iff_not, Int.not_lt, Int.not_le, ne_eq, Decidable.not_not, ← List.length_eq_zero_iff] at q4
      refine WC.skip ?_
      refine WE.then_normal ?_
      refine WC.sub (fr' := [(0, _), (2, _), (4, _), (5, _)]) ?_ ⟨rfl, rfl, rfl, rfl, trivial⟩
      refine WC.seq ?_
      refine WC.block ?_
      refine WC.seq ?_
      refine WC.seq ?_
      obtain ⟨hem, hi, htot, hif⟩ : em = true ∧ i ≤ w.length ∧ hpF (v.length + 1) w = pre acc (hpF (f + 1) (w.drop i)) ∧ w.length - i ≤ f := by
        rcases hor with h | h
        · exact h
        · omega
      have h128 := haw i (by omega)
      refine WC.region ?_
      refine WL.q (oq_move rfl) rfl rfl rfl ?_
      refine WL.q (oq_move rfl) rfl rfl rfl ?_
      refine WL.index_s Tryd.underlying9 rfl rfl (by (first | omega | (simp only [List.length_cons, List.length_nil, List.length_append, List.length_drop, List.length_take]; omega))) rfl rfl fun c6_2 hc6_2 hc6_2l hc6_2u => ?_
      refine WL.q (oq_conv Tryd.underlying5 Tryd.underlying21 rfl (by rw [i32_lo, i32_hi]; (first | omega | (simp only [List.length_cons, List.length_nil, List.length_append, List.length_drop, List.length_take]; omega)))) rfl rfl rfl ?_
      refine WL.qc (oq_call (isSpace _ (by omega) (by omega)) call83 rfl) rfl rfl rfl ?_
      refine WL.nil ?_
      refine WE.then_normal ?_
      refine WC.sub (fr' := [(0, _), (2, _), (4, _), (5, _), (25, _)]) ?_ ⟨rfl, rfl, rfl, rfl, rfl, trivial⟩
      refine WC.cond rfl (fun q6 => ?_) (fun q6 => ?_)
      ·
        try simp only [Bool.not_eq_eq_eq_not, Bool.not_true, Bool.not_false, decide_eq_true_eq, decide_eq_false_iff_not, Int.not_lt, Int.not_le, ne_eq, Decidable.not_not, ← List.length_eq_zero_iff] at q6
        refine WC.exit ?_
        refine WE.then_exit ?_
        refine WE.block_same ?_
        refine WE.then_normal ?_
        refine WC.sub (fr' := [(0, _), (2, _), (4, _), (5, _)]) ?_ ⟨rfl, rfl, rfl, rfl, trivial⟩
        refine WC.region ?_
        refine WL.q (oq_move rfl) rfl rfl rfl ?_
        refine WL.q (oq_add rfl rfl (by rw [i64_lo, i64_hi]; (first | omega | (simp only [List.length_cons, List.length_nil, List.length_append, List.length_drop, List.length_take]; omega)))) rfl rfl rfl ?_
        refine WL.q (oq_assign rfl) rfl rfl rfl ?_
        refine WL.nil ?_
        refine WE.again (i + 1, acc, em, f, _, _) ?_ ?_ ⟨rfl, rfl, rfl, rfl, trivial⟩ (List.Perm.refl _)
        · try dsimp only   -- again 0
          exact ⟨by omega, .inl ⟨hem, by omega, by rw [htot, hp_blank (trimL_drop w i (by omega) (by rw [← hc6_2]; exact q6)).symm], by omega⟩, ho⟩
        · (try dsimp only); omega
      ·
        try simp only [Bool.not_eq_eq_eq_not, Bool.not_true, Bool.not_false, decide_eq_true_eq, decide_eq_false_iff_not, Int.not_lt, Int.not_le, ne_eq, Decidable.not_not, ← List.length_eq_zero_iff] at q6
        refine WC.skip ?_
        refine WE.then_normal ?_
        refine WC.sub (fr' := [(0, _), (2, _), (5, _)]) ?_ ⟨rfl, rfl, rfl, trivial⟩
        refine WC.seq ?_
        refine WC.region ?_
        refine WL.q (oq_assign rfl) rfl rfl rfl ?_
        refine WL.nil ?_
        refine WE.then_normal ?_
        refine WC.sub (fr' := [(0, _), (2, _), (4, _), (5, _)]) ?_ ⟨rfl, rfl, rfl, rfl, trivial⟩
        refine WC.seq ?_
        refine WC.region ?_
        refine WL.q (oq_move rfl) rfl rfl rfl ?_
        refine WL.q (oq_move rfl) rfl rfl rfl ?_
        refine WL.q (oq_slice_s1 Tryd.underlying9 rfl rfl (by (first | omega | (simp only [List.length_cons, List.length_nil, List.length_append, List.length_drop, List.length_take]; omega)))) rfl rfl rfl ?_
        refine WL.q (oq_assign rfl) rfl rfl rfl ?_
        refine WL.nil ?_
        refine WE.then_normal ?_
        refine WC.sub (fr' := [(0, _), (2, _), (4, _), (5, _), (6, _)]) ?_ ⟨rfl, rfl, rfl, rfl, rfl, trivial⟩
        refine WC.seq ?_
        have hdi : List.drop ((i : Int)).toNat w = w.drop i := by rw [Int.toNat_natCast]
        rw [hdi]
        have htl : trimL (w.drop i) = w.drop i := trimL_at w i (by omega) (by rw [← hc6_2]; exact q6)
        have hwi : (w.drop i).length = w.length - i := List.length_drop
        refine WC.region ?_
        refine WL.q (oq_assign rfl) rfl rfl rfl ?_
        refine WL.nil ?_
        refine WE.then_normal ?_
        refine WC.sub (fr' := [(0, _), (2, _), (4, _), (5, _), (6, _)]) ?_ ⟨rfl, rfl, rfl, rfl, rfl, trivial⟩
        refine WC.seq ?_
        refine WC.region ?_
        refine WL.q (oq_assign rfl) rfl rfl rfl ?_
        refine WL.nil ?_
        refine WE.then_normal ?_
        refine WC.sub (fr' := [(0, _), (2, _), (4, _), (5, _), (6, _)]) ?_ ⟨rfl, rfl, rfl, rfl, rfl, trivial⟩
        refine WC.cut (ι := (List UInt8) × Nat × Bool) (fun i_ => (fun (val : List UInt8) (vl : Nat) (em4 : Bool) => [(0, S w), (2, vw), (4, .bool em4), (5, I (i : Int)), (7, S val), (8, I (vl : Int))]) i_.1 i_.2.1 i_.2.2) (fun i_ => (fun (val : List UInt8) (vl : Nat) (em4 : Bool) => [B]) i_.1 i_.2.1 i_.2.2) (fun i_ => (fun (val : List UInt8) (vl : Nat) (em4 : Bool) => (em4 = true ∧ i + vl < w.length ∧ hpF (v.length + 1) w = pre (acc ++ [val]) (hpF f (w.drop (i + vl + 1)))) ∨ (em4 = false ∧ w.length ≤ i + vl ∧ i + vl ≤ w.length ∧ hpF (v.length + 1) w = (some (acc ++ [val]), true))) i_.1 i_.2.1 i_.2.2) ?_ ?_
        ·
          refine WC.seq ?_
          refine WC.region ?_
          refine WL.q (oq_move rfl) rfl rfl rfl ?_
          refine WL.index_s Tryd.underlying9 rfl rfl (by (first | omega | (simp only [List.length_cons, List.length_nil, List.length_append, List.length_drop, List.length_take]; omega))) rfl rfl fun c11_1 hc11_1 hc11_1l hc11_1u => ?_
          refine WL.q (oq_eql rfl rfl) rfl rfl rfl ?_
          refine WL.nil ?_
          refine WE.then_normal ?_
          refine WC.sub (fr' := [(0, _), (2, _), (4, _), (5, _), (6, _), (31, _)]) ?_ ⟨rfl, rfl, rfl, rfl, rfl, rfl, trivial⟩
          refine WC.cond rfl (fun q11 => ?_) (fun q11 => ?_)
          ·
            try simp only [Bool.not_eq_eq_eq_not, Bool.not_true, Bool.not_false, decide_eq_true_eq, decide_eq_false_iff_not, Int.not_lt, Int.not_le, ne_eq, Decidable.not_not, ← List.length_eq_zero_iff] at q11
            refine WC.seq ?_
            obtain ⟨t, hut⟩ := head34 (t := w.drop i) (by omega) (by omega)
            rw [hut]
            rw [hut] at htl htot hwi
            have hll : (34 :: t).length = t.length + 1 := rfl
            refine WC.region ?_
            refine WL.q (oq_assign rfl) rfl rfl rfl ?_
            refine WL.nil ?_
            refine WE.then_normal ?_
            refine WC.sub (fr' := [(0, _), (2, _), (4, _), (5, _), (6, _), (9, _)]) ?_ ⟨rfl, rfl, rfl, rfl, rfl, rfl, trivial⟩
            refine WC.seq ?_
            refine WC.region ?_
            refine WL.q (oq_assign rfl) rfl rfl rfl ?_
            refine WL.nil ?_
            refine WE.then_normal ?_
            refine WC.sub (fr' := [(0, _), (2, _), (4, _), (5, _), (6, _), (9, _), (10, _)]) ?_ ⟨rfl, rfl, rfl, rfl, rfl, rfl, rfl, trivial⟩
            refine WC.cut (ι := Unit) (fun _ => [(0, S w), (2, vw), (4, .bool false), (5, I (i : Int)), (6, S (34 :: t)), (9, I ((cj false t + 1 : Nat) : Int))]) (fun _ => [B]) (fun _ => True) ?_ ?_
            ·
              refine WC.seq ?_
              refine WC.region ?_
              refine WL.q (oq_move rfl) rfl rfl rfl ?_
              refine WL.q (oq_add rfl rfl (by rw [i64_lo, i64_hi]; (first | omega | (simp only [List.length_cons, List.length_nil, List.length_append, List.length_drop, List.length_take]; omega)))) rfl rfl rfl ?_
              refine WL.q (oq_assign rfl) rfl rfl rfl ?_
              refine WL.nil ?_
              refine WE.then_normal ?_
              refine WC.sub (fr' := [(0, _), (2, _), (4, _), (5, _), (6, _), (9, _), (10, _)]) ?_ ⟨rfl, rfl, rfl, rfl, rfl, rfl, rfl, trivial⟩
              refine WC.block ?_
              refine WC.loop (ι := Nat × Bool) (fun i_ => (fun (j : Nat) (b : Bool) => [(0, S w), (2, vw), (4, .bool false), (5, I (i : Int)), (6, S (34 :: t)), (9, I ((j + 1 : Nat) : Int)), (10, .bool b)]) i_.1 i_.2) (fun i_ => (fun (j : Nat) (b : Bool) => [B]) i_.1 i_.2) (fun i_ => (fun (j : Nat) (b : Bool) => j ≤ t.length ∧ j + cj b (t.drop j) = cj false t) i_.1 i_.2) (fun i_ => (fun (j : Nat) (b : Bool) => t.length - j) i_.1 i_.2) ((0, false)) ?_ ⟨rfl, rfl, rfl, rfl, rfl, rfl, rfl, trivial⟩ (List.Perm.refl _) ?_
              · try dsimp only
                exact ⟨by omega, by simp⟩
              · rintro ⟨j, b⟩ hp
                try dsimp only at hp
                obtain ⟨hj, hcj⟩ := hp
                show WC _ _ _ _ _ _ ([(0, S w), (2, vw), (4, .bool false), (5, I (i : Int)), (6, S (34 :: t)), (9, I ((j + 1 : Nat) : Int)), (10, .bool b)]) ([B])
                refine WC.seq ?_
                refine WC.seq ?_
                refine WC.region ?_
                refine WL.q (oq_move rfl) rfl rfl rfl ?_
                refine WL.q (oq_move rfl) rfl rfl rfl ?_
                refine WL.q (oq_len_s Tryd.underlying9 rfl) rfl rfl rfl ?_
                refine WL.q (oq_lss rfl rfl) rfl rfl rfl ?_
                refine WL.nil ?_
                refine WE.then_normal ?_
                refine WC.sub (fr' := [(0, _), (2, _), (4, _), (5, _), (6, _), (9, _), (10, _), (37, _)]) ?_ ⟨rfl, rfl, rfl, rfl, rfl, rfl, rfl, rfl, trivial⟩
                refine WC.cond rfl (fun q15 => ?_) (fun q15 => ?_)
                ·
                  try simp only [Bool.not_eq_eq_eq_not, Bool.not_true, Bool.not_false, decide_eq_true_eq, decide_eq_false_iff_not, Int.not_lt, Int.not_le, ne_eq, Decidable.not_not, ← List.length_eq_zero_iff] at q15
                  refine WC.skip ?_
                  refine WE.then_normal ?_
                  refine WC.sub (fr' := [(0, _), (2, _), (4, _), (5, _), (6, _), (9, _), (10, _)]) ?_ ⟨rfl, rfl, rfl, rfl, rfl, rfl, rfl, trivial⟩
                  refine WC.seq ?_
                  refine WC.block ?_
                  refine WC.seq ?_
                  refine WC.seq ?_
                  have hst := cj_step t b j (by omega)
                  have hbt : byteAt (34 :: t) ((j + 1 : Nat) : Int) = byteAt t (j : Int) := rfl
                  refine WC.region ?_
                  refine WL.q (oq_move rfl) rfl rfl rfl ?_
                  refine WL.q (oq_move rfl) rfl rfl rfl ?_
                  refine WL.index_s Tryd.underlying9 rfl rfl (by (first | omega | (simp only [List.length_cons, List.length_nil, List.length_append, List.length_drop, List.length_take]; omega))) rfl rfl fun c17_2 hc17_2 hc17_2l hc17_2u => ?_
                  refine WL.q (oq_eql rfl rfl) rfl rfl rfl ?_
                  refine WL.q (oq_move rfl) rfl rfl rfl ?_
                  refine WL.split 44 rfl (fun s17_4 => ?_) (fun s17_4 => ?_)
                  ·
                    try simp only [Bool.not_eq_eq_eq_not, Bool.not_true, Bool.not_false, decide_eq_true_eq, decide_eq_false_iff_not, Int.not_lt, Int.not_le, ne_eq, Decidable.not_not, ← List.length_eq_zero_iff] at s17_4
                    refine WL.skip rfl rfl rfl ?_
                    refine WL.skip rfl rfl rfl ?_
                    refine WL.skip rfl rfl rfl ?_
                    refine WL.skip rfl rfl rfl ?_
                    refine WL.skip rfl rfl rfl ?_
                    refine WL.skip rfl rfl rfl ?_
                    refine WL.skip rfl rfl rfl ?_
                    refine WL.q (oq_pick_t rfl rfl) rfl rfl rfl ?_
                    refine WL.nil ?_
                    refine WE.then_normal ?_
                    refine WC.sub (fr' := [(0, _), (2, _), (4, _), (5, _), (6, _), (9, _), (10, _), (52, _)]) ?_ ⟨rfl, rfl, rfl, rfl, rfl, rfl, rfl, rfl, trivial⟩
                    refine WC.cond_t rfl ?_
                    refine WC.seq ?_
                    refine WC.region ?_
                    refine WL.q (oq_move rfl) rfl rfl rfl ?_
                    refine WL.q (oq_not rfl) rfl rfl rfl ?_
                    refine WL.q (oq_assign rfl) rfl rfl rfl ?_
                    refine WL.nil ?_
                    refine WE.then_normal ?_
                    refine WC.sub (fr' := [(0, _), (2, _), (4, _), (5, _), (6, _), (9, _), (10, _)]) ?_ ⟨rfl, rfl, rfl, rfl, rfl, rfl, rfl, trivial⟩
                    refine WC.exit ?_
                    refine WE.then_exit ?_
                    refine WE.block_same ?_
                    refine WE.then_normal ?_
                    refine WC.sub (fr' := [(0, _), (2, _), (4, _), (5, _), (6, _), (9, _), (10, _)]) ?_ ⟨rfl, rfl, rfl, rfl, rfl, rfl, rfl, trivial⟩
                    refine WC.region ?_
                    refine WL.q (oq_move rfl) rfl rfl rfl ?_
                    refine WL.q (oq_add rfl rfl (by rw [i64_lo, i64_hi]; (first | omega | (simp only [List.length_cons, List.length_nil, List.length_append, List.length_drop, List.length_take]; omega)))) rfl rfl rfl ?_
                    refine WL.q (oq_assign rfl) rfl rfl rfl ?_
                    refine WL.nil ?_
                    refine WE.again (j + 1, !b) ?_ ?_ ⟨rfl, rfl, rfl, rfl, rfl, rfl, rfl, trivial⟩ (List.Perm.refl _)
                    · try dsimp only   -- again 0
                      first | (rw [if_pos (.inl (by omega))] at hst; exact ⟨by omega, by omega⟩) | (rw [if_pos (.inr q17)] at hst; exact ⟨by omega, by omega⟩) | (rw [if_neg (fun h => h.elim (fun h => by omega) (fun h => by rw [q17] at h; cases h)), if_neg (by omega)] at hst; exact ⟨by omega, by omega⟩)
                    · (try dsimp only); omega
                  ·
                    try simp only [Bool.not_eq_eq_eq_not, Bool.not_true, Bool.not_false, decide_eq_true_eq, decide_eq_false_iff_not, Int.not_lt, Int.not_le, ne_eq, Decidable.not_not, ← List.length_eq_zero_iff] at s17_4
                    refine WL.q (oq_move rfl) rfl rfl rfl ?_
                    refine WL.q (oq_move rfl) rfl rfl rfl ?_
                    refine WL.index_s Tryd.underlying9 rfl rfl (by (first | omega | (simp only [List.length_cons, List.length_nil, List.length_append, List.length_drop, List.length_take]; omega))) rfl rfl fun c17_7 hc17_7 hc17_7l hc17_7u => ?_
                    refine WL.q (oq_neq rfl rfl) rfl rfl rfl ?_
                    refine WL.q (oq_move rfl) rfl rfl rfl ?_
                    refine WL.split 49 rfl (fun s17_9 => ?_) (fun s17_9 => ?_)
                    ·
                      try simp only [Bool.not_eq_eq_eq_not, Bool.not_true, Bool.not_false, decide_eq_true_eq, decide_eq_false_iff_not, Int.not_lt, Int.not_le, ne_eq, Decidable.not_not, ← List.length_eq_zero_iff] at s17_9
                      refine WL.q (oq_move rfl) rfl rfl rfl ?_
                      refine WL.q (oq_pick_t rfl rfl) rfl rfl rfl ?_
                      refine WL.q (oq_pick_f rfl rfl) rfl rfl rfl ?_
                      refine WL.nil ?_
                      refine WE.then_normal ?_
                      refine WC.sub (fr' := [(0, _), (2, _), (4, _), (5, _), (6, _), (9, _), (10, _), (52, _)]) ?_ ⟨rfl, rfl, rfl, rfl, rfl, rfl, rfl, rfl, trivial⟩
                      refine WC.cond rfl (fun q17 => ?_) (fun q17 => ?_)
                      ·
                        try simp only [Bool.not_eq_eq_eq_not, Bool.not_true, Bool.not_false, decide_eq_true_eq, decide_eq_false_iff_not, Int.not_lt, Int.not_le, ne_eq, Decidable.not_not, ← List.length_eq_zero_iff] at q17
                        refine WC.seq ?_
                        refine WC.region ?_
                        refine WL.q (oq_move rfl) rfl rfl rfl ?_
                        refine WL.q (oq_not rfl) rfl rfl rfl ?_
                        refine WL.q (oq_assign rfl) rfl rfl rfl ?_
                        refine WL.nil ?_
                        refine WE.then_normal ?_
                        refine WC.sub (fr' := [(0, _), (2, _), (4, _), (5, _), (6, _), (9, _), (10, _)]) ?_ ⟨rfl, rfl, rfl, rfl, rfl, rfl, rfl, trivial⟩
                        refine WC.exit ?_
                        refine WE.then_exit ?_
                        refine WE.block_same ?_
                        refine WE.then_normal ?_
                        refine WC.sub (fr' := [(0, _), (2, _), (4, _), (5, _), (6, _), (9, _), (10, _)]) ?_ ⟨rfl, rfl, rfl, rfl, rfl, rfl, rfl, trivial⟩
                        refine WC.region ?_
                        refine WL.q (oq_move rfl) rfl rfl rfl ?_
                        refine WL.q (oq_add rfl rfl (by rw [i64_lo, i64_hi]; (first | omega | (simp only [List.length_cons, List.length_nil, List.length_append, List.length_drop, List.length_take]; omega)))) rfl rfl rfl ?_
                        refine WL.q (oq_assign rfl) rfl rfl rfl ?_
                        refine WL.nil ?_
                        refine WE.again (j + 1, !b) ?_ ?_ ⟨rfl, rfl, rfl, rfl, rfl, rfl, rfl, trivial⟩ (List.Perm.refl _)
                        · try dsimp only   -- again 1
                          first | (rw [if_pos (.inl (by omega))] at hst; exact ⟨by omega, by omega⟩) | (rw [if_pos (.inr q17)] at hst; exact ⟨by omega, by omega⟩) | (rw [if_neg (fun h => h.elim (fun h => by omega) (fun h => by rw [q17] at h; cases h)), if_neg (by omega)] at hst; exact ⟨by omega, by omega⟩)
                        · (try dsimp only); omega
                      ·
                        try simp only [Bool.not_eq_eq_eq_not, Bool.not_true, Bool.not_false, decide_eq_true_eq, decide_eq_false_iff_not, Int.not_lt, Int.not_le, ne_eq, Decidable.not_not, ← List.length_eq_zero_iff] at q17
                        refine WC.skip ?_
                        refine WE.then_normal ?_
                        refine WC.sub (fr' := [(0, _), (2, _), (4, _), (5, _), (6, _), (9, _), (10, _)]) ?_ ⟨rfl, rfl, rfl, rfl, rfl, rfl, rfl, trivial⟩
                        refine WC.seq ?_
                        refine WC.region ?_
                        refine WL.q (oq_move rfl) rfl rfl rfl ?_
                        refine WL.q (oq_move rfl) rfl rfl rfl ?_
                        refine WL.index_s Tryd.underlying9 rfl rfl (by (first | omega | (simp only [List.length_cons, List.length_nil, List.length_append, List.length_drop, List.length_take]; omega))) rfl rfl fun c19_2 hc19_2 hc19_2l hc19_2u => ?_
                        refine WL.q (oq_eql rfl rfl) rfl rfl rfl ?_
                        refine WL.nil ?_
                        refine WE.then_normal ?_
                        refine WC.sub (fr' := [(0, _), (2, _), (4, _), (5, _), (6, _), (9, _), (10, _), (58, _)]) ?_ ⟨rfl, rfl, rfl, rfl, rfl, rfl, rfl, rfl, trivial⟩
                        refine WC.cond rfl (fun q19 => ?_) (fun q19 => ?_)
                        ·
                          try simp only [Bool.not_eq_eq_eq_not, Bool.not_true, Bool.not_false, decide_eq_true_eq, decide_eq_false_iff_not, Int.not_lt, Int.not_le, ne_eq, Decidable.not_not, ← List.length_eq_zero_iff] at q19
                          refine WC.exit ?_
                          refine WE.block_other rfl ?_
                          refine WE.then_exit ?_
                          refine WE.then_exit ?_
                          refine WE.block_same ?_
                          refine WE.meet () ?_ ⟨rfl, rfl, rfl, rfl, rfl, (gtv rfl (by exact congrArg (Value.int .i64) (by first | omega | (rw [if_neg (fun h => h.elim (fun h => by omega) (fun h => by rw [q17] at h; cases h)), if_pos (by omega)] at hst; omega) | (rw [List.drop_eq_nil_of_le (by omega)] at hcj; have h0 : cj b [] = 0 := (by cases b <;> rfl); omega)))), trivial⟩ (List.Perm.refl _)
                          try dsimp only
                          all_goals trivial   -- meet 0
                        ·
                          try simp only [Bool.not_eq_eq_eq_not, Bool.not_true, Bool.not_false, decide_eq_true_eq, decide_eq_false_iff_not, Int.not_lt, Int.not_le, ne_eq, Decidable.not_not, ← List.length_eq_zero_iff] at q19
                          refine WC.skip ?_
                          refine WE.block_normal ?_
                          refine WE.then_normal ?_
                          refine WC.sub (fr' := [(0, _), (2, _), (4, _), (5, _), (6, _), (9, _), (10, _)]) ?_ ⟨rfl, rfl, rfl, rfl, rfl, rfl, rfl, trivial⟩
                          refine WC.region ?_
                          refine WL.q (oq_move rfl) rfl rfl rfl ?_
                          refine WL.q (oq_add rfl rfl (by rw [i64_lo, i64_hi]; (first | omega | (simp only [List.length_cons, List.length_nil, List.length_append, List.length_drop, List.length_take]; omega)))) rfl rfl rfl ?_
                          refine WL.q (oq_assign rfl) rfl rfl rfl ?_
                          refine WL.nil ?_
                          refine WE.again (j + 1, b) ?_ ?_ ⟨rfl, rfl, rfl, rfl, rfl, rfl, rfl, trivial⟩ (List.Perm.refl _)
                          · try dsimp only   -- again 2
                            first | (rw [if_pos (.inl (by omega))] at hst; exact ⟨by omega, by omega⟩) | (rw [if_pos (.inr q17)] at hst; exact ⟨by omega, by omega⟩) | (rw [if_neg (fun h => h.elim (fun h => by omega) (fun h => by rw [q17] at h; cases h)), if_neg (by omega)] at hst; exact ⟨by omega, by omega⟩)
                          · (try dsimp only); omega
                    ·
                      try simp only [Bool.not_eq_eq_eq_not, Bool.not_true, Bool.not_false, decide_eq_true_eq, decide_eq_false_iff_not, Int.not_lt, Int.not_le, ne_eq, Decidable.not_not, ← List.length_eq_zero_iff] at s17_9
                      refine WL.skip rfl rfl rfl ?_
                      refine WL.q (oq_pick_f rfl rfl) rfl rfl rfl ?_
                      refine WL.q (oq_pick_f rfl rfl) rfl rfl rfl ?_
                      refine WL.nil ?_
                      refine WE.then_normal ?_
                      refine WC.sub (fr' := [(0, _), (2, _), (4, _), (5, _), (6, _), (9, _), (10, _), (52, _)]) ?_ ⟨rfl, rfl, rfl, rfl, rfl, rfl, rfl, rfl, trivial⟩
                      refine WC.cond_f rfl ?_
                      refine WC.skip ?_
                      refine WE.then_normal ?_
                      refine WC.sub (fr' := [(0, _), (2, _), (4, _), (5, _), (6, _), (9, _), (10, _)]) ?_ ⟨rfl, rfl, rfl, rfl, rfl, rfl, rfl, trivial⟩
                      refine WC.seq ?_
                      refine WC.region ?_
                      refine WL.q (oq_move rfl) rfl rfl rfl ?_
                      refine WL.q (oq_move rfl) rfl rfl rfl ?_
                      refine WL.index_s Tryd.underlying9 rfl rfl (by (first | omega | (simp only [List.length_cons, List.length_nil, List.length_append, List.length_drop, List.length_take]; omega))) rfl rfl fun c19_2 hc19_2 hc19_2l hc19_2u => ?_
                      refine WL.q (oq_eql rfl rfl) rfl rfl rfl ?_
                      refine WL.nil ?_
                      refine WE.then_normal ?_
                      refine WC.sub (fr' := [(0, _), (2, _), (4, _), (5, _), (6, _), (9, _), (10, _), (58, _)]) ?_ ⟨rfl, rfl, rfl, rfl, rfl, rfl, rfl, rfl, trivial⟩
                      refine WC.cond rfl (fun q19 => ?_) (fun q19 => ?_)
                      ·
                        try simp only [Bool.not_eq_eq_eq_not, Bool.not_true, Bool.not_false, decide_eq_true_eq, decide_eq_false_iff_not, Int.not_lt, Int.not_le, ne_eq, Decidable.not_not, ← List.length_eq_zero_iff] at q19
                        refine WC.exit ?_
                        refine WE.block_other rfl ?_
                        refine WE.then_exit ?_
                        refine WE.then_exit ?_
                        refine WE.block_same ?_
                        refine WE.meet () ?_ ⟨rfl, rfl, rfl, rfl, rfl, (gtv rfl (by exact congrArg (Value.int .i64) (by first | omega | (rw [if_neg (fun h => h.elim (fun h => by omega) (fun h => by rw [q17] at h; cases h)), if_pos (by omega)] at hst; omega) | (rw [List.drop_eq_nil_of_le (by omega)] at hcj; have h0 : cj b [] = 0 := (by cases b <;> rfl); omega)))), trivial⟩ (List.Perm.refl _)
                        try dsimp only
                        all_goals trivial   -- meet 1
                      ·
                        try simp only [Bool.not_eq_eq_eq_not, Bool.not_true, Bool.not_false, decide_eq_true_eq, decide_eq_false_iff_not, Int.not_lt, Int.not_le, ne_eq, Decidable.not_not, ← List.length_eq_zero_iff] at q19
                        refine WC.skip ?_
                        refine WE.block_normal ?_
                        refine WE.then_normal ?_
                        refine WC.sub (fr' := [(0, _), (2, _), (4, _), (5, _), (6, _), (9, _), (10, _)]) ?_ ⟨rfl, rfl, rfl, rfl, rfl, rfl, rfl, trivial⟩
                        refine WC.region ?_
                        refine WL.q (oq_move rfl) rfl rfl rfl ?_
                        refine WL.q (oq_add rfl rfl (by rw [i64_lo, i64_hi]; (first | omega | (simp only [List.length_cons, List.length_nil, List.length_append, List.length_drop, List.length_take]; omega)))) rfl rfl rfl ?_
                        refine WL.q (oq_assign rfl) rfl rfl rfl ?_
                        refine WL.nil ?_
                        refine WE.again (_, _) ?_ ?_ ⟨rfl, rfl, rfl, rfl, rfl, rfl, rfl, trivial⟩ (List.Perm.refl _)
                        · try dsimp only   -- again 3
                          first | (rw [if_pos (.inl (by omega))] at hst; exact ⟨by omega, by omega⟩) | (rw [if_pos (.inr q17)] at hst; exact ⟨by omega, by omega⟩) | (rw [if_neg (fun h => h.elim (fun h => by omega) (fun h => by rw [q17] at h; cases h)), if_neg (by omega)] at hst; exact ⟨by omega, by omega⟩)
                        · (try dsimp only); omega
                ·
                  try simp only [Bool.not_eq_eq_eq_not, Bool.not_true, Bool.not_false, decide_eq_true_eq, decide_eq_false_iff_not, Int.not_lt, Int.not_le, ne_eq, Decidable.not_not, ← List.length_eq_zero_iff] at q15
                  refine WC.exit ?_
                  refine WE.then_exit ?_
                  refine WE.then_exit ?_
                  refine WE.block_same ?_
                  refine WE.meet () ?_ ⟨rfl, rfl, rfl, rfl, rfl, (gtv rfl (by exact congrArg (Value.int .i64) (by first | omega | (rw [if_neg (fun h => h.elim (fun h => by omega) (fun h => by rw [q17] at h; cases h)), if_pos (by omega)] at hst; omega) | (rw [List.drop_eq_nil_of_le (by omega)] at hcj; have h0 : cj b [] = 0 := (by cases b <;> rfl); omega)))), trivial⟩ (List.Perm.refl _)
                  try dsimp only
                  all_goals trivial   -- meet 2
            · rintro _ hp
              try dsimp only at hp
              show WC _ _ _ _ _ _ ([(0, S w), (2, vw), (4, .bool false), (5, I (i : Int)), (6, S (34 :: t)), (9, I ((cj false t + 1 : Nat) : Int))]) ([B])
              have hqc := hq_cj t.length t (Nat.le_refl _)
              refine WC.seq ?_
              refine WC.seq ?_
              refine WC.region ?_
              refine WL.q (oq_move rfl) rfl rfl rfl ?_
              refine WL.q (oq_move rfl) rfl rfl rfl ?_
              refine WL.q (oq_len_s Tryd.underlying9 rfl) rfl rfl rfl ?_
              refine WL.q (oq_eql rfl rfl) rfl rfl rfl ?_
              refine WL.q (oq_move rfl) rfl rfl rfl ?_
              refine WL.split 63 rfl (fun s20_4 => ?_) (fun s20_4 => ?_)
              ·
                try simp only [Bool.not_eq_eq_eq_not, Bool.not_true, Bool.not_false, decide_eq_true_eq, decide_eq_false_iff_not, Int.not_lt, Int.not_le, ne_eq, Decidable.not_not, ← List.length_eq_zero_iff] at s20_4
                refine WL.skip rfl rfl rfl ?_
                refine WL.skip rfl rfl rfl ?_
                refine WL.q (oq_pick_t rfl rfl) rfl rfl rfl ?_
                refine WL.nil ?_
                refine WE.then_normal ?_
                refine WC.sub (fr' := [(0, _), (2, _), (4, _), (5, _), (6, _), (9, _), (66, _)]) ?_ ⟨rfl, rfl, rfl, rfl, rfl, rfl, rfl, trivial⟩
                refine WC.cond_t rfl ?_
                refine WC.seq ?_
                refine WC.region ?_
                refine WL.callA0 (errNew _) call61 rfl rfl rfl fun v21_0 N21_0 hR21_0 hN21_0 => ?_
                obtain ⟨ek, ex, rfl⟩ := hR21_0
                refine WL.q (oq_assign rfl) rfl rfl rfl ?_
                refine WL.q (oq_assign rfl) rfl rfl rfl ?_
                refine WL.nil ?_
                refine WE.then_normal ?_
                refine WC.sub (fr' := [(2, _), (3, _)]) ?_ ⟨rfl, rfl, trivial⟩
                refine WC.ret ?_
                refine WE.then_ret ?_
                refine WE.then_ret ?_
                refine WE.block_ret ?_
                refine WE.then_ret ?_
                refine WE.then_ret ?_
                refine WE.block_ret ?_
                refine WE.then_ret ?_
                refine WE.forget hN21_0 ?_
                refine WE.forget ho.fresh ?_
                refine WE.add0 ?_
                refine WE.endA0 (.inl rfl) (res2 Tryd.results68 rfl rfl) ?_ fresh0
                -- end 0
                have hx : (hq t).2.1 = none := by
                  rcases hqc with ⟨h, _⟩ | ⟨x, _, h2, _⟩
                  · exact h
                  · omega
                exact qres_no (by rw [htot, hp_q0 htl hx]; rfl)
              ·
                try simp only [Bool.not_eq_eq_eq_not, Bool.not_true, Bool.not_false, decide_eq_true_eq, decide_eq_false_iff_not, Int.not_lt, Int.not_le, ne_eq, Decidable.not_not, ← List.length_eq_zero_iff] at s20_4
                refine WL.q (oq_move rfl) rfl rfl rfl ?_
                refine WL.q (oq_eql rfl rfl) rfl rfl rfl ?_
                refine WL.q (oq_pick_f rfl rfl) rfl rfl rfl ?_
                refine WL.nil ?_
                refine WE.then_normal ?_
                refine WC.sub (fr' := [(0, _), (2, _), (4, _), (5, _), (6, _), (9, _), (66, _)]) ?_ ⟨rfl, rfl, rfl, rfl, rfl, rfl, rfl, trivial⟩
                refine WC.cond rfl (fun q20 => ?_) (fun q20 => ?_)
                ·
                  try simp only [Bool.not_eq_eq_eq_not, Bool.not_true, Bool.not_false, decide_eq_true_eq, decide_eq_false_iff_not, Int.not_lt, Int.not_le, ne_eq, Decidable.not_not, ← List.length_eq_zero_iff] at q20
                  refine WC.seq ?_
                  refine WC.region ?_
                  refine WL.callA0 (errNew _) call61 rfl rfl rfl fun v21_0 N21_0 hR21_0 hN21_0 => ?_
                  obtain ⟨ek, ex, rfl⟩ := hR21_0
                  refine WL.q (oq_assign rfl) rfl rfl rfl ?_
                  refine WL.q (oq_assign rfl) rfl rfl rfl ?_
                  refine WL.nil ?_
                  refine WE.then_normal ?_
                  refine WC.sub (fr' := [(2, _), (3, _)]) ?_ ⟨rfl, rfl, trivial⟩
                  refine WC.ret ?_
                  refine WE.then_ret ?_
                  refine WE.then_ret ?_
                  refine WE.block_ret ?_
                  refine WE.then_ret ?_
                  refine WE.then_ret ?_
                  refine WE.block_ret ?_
                  refine WE.then_ret ?_
                  refine WE.forget hN21_0 ?_
                  refine WE.forget ho.fresh ?_
                  refine WE.add0 ?_
                  refine WE.endA0 (.inl rfl) (res2 Tryd.results68 rfl rfl) ?_ fresh0
                  -- end 1
                  rcases hqc with ⟨hx, _⟩ | ⟨x, hx, _, _, _, h5⟩
                  · exact qres_no (by rw [htot, hp_q0 htl hx]; rfl)
                  · exact qres_no (by rw [htot, hp_q1 htl hx (.inl (h5.2 (by omega)))]; rfl)
                ·
                  try simp only [Bool.not_eq_eq_eq_not, Bool.not_true, Bool.not_false, decide_eq_true_eq, decide_eq_false_iff_not, Int.not_lt, Int.not_le, ne_eq, Decidable.not_not, ← List.length_eq_zero_iff] at q20
                  refine WC.skip ?_
                  refine WE.then_normal ?_
                  refine WC.sub (fr' := [(0, _), (2, _), (4, _), (5, _), (6, _), (9, _)]) ?_ ⟨rfl, rfl, rfl, rfl, rfl, rfl, trivial⟩
                  refine WC.seq ?_
                  obtain ⟨r, hr1, hcl, hdr, hq0, hoe⟩ : ∃ r, (hq t).2.1 = some r ∧ cj false t < t.length ∧ t.drop (cj false t) = 34 :: r ∧ hq (t.take (cj false t) ++ [34]) = ((hq t).1, some [], (hq t).2.2) ∧ ((hq t).1 = [] ↔ cj false t = 0) := by
                    rcases hqc with ⟨_, h⟩ | h
                    · omega
                    · exact h
                  have hne : ¬ (hq t).1 = [] := fun e => by have := hoe.1 e; omega
                  have hop : (hq t).2.2 = false := by
                    cases ho2 : (hq t).2.2 with
                    | false => rfl
                    | true => rw [htot, hp_q1 htl hr1 (.inr ho2), ho2] at hsd; cases hsd
                  have hq1 : hq (t.take (cj false t) ++ [34]) = ((hq t).1, some [], false) := by rw [hq0, hop]
                  have hrd : t.drop (cj false t + 1) = r := by rw [← List.drop_drop, hdr]; rfl
                  have hrl : r.length + cj false t + 1 = t.length := by have := congrArg List.length hdr; rw [List.length_drop, List.length_cons] at this; omega
                  have hat : Asc t := (asc_cons (c := 34) (by rw [← hut]; exact asc_drop haw i)).2
                  have har : Asc r := by rw [← hrd]; exact asc_drop hat _
                  refine WC.region ?_
                  refine WL.q (oq_move rfl) rfl rfl rfl ?_
                  refine WL.q (oq_add rfl rfl (by rw [i64_lo, i64_hi]; (first | omega | (simp only [List.length_cons, List.length_nil, List.length_append, List.length_drop, List.length_take]; omega)))) rfl rfl rfl ?_
                  refine WL.q (oq_assign rfl) rfl rfl rfl ?_
                  refine WL.nil ?_
                  refine WE.then_normal ?_
                  refine WC.sub (fr' := [(0, _), (2, _), (4, _), (5, _), (6, _), (8, _)]) ?_ ⟨rfl, rfl, rfl, rfl, rfl, rfl, trivial⟩
                  refine WC.seq ?_
                  refine WC.region ?_
                  refine WL.q (oq_move rfl) rfl rfl rfl ?_
                  refine WL.q (oq_move rfl) rfl rfl rfl ?_
                  refine WL.q (oq_slice_s1 Tryd.underlying9 rfl rfl (by (first | omega | (simp only [List.length_cons, List.length_nil, List.length_append, List.length_drop, List.length_take]; omega)))) rfl rfl rfl ?_
                  refine WL.q (oq_assign rfl) rfl rfl rfl ?_
                  refine WL.nil ?_
                  refine WE.then_normal ?_
                  refine WC.sub (fr' := [(0, _), (2, _), (4, _), (5, _), (6, _), (8, _), (11, _)]) ?_ ⟨rfl, rfl, rfl, rfl, rfl, rfl, rfl, trivial⟩
                  refine WC.seq ?_
                  have hd24 : List.drop (((cj false t + 1 : Nat) : Int) + 1).toNat (34 :: t) = r := by rw [show (((cj false t + 1 : Nat) : Int) + 1).toNat = cj false t + 1 + 1 by omega]; exact hrd
                  rw [hd24]
                  refine WC.region ?_
                  refine WL.q (oq_assign rfl) rfl rfl rfl ?_
                  refine WL.nil ?_
                  refine WE.then_normal ?_
                  refine WC.sub (fr' := [(0, _), (2, _), (4, _), (5, _), (6, _), (8, _), (11, _), (12, _)]) ?_ ⟨rfl, rfl, rfl, rfl, rfl, rfl, rfl, rfl, trivial⟩
                  refine WC.cut (ι := Nat × Bool) (fun i_ => (fun (k : Nat) (em2 : Bool) => [(0, S w), (2, vw), (4, .bool em2), (5, I (i : Int)), (6, S (34 :: t)), (8, I ((cj false t + 2 : Nat) : Int)), (12, I (k : Int))]) i_.1 i_.2) (fun i_ => (fun (k : Nat) (em2 : Bool) => [B]) i_.1 i_.2) (fun i_ => (fun (k : Nat) (em2 : Bool) => (em2 = false ∧ k = r.length ∧ trimL r = []) ∨ (em2 = true ∧ k < r.length ∧ trimL r = 44 :: r.drop (k + 1))) i_.1 i_.2) ?_ ?_
                  ·
                    refine WC.block ?_
                    refine WC.loop (ι := Nat) (fun (k : Nat) => [(0, S w), (2, vw), (4, .bool false), (5, I (i : Int)), (6, S (34 :: t)), (8, I ((cj false t + 2 : Nat) : Int)), (11, S r), (12, I (k : Int))]) (fun (k : Nat) => [B]) (fun (k : Nat) => k ≤ r.length ∧ ∀ m : Nat, m < k → blk (byteAt r m) = true) (fun (k : Nat) => r.length - k) (0) ?_ ⟨rfl, rfl, rfl, rfl, rfl, rfl, rfl, rfl, trivial⟩ (List.Perm.refl _) ?_
                    · try dsimp only
                      exact ⟨by omega, fun m hm => by omega⟩
                    · rintro k hp
                      try dsimp only at hp
                      obtain ⟨hk, hkb⟩ := hp
                      show WC _ _ _ _ _ _ ([(0, S w), (2, vw), (4, .bool false), (5, I (i : Int)), (6, S (34 :: t)), (8, I ((cj false t + 2 : Nat) : Int)), (11, S r), (12, I (k : Int))]) ([B])
                      refine WC.seq ?_
                      refine WC.seq ?_
                      refine WC.region ?_
                      refine WL.q (oq_move rfl) rfl rfl rfl ?_
                      refine WL.q (oq_move rfl) rfl rfl rfl ?_
                      refine WL.q (oq_len_s Tryd.underlying9 rfl) rfl rfl rfl ?_
                      refine WL.q (oq_lss rfl rfl) rfl rfl rfl ?_
                      refine WL.nil ?_
                      refine WE.then_normal ?_
                      refine WC.sub (fr' := [(0, _), (2, _), (4, _), (5, _), (6, _), (8, _), (11, _), (12, _), (76, _)]) ?_ ⟨rfl, rfl, rfl, rfl, rfl, rfl, rfl, rfl, rfl, trivial⟩
                      refine WC.cond rfl (fun q25 => ?_) (fun q25 => ?_)
                      ·
                        try simp only [Bool.not_eq_eq_eq_not, Bool.not_true, Bool.not_false, decide_eq_true_eq, decide_eq_false_iff_not, Int.not_lt, Int.not_le, ne_eq, Decidable.not_not, ← List.length_eq_zero_iff] at q25
                        refine WC.skip ?_
                        refine WE.then_normal ?_
                        refine WC.sub (fr' := [(0, _), (2, _), (4, _), (5, _), (6, _), (8, _), (11, _), (12, _)]) ?_ ⟨rfl, rfl, rfl, rfl, rfl, rfl, rfl, rfl, trivial⟩
                        refine WC.seq ?_
                        refine WC.block ?_
                        refine WC.seq ?_
                        refine WC.seq ?_
                        have h128r := har k (by omega)
                        refine WC.region ?_
                        refine WL.q (oq_move rfl) rfl rfl rfl ?_
                        refine WL.q (oq_move rfl) rfl rfl rfl ?_
                        refine WL.index_s Tryd.underlying9 rfl rfl (by (first | omega | (simp only [List.length_cons, List.length_nil, List.length_append, List.length_drop, List.length_take]; omega))) rfl rfl fun c27_2 hc27_2 hc27_2l hc27_2u => ?_
                        refine WL.q (oq_conv Tryd.underlying5 Tryd.underlying21 rfl (by rw [i32_lo, i32_hi]; (first | omega | (simp only [List.length_cons, List.length_nil, List.length_append, List.length_drop, List.length_take]; omega)))) rfl rfl rfl ?_
                        refine WL.qc (oq_call (isSpace _ (by omega) (by omega)) call83 rfl) rfl rfl rfl ?_
                        refine WL.q (oq_not rfl) rfl rfl rfl ?_
                        refine WL.q (oq_move rfl) rfl rfl rfl ?_
                        refine WL.split 85 rfl (fun s27_6 => ?_) (fun s27_6 => ?_)
                        ·
                          try simp only [Bool.not_eq_eq_eq_not, Bool.not_true, Bool.not_false, decide_eq_true_eq, decide_eq_false_iff_not, Int.not_lt, Int.not_le, ne_eq, Decidable.not_not, ← List.length_eq_zero_iff] at s27_6
                          refine WL.q (oq_move rfl) rfl rfl rfl ?_
                          refine WL.q (oq_move rfl) rfl rfl rfl ?_
                          refine WL.index_s Tryd.underlying9 rfl rfl (by (first | omega | (simp only [List.length_cons, List.length_nil, List.length_append, List.length_drop, List.length_take]; omega))) rfl rfl fun c27_9 hc27_9 hc27_9l hc27_9u => ?_
                          refine WL.q (oq_neq rfl rfl) rfl rfl rfl ?_
                          refine WL.q (oq_pick_t rfl rfl) rfl rfl rfl ?_
                          refine WL.nil ?_
                          refine WE.then_normal ?_
                          refine WC.sub (fr' := [(0, _), (2, _), (4, _), (5, _), (6, _), (8, _), (11, _), (12, _), (90, _)]) ?_ ⟨rfl, rfl, rfl, rfl, rfl, rfl, rfl, rfl, rfl, trivial⟩
                          refine WC.cond rfl (fun q27 => ?_) (fun q27 => ?_)
                          ·
                            try simp only [Bool.not_eq_eq_eq_not, Bool.not_true, Bool.not_false, decide_eq_true_eq, decide_eq_false_iff_not, Int.not_lt, Int.not_le, ne_eq, Decidable.not_not, ← List.length_eq_zero_iff] at q27
                            refine WC.seq ?_
                            refine WC.region ?_
                            refine WL.callA0 (errNew _) call61 rfl rfl rfl fun v28_0 N28_0 hR28_0 hN28_0 => ?_
                            obtain ⟨ek, ex, rfl⟩ := hR28_0
                            refine WL.q (oq_assign rfl) rfl rfl rfl ?_
                            refine WL.q (oq_assign rfl) rfl rfl rfl ?_
                            refine WL.nil ?_
                            refine WE.then_normal ?_
                            refine WC.sub (fr' := [(2, _), (3, _)]) ?_ ⟨rfl, rfl, trivial⟩
                            refine WC.ret ?_
                            refine WE.then_ret ?_
                            refine WE.block_ret ?_
                            refine WE.then_ret ?_
                            refine WE.then_ret ?_
                            refine WE.block_ret ?_
                            refine WE.then_ret ?_
                            refine WE.then_ret ?_
                            refine WE.block_ret ?_
                            refine WE.then_ret ?_
                            refine WE.then_ret ?_
                            refine WE.block_ret ?_
                            refine WE.then_ret ?_
                            refine WE.forget hN28_0 ?_
                            refine WE.forget ho.fresh ?_
                            refine WE.add0 ?_
                            refine WE.endA0 (.inl rfl) (res2 Tryd.results68 rfl rfl) ?_ fresh0
                            -- end 2
                            obtain ⟨d, y, hdy, hd⟩ := dropn44 r k (by omega) (by omega)
                            have htr : trimL r = d :: y := by rw [trimL_all r k (by omega) hkb, trimL_at r k (by omega) (by rw [← hc27_2]; exact s27_6), hdy]
                            exact qres_no (by rw [htot, hp_q4 htl hr1 hne hop htr hd]; rfl)
                          ·
                            try simp only [Bool.not_eq_eq_eq_not, Bool.not_true, Bool.not_false, decide_eq_true_eq, decide_eq_false_iff_not, Int.not_lt, Int.not_le, ne_eq, Decidable.not_not, ← List.length_eq_zero_iff] at q27
                            refine WC.skip ?_
                            refine WE.then_normal ?_
                            refine WC.sub (fr' := [(0, _), (2, _), (4, _), (5, _), (6, _), (8, _), (11, _), (12, _)]) ?_ ⟨rfl, rfl, rfl, rfl, rfl, rfl, rfl, rfl, trivial⟩
                            refine WC.seq ?_
                            refine WC.region ?_
                            refine WL.q (oq_move rfl) rfl rfl rfl ?_
                            refine WL.q (oq_move rfl) rfl rfl rfl ?_
                            refine WL.index_s Tryd.underlying9 rfl rfl (by (first | omega | (simp only [List.length_cons, List.length_nil, List.length_append, List.length_drop, List.length_take]; omega))) rfl rfl fun c29_2 hc29_2 hc29_2l hc29_2u => ?_
                            refine WL.q (oq_eql rfl rfl) rfl rfl rfl ?_
                            refine WL.nil ?_
                            refine WE.then_normal ?_
                            refine WC.sub (fr' := [(0, _), (2, _), (4, _), (5, _), (6, _), (8, _), (11, _), (12, _), (95, _)]) ?_ ⟨rfl, rfl, rfl, rfl, rfl, rfl, rfl, rfl, rfl, trivial⟩
                            refine WC.cond rfl (fun q29 => ?_) (fun q29 => ?_)
                            ·
                              try simp only [Bool.not_eq_eq_eq_not, Bool.not_true, Bool.not_false, decide_eq_true_eq, decide_eq_false_iff_not, Int.not_lt, Int.not_le, ne_eq, Decidable.not_not, ← List.length_eq_zero_iff] at q29
                              refine WC.seq ?_
                              refine WC.region ?_
                              refine WL.q (oq_assign rfl) rfl rfl rfl ?_
                              refine WL.nil ?_
                              refine WE.then_normal ?_
                              refine WC.sub (fr' := [(0, _), (2, _), (4, _), (5, _), (6, _), (8, _), (12, _)]) ?_ ⟨rfl, rfl, rfl, rfl, rfl, rfl, rfl, trivial⟩
                              refine WC.exit ?_
                              refine WE.block_other rfl ?_
                              refine WE.then_exit ?_
                              refine WE.then_exit ?_
                              refine WE.block_same ?_
                              refine WE.meet (_, _) ?_ ⟨rfl, rfl, rfl, rfl, rfl, rfl, rfl, trivial⟩ (List.Perm.refl _)
                              try dsimp only
                              first | (exact .inl ⟨rfl, by omega, by rw [trimL_all r k (by omega) hkb, List.drop_eq_nil_of_le (by omega)]; rfl⟩) | (exact .inr ⟨rfl, by omega, by rw [trimL_all r k (by omega) hkb, trimL_at r k (by omega) (blk44 (by omega))]; exact drop44 r k (by omega) (by omega)⟩)   -- meet 0
                            ·
                              try simp only [Bool.not_eq_eq_eq_not, Bool.not_true, Bool.not_false, decide_eq_true_eq, decide_eq_false_iff_not, Int.not_lt, Int.not_le, ne_eq, Decidable.not_not, ← List.length_eq_zero_iff] at q29
                              refine WC.skip ?_
                              refine WE.block_normal ?_
                              refine WE.then_normal ?_
                              refine WC.sub (fr' := [(0, _), (2, _), (4, _), (5, _), (6, _), (8, _), (11, _), (12, _)]) ?_ ⟨rfl, rfl, rfl, rfl, rfl, rfl, rfl, rfl, trivial⟩
                              refine WC.region ?_
                              refine WL.q (oq_move rfl) rfl rfl rfl ?_
                              refine WL.q (oq_add rfl rfl (by rw [i64_lo, i64_hi]; (first | omega | (simp only [List.length_cons, List.length_nil, List.length_append, List.length_drop, List.length_take]; omega)))) rfl rfl rfl ?_
                              refine WL.q (oq_assign rfl) rfl rfl rfl ?_
                              refine WL.nil ?_
                              refine WE.again (k + 1) ?_ ?_ ⟨rfl, rfl, rfl, rfl, rfl, rfl, rfl, rfl, trivial⟩ (List.Perm.refl _)
                              · try dsimp only   -- again 0
                                first
                                  | (exfalso; omega)
                                  | (refine ⟨by omega, fun m hm => ?_⟩
                                     rcases Nat.lt_or_ge m k with h | h
                                     · exact hkb m h
                                     · rw [show m = k by omega, ← hc27_2]; exact s27_6)
                              · (try dsimp only); omega
                        ·
                          try simp only [Bool.not_eq_eq_eq_not, Bool.not_true, Bool.not_false, decide_eq_true_eq, decide_eq_false_iff_not, Int.not_lt, Int.not_le, ne_eq, Decidable.not_not, ← List.length_eq_zero_iff] at s27_6
                          refine WL.skip rfl rfl rfl ?_
                          refine WL.skip rfl rfl rfl ?_
                          refine WL.skip rfl rfl rfl ?_
                          refine WL.skip rfl rfl rfl ?_
                          refine WL.q (oq_pick_f rfl rfl) rfl rfl rfl ?_
                          refine WL.nil ?_
                          refine WE.then_normal ?_
                          refine WC.sub (fr' := [(0, _), (2, _), (4, _), (5, _), (6, _), (8, _), (11, _), (12, _), (90, _)]) ?_ ⟨rfl, rfl, rfl, rfl, rfl, rfl, rfl, rfl, rfl, trivial⟩
                          refine WC.cond_f rfl ?_
                          refine WC.skip ?_
                          refine WE.then_normal ?_
                          refine WC.sub (fr' := [(0, _), (2, _), (4, _), (5, _), (6, _), (8, _), (11, _), (12, _)]) ?_ ⟨rfl, rfl, rfl, rfl, rfl, rfl, rfl, rfl, trivial⟩
                          refine WC.seq ?_
                          refine WC.region ?_
                          refine WL.q (oq_move rfl) rfl rfl rfl ?_
                          refine WL.q (oq_move rfl) rfl rfl rfl ?_
                          refine WL.index_s Tryd.underlying9 rfl rfl (by (first | omega | (simp only [List.length_cons, List.length_nil, List.length_append, List.length_drop, List.length_take]; omega))) rfl rfl fun c29_2 hc29_2 hc29_2l hc29_2u => ?_
                          refine WL.q (oq_eql rfl rfl) rfl rfl rfl ?_
                          refine WL.nil ?_
                          refine WE.then_normal ?_
                          refine WC.sub (fr' := [(0, _), (2, _), (4, _), (5, _), (6, _), (8, _), (11, _), (12, _), (95, _)]) ?_ ⟨rfl, rfl, rfl, rfl, rfl, rfl, rfl, rfl, rfl, trivial⟩
                          refine WC.cond rfl (fun q29 => ?_) (fun q29 => ?_)
                          ·
                            try simp only [Bool.not_eq_eq_eq_not, Bool.not_true, Bool.not_false, decide_eq_true_eq, decide_eq_false_iff_not, Int.not_lt, Int.not_le, ne_eq, Decidable.not_not, ← List.length_eq_zero_iff] at q29
                            refine WC.seq ?_
                            refine WC.region ?_
                            refine WL.q (oq_assign rfl) rfl rfl rfl ?_
                            refine WL.nil ?_
                            refine WE.then_normal ?_
                            refine WC.sub (fr' := [(0, _), (2, _), (4, _), (5, _), (6, _), (8, _), (12, _)]) ?_ ⟨rfl, rfl, rfl, rfl, rfl, rfl, rfl, trivial⟩
                            refine WC.exit ?_
                            refine WE.block_other rfl ?_
                            refine WE.then_exit ?_
                            refine WE.then_exit ?_
                            refine WE.block_same ?_
                            refine WE.meet (_, _) ?_ ⟨rfl, rfl, rfl, rfl, rfl, rfl, rfl, trivial⟩ (List.Perm.refl _)
                            try dsimp only
                            first | (exact .inl ⟨rfl, by omega, by rw [trimL_all r k (by omega) hkb, List.drop_eq_nil_of_le (by omega)]; rfl⟩) | (exact .inr ⟨rfl, by omega, by rw [trimL_all r k (by omega) hkb, trimL_at r k (by omega) (blk44 (by omega))]; exact drop44 r k (by omega) (by omega)⟩)   -- meet 1
                          ·
                            try simp only [Bool.not_eq_eq_eq_not, Bool.not_true, Bool.not_false, decide_eq_true_eq, decide_eq_false_iff_not, Int.not_lt, Int.not_le, ne_eq, Decidable.not_not, ← List.length_eq_zero_iff] at q29
                            refine WC.skip ?_
                            refine WE.block_normal ?_
                            refine WE.then_normal ?_
                            refine WC.sub (fr' := [(0, _), (2, _), (4, _), (5, _), (6, _), (8, _), (11, _), (12, _)]) ?_ ⟨rfl, rfl, rfl, rfl, rfl, rfl, rfl, rfl, trivial⟩
                            refine WC.region ?_
                            refine WL.q (oq_move rfl) rfl rfl rfl ?_
                            refine WL.q (oq_add rfl rfl (by rw [i64_lo, i64_hi]; (first | omega | (simp only [List.length_cons, List.length_nil, List.length_append, List.length_drop, List.length_take]; omega)))) rfl rfl rfl ?_
                            refine WL.q (oq_assign rfl) rfl rfl rfl ?_
                            refine WL.nil ?_
                            refine WE.again (k + 1) ?_ ?_ ⟨rfl, rfl, rfl, rfl, rfl, rfl, rfl, rfl, trivial⟩ (List.Perm.refl _)
                            · try dsimp only   -- again 1
                              first
                                | (exfalso; omega)
                                | (refine ⟨by omega, fun m hm => ?_⟩
                                   rcases Nat.lt_or_ge m k with h | h
                                   · exact hkb m h
                                   · rw [show m = k by omega, ← hc27_2]; exact s27_6)
                            · (try dsimp only); omega
                      ·
                        try simp only [Bool.not_eq_eq_eq_not, Bool.not_true, Bool.not_false, decide_eq_true_eq, decide_eq_false_iff_not, Int.not_lt, Int.not_le, ne_eq, Decidable.not_not, ← List.length_eq_zero_iff] at q25
                        refine WC.exit ?_
                        refine WE.then_exit ?_
                        refine WE.then_exit ?_
                        refine WE.block_same ?_
                        refine WE.meet (_, _) ?_ ⟨rfl, rfl, rfl, rfl, rfl, rfl, rfl, trivial⟩ (List.Perm.refl _)
                        try dsimp only
                        first | (exact .inl ⟨rfl, by omega, by rw [trimL_all r k (by omega) hkb, List.drop_eq_nil_of_le (by omega)]; rfl⟩) | (exact .inr ⟨rfl, by omega, by rw [trimL_all r k (by omega) hkb, trimL_at r k (by omega) (blk44 (by omega))]; exact drop44 r k (by omega) (by omega)⟩)   -- meet 2
                  · rintro ⟨k, em2⟩ hp
                    try dsimp only at hp
                    show WC _ _ _ _ _ _ ([(0, S w), (2, vw), (4, .bool em2), (5, I (i : Int)), (6, S (34 :: t)), (8, I ((cj false t + 2 : Nat) : Int)), (12, I (k : Int))]) ([B])
                    have hke := hp
                    refine WC.seq ?_
                    refine WC.region ?_
                    refine WL.q (oq_move rfl) rfl rfl rfl ?_
                    refine WL.q (oq_move rfl) rfl rfl rfl ?_
                    refine WL.q (oq_slice_s0 Tryd.underlying9 rfl rfl (by (first | omega | (simp only [List.length_cons, List.length_nil, List.length_append, List.length_drop, List.length_take]; omega)))) rfl rfl rfl ?_
                    refine WL.q (oq_assign rfl) rfl rfl rfl ?_
                    refine WL.nil ?_
                    refine WE.then_normal ?_
                    refine WC.sub (fr' := [(0, _), (2, _), (4, _), (5, _), (7, _), (8, _), (12, _)]) ?_ ⟨rfl, rfl, rfl, rfl, rfl, rfl, rfl, trivial⟩
                    refine WC.seq ?_
                    have h32 : List.take (((cj false t + 2 : Nat) : Int)).toNat (34 :: t) = 34 :: (t.take (cj false t) ++ [34]) := by
                      rw [Int.toNat_natCast]
                      show 34 :: t.take (cj false t + 1) = _
                      rw [List.take_add, hdr]; rfl
                    rw [h32]
                    refine WC.region ?_
                    refine WL.q (oq_move rfl) rfl rfl rfl ?_
                    refine WL.qc (oq_call (unq (t.take (cj false t)) _ hq1 (asc_take hat _) (by rw [List.length_take]; omega)) call84 rfl) rfl rfl rfl ?_
                    refine WL.q (oq_move rfl) rfl rfl rfl ?_
                    refine WL.q (oq_extract rfl rfl) rfl rfl rfl ?_
                    refine WL.q (oq_extract rfl rfl) rfl rfl rfl ?_
                    refine WL.q (oq_assign rfl) rfl rfl rfl ?_
                    refine WL.q (oq_assign rfl) rfl rfl rfl ?_
                    refine WL.nil ?_
                    refine WE.then_normal ?_
                    refine WC.sub (fr' := [(0, _), (2, _), (3, _), (4, _), (5, _), (7, _), (8, _), (12, _)]) ?_ ⟨rfl, rfl, rfl, rfl, rfl, rfl, rfl, rfl, trivial⟩
                    refine WC.seq ?_
                    refine WC.seq ?_
                    refine WC.region ?_
                    refine WL.q (oq_move rfl) rfl rfl rfl ?_
                    refine WL.q (oq_ineq Tryd.underlying53 rfl (.inl rfl)) rfl rfl rfl ?_
                    refine WL.nil ?_
                    refine WE.then_normal ?_
                    refine WC.sub (fr' := [(0, _), (2, _), (4, _), (5, _), (7, _), (8, _), (12, _), (105, _)]) ?_ ⟨rfl, rfl, rfl, rfl, rfl, rfl, rfl, rfl, trivial⟩
                    refine WC.cond rfl (fun q33 => ?_) (fun q33 => ?_)
                    ·
                      try simp only [Bool.not_eq_eq_eq_not, Bool.not_true, Bool.not_false, decide_eq_true_eq, decide_eq_false_iff_not, Int.not_lt, Int.not_le, ne_eq, Decidable.not_not, ← List.length_eq_zero_iff] at q33
                      first | contradiction | (exfalso; omega) | (exfalso; simp_all [nilI]; done)
                    ·
                      try simp only [Bool.not_eq_eq_eq_not, Bool.not_true, Bool.not_false, decide_eq_true_eq, decide_eq_false_iff_not, Int.not_lt, Int.not_le, ne_eq, Decidable.not_not, ← List.length_eq_zero_iff] at q33
                      refine WC.skip ?_
                      refine WE.then_normal ?_
                      refine WC.sub (fr' := [(0, _), (2, _), (4, _), (5, _), (7, _), (8, _), (12, _)]) ?_ ⟨rfl, rfl, rfl, rfl, rfl, rfl, rfl, trivial⟩
                      refine WC.region ?_
                      refine WL.q (oq_move rfl) rfl rfl rfl ?_
                      refine WL.q (oq_move rfl) rfl rfl rfl ?_
                      refine WL.q (oq_add rfl rfl (by rw [i64_lo, i64_hi]; (first | omega | (simp only [List.length_cons, List.length_nil, List.length_append, List.length_drop, List.length_take]; omega)))) rfl rfl rfl ?_
                      refine WL.q (oq_assign rfl) rfl rfl rfl ?_
                      refine WL.nil ?_
                      have hwd : w.drop (i + (cj false t + 2 + k) + 1) = r.drop (k + 1) := by rw [show i + (cj false t + 2 + k) + 1 = i + (cj false t + 1 + (k + 1) + 1) by omega, ← List.drop_drop, hut, List.drop_succ_cons, ← List.drop_drop, hrd]
                      have hres : (em2 = true ∧ i + (cj false t + 2 + k) < w.length ∧ hpF (v.length + 1) w = pre (acc ++ [(hq t).1]) (hpF f (w.drop (i + (cj false t + 2 + k) + 1)))) ∨ (em2 = false ∧ w.length ≤ i + (cj false t + 2 + k) ∧ i + (cj false t + 2 + k) ≤ w.length ∧ hpF (v.length + 1) w = (some (acc ++ [(hq t).1]), true)) := by
                        rcases hke with ⟨h1, h2, h3⟩ | ⟨h1, h2, h3⟩
                        · exact .inr ⟨h1, by omega, by omega, by rw [htot, hp_q2 htl hr1 hne hop h3]; rfl⟩
                        · exact .inl ⟨h1, by omega, by rw [hwd, htot, hp_q3 htl hr1 hne hop h3, pre_pre]⟩
                      refine WE.meet ((hq t).1, cj false t + 2 + k, em2) ?_ ⟨rfl, rfl, rfl, rfl, rfl, rfl, trivial⟩ (List.Perm.refl _)
                      try dsimp only
                      exact hres   -- meet 0
          ·
            try simp only [Bool.not_eq_eq_eq_not, Bool.not_true, Bool.not_false, decide_eq_true_eq, decide_eq_false_iff_not, Int.not_lt, Int.not_le, ne_eq, Decidable.not_not, ← List.length_eq_zero_iff] at q11
            refine WC.seq ?_
            have hnu : ∀ t, w.drop i ≠ 34 :: t := fun t e => q11 (by rw [hc11_1, e]; rfl)
            have hil := i44_le (w.drop i)
            have hu := hp_u (f := f) htl.symm hnu
            refine WC.region ?_
            refine WL.q (oq_move rfl) rfl rfl rfl ?_
            refine WL.qc (oq_call (zzIndex44 _ (by simp only [List.length_drop]; omega)) call85 rfl) rfl rfl rfl ?_
            refine WL.q (oq_assign rfl) rfl rfl rfl ?_
            refine WL.nil ?_
            refine WE.then_normal ?_
            refine WC.sub (fr' := [(0, _), (2, _), (4, _), (5, _), (6, _), (8, _)]) ?_ ⟨rfl, rfl, rfl, rfl, rfl, rfl, trivial⟩
            refine WC.cut (ι := Bool) (fun (em3 : Bool) => [(0, S w), (2, vw), (4, .bool em3), (5, I (i : Int)), (6, S (w.drop i)), (8, I (i44 (w.drop i) : Int))]) (fun (em3 : Bool) => [B]) (fun (em3 : Bool) => (em3 = true ∧ i44 (w.drop i) < (w.drop i).length) ∨ (em3 = false ∧ i44 (w.drop i) = (w.drop i).length)) ?_ ?_
            ·
              refine WC.seq ?_
              have hix : (i44 (w.drop i) = (w.drop i).length ∧ ix44 (w.drop i) = -1) ∨ (i44 (w.drop i) < (w.drop i).length ∧ ix44 (w.drop i) = (i44 (w.drop i) : Int)) := by
                unfold ix44; split
                · exact .inl ⟨‹_›, rfl⟩
                · exact .inr ⟨by omega, rfl⟩
              refine WC.region ?_
              refine WL.q (oq_move rfl) rfl rfl rfl ?_
              refine WL.q (oq_neq rfl rfl) rfl rfl rfl ?_
              refine WL.nil ?_
              refine WE.then_normal ?_
              refine WC.sub (fr' := [(0, _), (2, _), (4, _), (5, _), (6, _), (8, _), (113, _)]) ?_ ⟨rfl, rfl, rfl, rfl, rfl, rfl, rfl, trivial⟩
              refine WC.cond rfl (fun q37 => ?_) (fun q37 => ?_)
              ·
                try simp only [Bool.not_eq_eq_eq_not, Bool.not_true, Bool.not_false, decide_eq_true_eq, decide_eq_false_iff_not, Int.not_lt, Int.not_le, ne_eq, Decidable.not_not, ← List.length_eq_zero_iff] at q37
                refine WC.region ?_
                refine WL.q (oq_assign rfl) rfl rfl rfl ?_
                refine WL.nil ?_
                refine WE.meet _ ?_ ⟨rfl, rfl, rfl, rfl, rfl, (gtv rfl (by exact congrArg (Value.int .i64) (by omega))), trivial⟩ (List.Perm.refl _)
                try dsimp only
                first | exact .inl ⟨rfl, by omega⟩ | exact .inr ⟨rfl, by omega⟩   -- meet 0
              ·
                try simp only [Bool.not_eq_eq_eq_not, Bool.not_true, Bool.not_false, decide_eq_true_eq, decide_eq_false_iff_not, Int.not_lt, Int.not_le, ne_eq, Decidable.not_not, ← List.length_eq_zero_iff] at q37
                refine WC.region ?_
                refine WL.q (oq_move rfl) rfl rfl rfl ?_
                refine WL.q (oq_len_s Tryd.underlying9 rfl) rfl rfl rfl ?_
                refine WL.q (oq_assign rfl) rfl rfl rfl ?_
                refine WL.nil ?_
                refine WE.meet _ ?_ ⟨rfl, rfl, rfl, rfl, rfl, (gtv rfl (by exact congrArg (Value.int .i64) (by omega))), trivial⟩ (List.Perm.refl _)
                try dsimp only
                first | exact .inl ⟨rfl, by omega⟩ | exact .inr ⟨rfl, by omega⟩   -- meet 1
            · rintro em3 hp
              try dsimp only at hp
              show WC _ _ _ _ _ _ ([(0, S w), (2, vw), (4, .bool em3), (5, I (i : Int)), (6, S (w.drop i)), (8, I (i44 (w.drop i) : Int))]) ([B])
              have he3 := hp
              refine WC.region ?_
              refine WL.q (oq_move rfl) rfl rfl rfl ?_
              refine WL.q (oq_move rfl) rfl rfl rfl ?_
              refine WL.q (oq_slice_s0 Tryd.underlying9 rfl rfl (by (first | omega | (simp only [List.length_cons, List.length_nil, List.length_append, List.length_drop, List.length_take]; omega)))) rfl rfl rfl ?_
              refine WL.qc (oq_call (trimSpace _ (by (try simp only [List.length_take, List.length_drop]); omega) (by first | exact ha | exact asc_take (asc_drop haw _) _)) call82 rfl) rfl rfl rfl ?_
              refine WL.q (oq_assign rfl) rfl rfl rfl ?_
              refine WL.nil ?_
              have hres : (em3 = true ∧ i + i44 (w.drop i) < w.length ∧ hpF (v.length + 1) w = pre (acc ++ [trim ((w.drop i).take (i44 (w.drop i)))]) (hpF f (w.drop (i + i44 (w.drop i) + 1)))) ∨ (em3 = false ∧ w.length ≤ i + i44 (w.drop i) ∧ i + i44 (w.drop i) ≤ w.length ∧ hpF (v.length + 1) w = (some (acc ++ [trim ((w.drop i).take (i44 (w.drop i)))]), true)) := by
                rcases he3 with ⟨h1, h2⟩ | ⟨h1, h2⟩
                · exact .inl ⟨h1, by omega, by rw [htot, hu.2 (by omega), pre_pre, List.drop_drop]; rfl⟩
                · exact .inr ⟨h1, by omega, by omega, by rw [htot, hu.1 h2, List.take_of_length_le (by omega)]; rfl⟩
              refine WE.meet (trim ((w.drop i).take (i44 (w.drop i))), i44 (w.drop i), em3) ?_ ⟨rfl, rfl, rfl, rfl, rfl, rfl, trivial⟩ (List.Perm.refl _)
              try dsimp only
              exact hres   -- meet 1
        · rintro ⟨val, vl, em4⟩ hp
          try dsimp only at hp
          show WC _ _ _ _ _ _ ([(0, S w), (2, vw), (4, .bool em4), (5, I (i : Int)), (7, S val), (8, I (vl : Int))]) ([B])
          have h4 := hp
          refine WC.seq ?_
          refine WC.region ?_
          refine WL.q (oq_move rfl) rfl rfl rfl ?_
          refine WL.q (oq_move rfl) rfl rfl rfl ?_
          refine WL.q (oq_add rfl rfl (by rw [i64_lo, i64_hi]; (first | omega | (simp only [List.length_cons, List.length_nil, List.length_append, List.length_drop, List.length_take]; omega)))) rfl rfl rfl ?_
          refine WL.q (oq_assign rfl) rfl rfl rfl ?_
          refine WL.nil ?_
          refine WE.then_normal ?_
          refine WC.sub (fr' := [(0, _), (2, _), (4, _), (5, _), (7, _)]) ?_ ⟨rfl, rfl, rfl, rfl, rfl, trivial⟩
          refine WC.region ?_
          refine WL.q (oq_move rfl) rfl rfl rfl ?_
          refine WL.q (oq_move rfl) rfl rfl rfl ?_
          refine WL.append1 ho Tryd.underlying36 ty9 rfl (by decide) (fun _ => rfl) rfl rfl (by unfold maxLen; omega) (by omega) rfl rfl (fun _ => rfl) rfl fun v42 A42 u42 ho42 hne42 => ?_
          refine WL.q (oq_assign rfl) rfl rfl rfl ?_
          refine WL.nil ?_
          refine WE.block_normal ?_
          refine WE.then_normal ?_
          refine WC.sub (fr' := [(0, _), (2, _), (4, _), (5, _)]) ?_ ⟨rfl, rfl, rfl, rfl, trivial⟩
          refine WC.region ?_
          refine WL.q (oq_move rfl) rfl rfl rfl ?_
          refine WL.q (oq_add rfl rfl (by rw [i64_lo, i64_hi]; (first | omega | (simp only [List.length_cons, List.length_nil, List.length_append, List.length_drop, List.length_take]; omega)))) rfl rfl rfl ?_
          refine WL.q (oq_assign rfl) rfl rfl rfl ?_
          refine WL.nil ?_
          refine WE.again (i + vl + 1, acc ++ [val], em4, f - 1, _, _) ?_ ?_ ⟨rfl, rfl, rfl, rfl, trivial⟩ (List.Perm.refl _)
          · try dsimp only   -- again 1
            have hf1 : f - 1 + 1 = f := by omega
            rw [hf1]
            refine ⟨by simp; omega, ?_, own_snoc ho42⟩
            rcases h4 with ⟨h1, h2, h3⟩ | ⟨h1, h2, h2b, h3⟩
            · exact .inl ⟨h1, by omega, h3, by omega⟩
            · exact .inr ⟨h1, by omega, by omega, h3⟩
          · (try dsimp only); omega
    ·
      try simp only [Bool.not_eq_eq_eq_not, Bool.not_true, Bool.not_false, decide_eq_true_eq, decide_eq_false_iff_not, Int.not_lt, Int.not_le, ne_eq, Decidable.not_not, ← List.length_eq_zero_iff] at q4
      refine WC.exit ?_
      refine WE.then_exit ?_
      refine WE.then_exit ?_
      refine WE.block_same ?_
      refine WE.then_normal ?_
      refine WC.sub (fr' := [(2, _), (4, _)]) ?_ ⟨rfl, rfl, trivial⟩
      refine WC.seq ?_
      refine WC.seq ?_
      refine WC.region ?_
      refine WL.q (oq_move rfl) rfl rfl rfl ?_
      refine WL.nil ?_
      refine WE.then_normal ?_
      refine WC.sub (fr' := [(2, _), (127, _)]) ?_ ⟨rfl, rfl, trivial⟩
      refine WC.cond rfl (fun q43 => ?_) (fun q43 => ?_)
      ·
        try simp only [Bool.not_eq_eq_eq_not, Bool.not_true, Bool.not_false, decide_eq_true_eq, decide_eq_false_iff_not, Int.not_lt, Int.not_le, ne_eq, Decidable.not_not, ← List.length_eq_zero_iff] at q43
        refine WC.region ?_
        refine WL.q (oq_move rfl) rfl rfl rfl ?_
        refine WL.append1 ho Tryd.underlying36 ty9 rfl (by decide) (fun _ => rfl) rfl rfl (by unfold maxLen; omega) (by omega) rfl rfl (fun _ => rfl) rfl fun v44 A44 u44 ho44 hne44 => ?_
        refine WL.q (oq_assign rfl) rfl rfl rfl ?_
        refine WL.nil ?_
        refine WE.then_normal ?_
        refine WC.sub (fr' := [(2, _)]) ?_ ⟨rfl, trivial⟩
        refine WC.seq ?_
        refine WC.region ?_
        refine WL.q (oq_move rfl) rfl rfl rfl ?_
        refine WL.q (oq_assign rfl) rfl rfl rfl ?_
        refine WL.q (oq_assign rfl) rfl rfl rfl ?_
        refine WL.nil ?_
        refine WE.then_normal ?_
        refine WC.sub (fr' := [(2, _), (3, _)]) ?_ ⟨rfl, rfl, trivial⟩
        refine WC.ret ?_
        refine WE.endA0 (.inl rfl) (res2 Tryd.results68 rfl rfl) ?_ (ho44.fresh)
        -- end 3
        rcases hor with ⟨h1, h2, h3, _⟩ | ⟨h1, _⟩
        · exact qres_yes (l := acc ++ [[]]) (by rw [h3, List.drop_eq_nil_of_le (by omega), hp_e rfl]; rfl) ho44 (by simp [strsV])
        · rw [h1] at q43; cases q43
      ·
        try simp only [Bool.not_eq_eq_eq_not, Bool.not_true, Bool.not_false, decide_eq_true_eq, decide_eq_false_iff_not, Int.not_lt, Int.not_le, ne_eq, Decidable.not_not, ← List.length_eq_zero_iff] at q43
        refine WC.skip ?_
        refine WE.then_normal ?_
        refine WC.sub (fr' := [(2, _)]) ?_ ⟨rfl, trivial⟩
        refine WC.seq ?_
        refine WC.region ?_
        refine WL.q (oq_move rfl) rfl rfl rfl ?_
        refine WL.q (oq_assign rfl) rfl rfl rfl ?_
        refine WL.q (oq_assign rfl) rfl rfl rfl ?_
        refine WL.nil ?_
        refine WE.then_normal ?_
        refine WC.sub (fr' := [(2, _), (3, _)]) ?_ ⟨rfl, rfl, trivial⟩
        refine WC.ret ?_
        refine WE.endA0 (.inl rfl) (res2 Tryd.results68 rfl rfl) ?_ (ho.fresh)
        -- end 4
        rcases hor with ⟨h1, _⟩ | ⟨h1, _, _, h3⟩
        · rw [h1] at q43; cases q43
        · exact qres_yes (l := acc) h3 ho rfl

end KY
end Go.Proofs.YtcgpajknehhdgaaDoor
