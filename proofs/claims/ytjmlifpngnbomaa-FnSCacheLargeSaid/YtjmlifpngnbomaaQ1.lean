/- Walks of lists that are rings, at their ends. -/
import Derived.Test.YtjmlifpngnbomaaQ0
namespace Go.Proofs.Ytjmlifpngnbomaa
open Go Go.RowKit V Q0
set_option linter.unusedSimpArgs false
set_option linter.unusedVariables false
set_option maxRecDepth 10000
namespace Q1
theorem call41 : Callable Try.prog 41 := ⟨_, Try.func41, rfl, by kernel_rfl⟩
theorem call42 : Callable Try.prog 42 := ⟨_, Try.func42, rfl, by kernel_rfl⟩
theorem call43 : Callable Try.prog 43 := ⟨_, Try.func43, rfl, by kernel_rfl⟩
theorem call44 : Callable Try.prog 44 := ⟨_, Try.func44, rfl, by kernel_rfl⟩
theorem flat20 : Flat Try.prog 20 := ⟨_, Try.underlying20, by simp⟩
theorem flat43 : Flat Try.prog 43 := ⟨_, Try.underlying43, by simp⟩
theorem flat49 : Flat Try.prog 49 := ⟨_, Try.underlying49, by simp⟩
theorem ty20 : Ty Try.prog 20 .nilIface 1 16 := ty_of (by kernel_rfl)
theorem ty43 : Ty Try.prog 43 (.pointer none) 1 8 := ty_of (by kernel_rfl)
theorem ty49 : Ty Try.prog 49 (.pointer none) 1 8 := ty_of (by kernel_rfl)
theorem ty51 : Ty Try.prog 51 (.agg #[(.pointer none), (.pointer none), (.pointer none), .nilIface]) 4 40 := ty_of (by kernel_rfl)
theorem ty53 : Ty Try.prog 53 (.agg #[(.pointer none), (.pointer none), (.pointer none), .nilIface, (.int .i64 0)]) 5 48 := ty_of (by kernel_rfl)
theorem fld51_0 : Fld Try.prog 51 0 0 49 := fld_of Try.underlying51 rfl rfl rfl ty49 (by decide)
theorem fld51_2 : Fld Try.prog 51 2 2 43 := fld_of Try.underlying51 rfl rfl rfl ty43 (by decide)
theorem fld51_3 : Fld Try.prog 51 3 3 20 := fld_of Try.underlying51 rfl rfl rfl ty20 (by decide)
theorem fld53_0 : Fld Try.prog 53 0 0 51 := fld_of Try.underlying53 rfl rfl rfl ty51 (by decide)
/-- (*container/list.List).MoveToFront -/
theorem lfront (base bl : Nat) (els : List Nat) (nx pv : Nat → Nat) (vl : Nat → Value) (len : Int) (e : Nat) (A B : List Nat) (hr : Rg nx pv bl (A ++ e :: B)) (hm : ∀ x, x ∈ A ++ e :: B → x ∈ els)  : FnW Try.prog 37 [Pt bl 0, Pt e 0] base [LG 51 53 bl els nx pv vl len] (fun _ Hs => ∃ nx2 pv2, Hs = [LG 51 53 bl els nx2 pv2 vl len] ∧ Rg nx2 pv2 bl (e :: (A ++ B))) := by
  obtain ⟨hb, hpe, hne, hpm, hnm, ham, hr2⟩ := hr.mv
  obtain ⟨hp, _, hn, _⟩ := hr.at
  have hs : ∀ x, x ∈ bl :: (A ++ e :: B) → x ∈ bl :: els := fun x hx => by rcases List.mem_cons.1 hx with h | h; exact h ▸ List.mem_cons_self; exact List.mem_cons_of_mem _ (hm x h)
  have he : e ∈ bl :: els := hs e (by simp)
  have hhm : nx bl ∈ bl :: els := hs _ (by rw [hr.nxroot]; cases A <;> simp)
  refine FnW.enter (n := 25) Try.func37 rfl rfl fun w0 R0 hbase => ?_
  subst hbase
  show WC _ _ _ _ _ _ _ ([LG 51 53 bl els nx pv vl len, R0])
  refine WC.sub (fr' := [(0, _), (1, _)]) ?_ ⟨rfl, rfl, trivial⟩
  refine WC.seq ?_
  refine WC.seq ?_
  refine WC.region ?_
  refine WL.q (oq_move rfl) rfl rfl rfl ?_
  refine WL.q (oq_nilCheck rfl) rfl rfl rfl ?_
  refine WL.q (oq_fieldAddr fld51_2 rfl) rfl rfl rfl ?_
  refine WL.q (oq_lls (b := e) (he) (hb) flat43 rfl (.head _)) rfl rfl rfl ?_
  refine WL.q (oq_move rfl) rfl rfl rfl ?_
  refine WL.q (oq_pneq_same Try.underlying43 ty53 rfl rfl) rfl rfl rfl ?_
  refine WL.q (oq_move rfl) rfl rfl rfl ?_
  refine WL.q (oq_move rfl) rfl rfl rfl ?_
  refine WL.q (oq_nilCheck rfl) rfl rfl rfl ?_
  refine WL.q (oq_fieldAddr fld53_0 rfl) rfl rfl rfl ?_
  refine WL.q (oq_fieldAddr fld51_0 rfl) rfl rfl rfl ?_
  refine WL.q (oq_lnx (b := bl) (c := (nx bl)) (List.mem_cons_self) (rfl) flat49 rfl (.head _)) rfl rfl rfl ?_
  refine WL.q (oq_move rfl) rfl rfl rfl ?_
  refine WL.q (oq_peq Try.underlying49 ty51 (by decide) (.head _) (LG.mem hhm) (.head _) (LG.mem he) rfl rfl) rfl rfl rfl ?_
  refine WL.q (oq_pick_f rfl rfl) rfl rfl rfl ?_
  refine WL.nil ?_
  refine WE.then_normal ?_
  refine WC.sub (fr' := [(0, _), (1, _), (18, _)]) ?_ ⟨rfl, rfl, rfl, trivial⟩
  refine WC.cond rfl (fun q0 => ?_) (fun q0 => ?_)
  ·
    try simp only [Bool.not_eq_eq_eq_not, Bool.not_true, Bool.not_false, decide_eq_true_eq, decide_eq_false_iff_not, Int.not_lt, Int.not_le, ne_eq, Decidable.not_not, ← List.length_eq_zero_iff] at q0
    refine WC.ret ?_
    refine WE.then_ret ?_
    refine WE.endW1 (.inl rfl) (res0 Try.results37) ?_
    -- end 0
    have hA := hr.first q0
    exact ⟨_, _, rfl, by rw [hA] at hr ⊢; exact hr⟩
  ·
    try simp only [Bool.not_eq_eq_eq_not, Bool.not_true, Bool.not_false, decide_eq_true_eq, decide_eq_false_iff_not, Int.not_lt, Int.not_le, ne_eq, Decidable.not_not, ← List.length_eq_zero_iff] at q0
    refine WC.skip ?_
    refine WE.then_normal ?_
    refine WC.sub (fr' := [(0, _), (1, _)]) ?_ ⟨rfl, rfl, trivial⟩
    refine WC.region ?_
    refine WL.q (oq_move rfl) rfl rfl rfl ?_
    refine WL.q (oq_move rfl) rfl rfl rfl ?_
    refine WL.q (oq_move rfl) rfl rfl rfl ?_
    refine WL.q (oq_nilCheck rfl) rfl rfl rfl ?_
    refine WL.q (oq_fieldAddr fld53_0 rfl) rfl rfl rfl ?_
    refine WL.callW1 (lmove _ bl els nx pv vl len e _ _ _ he (hs _ hpm) (hs _ hnm) (hs _ ham) hp hn rfl hb hpe hne) call41 rfl rfl rfl fun v1_5 Hs1_5 hR1_5 => ?_
    subst hR1_5
    refine WL.to1 ?_
    refine WL.nil ?_
    refine WE.endW1 (.inr rfl) (res0 Try.results37) ?_
    -- end 1
    exact ⟨_, _, rfl, hr2⟩

/-- (*container/list.List).Remove -/
theorem lrem (base bl : Nat) (els : List Nat) (nx pv : Nat → Nat) (vl : Nat → Value) (len : Int) (e : Nat) (A B : List Nat) (hr : Rg nx pv bl (A ++ e :: B)) (hm : ∀ x, x ∈ A ++ e :: B → x ∈ els) (hl : 0 ≤ len ∧ len ≤ 1000000) (hbe : base ≤ e) : FnW Try.prog 39 [Pt bl 0, Pt e 0] base [LG 51 53 bl els nx pv vl len] (fun v Hs => v = vl e ∧ ∃ nx2 pv2, Hs = [LG 51 53 bl (els.erase e) nx2 pv2 vl (len - 1)] ∧ Rg nx2 pv2 bl (A ++ B)) := by
  obtain ⟨hb, hpe, hne, hpm, hnm, ham, hr2⟩ := hr.mv
  obtain ⟨hp, _, hn, _⟩ := hr.at
  have hs : ∀ x, x ∈ bl :: (A ++ e :: B) → x ∈ bl :: els := fun x hx => by rcases List.mem_cons.1 hx with h | h; exact h ▸ List.mem_cons_self; exact List.mem_cons_of_mem _ (hm x h)
  have he : e ∈ bl :: els := hs e (by simp)
  refine FnW.enter (n := 18) Try.func39 rfl rfl fun w0 R0 hbase => ?_
  subst hbase
  show WC _ _ _ _ _ _ _ ([LG 51 53 bl els nx pv vl len, R0])
  refine WC.sub (fr' := [(0, _), (1, _)]) ?_ ⟨rfl, rfl, trivial⟩
  refine WC.seq ?_
  refine WC.region ?_
  refine WL.q (oq_assign rfl) rfl rfl rfl ?_
  refine WL.nil ?_
  refine WE.then_normal ?_
  refine WC.sub (fr' := [(0, _), (1, _)]) ?_ ⟨rfl, rfl, trivial⟩
  refine WC.seq ?_
  refine WC.seq ?_
  refine WC.region ?_
  refine WL.q (oq_move rfl) rfl rfl rfl ?_
  refine WL.q (oq_nilCheck rfl) rfl rfl rfl ?_
  refine WL.q (oq_fieldAddr fld51_2 rfl) rfl rfl rfl ?_
  refine WL.q (oq_lls (b := e) (he) (hb) flat43 rfl (.head _)) rfl rfl rfl ?_
  refine WL.q (oq_move rfl) rfl rfl rfl ?_
  refine WL.q (oq_pesame Try.underlying43 ty53 rfl rfl) rfl rfl rfl ?_
  refine WL.nil ?_
  refine WE.then_normal ?_
  refine WC.sub (fr' := [(0, _), (1, _), (10, _)]) ?_ ⟨rfl, rfl, rfl, trivial⟩
  refine WC.cond_t rfl ?_
  refine WC.region ?_
  refine WL.q (oq_move rfl) rfl rfl rfl ?_
  refine WL.q (oq_move rfl) rfl rfl rfl ?_
  refine WL.callW1 (lremove _ bl els nx pv vl len e _ _ (hm e (by simp)) (hs _ hpm) (hs _ hnm) hp hn hb hpe hne hl) call44 rfl rfl rfl fun v2_2 Hs2_2 hR2_2 => ?_
  subst hR2_2
  refine WL.to2 ?_
  refine WL.nil ?_
  refine WE.then_normal ?_
  refine WC.sub (fr' := [(1, _)]) ?_ ⟨rfl, trivial⟩
  refine WC.seq ?_
  refine WC.region ?_
  refine WL.q (oq_move rfl) rfl rfl rfl ?_
  refine WL.q (oq_nilCheck rfl) rfl rfl rfl ?_
  refine WL.q (oq_fieldAddr fld51_3 rfl) rfl rfl rfl ?_
  refine WL.q (oq_load flat20 rfl (.head _) (List.mem_singleton.2 rfl) rfl) rfl rfl rfl ?_
  refine WL.q (oq_assign rfl) rfl rfl rfl ?_
  refine WL.nil ?_
  refine WE.then_normal ?_
  refine WC.sub (fr' := [(4, _)]) ?_ ⟨rfl, trivial⟩
  refine WC.ret ?_
  refine WE.lose hbe ?_
  refine WE.endW1 (.inl rfl) (res1 Try.results39 rfl) ?_
  -- end 0
  exact ⟨rfl, _, _, rfl, hr.out⟩

/-- (*container/list.List).PushFront -/
theorem lpush (base bl : Nat) (els : List Nat) (nx pv : Nat → Nat) (vl : Nat → Value) (len : Int) (os : List Nat) (kx : TypeId) (ux : Value) (hr : Rg nx pv bl os) (hm : ∀ x, x ∈ os → x ∈ els) (hl : 0 ≤ len ∧ len ≤ 1000000) : FnW Try.prog 38 [Pt bl 0, .iface kx ux] base [LG 51 53 bl els nx pv vl len] (fun v Hs => ∃ e nx2 pv2, v = Pt e 0 ∧ base ≤ e ∧ e ∉ bl :: els ∧ Hs = [LG 51 53 bl (e :: els) nx2 pv2 (upd vl e (.iface kx ux)) (len + 1)] ∧ Rg nx2 pv2 bl (e :: os)) := by
  have hhm : nx bl ∈ bl :: els := by rw [hr.nxroot]; cases os with | nil => exact List.mem_cons_self | cons a r => exact List.mem_cons_of_mem _ (hm a List.mem_cons_self)
  refine FnW.enter (n := 13) Try.func38 rfl rfl fun w0 R0 hbase => ?_
  subst hbase
  show WC _ _ _ _ _ _ _ ([LG 51 53 bl els nx pv vl len, R0])
  refine WC.sub (fr' := [(0, _), (1, _)]) ?_ ⟨rfl, rfl, trivial⟩
  refine WC.seq ?_
  refine WC.region ?_
  refine WL.q (oq_assign rfl) rfl rfl rfl ?_
  refine WL.nil ?_
  refine WE.then_normal ?_
  refine WC.sub (fr' := [(0, _), (1, _)]) ?_ ⟨rfl, rfl, trivial⟩
  refine WC.seq ?_
  refine WC.region ?_
  refine WL.q (oq_move rfl) rfl rfl rfl ?_
  refine WL.qc (oq_callRm (llazy bl els nx pv vl len) (.head _) call42 rfl) rfl rfl rfl ?_
  refine WL.nil ?_
  refine WE.then_normal ?_
  refine WC.sub (fr' := [(0, _), (1, _)]) ?_ ⟨rfl, rfl, trivial⟩
  refine WC.seq ?_
  refine WC.region ?_
  refine WL.q (oq_move rfl) rfl rfl rfl ?_
  refine WL.q (oq_move rfl) rfl rfl rfl ?_
  refine WL.q (oq_move rfl) rfl rfl rfl ?_
  refine WL.q (oq_nilCheck rfl) rfl rfl rfl ?_
  refine WL.q (oq_fieldAddr fld53_0 rfl) rfl rfl rfl ?_
  refine WL.callW1 (linsertv _ bl els nx pv vl len _ kx ux rfl hhm hl) call43 rfl rfl rfl fun v2_5 Hs2_5 hR2_5 => ?_
  obtain ⟨e, rfl, he, rfl⟩ := hR2_5
  refine WL.to2 ?_
  refine WL.distinct fun hdd => ?_
  have hnm := nd_cons hdd
  rw [LG.ids] at hnm
  have hb : e ≠ bl := fun h => hnm (h ▸ List.mem_cons_self)
  have hne : nx bl ≠ e := fun h => hnm (h ▸ hhm)
  refine WL.reg (reg_in (LG.cons hb (fun h => hnm (List.mem_cons_of_mem _ h)))) ?_
  rw [upd_comm nx _ _ hb.symm, upd_comm pv _ _ hne]
  refine WL.q (oq_assign rfl) rfl rfl rfl ?_
  refine WL.nil ?_
  refine WE.then_normal ?_
  refine WC.sub (fr' := [(4, _)]) ?_ ⟨rfl, trivial⟩
  refine WC.ret ?_
  refine WE.endW1 (.inl rfl) (res1 Try.results38 rfl) ?_
  -- end 0
  have h2 := hr.ins (e := e) (fun h => hnm (by rcases List.mem_cons.1 h with h1 | h1; exact h1 ▸ List.mem_cons_self; exact List.mem_cons_of_mem _ (hm e h1)))
  rw [← hr.nxroot] at h2
  exact ⟨e, _, _, rfl, he, hnm, rfl, h2⟩

end Q1
end Go.Proofs.Ytjmlifpngnbomaa
