/- Walks of lists that are rings. -/
import Derived.Test.YtjmlifpngnbomaaVM
import Derived.Test.YtjmlifpngnbomaaQ
namespace Go.Proofs.Ytjmlifpngnbomaa
open Go Go.RowKit V
set_option linter.unusedSimpArgs false
set_option linter.unusedVariables false
set_option maxRecDepth 10000
namespace Q0
theorem call17 : Callable Try.prog 17 := ⟨_, Try.func17, rfl, by kernel_rfl⟩
theorem call45 : Callable Try.prog 45 := ⟨_, Try.func45, rfl, by kernel_rfl⟩
theorem flat3 : Flat Try.prog 3 := ⟨_, Try.underlying3, by simp⟩
theorem flat49 : Flat Try.prog 49 := ⟨_, Try.underlying49, by simp⟩
theorem ty3 : Ty Try.prog 3 (.int .i64 0) 1 8 := ty_of (by kernel_rfl)
theorem ty43 : Ty Try.prog 43 (.pointer none) 1 8 := ty_of (by kernel_rfl)
theorem ty49 : Ty Try.prog 49 (.pointer none) 1 8 := ty_of (by kernel_rfl)
theorem ty51 : Ty Try.prog 51 (.agg #[(.pointer none), (.pointer none), (.pointer none), .nilIface]) 4 40 := ty_of (by kernel_rfl)
theorem ty53 : Ty Try.prog 53 (.agg #[(.pointer none), (.pointer none), (.pointer none), .nilIface, (.int .i64 0)]) 5 48 := ty_of (by kernel_rfl)
theorem str51 : Str Try.prog 51 #[(0, 1), (1, 1), (2, 1), (3, 1)] := ⟨_, Try.underlying51, fun w => by kernel_rfl⟩
theorem fld51_0 : Fld Try.prog 51 0 0 49 := fld_of Try.underlying51 rfl rfl rfl ty49 (by decide)
theorem fld51_1 : Fld Try.prog 51 1 1 49 := fld_of Try.underlying51 rfl rfl rfl ty49 (by decide)
theorem fld51_2 : Fld Try.prog 51 2 2 43 := fld_of Try.underlying51 rfl rfl rfl ty43 (by decide)
theorem fld53_0 : Fld Try.prog 53 0 0 51 := fld_of Try.underlying53 rfl rfl rfl ty51 (by decide)
theorem fld53_1 : Fld Try.prog 53 1 4 3 := fld_of Try.underlying53 rfl rfl rfl ty3 (by decide)
/-- (*container/list.List).move -/
theorem lmove (base bl : Nat) (els : List Nat) (nx pv : Nat → Nat) (vl : Nat → Value) (len : Int) (e p n a : Nat) (he : e ∈ bl :: els) (hpm : p ∈ bl :: els) (hnm : n ∈ bl :: els) (ham : a ∈ bl :: els) (hp : pv e = p) (hn : nx e = n) (ha : upd nx p n bl = a) (hb : e ≠ bl) (hpe : p ≠ e) (hne : n ≠ e) : FnW Try.prog 41 [Pt bl 0, Pt e 0, Pt bl 0] base [LG 51 53 bl els nx pv vl len] (fun _ Hs => Hs = [LG 51 53 bl els (upd (upd (upd nx p n) e a) bl e) (upd (upd (upd pv n p) e bl) a e) vl len]) := by
  have hb2 := hb.symm
  have hpe2 := hpe.symm
  have hne2 := hne.symm
  refine FnW.enter (n := 54) Try.func41 rfl rfl fun w0 R0 hbase => ?_
  subst hbase
  show WC _ _ _ _ _ _ _ ([LG 51 53 bl els nx pv vl len, R0])
  refine WC.sub (fr' := [(1, _), (2, _)]) ?_ ⟨rfl, rfl, trivial⟩
  refine WC.seq ?_
  refine WC.seq ?_
  refine WC.region ?_
  refine WL.q (oq_move rfl) rfl rfl rfl ?_
  refine WL.q (oq_move rfl) rfl rfl rfl ?_
  refine WL.q (oq_peq Try.underlying49 ty51 (by decide) (.head _) (LG.mem he) (.head _) (LG.mem List.mem_cons_self) rfl rfl) rfl rfl rfl ?_
  refine WL.nil ?_
  refine WE.then_normal ?_
  refine WC.sub (fr' := [(1, _), (2, _), (8, _)]) ?_ ⟨rfl, rfl, rfl, trivial⟩
  refine WC.cond rfl (fun q0 => ?_) (fun q0 => ?_)
  ·
    try simp only [Bool.not_eq_eq_eq_not, Bool.not_true, Bool.not_false, decide_eq_true_eq, decide_eq_false_iff_not, Int.not_lt, Int.not_le, ne_eq, Decidable.not_not, ← List.length_eq_zero_iff] at q0
    first | contradiction | (exfalso; omega) | (exfalso; simp_all; done)
  ·
    try simp only [Bool.not_eq_eq_eq_not, Bool.not_true, Bool.not_false, decide_eq_true_eq, decide_eq_false_iff_not, Int.not_lt, Int.not_le, ne_eq, Decidable.not_not, ← List.length_eq_zero_iff] at q0
    refine WC.skip ?_
    refine WE.then_normal ?_
    refine WC.sub (fr' := [(1, _), (2, _)]) ?_ ⟨rfl, rfl, trivial⟩
    refine WC.seq ?_
    refine WC.tailM (pl := []) (ql := [_, _, _, _, _, _, _, _, _, _]) (tl := [_]) [] [0, 1, 2, 3, 4, 5, 6, 7, 8, 9] 10 [] (by kernel_rfl) (by kernel_rfl) (by kernel_rfl) (by kernel_rfl) (by kernel_rfl) (by kernel_rfl) (by decide) rfl rfl rfl (by decide) (by repeat (first | with_reducible exact QOk.body | with_reducible apply QOk.then | with_reducible apply QOk.block | exact QOk.body | apply QOk.then | apply QOk.block)) ?_
    refine WM.nil ?_
    refine WY.q (oq_move rfl) rfl rfl rfl ?_
    refine WY.q (oq_nilCheck rfl) rfl rfl rfl ?_
    refine WY.q (oq_fieldAddr fld51_1 rfl) rfl rfl rfl ?_
    refine WY.q (oq_lpv (b := e) (c := p) (he) (hp) flat49 rfl (.head _)) rfl rfl rfl ?_
    refine WY.q (oq_move rfl) rfl rfl rfl ?_
    refine WY.q (oq_nilCheck rfl) rfl rfl rfl ?_
    refine WY.q (oq_fieldAddr fld51_0 rfl) rfl rfl rfl ?_
    refine WY.q (oq_lnx (b := e) (c := n) (he) (hn) flat49 rfl (.head _)) rfl rfl rfl ?_
    refine WY.q (oq_nilCheck rfl) rfl rfl rfl ?_
    refine WY.q (oq_fieldAddr fld51_0 rfl) rfl rfl rfl ?_
    refine WY.nil ?_
    refine WL.snx (b := p) (hpm) ty49 rfl rfl rfl ?_
    refine WL.nil ?_
    refine WE.then_normal ?_
    refine WC.sub (fr' := [(1, _), (2, _)]) ?_ ⟨rfl, rfl, trivial⟩
    refine WC.seq ?_
    refine WC.tailM (pl := []) (ql := [_, _, _, _, _, _, _, _, _, _]) (tl := [_]) [] [0, 1, 2, 3, 4, 5, 6, 7, 8, 9] 10 [] (by kernel_rfl) (by kernel_rfl) (by kernel_rfl) (by kernel_rfl) (by kernel_rfl) (by kernel_rfl) (by decide) rfl rfl rfl (by decide) (by repeat (first | with_reducible exact QOk.body | with_reducible apply QOk.then | with_reducible apply QOk.block | exact QOk.body | apply QOk.then | apply QOk.block)) ?_
    refine WM.nil ?_
    refine WY.q (oq_move rfl) rfl rfl rfl ?_
    refine WY.q (oq_nilCheck rfl) rfl rfl rfl ?_
    refine WY.q (oq_fieldAddr fld51_0 rfl) rfl rfl rfl ?_
    refine WY.q (oq_lnx (b := e) (c := n) (he) (by rw [upd_ne _ _ hpe2]; exact hn) flat49 rfl (.head _)) rfl rfl rfl ?_
    refine WY.q (oq_move rfl) rfl rfl rfl ?_
    refine WY.q (oq_nilCheck rfl) rfl rfl rfl ?_
    refine WY.q (oq_fieldAddr fld51_1 rfl) rfl rfl rfl ?_
    refine WY.q (oq_lpv (b := e) (c := p) (he) (hp) flat49 rfl (.head _)) rfl rfl rfl ?_
    refine WY.q (oq_nilCheck rfl) rfl rfl rfl ?_
    refine WY.q (oq_fieldAddr fld51_1 rfl) rfl rfl rfl ?_
    refine WY.nil ?_
    refine WL.spv (b := n) (hnm) ty49 rfl rfl rfl ?_
    refine WL.nil ?_
    refine WE.then_normal ?_
    refine WC.sub (fr' := [(1, _), (2, _)]) ?_ ⟨rfl, rfl, trivial⟩
    refine WC.seq ?_
    refine WC.region ?_
    refine WL.q (oq_move rfl) rfl rfl rfl ?_
    refine WL.q (oq_move rfl) rfl rfl rfl ?_
    refine WL.q (oq_nilCheck rfl) rfl rfl rfl ?_
    refine WL.q (oq_fieldAddr fld51_1 rfl) rfl rfl rfl ?_
    refine WL.spv (b := e) (he) ty49 rfl rfl rfl ?_
    refine WL.nil ?_
    refine WE.then_normal ?_
    refine WC.sub (fr' := [(1, _), (2, _)]) ?_ ⟨rfl, rfl, trivial⟩
    refine WC.seq ?_
    refine WC.region ?_
    refine WL.q (oq_move rfl) rfl rfl rfl ?_
    refine WL.q (oq_move rfl) rfl rfl rfl ?_
    refine WL.q (oq_nilCheck rfl) rfl rfl rfl ?_
    refine WL.q (oq_fieldAddr fld51_0 rfl) rfl rfl rfl ?_
    refine WL.q (oq_lnx (b := bl) (c := a) (List.mem_cons_self) (ha) flat49 rfl (.head _)) rfl rfl rfl ?_
    refine WL.q (oq_nilCheck rfl) rfl rfl rfl ?_
    refine WL.q (oq_fieldAddr fld51_0 rfl) rfl rfl rfl ?_
    refine WL.snx (b := e) (he) ty49 rfl rfl rfl ?_
    refine WL.nil ?_
    refine WE.then_normal ?_
    refine WC.sub (fr' := [(1, _)]) ?_ ⟨rfl, trivial⟩
    refine WC.seq ?_
    refine WC.region ?_
    refine WL.q (oq_move rfl) rfl rfl rfl ?_
    refine WL.q (oq_nilCheck rfl) rfl rfl rfl ?_
    refine WL.q (oq_fieldAddr fld51_1 rfl) rfl rfl rfl ?_
    refine WL.q (oq_lpv (b := e) (c := bl) (he) (upd_same _ _ _) flat49 rfl (.head _)) rfl rfl rfl ?_
    refine WL.q (oq_move rfl) rfl rfl rfl ?_
    refine WL.q (oq_nilCheck rfl) rfl rfl rfl ?_
    refine WL.q (oq_fieldAddr fld51_0 rfl) rfl rfl rfl ?_
    refine WL.snx (b := bl) (List.mem_cons_self) ty49 rfl rfl rfl ?_
    refine WL.nil ?_
    refine WE.then_normal ?_
    refine WC.sub (fr' := [(1, _)]) ?_ ⟨rfl, trivial⟩
    refine WC.region ?_
    refine WL.q (oq_move rfl) rfl rfl rfl ?_
    refine WL.q (oq_nilCheck rfl) rfl rfl rfl ?_
    refine WL.q (oq_fieldAddr fld51_0 rfl) rfl rfl rfl ?_
    refine WL.q (oq_lnx (b := e) (c := a) (he) (by rw [upd_ne _ _ hb, upd_same]) flat49 rfl (.head _)) rfl rfl rfl ?_
    refine WL.q (oq_move rfl) rfl rfl rfl ?_
    refine WL.q (oq_nilCheck rfl) rfl rfl rfl ?_
    refine WL.q (oq_fieldAddr fld51_1 rfl) rfl rfl rfl ?_
    refine WL.spv (b := a) (ham) ty49 rfl rfl rfl ?_
    refine WL.nil ?_
    refine WE.endW1 (.inr rfl) (res0 Try.results41) ?_
    -- end 0
    exact rfl

/-- (*container/list.List).insert -/
theorem linsert (base bl : Nat) (els : List Nat) (nx pv : Nat → Nat) (vl : Nat → Value) (len : Int) (e h : Nat) (kx : TypeId) (ux : Value) (hh : nx bl = h) (hhm : h ∈ bl :: els) (hl : 0 ≤ len ∧ len ≤ 1000000) : FnW Try.prog 45 [Pt bl 0, Pt e 0, Pt bl 0] base [[(e, .cells #[.pointer none, .pointer none, .pointer none, .iface kx ux] 51 (0, 0))], LG 51 53 bl els nx pv vl len] (fun v Hs => v = Pt e 0 ∧ Hs = [[(e, .cells #[Pt h 0, Pt bl 0, Pt bl 0, .iface kx ux] 51 (0, 0))], LG 51 53 bl els (upd nx bl e) (upd pv h e) vl (len + 1)]) := by
  refine FnW.enter (n := 44) Try.func45 rfl rfl fun w0 R0 hbase => ?_
  subst hbase
  show WC _ _ _ _ _ _ _ ([[(e, .cells #[.pointer none, .pointer none, .pointer none, .iface kx ux] 51 (0, 0))], LG 51 53 bl els nx pv vl len, R0])
  refine WC.sub (fr' := [(0, _), (1, _), (2, _)]) ?_ ⟨rfl, rfl, rfl, trivial⟩
  refine WC.seq ?_
  refine WC.region ?_
  refine WL.q (oq_assign rfl) rfl rfl rfl ?_
  refine WL.nil ?_
  refine WE.then_normal ?_
  refine WC.sub (fr' := [(0, _), (1, _), (2, _)]) ?_ ⟨rfl, rfl, rfl, trivial⟩
  refine WC.seq ?_
  refine WC.region ?_
  refine WL.q (oq_move rfl) rfl rfl rfl ?_
  refine WL.q (oq_move rfl) rfl rfl rfl ?_
  refine WL.q (oq_nilCheck rfl) rfl rfl rfl ?_
  refine WL.q (oq_fieldAddr fld51_1 rfl) rfl rfl rfl ?_
  refine WL.store1 #[_, _, _, _] ty49 rfl rfl (by first | rfl | exact OwS.one one_) (Nat.lt_of_lt_of_le (Nat.lt_succ_self _) (Nat.le_of_ble_eq_true rfl)) rfl rfl ?_
  refine WL.nil ?_
  refine WE.then_normal ?_
  refine WC.sub (fr' := [(0, _), (1, _), (2, _)]) ?_ ⟨rfl, rfl, rfl, trivial⟩
  refine WC.seq ?_
  refine WC.region ?_
  refine WL.q (oq_move rfl) rfl rfl rfl ?_
  refine WL.q (oq_move rfl) rfl rfl rfl ?_
  refine WL.q (oq_nilCheck rfl) rfl rfl rfl ?_
  refine WL.q (oq_fieldAddr fld51_0 rfl) rfl rfl rfl ?_
  refine WL.q (oq_lnx (b := bl) (c := h) (List.mem_cons_self) (hh) flat49 rfl (.tail _ (.head _))) rfl rfl rfl ?_
  refine WL.q (oq_nilCheck rfl) rfl rfl rfl ?_
  refine WL.q (oq_fieldAddr fld51_0 rfl) rfl rfl rfl ?_
  refine WL.store1 #[_, _, _, _] ty49 rfl rfl (by first | rfl | exact OwS.one one_) (Nat.lt_of_lt_of_le (Nat.lt_succ_self _) (Nat.le_of_ble_eq_true rfl)) rfl rfl ?_
  refine WL.nil ?_
  refine WE.then_normal ?_
  refine WC.sub (fr' := [(0, _), (1, _)]) ?_ ⟨rfl, rfl, trivial⟩
  refine WC.seq ?_
  refine WC.region ?_
  refine WL.q (oq_move rfl) rfl rfl rfl ?_
  refine WL.q (oq_nilCheck rfl) rfl rfl rfl ?_
  refine WL.q (oq_fieldAddr fld51_1 rfl) rfl rfl rfl ?_
  refine WL.q (oq_load flat49 rfl (.head _) (List.mem_singleton.2 rfl) rfl) rfl rfl rfl ?_
  refine WL.q (oq_move rfl) rfl rfl rfl ?_
  refine WL.q (oq_nilCheck rfl) rfl rfl rfl ?_
  refine WL.q (oq_fieldAddr fld51_0 rfl) rfl rfl rfl ?_
  refine WL.f1 ?_
  refine WL.snx (b := bl) (List.mem_cons_self) ty49 rfl rfl rfl ?_
  refine WL.nil ?_
  refine WE.then_normal ?_
  refine WC.sub (fr' := [(0, _), (1, _)]) ?_ ⟨rfl, rfl, trivial⟩
  refine WC.seq ?_
  refine WC.region ?_
  refine WL.q (oq_move rfl) rfl rfl rfl ?_
  refine WL.q (oq_nilCheck rfl) rfl rfl rfl ?_
  refine WL.q (oq_fieldAddr fld51_0 rfl) rfl rfl rfl ?_
  refine WL.q (oq_load flat49 rfl (.tail _ (.head _)) (List.mem_singleton.2 rfl) rfl) rfl rfl rfl ?_
  refine WL.q (oq_move rfl) rfl rfl rfl ?_
  refine WL.q (oq_nilCheck rfl) rfl rfl rfl ?_
  refine WL.q (oq_fieldAddr fld51_1 rfl) rfl rfl rfl ?_
  refine WL.spv (b := h) (hhm) ty49 rfl rfl rfl ?_
  refine WL.nil ?_
  refine WE.then_normal ?_
  refine WC.sub (fr' := [(0, _), (1, _)]) ?_ ⟨rfl, rfl, trivial⟩
  refine WC.seq ?_
  refine WC.region ?_
  refine WL.q (oq_move rfl) rfl rfl rfl ?_
  refine WL.q (oq_move rfl) rfl rfl rfl ?_
  refine WL.q (oq_nilCheck rfl) rfl rfl rfl ?_
  refine WL.q (oq_fieldAddr fld51_2 rfl) rfl rfl rfl ?_
  refine WL.f1 ?_
  refine WL.store1 #[_, _, _, _] ty43 rfl rfl (by first | rfl | exact OwS.one one_) (Nat.lt_of_lt_of_le (Nat.lt_succ_self _) (Nat.le_of_ble_eq_true rfl)) rfl rfl ?_
  refine WL.nil ?_
  refine WE.then_normal ?_
  refine WC.sub (fr' := [(0, _), (1, _)]) ?_ ⟨rfl, rfl, trivial⟩
  refine WC.seq ?_
  refine WC.region ?_
  refine WL.q (oq_move rfl) rfl rfl rfl ?_
  refine WL.q (oq_nilCheck rfl) rfl rfl rfl ?_
  refine WL.q (oq_fieldAddr fld53_1 rfl) rfl rfl rfl ?_
  refine WL.q (oq_llen flat3 rfl (.tail _ (.head _))) rfl rfl rfl ?_
  refine WL.q (oq_add rfl rfl (by rw [i64_lo, i64_hi]; (first | omega | (simp only [List.length_cons, List.length_nil, List.length_append, List.length_drop, List.length_take]; omega)))) rfl rfl rfl ?_
  refine WL.q (oq_nilCheck rfl) rfl rfl rfl ?_
  refine WL.q (oq_fieldAddr fld53_1 rfl) rfl rfl rfl ?_
  refine WL.f1 ?_
  refine WL.slen ty3 rfl rfl rfl ?_
  refine WL.nil ?_
  refine WE.then_normal ?_
  refine WC.sub (fr' := [(1, _)]) ?_ ⟨rfl, trivial⟩
  refine WC.seq ?_
  refine WC.region ?_
  refine WL.q (oq_move rfl) rfl rfl rfl ?_
  refine WL.q (oq_assign rfl) rfl rfl rfl ?_
  refine WL.nil ?_
  refine WE.then_normal ?_
  refine WC.sub (fr' := [(6, _)]) ?_ ⟨rfl, trivial⟩
  refine WC.ret ?_
  refine WE.f2 ?_
  refine WE.f1 ?_
  refine WE.f2 ?_
  refine WE.endW2 (.inl rfl) (res1 Try.results45 rfl) ?_
  -- end 0
  exact ⟨rfl, rfl⟩

/-- (*container/list.List).insertValue -/
theorem linsertv (base bl : Nat) (els : List Nat) (nx pv : Nat → Nat) (vl : Nat → Value) (len : Int) (h : Nat) (kx : TypeId) (ux : Value) (hh : nx bl = h) (hhm : h ∈ bl :: els) (hl : 0 ≤ len ∧ len ≤ 1000000) : FnW Try.prog 43 [Pt bl 0, .iface kx ux, Pt bl 0] base [LG 51 53 bl els nx pv vl len] (fun v Hs => ∃ e, v = Pt e 0 ∧ base ≤ e ∧ Hs = [[(e, .cells #[Pt h 0, Pt bl 0, Pt bl 0, .iface kx ux] 51 (0, 0))], LG 51 53 bl els (upd nx bl e) (upd pv h e) vl (len + 1)]) := by
  refine FnW.enter (n := 13) Try.func43 rfl rfl fun w0 R0 hbase => ?_
  subst hbase
  show WC _ _ _ _ _ _ _ ([LG 51 53 bl els nx pv vl len, R0])
  refine WC.sub (fr' := [(0, _), (1, _), (2, _)]) ?_ ⟨rfl, rfl, rfl, trivial⟩
  refine WC.seq ?_
  refine WC.region ?_
  refine WL.q (oq_assign rfl) rfl rfl rfl ?_
  refine WL.nil ?_
  refine WE.then_normal ?_
  refine WC.sub (fr' := [(0, _), (1, _), (2, _)]) ?_ ⟨rfl, rfl, rfl, trivial⟩
  refine WC.seq ?_
  refine WC.region ?_
  refine WL.q (oq_move rfl) rfl rfl rfl ?_
  refine WL.q (oq_move rfl) rfl rfl rfl ?_
  refine WL.q (oq_build #[_, _, _, _] str51 ty51 rfl rfl) rfl rfl rfl ?_
  refine WL.box rfl rfl rfl fun e he => ?_
  refine WL.q (oq_move rfl) rfl rfl rfl ?_
  refine WL.f1 ?_
  refine WL.f1 ?_
  refine WL.callW2 (linsert _ bl els nx pv vl len e h kx ux hh hhm hl) call45 rfl rfl rfl fun v1_5 Hs1_5 hR1_5 => ?_
  obtain ⟨rfl, rfl⟩ := hR1_5
  refine WL.to2 ?_
  refine WL.q (oq_assign rfl) rfl rfl rfl ?_
  refine WL.nil ?_
  refine WE.then_normal ?_
  refine WC.sub (fr' := [(6, _)]) ?_ ⟨rfl, trivial⟩
  refine WC.ret ?_
  refine WE.endW2 (.inl rfl) (res1 Try.results43 rfl) ?_
  -- end 0
  exact ⟨e, rfl, he, rfl⟩

/-- (*container/list.List).Init -/
theorem linit (base bl : Nat) : FnW Try.prog 17 [Pt bl 0] base [[(bl, .cells #[.pointer none, .pointer none, .pointer none, .nilIface, I 0] 53 (0, 0))]] (fun v Hs => v = Pt bl 0 ∧ Hs = [LG 51 53 bl [] (fun _ => bl) (fun _ => bl) (fun _ => .nilIface) 0]) := by
  refine FnW.enter (n := 21) Try.func17 rfl rfl fun w0 R0 hbase => ?_
  subst hbase
  show WC _ _ _ _ _ _ _ ([[(bl, .cells #[.pointer none, .pointer none, .pointer none, .nilIface, I 0] 53 (0, 0))], R0])
  refine WC.sub (fr' := [(0, _)]) ?_ ⟨rfl, trivial⟩
  refine WC.seq ?_
  refine WC.region ?_
  refine WL.q (oq_assign rfl) rfl rfl rfl ?_
  refine WL.nil ?_
  refine WE.then_normal ?_
  refine WC.sub (fr' := [(0, _)]) ?_ ⟨rfl, trivial⟩
  refine WC.seq ?_
  refine WC.region ?_
  refine WL.q (oq_move rfl) rfl rfl rfl ?_
  refine WL.q (oq_move rfl) rfl rfl rfl ?_
  refine WL.q (oq_nilCheck rfl) rfl rfl rfl ?_
  refine WL.q (oq_fieldAddr fld53_0 rfl) rfl rfl rfl ?_
  refine WL.q (oq_nilCheck rfl) rfl rfl rfl ?_
  refine WL.q (oq_fieldAddr fld53_0 rfl) rfl rfl rfl ?_
  refine WL.q (oq_fieldAddr fld51_0 rfl) rfl rfl rfl ?_
  refine WL.store1 #[_, _, _, _, _] ty49 rfl rfl (by first | rfl | exact OwS.one one_) (Nat.lt_of_lt_of_le (Nat.lt_succ_self _) (Nat.le_of_ble_eq_true rfl)) rfl rfl ?_
  refine WL.nil ?_
  refine WE.then_normal ?_
  refine WC.sub (fr' := [(0, _)]) ?_ ⟨rfl, trivial⟩
  refine WC.seq ?_
  refine WC.region ?_
  refine WL.q (oq_move rfl) rfl rfl rfl ?_
  refine WL.q (oq_move rfl) rfl rfl rfl ?_
  refine WL.q (oq_nilCheck rfl) rfl rfl rfl ?_
  refine WL.q (oq_fieldAddr fld53_0 rfl) rfl rfl rfl ?_
  refine WL.q (oq_nilCheck rfl) rfl rfl rfl ?_
  refine WL.q (oq_fieldAddr fld53_0 rfl) rfl rfl rfl ?_
  refine WL.q (oq_fieldAddr fld51_1 rfl) rfl rfl rfl ?_
  refine WL.store1 #[_, _, _, _, _] ty49 rfl rfl (by first | rfl | exact OwS.one one_) (Nat.lt_of_lt_of_le (Nat.lt_succ_self _) (Nat.le_of_ble_eq_true rfl)) rfl rfl ?_
  refine WL.nil ?_
  refine WE.then_normal ?_
  refine WC.sub (fr' := [(0, _)]) ?_ ⟨rfl, trivial⟩
  refine WC.seq ?_
  refine WC.region ?_
  refine WL.q (oq_move rfl) rfl rfl rfl ?_
  refine WL.q (oq_nilCheck rfl) rfl rfl rfl ?_
  refine WL.q (oq_fieldAddr fld53_1 rfl) rfl rfl rfl ?_
  refine WL.store1 #[_, _, _, _, _] ty3 rfl rfl (by first | rfl | exact OwS.one one_) (Nat.lt_of_lt_of_le (Nat.lt_succ_self _) (Nat.le_of_ble_eq_true rfl)) rfl rfl ?_
  refine WL.nil ?_
  refine WE.then_normal ?_
  refine WC.sub (fr' := [(0, _)]) ?_ ⟨rfl, trivial⟩
  refine WC.seq ?_
  refine WC.region ?_
  refine WL.q (oq_move rfl) rfl rfl rfl ?_
  refine WL.q (oq_assign rfl) rfl rfl rfl ?_
  refine WL.nil ?_
  refine WE.then_normal ?_
  refine WC.sub (fr' := [(2, _)]) ?_ ⟨rfl, trivial⟩
  refine WC.ret ?_
  refine WE.endW1 (.inl rfl) (res1 Try.results17 rfl) ?_
  -- end 0
  exact ⟨rfl, by simp [LG, lobj, lcells]⟩

/-- container/list.New -/
theorem lnew  : FnA Try.prog 14 [] [] (fun v N => ∃ bl, v = Pt bl 0 ∧ N = LG 51 53 bl [] (fun _ => bl) (fun _ => bl) (fun _ => .nilIface) 0) := by
  refine FnA.enter0 (n := 3) Try.func14 rfl rfl fun w0 => ?_
  refine WC.sub (fr' := []) ?_ trivial
  refine WC.seq ?_
  refine WC.region ?_
  refine WL.q (oq_assign rfl) rfl rfl rfl ?_
  refine WL.nil ?_
  refine WE.then_normal ?_
  refine WC.sub (fr' := []) ?_ trivial
  refine WC.seq ?_
  refine WC.region ?_
  refine WL.alloc ty53 rfl rfl fun bl hbl => ?_
  refine WL.callW1 (linit _ bl) call17 rfl rfl rfl fun v1_1 Hs1_1 hR1_1 => ?_
  obtain ⟨rfl, rfl⟩ := hR1_1
  have hbf : ∀ b o, (b, o) ∈ LG 51 53 bl [] (fun _ => bl) (fun _ => bl) (fun _ => .nilIface) 0 → w0.heap.size ≤ b := fun b o hm => by simp [LG] at hm; rw [hm.1]; exact hbl
  refine WL.to1 ?_
  refine WL.q (oq_assign rfl) rfl rfl rfl ?_
  refine WL.nil ?_
  refine WE.then_normal ?_
  refine WC.sub (fr' := [(0, _)]) ?_ ⟨rfl, trivial⟩
  refine WC.ret ?_
  refine WE.endA0 (.inl rfl) (res1 Try.results14 rfl) ?_ (hbf)
  -- end 0
  exact ⟨bl, rfl, rfl⟩

/-- (*container/list.List).lazyInit -/
theorem llazy (bl : Nat) (els : List Nat) (nx pv : Nat → Nat) (vl : Nat → Value) (len : Int) : FnR Try.prog 42 [Pt bl 0] (LG 51 53 bl els nx pv vl len) (.tuple #[]) := by
  refine FnR.enter (n := 10) Try.func42 rfl rfl fun w0 => ?_
  refine WC.sub (fr' := [(0, _)]) ?_ ⟨rfl, trivial⟩
  refine WC.seq ?_
  refine WC.region ?_
  refine WL.q (oq_move rfl) rfl rfl rfl ?_
  refine WL.q (oq_nilCheck rfl) rfl rfl rfl ?_
  refine WL.q (oq_fieldAddr fld53_0 rfl) rfl rfl rfl ?_
  refine WL.q (oq_fieldAddr fld51_0 rfl) rfl rfl rfl ?_
  refine WL.q (oq_lnx (b := bl) (c := (nx bl)) (List.mem_cons_self) (rfl) flat49 rfl (.head _)) rfl rfl rfl ?_
  refine WL.q (oq_peql Try.underlying49 rfl rfl) rfl rfl rfl ?_
  refine WL.nil ?_
  refine WE.then_normal ?_
  refine WC.sub (fr' := [(0, _), (7, _)]) ?_ ⟨rfl, rfl, trivial⟩
  refine WC.cond rfl (fun q0 => ?_) (fun q0 => ?_)
  ·
    try simp only [Bool.not_eq_eq_eq_not, Bool.not_true, Bool.not_false, decide_eq_true_eq, decide_eq_false_iff_not, Int.not_lt, Int.not_le, ne_eq, Decidable.not_not, ← List.length_eq_zero_iff] at q0
    first | contradiction | (exfalso; omega) | (exfalso; simp_all; done)
  ·
    try simp only [Bool.not_eq_eq_eq_not, Bool.not_true, Bool.not_false, decide_eq_true_eq, decide_eq_false_iff_not, Int.not_lt, Int.not_le, ne_eq, Decidable.not_not, ← List.length_eq_zero_iff] at q0
    refine WC.skip ?_
    refine WE.endR (.inr rfl) (res0 Try.results42) ?_
    -- end 0
    rfl

/-- (*container/list.List).Back -/
theorem lback (bl : Nat) (els : List Nat) (nx pv : Nat → Nat) (vl : Nat → Value) (len : Int) (hl : len ≠ 0) : FnR Try.prog 40 [Pt bl 0] (LG 51 53 bl els nx pv vl len) (Pt (pv bl) 0) := by
  refine FnR.enter (n := 13) Try.func40 rfl rfl fun w0 => ?_
  refine WC.sub (fr' := [(0, _)]) ?_ ⟨rfl, trivial⟩
  refine WC.seq ?_
  refine WC.region ?_
  refine WL.q (oq_assign rfl) rfl rfl rfl ?_
  refine WL.nil ?_
  refine WE.then_normal ?_
  refine WC.sub (fr' := [(0, _)]) ?_ ⟨rfl, trivial⟩
  refine WC.seq ?_
  refine WC.seq ?_
  refine WC.region ?_
  refine WL.q (oq_move rfl) rfl rfl rfl ?_
  refine WL.q (oq_nilCheck rfl) rfl rfl rfl ?_
  refine WL.q (oq_fieldAddr fld53_1 rfl) rfl rfl rfl ?_
  refine WL.q (oq_llen flat3 rfl (.head _)) rfl rfl rfl ?_
  refine WL.q (oq_eql rfl rfl) rfl rfl rfl ?_
  refine WL.nil ?_
  refine WE.then_normal ?_
  refine WC.sub (fr' := [(0, _), (7, _)]) ?_ ⟨rfl, rfl, trivial⟩
  refine WC.cond rfl (fun q1 => ?_) (fun q1 => ?_)
  ·
    try simp only [Bool.not_eq_eq_eq_not, Bool.not_true, Bool.not_false, decide_eq_true_eq, decide_eq_false_iff_not, Int.not_lt, Int.not_le, ne_eq, Decidable.not_not, ← List.length_eq_zero_iff] at q1
    first | contradiction | (exfalso; omega) | (exfalso; simp_all; done)
  ·
    try simp only [Bool.not_eq_eq_eq_not, Bool.not_true, Bool.not_false, decide_eq_true_eq, decide_eq_false_iff_not, Int.not_lt, Int.not_le, ne_eq, Decidable.not_not, ← List.length_eq_zero_iff] at q1
    refine WC.skip ?_
    refine WE.then_normal ?_
    refine WC.sub (fr' := [(0, _)]) ?_ ⟨rfl, trivial⟩
    refine WC.seq ?_
    refine WC.region ?_
    refine WL.q (oq_move rfl) rfl rfl rfl ?_
    refine WL.q (oq_nilCheck rfl) rfl rfl rfl ?_
    refine WL.q (oq_fieldAddr fld53_0 rfl) rfl rfl rfl ?_
    refine WL.q (oq_fieldAddr fld51_1 rfl) rfl rfl rfl ?_
    refine WL.q (oq_lpv (b := bl) (c := (pv bl)) (List.mem_cons_self) (rfl) flat49 rfl (.head _)) rfl rfl rfl ?_
    refine WL.q (oq_assign rfl) rfl rfl rfl ?_
    refine WL.nil ?_
    refine WE.then_normal ?_
    refine WC.sub (fr' := [(2, _)]) ?_ ⟨rfl, trivial⟩
    refine WC.ret ?_
    refine WE.endR (.inl rfl) (res1 Try.results40 rfl) ?_
    -- end 0
    rfl

/-- (*container/list.List).remove -/
theorem lremove (base bl : Nat) (els : List Nat) (nx pv : Nat → Nat) (vl : Nat → Value) (len : Int) (e p n : Nat) (he : e ∈ els) (hpm : p ∈ bl :: els) (hnm : n ∈ bl :: els) (hp : pv e = p) (hn : nx e = n) (hb : e ≠ bl) (hpe : p ≠ e) (hne : n ≠ e) (hl : 0 ≤ len ∧ len ≤ 1000000) : FnW Try.prog 44 [Pt bl 0, Pt e 0] base [LG 51 53 bl els nx pv vl len] (fun _ Hs => Hs = [[(e, .cells #[.pointer none, .pointer none, .pointer none, vl e] 51 (0, 0))], LG 51 53 bl (els.erase e) (upd nx p n) (upd pv n p) vl (len - 1)]) := by
  have hb2 := hb.symm
  have hpe2 := hpe.symm
  have hne2 := hne.symm
  have hem : e ∈ bl :: els := List.mem_cons_of_mem _ he
  refine FnW.enter (n := 40) Try.func44 rfl rfl fun w0 R0 hbase => ?_
  subst hbase
  show WC _ _ _ _ _ _ _ ([LG 51 53 bl els nx pv vl len, R0])
  refine WC.sub (fr' := [(0, _), (1, _)]) ?_ ⟨rfl, rfl, trivial⟩
  refine WC.seq ?_
  refine WC.tailM (pl := []) (ql := [_, _, _, _, _, _, _, _, _, _]) (tl := [_]) [] [0, 1, 2, 3, 4, 5, 6, 7, 8, 9] 10 [] (by kernel_rfl) (by kernel_rfl) (by kernel_rfl) (by kernel_rfl) (by kernel_rfl) (by kernel_rfl) (by decide) rfl rfl rfl (by decide) (by repeat (first | with_reducible exact QOk.body | with_reducible apply QOk.then | with_reducible apply QOk.block | exact QOk.body | apply QOk.then | apply QOk.block)) ?_
  refine WM.nil ?_
  refine WY.q (oq_move rfl) rfl rfl rfl ?_
  refine WY.q (oq_nilCheck rfl) rfl rfl rfl ?_
  refine WY.q (oq_fieldAddr fld51_1 rfl) rfl rfl rfl ?_
  refine WY.q (oq_lpv (b := e) (c := p) (hem) (hp) flat49 rfl (.head _)) rfl rfl rfl ?_
  refine WY.q (oq_move rfl) rfl rfl rfl ?_
  refine WY.q (oq_nilCheck rfl) rfl rfl rfl ?_
  refine WY.q (oq_fieldAddr fld51_0 rfl) rfl rfl rfl ?_
  refine WY.q (oq_lnx (b := e) (c := n) (hem) (hn) flat49 rfl (.head _)) rfl rfl rfl ?_
  refine WY.q (oq_nilCheck rfl) rfl rfl rfl ?_
  refine WY.q (oq_fieldAddr fld51_0 rfl) rfl rfl rfl ?_
  refine WY.nil ?_
  refine WL.snx (b := p) (hpm) ty49 rfl rfl rfl ?_
  refine WL.nil ?_
  refine WE.then_normal ?_
  refine WC.sub (fr' := [(0, _), (1, _)]) ?_ ⟨rfl, rfl, trivial⟩
  refine WC.seq ?_
  refine WC.tailM (pl := []) (ql := [_, _, _, _, _, _, _, _, _, _]) (tl := [_]) [] [0, 1, 2, 3, 4, 5, 6, 7, 8, 9] 10 [] (by kernel_rfl) (by kernel_rfl) (by kernel_rfl) (by kernel_rfl) (by kernel_rfl) (by kernel_rfl) (by decide) rfl rfl rfl (by decide) (by repeat (first | with_reducible exact QOk.body | with_reducible apply QOk.then | with_reducible apply QOk.block | exact QOk.body | apply QOk.then | apply QOk.block)) ?_
  refine WM.nil ?_
  refine WY.q (oq_move rfl) rfl rfl rfl ?_
  refine WY.q (oq_nilCheck rfl) rfl rfl rfl ?_
  refine WY.q (oq_fieldAddr fld51_0 rfl) rfl rfl rfl ?_
  refine WY.q (oq_lnx (b := e) (c := n) (hem) (by rw [upd_ne _ _ hpe2]; exact hn) flat49 rfl (.head _)) rfl rfl rfl ?_
  refine WY.q (oq_move rfl) rfl rfl rfl ?_
  refine WY.q (oq_nilCheck rfl) rfl rfl rfl ?_
  refine WY.q (oq_fieldAddr fld51_1 rfl) rfl rfl rfl ?_
  refine WY.q (oq_lpv (b := e) (c := p) (hem) (hp) flat49 rfl (.head _)) rfl rfl rfl ?_
  refine WY.q (oq_nilCheck rfl) rfl rfl rfl ?_
  refine WY.q (oq_fieldAddr fld51_1 rfl) rfl rfl rfl ?_
  refine WY.nil ?_
  refine WL.spv (b := n) (hnm) ty49 rfl rfl rfl ?_
  refine WL.nil ?_
  refine WE.then_normal ?_
  refine WC.sub (fr' := [(0, _), (1, _)]) ?_ ⟨rfl, rfl, trivial⟩
  refine WC.seq ?_
  refine WC.region ?_
  refine WL.reg (reg_out (LG.out hb he)) ?_
  refine WL.q (oq_move rfl) rfl rfl rfl ?_
  refine WL.q (oq_nilCheck rfl) rfl rfl rfl ?_
  refine WL.q (oq_fieldAddr fld51_0 rfl) rfl rfl rfl ?_
  refine WL.store1 #[_, _, _, _] ty49 rfl rfl (by first | rfl | exact OwS.one one_) (Nat.lt_of_lt_of_le (Nat.lt_succ_self _) (Nat.le_of_ble_eq_true rfl)) rfl rfl ?_
  refine WL.nil ?_
  refine WE.then_normal ?_
  refine WC.sub (fr' := [(0, _), (1, _)]) ?_ ⟨rfl, rfl, trivial⟩
  refine WC.seq ?_
  refine WC.region ?_
  refine WL.q (oq_move rfl) rfl rfl rfl ?_
  refine WL.q (oq_nilCheck rfl) rfl rfl rfl ?_
  refine WL.q (oq_fieldAddr fld51_1 rfl) rfl rfl rfl ?_
  refine WL.store1 #[_, _, _, _] ty49 rfl rfl (by first | rfl | exact OwS.one one_) (Nat.lt_of_lt_of_le (Nat.lt_succ_self _) (Nat.le_of_ble_eq_true rfl)) rfl rfl ?_
  refine WL.nil ?_
  refine WE.then_normal ?_
  refine WC.sub (fr' := [(0, _), (1, _)]) ?_ ⟨rfl, rfl, trivial⟩
  refine WC.seq ?_
  refine WC.region ?_
  refine WL.q (oq_move rfl) rfl rfl rfl ?_
  refine WL.q (oq_nilCheck rfl) rfl rfl rfl ?_
  refine WL.q (oq_fieldAddr fld51_2 rfl) rfl rfl rfl ?_
  refine WL.store1 #[_, _, _, _] ty43 rfl rfl (by first | rfl | exact OwS.one one_) (Nat.lt_of_lt_of_le (Nat.lt_succ_self _) (Nat.le_of_ble_eq_true rfl)) rfl rfl ?_
  refine WL.nil ?_
  refine WE.then_normal ?_
  refine WC.sub (fr' := [(0, _)]) ?_ ⟨rfl, trivial⟩
  refine WC.region ?_
  refine WL.q (oq_move rfl) rfl rfl rfl ?_
  refine WL.q (oq_nilCheck rfl) rfl rfl rfl ?_
  refine WL.q (oq_fieldAddr fld53_1 rfl) rfl rfl rfl ?_
  refine WL.q (oq_llen flat3 rfl (.tail _ (.head _))) rfl rfl rfl ?_
  refine WL.q (oq_sub rfl rfl (by rw [i64_lo, i64_hi]; (first | omega | (simp only [List.length_cons, List.length_nil, List.length_append, List.length_drop, List.length_take]; omega)))) rfl rfl rfl ?_
  refine WL.q (oq_nilCheck rfl) rfl rfl rfl ?_
  refine WL.q (oq_fieldAddr fld53_1 rfl) rfl rfl rfl ?_
  refine WL.f1 ?_
  refine WL.slen ty3 rfl rfl rfl ?_
  refine WL.nil ?_
  refine WE.f2 ?_
  refine WE.f1 ?_
  refine WE.f2 ?_
  refine WE.endW2 (.inr rfl) (res0 Try.results44) ?_
  -- end 0
  exact rfl

end Q0
end Go.Proofs.Ytjmlifpngnbomaa
