/- Stacks that are called: handlers, the stack. -/
import Derived.Test.YtiegaefkahnfjaaGreatSL
namespace Go.Proofs.YtiegaefkahnfjaaGreat
open Go Go.RowKit V S0 S1 S2 S3 S4 S5 S6 S7 S8 SJ SK SL
set_option linter.unusedSimpArgs false
set_option linter.unusedVariables false
set_option maxRecDepth 10000
namespace SM
theorem call23 : Callable Tryz.prog 23 := ⟨_, Tryz.func23, rfl, by kernel_rfl⟩
theorem call34 : Callable Tryz.prog 34 := ⟨_, Tryz.func34, rfl, by kernel_rfl⟩
theorem flat74 : Flat Tryz.prog 74 := ⟨_, Tryz.underlying74, by simp⟩
theorem flat75 : Flat Tryz.prog 75 := ⟨_, Tryz.underlying75, by simp⟩
theorem flat76 : Flat Tryz.prog 76 := ⟨_, Tryz.underlying76, by simp⟩
theorem flat77 : Flat Tryz.prog 77 := ⟨_, Tryz.underlying77, by simp⟩
theorem flat78 : Flat Tryz.prog 78 := ⟨_, Tryz.underlying78, by simp⟩
theorem flat87 : Flat Tryz.prog 87 := ⟨_, Tryz.underlying87, by simp⟩
theorem flat197 : Flat Tryz.prog 197 := ⟨_, Tryz.underlying197, by simp⟩
theorem ty4 : Ty Tryz.prog 4 (.bool false) 1 1 := ty_of (by kernel_rfl)
theorem ty59 : Ty Tryz.prog 59 (.agg #[(.map none)]) 1 8 := ty_of (by kernel_rfl)
theorem ty74 : Ty Tryz.prog 74 (.pointer none) 1 8 := ty_of (by kernel_rfl)
theorem ty75 : Ty Tryz.prog 75 (.pointer none) 1 8 := ty_of (by kernel_rfl)
theorem ty76 : Ty Tryz.prog 76 (.pointer none) 1 8 := ty_of (by kernel_rfl)
theorem ty77 : Ty Tryz.prog 77 (.pointer none) 1 8 := ty_of (by kernel_rfl)
theorem ty78 : Ty Tryz.prog 78 (.pointer none) 1 8 := ty_of (by kernel_rfl)
theorem ty87 : Ty Tryz.prog 87 .nilIface 1 16 := ty_of (by kernel_rfl)
theorem ty197 : Ty Tryz.prog 197 .nilIface 1 16 := ty_of (by kernel_rfl)
theorem ty199 : Ty Tryz.prog 199 (.agg #[.nilIface, .nilIface]) 2 32 := ty_of (by kernel_rfl)
theorem conc74 : Conc Tryz.prog 74 := ⟨_, Tryz.underlying74, by simp⟩
theorem conc75 : Conc Tryz.prog 75 := ⟨_, Tryz.underlying75, by simp⟩
theorem conc76 : Conc Tryz.prog 76 := ⟨_, Tryz.underlying76, by simp⟩
theorem conc77 : Conc Tryz.prog 77 := ⟨_, Tryz.underlying77, by simp⟩
theorem conc78 : Conc Tryz.prog 78 := ⟨_, Tryz.underlying78, by simp⟩
theorem conc199 : Conc Tryz.prog 199 := ⟨_, Tryz.underlying199, by simp⟩
theorem agg59 : Agg Tryz.prog 59 := agg_of Tryz.underlying59
theorem str59 : Str Tryz.prog 59 #[(0, 1)] := ⟨_, Tryz.underlying59, fun w => by kernel_rfl⟩
theorem str199 : Str Tryz.prog 199 #[(0, 1), (1, 1)] := ⟨_, Tryz.underlying199, fun w => by kernel_rfl⟩
theorem fld80_0 : Fld Tryz.prog 80 0 0 74 := fld_of Tryz.underlying80 rfl rfl rfl ty74 (by decide)
theorem fld80_1 : Fld Tryz.prog 80 1 1 75 := fld_of Tryz.underlying80 rfl rfl rfl ty75 (by decide)
theorem fld80_2 : Fld Tryz.prog 80 2 2 76 := fld_of Tryz.underlying80 rfl rfl rfl ty76 (by decide)
theorem fld80_3 : Fld Tryz.prog 80 3 3 77 := fld_of Tryz.underlying80 rfl rfl rfl ty77 (by decide)
theorem fld80_4 : Fld Tryz.prog 80 4 4 78 := fld_of Tryz.underlying80 rfl rfl rfl ty78 (by decide)
theorem fld199_0 : Fld Tryz.prog 199 0 0 87 := fld_of Tryz.underlying199 rfl rfl rfl ty87 (by decide)
theorem fld199_1 : Fld Tryz.prog 199 1 1 197 := fld_of Tryz.underlying199 rfl rfl rfl ty197 (by decide)
theorem stg_fresh {i sb base : Nat} {nr : Value} {l : List Nd} (hfr : ∀ z ∈ l, base ≤ z.b) (hsb : base ≤ sb) : ∀ b o, (b, o) ∈ stg i sb nr l → base ≤ b := fresh_cat (fresh1 hsb) (ch_fresh hfr)
theorem nil_fresh {base : Nat} : ∀ b o, (b, o) ∈ ([] : Hp) → base ≤ b := fun _ _ h => nomatch h
def decF (h : Value) : List (Nat × Value) → Value
 | [] => h
 | p :: r => .iface 199 (.agg #[decF h r, .iface p.1 p.2])
theorem decF_next (h : Value) (ms : List (Nat × Value)) (i : Nat) (hi : i < ms.length) : decF h (ms.drop i) = .iface 199 (.agg #[decF h (ms.drop (i + 1)), .iface (ms.getD i (0, .nilIface)).1 (ms.getD i (0, .nilIface)).2]) := by
 rw [List.drop_eq_getElem_cons hi, List.getD_eq_getElem?_getD, List.getElem?_eq_getElem hi]; rfl
theorem ms_at (ms : List (Nat × Value)) (i : Nat) (hi : i < ms.length) : (ms.map fun p => Value.iface p.1 p.2)[(((i + 1 : Nat) : Int) - 1).toNat]? = some (.iface (ms.getD i (0, .nilIface)).1 (ms.getD i (0, .nilIface)).2) := by
 rw [show (((i + 1 : Nat) : Int) - 1).toNat = i by omega, List.getElem?_map, List.getD_eq_getElem?_getD, List.getElem?_eq_getElem hi]; rfl
theorem deco (base : Nat) (K : KE) (X Y : Hp) (ids : List (List UInt8)) (k : TypeId) (p hn : Value) (f : FuncId) (hY : ∀ b o, (b, o) ∈ Y → base ≤ b) (hi : InvH Tryz.prog Y "HandleMiddleware" (.iface k p) [CTX, .nilIface, hn] f [p, CTX, .nilIface, hn]) (hC : HC base K f [p, CTX, .nilIface, hn] X Y .nilIface ids) (l : List (List UInt8)) (lv : Value) (L : Hp) (ho : OwL base lv L l) (hl : l.length + 2 * ids.length ≤ 100000) : FnW Tryz.prog 148 [.agg #[hn, .iface k p], CTX, .nilIface] base [CS K.cb lv K.stop K.fail, L, KB K.kb false, X, Y] (CR base K X l ids .nilIface) := by
 refine FnW.enter (n := 19) Tryz.func148 rfl rfl fun w0 R0 hbase => ?_
 subst hbase
 show WC _ _ _ _ _ _ _ ([CS K.cb lv K.stop K.fail, L, KB K.kb false, X, Y, R0])
 refine WC.sub (fr' := [(0, _), (1, _), (2, _)]) ?_ ⟨rfl, rfl, rfl, trivial⟩
 refine WC.seq (WC.region ?_)
 refine WL.box rfl rfl rfl fun o3 ho3 => ?_
 refine WL.q (oq_assign rfl) rfl rfl rfl ?_
 refine WL.alloc ty59 rfl rfl fun o7 ho7 => ?_
 refine WL.q (oq_assign rfl) rfl rfl rfl ?_
 refine WL.nil (WE.then_normal (WC.sub (fr' := [(1, _), (2, _), (3, _), (7, _)]) ?_ ⟨rfl, rfl, rfl, rfl, trivial⟩))
 refine WC.seq (WC.region ?_)
 refine WL.q (oq_fieldAddr fld199_1 rfl) rfl rfl rfl ?_
 refine WL.q (oq_load flat197 rfl (.tail _ (.head _)) (List.mem_singleton.2 rfl) rfl) rfl rfl rfl ?_
 refine WL.q (oq_move rfl) rfl rfl rfl ?_
 refine WL.q (oq_move rfl) rfl rfl rfl ?_
 refine WL.q (oq_fieldAddr fld199_0 rfl) rfl rfl rfl ?_
 refine WL.q (oq_load flat87 rfl (.tail _ (.head _)) (List.mem_singleton.2 rfl) rfl) rfl rfl rfl ?_
 refine WL.f6 ?_
 refine WL.f6 ?_
 refine WL.f6 ?_
 refine WL.f6 ?_
 refine WL.f6 ?_
 refine WL.callWF (fun a w hf hw => ent_invH (hi) (.tail _ (.tail _ (.tail _ (.tail _ (.head _))))) rfl rfl a w hf hw) (hC l lv L ho hl) rfl rfl rfl rfl fun v1_6 Hs1_6 hR1_6 => ?_
 obtain ⟨lv2, L2, Y2, e2, rfl, rfl, ho2, hY2, he2⟩ := hR1_6
 refine WL.app5 ?_
 refine WL.q (oq_extract rfl rfl) rfl rfl rfl ?_
 refine WL.q (oq_extract rfl rfl) rfl rfl rfl ?_
 refine WL.q (oq_extract rfl rfl) rfl rfl rfl ?_
 refine WL.q (oq_assign rfl) rfl rfl rfl ?_
 refine WL.f5 ?_
 refine WL.storeS #[_] ty59 rfl rfl rfl rfl (Nat.le_of_ble_eq_true rfl) rfl rfl ?_
 refine WL.q (oq_assign rfl) rfl rfl rfl ?_
 refine WL.nil (WE.then_normal (WC.sub (fr' := [(6, _), (7, _), (8, _)]) ?_ ⟨rfl, rfl, rfl, trivial⟩))
 refine WC.ret ?_
 refine WE.endDW [_, _, _, _, _] (.inl rfl) (rs3 Tryz.results148 (rv_tmp rfl) (rv_cellS [_] agg59 ty59 rfl (.head _) (List.mem_singleton.2 rfl) rfl rfl) (rv_tmp rfl)) (dr_lose ho7 (dr_f5 (dr_lose ho3 dr_refl))) ?_
 exact crSame (ov' := .nilIface) ho2 hY2 he2
theorem called (base : Nat) (K : KE) (X Y : Hp) (hY : ∀ b o, (b, o) ∈ Y → base ≤ b) (l : List (List UInt8)) (lv : Value) (L : Hp) (ho : OwL base lv L l)  : FnW Tryz.prog 23 [CTX, .nilIface, Pt K.kb 0] base [CS K.cb lv K.stop K.fail, L, KB K.kb false, X, Y] (CR base K X l [] .nilIface) := by
 refine FnW.enter (n := 9) Tryz.func23 rfl rfl fun w0 R0 hbase => ?_
 subst hbase
 show WC _ _ _ _ _ _ _ ([CS K.cb lv K.stop K.fail, L, KB K.kb false, X, Y, R0])
 refine WC.sub (fr' := [(2, _)]) ?_ ⟨rfl, trivial⟩
 refine WC.seq (WC.region ?_)
 refine WL.q (oq_assign rfl) rfl rfl rfl ?_
 refine WL.alloc ty59 rfl rfl fun o6 ho6 => ?_
 refine WL.q (oq_assign rfl) rfl rfl rfl ?_
 refine WL.nil (WE.then_normal (WC.sub (fr' := [(2, _), (6, _)]) ?_ ⟨rfl, rfl, trivial⟩))
 refine WC.seq (WC.region ?_)
 refine WL.f3 ?_
 refine WL.store ty4 rfl rfl rfl (by decide) (by simp) rfl ?_
 refine WL.nil (WE.then_normal (WC.sub (fr' := [(6, _)]) ?_ ⟨rfl, trivial⟩))
 refine WC.seq (WC.region ?_)
 refine WL.q (oq_build #[_] str59 ty59 rfl rfl) rfl rfl rfl ?_
 refine WL.q (oq_assign rfl) rfl rfl rfl ?_
 refine WL.f1 ?_
 refine WL.storeS #[_] ty59 rfl rfl rfl rfl (Nat.le_of_ble_eq_true rfl) rfl rfl ?_
 refine WL.q (oq_assign rfl) rfl rfl rfl ?_
 refine WL.nil (WE.then_normal (WC.sub (fr' := [(5, _), (6, _), (7, _)]) ?_ ⟨rfl, rfl, rfl, trivial⟩))
 refine WC.ret ?_
 refine WE.endDW [_, _, _, _, _] (.inl rfl) (rs3 Tryz.results23 (rv_tmp rfl) (rv_cellS [_] agg59 ty59 rfl (.head _) (List.mem_singleton.2 rfl) rfl rfl) (rv_tmp rfl)) (dr_lose ho6 (dr_f5 (dr_f5 (dr_f5 (dr_f3 (dr_f5 (dr_f5 dr_refl))))))) ?_
 exact crSame (ids := []) (ov' := .nilIface) (by simpa [Tr] using ho) hY (by show (if _ then _ else _); rfl)
theorem hfunc (base : Nat) (K : KE) (X Y : Hp) (hY : ∀ b o, (b, o) ∈ Y → base ≤ b) (l : List (List UInt8)) (lv : Value) (L : Hp) (ho : OwL base lv L l)  : FnW Tryz.prog 146 [.func (.func 23) #[] #[Pt K.kb 0], CTX, .nilIface] base [CS K.cb lv K.stop K.fail, L, KB K.kb false, X, Y] (CR base K X l [] .nilIface) := by
 refine FnW.enter (n := 16) Tryz.func146 rfl rfl fun w0 R0 hbase => ?_
 subst hbase
 show WC _ _ _ _ _ _ _ ([CS K.cb lv K.stop K.fail, L, KB K.kb false, X, Y, R0])
 refine WC.sub (fr' := [(0, _), (1, _), (2, _)]) ?_ ⟨rfl, rfl, rfl, trivial⟩
 refine WC.seq (WC.region ?_)
 refine WL.q (oq_assign rfl) rfl rfl rfl ?_
 refine WL.alloc ty59 rfl rfl fun o7 ho7 => ?_
 refine WL.q (oq_assign rfl) rfl rfl rfl ?_
 refine WL.nil (WE.then_normal (WC.sub (fr' := [(0, _), (1, _), (2, _), (7, _)]) ?_ ⟨rfl, rfl, rfl, rfl, trivial⟩))
 refine WC.seq (WC.region ?_)
 refine WL.q (oq_move rfl) rfl rfl rfl ?_
 refine WL.q (oq_move rfl) rfl rfl rfl ?_
 refine WL.q (oq_move rfl) rfl rfl rfl ?_
 refine WL.f5 ?_
 refine WL.f5 ?_
 refine WL.f5 ?_
 refine WL.f5 ?_
 refine WL.f5 ?_
 refine WL.callWE (args := [CTX, .nilIface, Pt K.kb 0]) (fun a w hf => run_enterv (first := []) (vs := [CTX, .nilIface]) (cap := [Pt K.kb 0]) call23 rfl rfl hf w) (called _ K X Y hY l lv L ho) rfl rfl rfl rfl fun v1_3 Hs1_3 hR1_3 => ?_
 obtain ⟨lv2, L2, Y2, e2, rfl, rfl, ho2, hY2, he2⟩ := hR1_3
 refine WL.app5 ?_
 refine WL.q (oq_extract rfl rfl) rfl rfl rfl ?_
 refine WL.q (oq_extract rfl rfl) rfl rfl rfl ?_
 refine WL.q (oq_extract rfl rfl) rfl rfl rfl ?_
 refine WL.q (oq_assign rfl) rfl rfl rfl ?_
 refine WL.f5 ?_
 refine WL.storeS #[_] ty59 rfl rfl rfl rfl (Nat.le_of_ble_eq_true rfl) rfl rfl ?_
 refine WL.q (oq_assign rfl) rfl rfl rfl ?_
 refine WL.nil (WE.then_normal (WC.sub (fr' := [(6, _), (7, _), (8, _)]) ?_ ⟨rfl, rfl, rfl, trivial⟩))
 refine WC.ret ?_
 refine WE.endDW [_, _, _, _, _] (.inl rfl) (rs3 Tryz.results146 (rv_tmp rfl) (rv_cellS [_] agg59 ty59 rfl (.head _) (List.mem_singleton.2 rfl) rfl rfl) (rv_tmp rfl)) (dr_lose ho7 dr_refl) ?_
 exact crSame (ids := []) (ov' := .nilIface) ho2 hY2 he2
theorem decorate (hk : TypeId) (hv sv : Value) (A : Hp) (ms : List (Nat × Value)) (hm : ms.length = 5) (hs : RdS 1 sv A 5 (ms.map fun p => Value.iface p.1 p.2)) : FnR Tryz.prog 34 [.iface hk hv, sv] A (decF (.iface hk hv) ms) := by
 refine FnR.enter (n := 21) Tryz.func34 rfl rfl fun w0 => ?_
 refine WC.sub (fr' := [(0, _), (1, _)]) ?_ ⟨rfl, rfl, trivial⟩
 refine WC.seq (WC.region ?_)
 refine WL.q (oq_assign rfl) rfl rfl rfl ?_
 refine WL.nil (WE.then_normal (WC.sub (fr' := [(0, _), (1, _)]) ?_ ⟨rfl, rfl, trivial⟩))
 refine WC.seq (WC.seq (WC.region ?_))
 refine WL.q (oq_move rfl) rfl rfl rfl ?_
 refine WL.q (oq_len_rd hs Tryz.underlying195 rfl) rfl rfl rfl ?_
 refine WL.q (oq_sub rfl rfl (by rw [i64_lo, i64_hi]; (first | omega | (simp only [List.length_cons, List.length_nil, List.length_append, List.length_drop, List.length_take]; omega)))) rfl rfl rfl ?_
 refine WL.q (oq_assign rfl) rfl rfl rfl ?_
 refine WL.nil (WE.then_normal (WC.sub (fr' := [(0, _), (1, _), (5, _)]) ?_ ⟨rfl, rfl, rfl, trivial⟩))
 refine WC.block ?_
 refine WC.loop (ι := Nat × TypeId × Value) (fun i_ => (fun (j : Nat) (k1 : TypeId) (v1 : Value) => [(0, .iface k1 v1), (1, sv), (5, I ((j : Int) - 1))]) i_.1 i_.2.1 i_.2.2) (fun i_ => (fun (j : Nat) (k1 : TypeId) (v1 : Value) => [A]) i_.1 i_.2.1 i_.2.2) (fun i_ => (fun (j : Nat) (k1 : TypeId) (v1 : Value) => j ≤ 5 ∧ Value.iface k1 v1 = decF (.iface hk hv) (ms.drop j)) i_.1 i_.2.1 i_.2.2) (fun i_ => (fun (j : Nat) (k1 : TypeId) (v1 : Value) => j) i_.1 i_.2.1 i_.2.2) ((5, hk, hv)) ?_ ⟨rfl, rfl, rfl, trivial⟩ (List.Perm.refl _) ?_
 ·try dsimp only
  exact ⟨by omega, by rw [← hm, List.drop_length]; rfl⟩
 ·rintro ⟨j, k1, v1⟩ hp
  try dsimp only at hp
  obtain ⟨hj, hd⟩ := hp
  show WC _ _ _ _ _ _ ([(0, .iface k1 v1), (1, sv), (5, I ((j : Int) - 1))]) ([A])
  refine WC.seq (WC.seq (WC.region ?_))
  refine WL.q (oq_move rfl) rfl rfl rfl ?_
  refine WL.q (oq_geq rfl rfl) rfl rfl rfl ?_
  refine WL.nil (WE.then_normal (WC.sub (fr' := [(0, _), (1, _), (5, _), (10, _)]) ?_ ⟨rfl, rfl, rfl, rfl, trivial⟩))
  refine WC.cond rfl (fun q2 => ?_) (fun q2 => ?_)
  ·
   try simp only [Z1, Z2, Z3, Z4, Z5, Z6, Z7, Z8, Z9, Z0] at q2
   refine WC.skip (WE.then_normal (WC.sub (fr' := [(0, _), (1, _), (5, _)]) ?_ ⟨rfl, rfl, rfl, trivial⟩))
   refine WC.seq (WC.block ?_)
   obtain ⟨i, rfl⟩ : ∃ i, j = i + 1 := ⟨j - 1, by omega⟩
   refine WC.region ?_
   refine WL.q (oq_move rfl) rfl rfl rfl ?_
   refine WL.q (oq_move rfl) rfl rfl rfl ?_
   refine WL.q (oq_move rfl) rfl rfl rfl ?_
   refine WL.q (oq_ixaddr hs Tryz.underlying195 ty197 rfl rfl (by (first | omega | (simp only [List.length_cons, List.length_nil, List.length_append, List.length_drop, List.length_take]; omega)))) rfl rfl rfl ?_
   refine WL.q (oq_load_el hs (.head _) flat197 rfl (by omega) (ms_at ms i (by omega))) rfl rfl rfl ?_
   refine WL.q (oq_build #[_, _] str199 ty199 rfl rfl) rfl rfl rfl ?_
   refine WL.q (oq_makeI conc199 rfl) rfl rfl rfl ?_
   refine WL.q (oq_assign rfl) rfl rfl rfl ?_
   refine WL.nil (WE.block_normal (WE.then_normal (WC.sub (fr' := [(0, _), (1, _), (5, _)]) ?_ ⟨rfl, rfl, rfl, trivial⟩)))
   refine WC.region ?_
   refine WL.q (oq_move rfl) rfl rfl rfl ?_
   refine WL.q (oq_sub rfl rfl (by rw [i64_lo, i64_hi]; (first | omega | (simp only [List.length_cons, List.length_nil, List.length_append, List.length_drop, List.length_take]; omega)))) rfl rfl rfl ?_
   refine WL.q (oq_assign rfl) rfl rfl rfl ?_
   refine WL.nil ?_
   refine WE.again (i, 199, _) ?_ ?_ ⟨rfl, rfl, (gti rfl (by omega)), trivial⟩ (List.Perm.refl _)
   ·try dsimp only
    exact ⟨by omega, by have e := decF_next (.iface hk hv) ms i (by omega); rw [← hd] at e; exact e.symm⟩
   ·(try dsimp only); omega
  ·
   try simp only [Z1, Z2, Z3, Z4, Z5, Z6, Z7, Z8, Z9, Z0] at q2
   refine WC.exit (WE.then_exit (WE.then_exit (WE.block_same (WE.then_normal (WC.sub (fr' := [(0, _)]) ?_ ⟨rfl, trivial⟩)))))
   refine WC.seq (WC.region ?_)
   refine WL.q (oq_move rfl) rfl rfl rfl ?_
   refine WL.q (oq_assign rfl) rfl rfl rfl ?_
   refine WL.nil (WE.then_normal (WC.sub (fr' := [(4, _)]) ?_ ⟨rfl, trivial⟩))
   refine WC.ret ?_
   refine WE.endR (.inl rfl) (res1 Tryz.results34 rfl) ?_
   obtain rfl : j = 0 := by omega
   rw [hd, List.drop_zero]
theorem handler {base : Nat} {K : KE} {X : Hp} : HD base K "Handle" .nilIface X [] (.iface 68 (.func (.func 23) #[] #[Pt K.kb 0])) .nilIface [] :=
 ⟨146, [.func (.func 23) #[] #[Pt K.kb 0], CTX, .nilIface], fun w _ => by kernel_rfl, fun l lv L ho hl => hfunc base K X [] nil_fresh l lv L ho⟩
theorem decoHD {base : Nat} {K : KE} {X Y : Hp} {ids : List (List UInt8)} {k : TypeId} {p hn : Value} {f : FuncId} (hY : ∀ b o, (b, o) ∈ Y → base ≤ b) (hi : InvH Tryz.prog Y "HandleMiddleware" (.iface k p) [CTX, .nilIface, hn] f [p, CTX, .nilIface, hn]) (hC : HC base K f [p, CTX, .nilIface, hn] X Y .nilIface ids) : HD base K "Handle" .nilIface X Y (.iface 199 (.agg #[hn, .iface k p])) .nilIface ids :=
 ⟨148, [.agg #[hn, .iface k p], CTX, .nilIface], fun w _ => by kernel_rfl, deco base K X Y ids k p hn f hY hi hC⟩
theorem decS0 {base sb b3 : Nat} {K : KE} {X Y : Hp} {ids : List (List UInt8)} {hk : TypeId} {hv : Value} (hY : ∀ b o, (b, o) ∈ Y → base ≤ b) (hd : HD base K "Handle" .nilIface X Y (.iface hk hv) .nilIface ids) (hX3 : (b3, Obj.cells #[Pt K.cb 0] 54 (0, 0)) ∈ X) (its : List Nd)
  (hr : ∀ z ∈ its, Okn 0 b3 X z ∧ z.id.length ≤ 100000) (hfr : ∀ z ∈ its, base ≤ z.b) (hsb : base ≤ sb) : HD base K "Handle" .nilIface X (stg 0 sb NR its ++ Y) (.iface 199 (.agg #[.iface hk hv, .iface 74 (Pt sb 0)])) .nilIface (its.map Nd.id ++ ids) :=
 decoHD (fresh_cat (stg_fresh hfr hsb) hY) (fun w _ => by kernel_rfl) (step0 hY hd hX3 its hr hfr hsb)
theorem decS1 {base sb b3 : Nat} {K : KE} {X Y : Hp} {ids : List (List UInt8)} {hk : TypeId} {hv : Value} (hY : ∀ b o, (b, o) ∈ Y → base ≤ b) (hd : HD base K "Handle" .nilIface X Y (.iface hk hv) .nilIface ids) (hX3 : (b3, Obj.cells #[Pt K.cb 0] 54 (0, 0)) ∈ X) (its : List Nd)
  (hr : ∀ z ∈ its, Okn 1 b3 X z ∧ z.id.length ≤ 100000) (hfr : ∀ z ∈ its, base ≤ z.b) (hsb : base ≤ sb) : HD base K "Handle" .nilIface X (stg 1 sb NR its ++ Y) (.iface 199 (.agg #[.iface hk hv, .iface 75 (Pt sb 0)])) .nilIface (its.map Nd.id ++ ids) :=
 decoHD (fresh_cat (stg_fresh hfr hsb) hY) (fun w _ => by kernel_rfl) (step1 hY hd hX3 its hr hfr hsb)
theorem decS2 {base sb b3 : Nat} {K : KE} {X Y : Hp} {ids : List (List UInt8)} {hk : TypeId} {hv : Value} (hY : ∀ b o, (b, o) ∈ Y → base ≤ b) (hd : HD base K "Handle" .nilIface X Y (.iface hk hv) .nilIface ids) (hX3 : (b3, Obj.cells #[Pt K.cb 0] 54 (0, 0)) ∈ X) (its : List Nd)
  (hr : ∀ z ∈ its, Okn 2 b3 X z ∧ z.id.length ≤ 100000) (hfr : ∀ z ∈ its, base ≤ z.b) (hsb : base ≤ sb) : HD base K "Handle" .nilIface X (stg 2 sb NR its ++ Y) (.iface 199 (.agg #[.iface hk hv, .iface 76 (Pt sb 0)])) .nilIface (its.map Nd.id ++ ids) :=
 decoHD (fresh_cat (stg_fresh hfr hsb) hY) (fun w _ => by kernel_rfl) (step2 hY hd hX3 its hr hfr hsb)
theorem decS3 {base sb b3 : Nat} {K : KE} {X Y : Hp} {ids : List (List UInt8)} {hk : TypeId} {hv : Value} (hY : ∀ b o, (b, o) ∈ Y → base ≤ b) (hd : HD base K "Handle" .nilIface X Y (.iface hk hv) .nilIface ids) (hX3 : (b3, Obj.cells #[Pt K.cb 0] 54 (0, 0)) ∈ X) (its : List Nd)
  (hr : ∀ z ∈ its, Okn 3 b3 X z ∧ z.id.length ≤ 100000) (hfr : ∀ z ∈ its, base ≤ z.b) (hsb : base ≤ sb) : HD base K "Handle" .nilIface X (stg 3 sb NR its ++ Y) (.iface 199 (.agg #[.iface hk hv, .iface 77 (Pt sb 0)])) .nilIface (its.map Nd.id ++ ids) :=
 decoHD (fresh_cat (stg_fresh hfr hsb) hY) (fun w _ => by kernel_rfl) (step3 hY hd hX3 its hr hfr hsb)
theorem decS4 {base sb b3 : Nat} {K : KE} {X Y : Hp} {ids : List (List UInt8)} {hk : TypeId} {hv : Value} (hY : ∀ b o, (b, o) ∈ Y → base ≤ b) (hd : HD base K "Handle" .nilIface X Y (.iface hk hv) .nilIface ids) (hX3 : (b3, Obj.cells #[Pt K.cb 0] 54 (0, 0)) ∈ X) (its : List Nd)
  (hr : ∀ z ∈ its, Okn 4 b3 X z ∧ z.id.length ≤ 100000) (hfr : ∀ z ∈ its, base ≤ z.b) (hsb : base ≤ sb) : HD base K "Handle" .nilIface X (stg 4 sb NR its ++ Y) (.iface 199 (.agg #[.iface hk hv, .iface 78 (Pt sb 0)])) .nilIface (its.map Nd.id ++ ids) :=
 decoHD (fresh_cat (stg_fresh hfr hsb) hY) (fun w _ => by kernel_rfl) (step4 hY hd hX3 its hr hfr hsb)
def YS (G : SS) (its : Nat → List Nd) : Hp := stg 0 (G.sb 0) NR (its 0) ++ (stg 1 (G.sb 1) NR (its 1) ++ (stg 2 (G.sb 2) NR (its 2) ++ (stg 3 (G.sb 3) NR (its 3) ++ (stg 4 (G.sb 4) NR (its 4) ++ []))))
def allI (q : Nat → List (List UInt8)) : List (List UInt8) := q 0 ++ (q 1 ++ (q 2 ++ (q 3 ++ (q 4 ++ []))))
def msG (G : SS) : List (Nat × Value) := [(74, Pt (G.sb 0) 0), (75, Pt (G.sb 1) 0), (76, Pt (G.sb 2) 0), (77, Pt (G.sb 3) 0), (78, Pt (G.sb 4) 0)]
theorem allHD {base : Nat} {K : KE} {X : Hp} {G : SS} {its : Nat → List Nd} (hX3 : ∀ i, i < 5 → (G.b3 i, Obj.cells #[Pt K.cb 0] 54 (0, 0)) ∈ X) (hr : ∀ i, i < 5 → ∀ z ∈ its i, Okn i (G.b3 i) X z ∧ z.id.length ≤ 100000) (hfr : ∀ i, i < 5 → ∀ z ∈ its i, base ≤ z.b) (hsb : ∀ i, i < 5 → base ≤ G.sb i) :
  HD base K "Handle" .nilIface X (YS G its) (decF (.iface 68 (.func (.func 23) #[] #[Pt K.kb 0])) (msG G)) .nilIface (allI (ids its)) := by
 have f4 := fresh_cat (stg_fresh (i := 4) (nr := NR) (hfr 4 (by decide)) (hsb 4 (by decide))) nil_fresh
 have f3 := fresh_cat (stg_fresh (i := 3) (nr := NR) (hfr 3 (by decide)) (hsb 3 (by decide))) f4
 have f2 := fresh_cat (stg_fresh (i := 2) (nr := NR) (hfr 2 (by decide)) (hsb 2 (by decide))) f3
 have f1 := fresh_cat (stg_fresh (i := 1) (nr := NR) (hfr 1 (by decide)) (hsb 1 (by decide))) f2
 have h4 := decS4 nil_fresh (handler (base := base) (K := K) (X := X)) (hX3 4 (by decide)) (its 4) (hr 4 (by decide)) (hfr 4 (by decide)) (hsb 4 (by decide))
 have h3 := decS3 f4 h4 (hX3 3 (by decide)) (its 3) (hr 3 (by decide)) (hfr 3 (by decide)) (hsb 3 (by decide))
 have h2 := decS2 f3 h3 (hX3 2 (by decide)) (its 2) (hr 2 (by decide)) (hfr 2 (by decide)) (hsb 2 (by decide))
 have h1 := decS1 f2 h2 (hX3 1 (by decide)) (its 1) (hr 1 (by decide)) (hfr 1 (by decide)) (hsb 1 (by decide))
 exact decS0 f1 h1 (hX3 0 (by decide)) (its 0) (hr 0 (by decide)) (hfr 0 (by decide)) (hsb 0 (by decide))
theorem stackH (base st : Nat) (K : KE) (X Y : Hp) (G : SS) (nm : List UInt8) (ids : List (List UInt8)) (hk : TypeId) (hv : Value) (hst : base ≤ st) (hY : ∀ b o, (b, o) ∈ Y → base ≤ b) (hd : HD base K "Handle" .nilIface X Y (decF (.iface hk hv) (msG G)) .nilIface ids) (l : List (List UInt8)) (lv : Value) (L : Hp) (ho : OwL base lv L l) (hl : l.length + 2 * ids.length ≤ 100000) : FnW Tryz.prog 21 [Pt st 0, CTX, .nilIface, .iface hk hv] base [CS K.cb lv K.stop K.fail, L, KB K.kb false, X, Y, stk st G nm] (CR base K X l ids .nilIface) := by
 obtain ⟨hf, ha, hiH, hC⟩ := hd
 refine FnW.enter (n := 47) Tryz.func21 rfl rfl fun w0 R0 hbase => ?_
 subst hbase
 show WC _ _ _ _ _ _ _ ([CS K.cb lv K.stop K.fail, L, KB K.kb false, X, Y, stk st G nm, R0])
 refine WC.sub (fr' := [(0, _), (1, _), (2, _), (3, _)]) ?_ ⟨rfl, rfl, rfl, rfl, trivial⟩
 refine WC.seq (WC.region ?_)
 refine WL.q (oq_assign rfl) rfl rfl rfl ?_
 refine WL.alloc ty59 rfl rfl fun o9 ho9 => ?_
 refine WL.q (oq_assign rfl) rfl rfl rfl ?_
 refine WL.nil (WE.then_normal (WC.sub (fr' := [(0, _), (1, _), (2, _), (3, _), (9, _)]) ?_ ⟨rfl, rfl, rfl, rfl, rfl, trivial⟩))
 refine WC.seq ?_
 refine WC.gate 26 (stk st G nm) (by kernel_rfl) ?_
 refine WG.p 0 rfl (.inr (.tail _ (.tail _ (.tail _ (.tail _ (.tail _ (.tail _ (.head _)))))))) (fun w0 => oq_move rfl) rfl rfl rfl ?_
 refine WG.q 1 [5, 4, 3, 2] rfl (.tail _ (.tail _ (.tail _ (.tail _ (.tail _ (.tail _ (.head _))))))) (fun w0 => oq_move rfl) rfl rfl rfl ?_
 refine WG.q 2 [5, 4, 3] rfl (.tail _ (.tail _ (.tail _ (.tail _ (.tail _ (.tail _ (.head _))))))) (fun w0 => oq_nilCheck rfl) rfl rfl rfl ?_
 refine WG.q 3 [5, 4] rfl (.tail _ (.tail _ (.tail _ (.tail _ (.tail _ (.tail _ (.head _))))))) (fun w0 => oq_fieldAddr fld80_0 rfl) rfl rfl rfl ?_
 refine WG.q 4 [5] rfl (.tail _ (.tail _ (.tail _ (.tail _ (.tail _ (.tail _ (.head _))))))) (fun w0 => oq_load flat74 rfl (.head _) (List.mem_singleton.2 rfl) rfl) rfl rfl rfl ?_
 refine WG.q 5 [] rfl (.tail _ (.tail _ (.tail _ (.tail _ (.tail _ (.tail _ (.head _))))))) (fun w0 => oq_makeI conc74 rfl) rfl rfl rfl ?_
 refine WG.q 6 [10, 9, 8, 7] rfl (.tail _ (.tail _ (.tail _ (.tail _ (.tail _ (.tail _ (.head _))))))) (fun w0 => oq_move rfl) rfl rfl rfl ?_
 refine WG.q 7 [10, 9, 8] rfl (.tail _ (.tail _ (.tail _ (.tail _ (.tail _ (.tail _ (.head _))))))) (fun w0 => oq_nilCheck rfl) rfl rfl rfl ?_
 refine WG.q 8 [10, 9] rfl (.tail _ (.tail _ (.tail _ (.tail _ (.tail _ (.tail _ (.head _))))))) (fun w0 => oq_fieldAddr fld80_1 rfl) rfl rfl rfl ?_
 refine WG.q 9 [10] rfl (.tail _ (.tail _ (.tail _ (.tail _ (.tail _ (.tail _ (.head _))))))) (fun w0 => oq_load flat75 rfl (.head _) (List.mem_singleton.2 rfl) rfl) rfl rfl rfl ?_
 refine WG.q 10 [] rfl (.tail _ (.tail _ (.tail _ (.tail _ (.tail _ (.tail _ (.head _))))))) (fun w0 => oq_makeI conc75 rfl) rfl rfl rfl ?_
 refine WG.q 11 [15, 14, 13, 12] rfl (.tail _ (.tail _ (.tail _ (.tail _ (.tail _ (.tail _ (.head _))))))) (fun w0 => oq_move rfl) rfl rfl rfl ?_
 refine WG.q 12 [15, 14, 13] rfl (.tail _ (.tail _ (.tail _ (.tail _ (.tail _ (.tail _ (.head _))))))) (fun w0 => oq_nilCheck rfl) rfl rfl rfl ?_
 refine WG.q 13 [15, 14] rfl (.tail _ (.tail _ (.tail _ (.tail _ (.tail _ (.tail _ (.head _))))))) (fun w0 => oq_fieldAddr fld80_2 rfl) rfl rfl rfl ?_
 refine WG.q 14 [15] rfl (.tail _ (.tail _ (.tail _ (.tail _ (.tail _ (.tail _ (.head _))))))) (fun w0 => oq_load flat76 rfl (.head _) (List.mem_singleton.2 rfl) rfl) rfl rfl rfl ?_
 refine WG.q 15 [] rfl (.tail _ (.tail _ (.tail _ (.tail _ (.tail _ (.tail _ (.head _))))))) (fun w0 => oq_makeI conc76 rfl) rfl rfl rfl ?_
 refine WG.q 16 [20, 19, 18, 17] rfl (.tail _ (.tail _ (.tail _ (.tail _ (.tail _ (.tail _ (.head _))))))) (fun w0 => oq_move rfl) rfl rfl rfl ?_
 refine WG.q 17 [20, 19, 18] rfl (.tail _ (.tail _ (.tail _ (.tail _ (.tail _ (.tail _ (.head _))))))) (fun w0 => oq_nilCheck rfl) rfl rfl rfl ?_
 refine WG.q 18 [20, 19] rfl (.tail _ (.tail _ (.tail _ (.tail _ (.tail _ (.tail _ (.head _))))))) (fun w0 => oq_fieldAddr fld80_3 rfl) rfl rfl rfl ?_
 refine WG.q 19 [20] rfl (.tail _ (.tail _ (.tail _ (.tail _ (.tail _ (.tail _ (.head _))))))) (fun w0 => oq_load flat77 rfl (.head _) (List.mem_singleton.2 rfl) rfl) rfl rfl rfl ?_
 refine WG.q 20 [] rfl (.tail _ (.tail _ (.tail _ (.tail _ (.tail _ (.tail _ (.head _))))))) (fun w0 => oq_makeI conc77 rfl) rfl rfl rfl ?_
 refine WG.q 21 [25, 24, 23, 22] rfl (.tail _ (.tail _ (.tail _ (.tail _ (.tail _ (.tail _ (.head _))))))) (fun w0 => oq_move rfl) rfl rfl rfl ?_
 refine WG.q 22 [25, 24, 23] rfl (.tail _ (.tail _ (.tail _ (.tail _ (.tail _ (.tail _ (.head _))))))) (fun w0 => oq_nilCheck rfl) rfl rfl rfl ?_
 refine WG.q 23 [25, 24] rfl (.tail _ (.tail _ (.tail _ (.tail _ (.tail _ (.tail _ (.head _))))))) (fun w0 => oq_fieldAddr fld80_4 rfl) rfl rfl rfl ?_
 refine WG.q 24 [25] rfl (.tail _ (.tail _ (.tail _ (.tail _ (.tail _ (.tail _ (.head _))))))) (fun w0 => oq_load flat78 rfl (.head _) (List.mem_singleton.2 rfl) rfl) rfl rfl rfl ?_
 refine WG.q 25 [] rfl (.tail _ (.tail _ (.tail _ (.tail _ (.tail _ (.tail _ (.head _))))))) (fun w0 => oq_makeI conc78 rfl) rfl rfl rfl ?_
 refine WG.step (i := 26) (by kernel_rfl) rfl ?_
 refine WL.buildL Tryz.underlying195 ty197 rfl rfl (by decide) (by decide) rfl rfl rfl fun v1_26 A1_26 ho1_26 hne1_26 => ?_
 refine WL.nil ?_
 refine WE.toG0 (by kernel_rfl) ?_
 refine WG.step (i := 27) (by kernel_rfl) rfl ?_
 refine WL.qc (oq_callRm (decorate hk hv _ _ (msG G) rfl ho1_26.rd) (.head _) call34 rfl) rfl rfl rfl ?_
 refine WL.nil ?_
 refine WE.toG0 (by kernel_rfl) ?_
 refine WG.p 28 rfl (.inl (by kernel_rfl)) (fun w0 => oq_assign rfl) rfl rfl rfl ?_
 refine WG.done (by kernel_rfl) ?_
 refine WE.then_normal (WC.sub (fr' := [(1, _), (2, _), (9, _), (11, _)]) ?_ ⟨rfl, rfl, rfl, rfl, trivial⟩)
 refine WC.seq (WC.region ?_)
 refine WL.q (oq_move rfl) rfl rfl rfl ?_
 refine WL.q (oq_move rfl) rfl rfl rfl ?_
 refine WL.q (oq_move rfl) rfl rfl rfl ?_
 refine WL.f6 ?_
 refine WL.f6 ?_
 refine WL.f6 ?_
 refine WL.f6 ?_
 refine WL.f6 ?_
 refine WL.callWF (fun a w hf hw => ent_invH (hiH) (.tail _ (.tail _ (.tail _ (.tail _ (.head _))))) rfl rfl a w hf hw) (hC l lv L ho hl) rfl rfl rfl rfl fun v2_3 Hs2_3 hR2_3 => ?_
 obtain ⟨lv2, L2, Y2, e2, rfl, rfl, ho2, hY2, he2⟩ := hR2_3
 refine WL.app5 ?_
 refine WL.q (oq_extract rfl rfl) rfl rfl rfl ?_
 refine WL.q (oq_extract rfl rfl) rfl rfl rfl ?_
 refine WL.q (oq_extract rfl rfl) rfl rfl rfl ?_
 refine WL.q (oq_assign rfl) rfl rfl rfl ?_
 refine WL.f6 ?_
 refine WL.storeS #[_] ty59 rfl rfl rfl rfl (Nat.le_of_ble_eq_true rfl) rfl rfl ?_
 refine WL.q (oq_assign rfl) rfl rfl rfl ?_
 refine WL.nil (WE.then_normal (WC.sub (fr' := [(8, _), (9, _), (10, _)]) ?_ ⟨rfl, rfl, rfl, trivial⟩))
 refine WC.ret ?_
 refine WE.endDW [_, _, _, _, _] (.inl rfl) (rs3 Tryz.results21 (rv_tmp rfl) (rv_cellS [_] agg59 ty59 rfl (.head _) (List.mem_singleton.2 rfl) rfl rfl) (rv_tmp rfl)) (dr_lose ho9 (dr_f5 (dr_forget ho1_26.fresh (dr_f5 (dr_lose hst dr_refl))))) ?_
 exact crSame (ov' := .nilIface) ho2 hY2 he2
end SM
end Go.Proofs.YtiegaefkahnfjaaGreat
