/- Walks of the builder of texts. -/
import Derived.Test.YtbcmbmmnpnbakaaDoorVA
import Derived.Test.YtbcmbmmnpnbakaaDoorP0
import Derived.Test.YtbcmbmmnpnbakaaDoorProg
namespace Go.Proofs.YtbcmbmmnpnbakaaDoor
open Go Go.RowKit V
set_option linter.unusedSimpArgs false
set_option linter.unusedVariables false
set_option maxRecDepth 10000
namespace B0
theorem call30 : Callable Tryd.prog 30 := ⟨_, Tryd.func30, rfl, by kernel_rfl⟩
theorem flat33 : Flat Tryd.prog 33 := ⟨_, Tryd.underlying33, by simp⟩
theorem flat34 : Flat Tryd.prog 34 := ⟨_, Tryd.underlying34, by simp⟩
theorem ty5 : Ty Tryd.prog 5 (.int .u8 0) 1 1 := ty_of (by kernel_rfl)
theorem ty33 : Ty Tryd.prog 33 (.pointer none) 1 8 := ty_of (by kernel_rfl)
theorem ty34 : Ty Tryd.prog 34 (.slice none 0 0) 1 24 := ty_of (by kernel_rfl)
theorem ty36 : Ty Tryd.prog 36 (.agg #[(.pointer none), (.slice none 0 0)]) 2 32 := ty_of (by kernel_rfl)
theorem cells5 : Tryd.prog.cellsOf 5 = 1 := by kernel_rfl
theorem fld36_0 : Fld Tryd.prog 36 0 0 33 := fld_of Tryd.underlying36 rfl rfl rfl ty33 (by decide)
theorem fld36_1 : Fld Tryd.prog 36 1 1 34 := fld_of Tryd.underlying36 rfl rfl rfl ty34 (by decide)
/-- (*strings.Builder).copyCheck -/
theorem copyCheck1 (base b : Nat) (e : TypeId) (v : Value) (hl : liesAt Tryd.prog Tryd.prog.depth e (2 / Tryd.prog.cellsOf e) 0 36 1 = true) : FnW Tryd.prog 30 [Pt b 0] base [[(b, .cells #[.pointer none, v] e (0, 0))]] (fun r Hs => r = .tuple #[] ∧ Hs = [[(b, .cells #[Pt b 0, v] e (0, 0))]]) := by
  refine FnW.enter (n := 20) Tryd.func30 rfl rfl fun w0 R0 hbase => ?_
  subst hbase
  show WC _ _ _ _ _ _ _ ([[(b, .cells #[.pointer none, v] e (0, 0))], R0])
  refine WC.sub (fr' := [(0, _)]) ?_ ⟨rfl, trivial⟩
  refine WC.seq ?_
  refine WC.region ?_
  refine WL.q (oq_move rfl) rfl rfl rfl ?_
  refine WL.q (oq_nilCheck rfl) rfl rfl rfl ?_
  refine WL.q (oq_fieldAddr fld36_0 rfl) rfl rfl rfl ?_
  refine WL.q (oq_load flat33 rfl (.head _) (List.mem_singleton.2 rfl) rfl) rfl rfl rfl ?_
  refine WL.q (oq_peql Tryd.underlying33 rfl rfl) rfl rfl rfl ?_
  refine WL.nil ?_
  refine WE.then_normal ?_
  refine WC.sub (fr' := [(0, _), (6, _)]) ?_ ⟨rfl, rfl, trivial⟩
  refine WC.cond_t rfl ?_
  refine WC.region ?_
  refine WL.q (oq_move rfl) rfl rfl rfl ?_
  refine WL.q (oq_move rfl) rfl rfl rfl ?_
  refine WL.q (oq_toUnsafe Tryd.underlying33 Tryd.underlying54 ty36 (by decide) rfl (.head _) (List.mem_singleton.2 rfl) (Nat.lt_of_lt_of_le (Nat.lt_succ_self _) (Nat.le_of_ble_eq_true rfl))) rfl rfl rfl ?_
  refine WL.q (oq_extId Tryd.func38 (by kernel_rfl) (by kernel_rfl) (by kernel_rfl) (by kernel_rfl) rfl) rfl rfl rfl ?_
  refine WL.q (oq_ofUnsafe Tryd.underlying54 Tryd.underlying33 ty36 rfl (.head _) (List.mem_singleton.2 rfl) hl) rfl rfl rfl ?_
  refine WL.q (oq_nilCheck rfl) rfl rfl rfl ?_
  refine WL.q (oq_fieldAddr fld36_0 rfl) rfl rfl rfl ?_
  refine WL.store1 #[_, _] ty33 rfl rfl (by first | rfl | exact OwS.one one_) (Nat.lt_of_lt_of_le (Nat.lt_succ_self _) (Nat.le_of_ble_eq_true rfl)) rfl rfl ?_
  refine WL.nil ?_
  refine WE.endW1 (.inr rfl) (res0 Tryd.results30) ?_
  -- end 0
  exact ⟨rfl, rfl⟩

/-- (*strings.Builder).copyCheck -/
theorem copyCheck2 (base b : Nat) (e : TypeId) (v : Value) (hl : liesAt Tryd.prog Tryd.prog.depth e (2 / Tryd.prog.cellsOf e) 0 36 1 = true) : FnW Tryd.prog 30 [Pt b 0] base [[(b, .cells #[Pt b 0, v] e (0, 0))]] (fun r Hs => r = .tuple #[] ∧ Hs = [[(b, .cells #[Pt b 0, v] e (0, 0))]]) := by
  refine FnW.enter (n := 20) Tryd.func30 rfl rfl fun w0 R0 hbase => ?_
  subst hbase
  show WC _ _ _ _ _ _ _ ([[(b, .cells #[Pt b 0, v] e (0, 0))], R0])
  refine WC.sub (fr' := [(0, _)]) ?_ ⟨rfl, trivial⟩
  refine WC.seq ?_
  refine WC.region ?_
  refine WL.q (oq_move rfl) rfl rfl rfl ?_
  refine WL.q (oq_nilCheck rfl) rfl rfl rfl ?_
  refine WL.q (oq_fieldAddr fld36_0 rfl) rfl rfl rfl ?_
  refine WL.q (oq_load flat33 rfl (.head _) (List.mem_singleton.2 rfl) rfl) rfl rfl rfl ?_
  refine WL.q (oq_peql Tryd.underlying33 rfl rfl) rfl rfl rfl ?_
  refine WL.nil ?_
  refine WE.then_normal ?_
  refine WC.sub (fr' := [(0, _), (6, _)]) ?_ ⟨rfl, rfl, trivial⟩
  refine WC.cond_f rfl ?_
  refine WC.seq ?_
  refine WC.region ?_
  refine WL.q (oq_move rfl) rfl rfl rfl ?_
  refine WL.q (oq_nilCheck rfl) rfl rfl rfl ?_
  refine WL.q (oq_fieldAddr fld36_0 rfl) rfl rfl rfl ?_
  refine WL.q (oq_load flat33 rfl (.head _) (List.mem_singleton.2 rfl) rfl) rfl rfl rfl ?_
  refine WL.q (oq_move rfl) rfl rfl rfl ?_
  refine WL.q (oq_pneq_same Tryd.underlying33 ty36 rfl rfl) rfl rfl rfl ?_
  refine WL.nil ?_
  refine WE.then_normal ?_
  refine WC.sub (fr' := [(19, _)]) ?_ ⟨rfl, trivial⟩
  refine WC.cond_f rfl ?_
  refine WC.skip ?_
  refine WE.endW1 (.inr rfl) (res0 Tryd.results30) ?_
  -- end 0
  exact ⟨rfl, rfl⟩


/-- a builder's address: none yet, or its own -/
def Own (b : Nat) (p : Value) : Prop := p = .pointer none ∨ p = Pt b 0
theorem copyCheck (base b : Nat) (e : TypeId) (p v : Value) (hp : Own b p) (hl : liesAt Tryd.prog Tryd.prog.depth e (2 / Tryd.prog.cellsOf e) 0 36 1 = true) : FnW Tryd.prog 30 [Pt b 0] base [[(b, .cells #[p, v] e (0, 0))]] (fun r Hs => r = .tuple #[] ∧ Hs = [[(b, .cells #[Pt b 0, v] e (0, 0))]]) := by
  rcases hp with rfl | rfl
  · exact copyCheck1 base b e v hl
  · exact copyCheck2 base b e v hl
/-- (*strings.Builder).WriteString -/
theorem writeString (base b : Nat) (e : TypeId) (p v : Value) (A : Hp) (l : List UInt8) (hp : Own b p) (hl : liesAt Tryd.prog Tryd.prog.depth e (2 / Tryd.prog.cellsOf e) 0 36 1 = true) (hb : BufS base 5 v A l) (s : List UInt8) (hlen : l.length + s.length < 100000000000000) : FnW Tryd.prog 21 [Pt b 0, S s] base [[(b, .cells #[p, v] e (0, 0))], A] (fun r Hs => ∃ v1 A1, r = .tuple #[I (s.length : Int), .nilIface] ∧ Hs = [[(b, .cells #[Pt b 0, v1] e (0, 0))], A1] ∧ BufS base 5 v1 A1 (l ++ s)) := by
  refine FnW.enter (n := 19) Tryd.func21 rfl rfl fun w0 R0 hbase => ?_
  subst hbase
  show WC _ _ _ _ _ _ _ ([[(b, .cells #[p, v] e (0, 0))], A, R0])
  refine WC.sub (fr' := [(0, _), (1, _)]) ?_ ⟨rfl, rfl, trivial⟩
  refine WC.seq ?_
  refine WC.region ?_
  refine WL.q (oq_assign rfl) rfl rfl rfl ?_
  refine WL.q (oq_assign rfl) rfl rfl rfl ?_
  refine WL.nil ?_
  refine WE.then_normal ?_
  refine WC.sub (fr' := [(0, _), (1, _)]) ?_ ⟨rfl, rfl, trivial⟩
  refine WC.seq ?_
  refine WC.region ?_
  refine WL.q (oq_move rfl) rfl rfl rfl ?_
  refine WL.callW1 (copyCheck _ b e p v hp hl) call30 rfl rfl rfl fun v1_1 Hs1_1 hR1_1 => ?_
  obtain ⟨rfl, rfl⟩ := hR1_1
  refine WL.to1 ?_
  refine WL.nil ?_
  refine WE.then_normal ?_
  refine WC.sub (fr' := [(0, _), (1, _)]) ?_ ⟨rfl, rfl, trivial⟩
  refine WC.seq ?_
  refine WC.region ?_
  refine WL.q (oq_move rfl) rfl rfl rfl ?_
  refine WL.q (oq_move rfl) rfl rfl rfl ?_
  refine WL.q (oq_nilCheck rfl) rfl rfl rfl ?_
  refine WL.q (oq_fieldAddr fld36_1 rfl) rfl rfl rfl ?_
  refine WL.q (oq_load flat34 rfl (.head _) (List.mem_singleton.2 rfl) rfl) rfl rfl rfl ?_
  refine WL.q (oq_move rfl) rfl rfl rfl ?_
  refine WL.f1 ?_
  refine WL.append hb.1 Tryd.underlying34 (.inr Tryd.underlying9) ty5 rfl (by decide) rfl rfl (SrcS.str _) (by unfold maxLen; omega) (by omega) rfl rfl fun v2 A2 ho2 hne2 => ?_
  refine WL.q (oq_nilCheck rfl) rfl rfl rfl ?_
  refine WL.q (oq_fieldAddr fld36_1 rfl) rfl rfl rfl ?_
  refine WL.f1 ?_
  refine WL.store1 #[_, _] ty34 rfl rfl (by first | rfl | exact OwS.one ho2) (Nat.lt_of_lt_of_le (Nat.lt_succ_self _) (Nat.le_of_ble_eq_true rfl)) rfl rfl ?_
  refine WL.nil ?_
  refine WE.then_normal ?_
  refine WC.sub (fr' := [(1, _)]) ?_ ⟨rfl, trivial⟩
  refine WC.seq ?_
  refine WC.region ?_
  refine WL.q (oq_move rfl) rfl rfl rfl ?_
  refine WL.q (oq_len_s Tryd.underlying9 rfl) rfl rfl rfl ?_
  refine WL.q (oq_assign rfl) rfl rfl rfl ?_
  refine WL.q (oq_assign rfl) rfl rfl rfl ?_
  refine WL.nil ?_
  refine WE.then_normal ?_
  refine WC.sub (fr' := [(4, _), (5, _)]) ?_ ⟨rfl, rfl, trivial⟩
  refine WC.ret ?_
  refine WE.endW2 (.inl rfl) (res2 Tryd.results21 rfl rfl) ?_
  -- end 0
  exact ⟨_, _, rfl, rfl, BufS.app hb ho2 hne2⟩

/-- (*strings.Builder).String -/
theorem bstring (base b : Nat) (e : TypeId) (p v : Value) (A : Hp) (l : List UInt8) (hp : Own b p) (hl : liesAt Tryd.prog Tryd.prog.depth e (2 / Tryd.prog.cellsOf e) 0 36 1 = true) (hb : BufS base 5 v A l) (hlen : l.length < 100000000000000) : FnW Tryd.prog 23 [Pt b 0] base [[(b, .cells #[p, v] e (0, 0))], A] (fun r Hs => r = S l ∧ Hs = [[(b, .cells #[p, v] e (0, 0))]]) := by
  refine FnW.enter (n := 14) Tryd.func23 rfl rfl fun w0 R0 hbase => ?_
  subst hbase
  show WC _ _ _ _ _ _ _ ([[(b, .cells #[p, v] e (0, 0))], A, R0])
  refine WC.sub (fr' := [(0, _)]) ?_ ⟨rfl, trivial⟩
  refine WC.seq ?_
  refine WC.region ?_
  refine WL.q (oq_assign rfl) rfl rfl rfl ?_
  refine WL.nil ?_
  refine WE.then_normal ?_
  refine WC.sub (fr' := [(0, _)]) ?_ ⟨rfl, trivial⟩
  refine WC.seq ?_
  refine WC.tailM (pl := []) (ql := [_, _, _, _, _, _, _, _, _, _]) (tl := [_, _]) [] [0, 1, 2, 3, 4, 5, 6, 7, 8, 9] 10 [11] (by kernel_rfl) (by kernel_rfl) (by kernel_rfl) (by kernel_rfl) (by kernel_rfl) (by kernel_rfl) (by decide) rfl rfl rfl (by decide) (by repeat (first | with_reducible exact QOk.body | with_reducible apply QOk.then | with_reducible apply QOk.block | exact QOk.body | apply QOk.then | apply QOk.block)) ?_
  refine WM.nil ?_
  refine WY.q (oq_move rfl) rfl rfl rfl ?_
  refine WY.q (oq_nilCheck rfl) rfl rfl rfl ?_
  refine WY.q (oq_fieldAddr fld36_1 rfl) rfl rfl rfl ?_
  refine WY.q (oq_load flat34 rfl (.head _) (List.mem_singleton.2 rfl) rfl) rfl rfl rfl ?_
  refine WY.q (oq_sliceData hb rfl) rfl rfl rfl ?_
  refine WY.q (oq_move rfl) rfl rfl rfl ?_
  refine WY.q (oq_nilCheck rfl) rfl rfl rfl ?_
  refine WY.q (oq_fieldAddr fld36_1 rfl) rfl rfl rfl ?_
  refine WY.q (oq_load flat34 rfl (.head _) (List.mem_singleton.2 rfl) rfl) rfl rfl rfl ?_
  refine WY.q (oq_len_rd hb.1.rd Tryd.underlying34 rfl) rfl rfl rfl ?_
  refine WY.nil ?_
  refine WL.f1 ?_
  refine WL.unsafeStr hb Tryd.underlying44 cells5 rfl rfl (by omega) rfl rfl ?_
  refine WL.q (oq_assign rfl) rfl rfl rfl ?_
  refine WL.nil ?_
  refine WE.then_normal ?_
  refine WC.sub (fr' := [(2, _)]) ?_ ⟨rfl, trivial⟩
  refine WC.ret ?_
  refine WE.endW1 (.inl rfl) (res1 Tryd.results23 rfl) ?_
  -- end 0
  exact ⟨rfl, rfl⟩

end B0
end Go.Proofs.YtbcmbmmnpnbakaaDoor
