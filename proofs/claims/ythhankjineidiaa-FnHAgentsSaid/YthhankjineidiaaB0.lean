/- Walks of the builder of texts. -/
import Derived.Test.YthhankjineidiaaVA
import Derived.Test.YthhankjineidiaaP0
import Derived.Test.YthhankjineidiaaProg
namespace Go.Proofs.Ythhankjineidiaa
open Go Go.RowKit V
set_option linter.unusedSimpArgs false
set_option linter.unusedVariables false
set_option maxRecDepth 10000
namespace B0
theorem call71 : Callable Try.prog 71 := ⟨_, Try.func71, rfl, by kernel_rfl⟩
theorem flat74 : Flat Try.prog 74 := ⟨_, Try.underlying74, by simp⟩
theorem flat75 : Flat Try.prog 75 := ⟨_, Try.underlying75, by simp⟩
theorem ty5 : Ty Try.prog 5 (.int .u8 0) 1 1 := ty_of (by kernel_rfl)
theorem ty74 : Ty Try.prog 74 (.pointer none) 1 8 := ty_of (by kernel_rfl)
theorem ty75 : Ty Try.prog 75 (.slice none 0 0) 1 24 := ty_of (by kernel_rfl)
theorem ty77 : Ty Try.prog 77 (.agg #[(.pointer none), (.slice none 0 0)]) 2 32 := ty_of (by kernel_rfl)
theorem cells5 : Try.prog.cellsOf 5 = 1 := by kernel_rfl
theorem fld77_0 : Fld Try.prog 77 0 0 74 := fld_of Try.underlying77 rfl rfl rfl ty74 (by decide)
theorem fld77_1 : Fld Try.prog 77 1 1 75 := fld_of Try.underlying77 rfl rfl rfl ty75 (by decide)
/-- (*strings.Builder).copyCheck -/
theorem copyCheck1 (base b : Nat) (e : TypeId) (v : Value) (hl : liesAt Try.prog Try.prog.depth e (2 / Try.prog.cellsOf e) 0 77 1 = true) : FnW Try.prog 71 [Pt b 0] base [[(b, .cells #[.pointer none, v] e (0, 0))]] (fun r Hs => r = .tuple #[] ∧ Hs = [[(b, .cells #[Pt b 0, v] e (0, 0))]]) := by
  refine FnW.enter (n := 20) Try.func71 rfl rfl fun w0 R0 hbase => ?_
  subst hbase
  show WC _ _ _ _ _ _ _ ([[(b, .cells #[.pointer none, v] e (0, 0))], R0])
  refine WC.sub (fr' := [(0, _)]) ?_ ⟨rfl, trivial⟩
  refine WC.seq ?_
  refine WC.region ?_
  refine WL.q (oq_move rfl) rfl rfl rfl ?_
  refine WL.q (oq_nilCheck rfl) rfl rfl rfl ?_
  refine WL.q (oq_fieldAddr fld77_0 rfl) rfl rfl rfl ?_
  refine WL.q (oq_load flat74 rfl (.head _) (List.mem_singleton.2 rfl) rfl) rfl rfl rfl ?_
  refine WL.q (oq_peql Try.underlying74 rfl rfl) rfl rfl rfl ?_
  refine WL.nil ?_
  refine WE.then_normal ?_
  refine WC.sub (fr' := [(0, _), (6, _)]) ?_ ⟨rfl, rfl, trivial⟩
  refine WC.cond_t rfl ?_
  refine WC.region ?_
  refine WL.q (oq_move rfl) rfl rfl rfl ?_
  refine WL.q (oq_move rfl) rfl rfl rfl ?_
  refine WL.q (oq_toUnsafe Try.underlying74 Try.underlying93 ty77 (by decide) rfl (.head _) (List.mem_singleton.2 rfl) (Nat.lt_of_lt_of_le (Nat.lt_succ_self _) (Nat.le_of_ble_eq_true rfl))) rfl rfl rfl ?_
  refine WL.q (oq_extId Try.func73 (by kernel_rfl) (by kernel_rfl) (by kernel_rfl) (by kernel_rfl) rfl) rfl rfl rfl ?_
  refine WL.q (oq_ofUnsafe Try.underlying93 Try.underlying74 ty77 rfl (.head _) (List.mem_singleton.2 rfl) hl) rfl rfl rfl ?_
  refine WL.q (oq_nilCheck rfl) rfl rfl rfl ?_
  refine WL.q (oq_fieldAddr fld77_0 rfl) rfl rfl rfl ?_
  refine WL.store1 #[_, _] ty74 rfl rfl (by first | rfl | exact OwS.one one_) (Nat.lt_of_lt_of_le (Nat.lt_succ_self _) (Nat.le_of_ble_eq_true rfl)) rfl rfl ?_
  refine WL.nil ?_
  refine WE.endW1 (.inr rfl) (res0 Try.results71) ?_
  -- end 0
  exact ⟨rfl, rfl⟩

/-- (*strings.Builder).copyCheck -/
theorem copyCheck2 (base b : Nat) (e : TypeId) (v : Value) (hl : liesAt Try.prog Try.prog.depth e (2 / Try.prog.cellsOf e) 0 77 1 = true) : FnW Try.prog 71 [Pt b 0] base [[(b, .cells #[Pt b 0, v] e (0, 0))]] (fun r Hs => r = .tuple #[] ∧ Hs = [[(b, .cells #[Pt b 0, v] e (0, 0))]]) := by
  refine FnW.enter (n := 20) Try.func71 rfl rfl fun w0 R0 hbase => ?_
  subst hbase
  show WC _ _ _ _ _ _ _ ([[(b, .cells #[Pt b 0, v] e (0, 0))], R0])
  refine WC.sub (fr' := [(0, _)]) ?_ ⟨rfl, trivial⟩
  refine WC.seq ?_
  refine WC.region ?_
  refine WL.q (oq_move rfl) rfl rfl rfl ?_
  refine WL.q (oq_nilCheck rfl) rfl rfl rfl ?_
  refine WL.q (oq_fieldAddr fld77_0 rfl) rfl rfl rfl ?_
  refine WL.q (oq_load flat74 rfl (.head _) (List.mem_singleton.2 rfl) rfl) rfl rfl rfl ?_
  refine WL.q (oq_peql Try.underlying74 rfl rfl) rfl rfl rfl ?_
  refine WL.nil ?_
  refine WE.then_normal ?_
  refine WC.sub (fr' := [(0, _), (6, _)]) ?_ ⟨rfl, rfl, trivial⟩
  refine WC.cond_f rfl ?_
  refine WC.seq ?_
  refine WC.region ?_
  refine WL.q (oq_move rfl) rfl rfl rfl ?_
  refine WL.q (oq_nilCheck rfl) rfl rfl rfl ?_
  refine WL.q (oq_fieldAddr fld77_0 rfl) rfl rfl rfl ?_
  refine WL.q (oq_load flat74 rfl (.head _) (List.mem_singleton.2 rfl) rfl) rfl rfl rfl ?_
  refine WL.q (oq_move rfl) rfl rfl rfl ?_
  refine WL.q (oq_pneq_same Try.underlying74 ty77 rfl rfl) rfl rfl rfl ?_
  refine WL.nil ?_
  refine WE.then_normal ?_
  refine WC.sub (fr' := [(19, _)]) ?_ ⟨rfl, trivial⟩
  refine WC.cond_f rfl ?_
  refine WC.skip ?_
  refine WE.endW1 (.inr rfl) (res0 Try.results71) ?_
  -- end 0
  exact ⟨rfl, rfl⟩


/-- a builder's address: none yet, or its own -/
def Own (b : Nat) (p : Value) : Prop := p = .pointer none ∨ p = Pt b 0
theorem copyCheck (base b : Nat) (e : TypeId) (p v : Value) (hp : Own b p) (hl : liesAt Try.prog Try.prog.depth e (2 / Try.prog.cellsOf e) 0 77 1 = true) : FnW Try.prog 71 [Pt b 0] base [[(b, .cells #[p, v] e (0, 0))]] (fun r Hs => r = .tuple #[] ∧ Hs = [[(b, .cells #[Pt b 0, v] e (0, 0))]]) := by
  rcases hp with rfl | rfl
  · exact copyCheck1 base b e v hl
  · exact copyCheck2 base b e v hl
/-- (*strings.Builder).WriteByte -/
theorem writeByte (base b : Nat) (e : TypeId) (p v : Value) (A : Hp) (l : List UInt8) (hp : Own b p) (hl : liesAt Try.prog Try.prog.depth e (2 / Try.prog.cellsOf e) 0 77 1 = true) (hb : BufS base 5 v A l) (c : Int) (h0 : 0 ≤ c) (h1 : c < 256) (hlen : l.length < 100000000000000) : FnW Try.prog 64 [Pt b 0, .int .u8 c] base [[(b, .cells #[p, v] e (0, 0))], A] (fun r Hs => ∃ v1 A1, r = .nilIface ∧ Hs = [[(b, .cells #[Pt b 0, v1] e (0, 0))], A1] ∧ BufS base 5 v1 A1 (l ++ [UInt8.ofNat c.toNat])) := by
  refine FnW.enter (n := 17) Try.func64 rfl rfl fun w0 R0 hbase => ?_
  subst hbase
  show WC _ _ _ _ _ _ _ ([[(b, .cells #[p, v] e (0, 0))], A, R0])
  refine WC.sub (fr' := [(0, _), (1, _)]) ?_ ⟨rfl, rfl, trivial⟩
  refine WC.seq ?_
  refine WC.region ?_
  refine WL.q (oq_assign rfl) rfl rfl rfl ?_
  refine WL.nil ?_
  refine WE.then_normal ?_
  refine WC.sub (fr' := [(0, _), (1, _)]) ?_ ⟨rfl, rfl, trivial⟩
  refine WC.seq ?_
  refine WC.region ?_
  refine WL.q (oq_move rfl) rfl rfl rfl ?_
  refine WL.callW1 (copyCheck _ b e p v hp hl) call71 rfl rfl rfl fun v1_1 Hs1_1 hR1_1 => ?_
  obtain ⟨rfl, rfl⟩ := hR1_1
  refine WL.to1 ?_
  refine WL.nil ?_
  refine WE.then_normal ?_
  refine WC.sub (fr' := [(0, _), (1, _)]) ?_ ⟨rfl, rfl, trivial⟩
  refine WC.seq ?_
  refine WC.region ?_
  refine WL.q (oq_move rfl) rfl rfl rfl ?_
  refine WL.q (oq_move rfl) rfl rfl rfl ?_
  refine WL.q (oq_nilCheck rfl) rfl rfl rfl ?_
  refine WL.q (oq_fieldAddr fld77_1 rfl) rfl rfl rfl ?_
  refine WL.q (oq_load flat75 rfl (.head _) (List.mem_singleton.2 rfl) rfl) rfl rfl rfl ?_
  refine WL.q (oq_move rfl) rfl rfl rfl ?_
  refine WL.f1 ?_
  refine WL.append1 hb.1 Try.underlying75 ty5 rfl (by decide) (fun _ => rfl) rfl rfl (by unfold maxLen; omega) (by omega) rfl rfl (fun _ => rfl) rfl fun v2 A2 u2 ho2 hne2 => ?_
  refine WL.q (oq_nilCheck rfl) rfl rfl rfl ?_
  refine WL.q (oq_fieldAddr fld77_1 rfl) rfl rfl rfl ?_
  refine WL.f1 ?_
  refine WL.store1 #[_, _] ty75 rfl rfl (by first | rfl | exact OwS.one ho2) (Nat.lt_of_lt_of_le (Nat.lt_succ_self _) (Nat.le_of_ble_eq_true rfl)) rfl rfl ?_
  refine WL.nil ?_
  refine WE.then_normal ?_
  refine WC.sub (fr' := []) ?_ trivial
  refine WC.seq ?_
  refine WC.region ?_
  refine WL.q (oq_assign rfl) rfl rfl rfl ?_
  refine WL.nil ?_
  refine WE.then_normal ?_
  refine WC.sub (fr' := [(4, _)]) ?_ ⟨rfl, trivial⟩
  refine WC.ret ?_
  refine WE.endW2 (.inl rfl) (res1 Try.results64 rfl) ?_
  -- end 0
  exact ⟨_, _, rfl, rfl, BufS.snoc h0 h1 ho2⟩

/-- (*strings.Builder).WriteString -/
theorem writeString (base b : Nat) (e : TypeId) (p v : Value) (A : Hp) (l : List UInt8) (hp : Own b p) (hl : liesAt Try.prog Try.prog.depth e (2 / Try.prog.cellsOf e) 0 77 1 = true) (hb : BufS base 5 v A l) (s : List UInt8) (hlen : l.length + s.length < 100000000000000) : FnW Try.prog 70 [Pt b 0, S s] base [[(b, .cells #[p, v] e (0, 0))], A] (fun r Hs => ∃ v1 A1, r = .tuple #[I (s.length : Int), .nilIface] ∧ Hs = [[(b, .cells #[Pt b 0, v1] e (0, 0))], A1] ∧ BufS base 5 v1 A1 (l ++ s)) := by
  refine FnW.enter (n := 19) Try.func70 rfl rfl fun w0 R0 hbase => ?_
  subst hbase
  show WC _ _ _ _ _ _ _ ([[(b, .cells #[p, v] e (0, 0))], A, R0])
  refine WC.sub (fr' := [(0, _), (1, _)]) ?_ ⟨rfl, rfl, trivial⟩
  refine WC.seq ?_
  refine WC.region ?_
  refine WL.q (oq_assign rfl) rfl rfl rfl ?_
  refine WL.q (oq_assign rfl) rfl rfl rfl ?_
  refine WL.nil ?_
  refine WE.then_normal ?_
  refine WC.sub (fr' := [(0, _), (1, _)]) ?_ ⟨rfl, rfl, trivial⟩
  refine WC.seq ?_
  refine WC.region ?_
  refine WL.q (oq_move rfl) rfl rfl rfl ?_
  refine WL.callW1 (copyCheck _ b e p v hp hl) call71 rfl rfl rfl fun v1_1 Hs1_1 hR1_1 => ?_
  obtain ⟨rfl, rfl⟩ := hR1_1
  refine WL.to1 ?_
  refine WL.nil ?_
  refine WE.then_normal ?_
  refine WC.sub (fr' := [(0, _), (1, _)]) ?_ ⟨rfl, rfl, trivial⟩
  refine WC.seq ?_
  refine WC.region ?_
  refine WL.q (oq_move rfl) rfl rfl rfl ?_
  refine WL.q (oq_move rfl) rfl rfl rfl ?_
  refine WL.q (oq_nilCheck rfl) rfl rfl rfl ?_
  refine WL.q (oq_fieldAddr fld77_1 rfl) rfl rfl rfl ?_
  refine WL.q (oq_load flat75 rfl (.head _) (List.mem_singleton.2 rfl) rfl) rfl rfl rfl ?_
  refine WL.q (oq_move rfl) rfl rfl rfl ?_
  refine WL.f1 ?_
  refine WL.append hb.1 Try.underlying75 (.inr Try.underlying9) ty5 rfl (by decide) rfl rfl (SrcS.str _) (by unfold maxLen; omega) (by omega) rfl rfl fun v2 A2 ho2 hne2 => ?_
  refine WL.q (oq_nilCheck rfl) rfl rfl rfl ?_
  refine WL.q (oq_fieldAddr fld77_1 rfl) rfl rfl rfl ?_
  refine WL.f1 ?_
  refine WL.store1 #[_, _] ty75 rfl rfl (by first | rfl | exact OwS.one ho2) (Nat.lt_of_lt_of_le (Nat.lt_succ_self _) (Nat.le_of_ble_eq_true rfl)) rfl rfl ?_
  refine WL.nil ?_
  refine WE.then_normal ?_
  refine WC.sub (fr' := [(1, _)]) ?_ ⟨rfl, trivial⟩
  refine WC.seq ?_
  refine WC.region ?_
  refine WL.q (oq_move rfl) rfl rfl rfl ?_
  refine WL.q (oq_len_s Try.underlying9 rfl) rfl rfl rfl ?_
  refine WL.q (oq_assign rfl) rfl rfl rfl ?_
  refine WL.q (oq_assign rfl) rfl rfl rfl ?_
  refine WL.nil ?_
  refine WE.then_normal ?_
  refine WC.sub (fr' := [(4, _), (5, _)]) ?_ ⟨rfl, rfl, trivial⟩
  refine WC.ret ?_
  refine WE.endW2 (.inl rfl) (res2 Try.results70 rfl rfl) ?_
  -- end 0
  exact ⟨_, _, rfl, rfl, BufS.app hb ho2 hne2⟩

/-- (*strings.Builder).String -/
theorem bstring (base b : Nat) (e : TypeId) (p v : Value) (A : Hp) (l : List UInt8) (hp : Own b p) (hl : liesAt Try.prog Try.prog.depth e (2 / Try.prog.cellsOf e) 0 77 1 = true) (hb : BufS base 5 v A l) (hlen : l.length < 100000000000000) : FnW Try.prog 62 [Pt b 0] base [[(b, .cells #[p, v] e (0, 0))], A] (fun r Hs => r = S l ∧ Hs = [[(b, .cells #[p, v] e (0, 0))]]) := by
  refine FnW.enter (n := 14) Try.func62 rfl rfl fun w0 R0 hbase => ?_
  subst hbase
  show WC _ _ _ _ _ _ _ ([[(b, .cells #[p, v] e (0, 0))], A, R0])
  refine WC.sub (fr' := [(0, _)]) ?_ ⟨rfl, trivial⟩
  refine WC.seq ?_
  refine WC.region ?_
  refine WL.q (oq_assign rfl) rfl rfl rfl ?_
  refine WL.nil ?_
  refine WE.then_normal ?_
  refine WC.sub (fr' := [(0, _)]) ?_ ⟨rfl, trivial⟩
  refine WC.seq ?_
  refine WC.tailR (ql := [_, _, _, _, _, _, _, _, _, _]) (tl := [_, _]) [0, 1, 2, 3, 4, 5, 6, 7, 8, 9] 10 [11] (by kernel_rfl) (by kernel_rfl) (by kernel_rfl) (by kernel_rfl) (by kernel_rfl) (by decide) rfl rfl ?_
  refine WY.q (oq_move rfl) rfl rfl rfl ?_
  refine WY.q (oq_nilCheck rfl) rfl rfl rfl ?_
  refine WY.q (oq_fieldAddr fld77_1 rfl) rfl rfl rfl ?_
  refine WY.q (oq_load flat75 rfl (.head _) (List.mem_singleton.2 rfl) rfl) rfl rfl rfl ?_
  refine WY.q (oq_sliceData hb rfl) rfl rfl rfl ?_
  refine WY.q (oq_move rfl) rfl rfl rfl ?_
  refine WY.q (oq_nilCheck rfl) rfl rfl rfl ?_
  refine WY.q (oq_fieldAddr fld77_1 rfl) rfl rfl rfl ?_
  refine WY.q (oq_load flat75 rfl (.head _) (List.mem_singleton.2 rfl) rfl) rfl rfl rfl ?_
  refine WY.q (oq_len_rd hb.1.rd Try.underlying75 rfl) rfl rfl rfl ?_
  refine WY.nil ?_
  refine WL.f1 ?_
  refine WL.unsafeStr hb Try.underlying91 cells5 rfl rfl (by omega) rfl rfl ?_
  refine WL.q (oq_assign rfl) rfl rfl rfl ?_
  refine WL.nil ?_
  refine WE.then_normal ?_
  refine WC.sub (fr' := [(2, _)]) ?_ ⟨rfl, trivial⟩
  refine WC.ret ?_
  refine WE.endW1 (.inl rfl) (res1 Try.results62 rfl) ?_
  -- end 0
  exact ⟨rfl, rfl⟩

/-- (*strings.Builder).Len -/
theorem blen (base b : Nat) (e : TypeId) (p v : Value) (A : Hp) (l : List UInt8) (hp : Own b p) (hl : liesAt Try.prog Try.prog.depth e (2 / Try.prog.cellsOf e) 0 77 1 = true) (hb : BufS base 5 v A l) (hlen : l.length < 100000000000000) : FnW Try.prog 68 [Pt b 0] base [[(b, .cells #[p, v] e (0, 0))], A] (fun r Hs => r = I (l.length : Int) ∧ Hs = [[(b, .cells #[p, v] e (0, 0))], A]) := by
  refine FnW.enter (n := 8) Try.func68 rfl rfl fun w0 R0 hbase => ?_
  subst hbase
  show WC _ _ _ _ _ _ _ ([[(b, .cells #[p, v] e (0, 0))], A, R0])
  refine WC.sub (fr' := [(0, _)]) ?_ ⟨rfl, trivial⟩
  refine WC.seq ?_
  refine WC.region ?_
  refine WL.q (oq_assign rfl) rfl rfl rfl ?_
  refine WL.nil ?_
  refine WE.then_normal ?_
  refine WC.sub (fr' := [(0, _)]) ?_ ⟨rfl, trivial⟩
  refine WC.seq ?_
  refine WC.region ?_
  refine WL.q (oq_move rfl) rfl rfl rfl ?_
  refine WL.q (oq_nilCheck rfl) rfl rfl rfl ?_
  refine WL.q (oq_fieldAddr fld77_1 rfl) rfl rfl rfl ?_
  refine WL.q (oq_load flat75 rfl (.head _) (List.mem_singleton.2 rfl) rfl) rfl rfl rfl ?_
  refine WL.q (oq_len_rd hb.1.rd Try.underlying75 rfl) rfl rfl rfl ?_
  refine WL.q (oq_assign rfl) rfl rfl rfl ?_
  refine WL.nil ?_
  refine WE.then_normal ?_
  refine WC.sub (fr' := [(2, _)]) ?_ ⟨rfl, trivial⟩
  refine WC.ret ?_
  refine WE.endW2 (.inl rfl) (res1 Try.results68 rfl) ?_
  -- end 0
  exact ⟨rfl, rfl⟩

end B0
end Go.Proofs.Ythhankjineidiaa
