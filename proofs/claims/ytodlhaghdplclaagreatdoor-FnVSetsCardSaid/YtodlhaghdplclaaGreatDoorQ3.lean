/- Values back, headers back. -/
import Derived.Test.YtodlhaghdplclaaGreatDoorQ2
import Derived.Test.YtodlhaghdplclaaGreatDoorQ1
import Derived.Laws.StructEq
namespace Go.Proofs.YtodlhaghdplclaaGreatDoor
open Go Go.RowKit V EA EB EC ED EL DC DD DA DE EE EH EI EJ DF DG DH DI EM DJ DK
set_option linter.unusedSimpArgs false
set_option linter.unusedVariables false
set_option maxRecDepth 10000
namespace DL
theorem call33 : Callable Tryz.prog 33 := ⟨_, Tryz.func33, rfl, by kernel_rfl⟩
theorem call56 : Callable Tryz.prog 56 := ⟨_, Tryz.func56, rfl, by kernel_rfl⟩
theorem call57 : Callable Tryz.prog 57 := ⟨_, Tryz.func57, rfl, by kernel_rfl⟩
theorem call72 : Callable Tryz.prog 72 := ⟨_, Tryz.func72, rfl, by kernel_rfl⟩
theorem call73 : Callable Tryz.prog 73 := ⟨_, Tryz.func73, rfl, by kernel_rfl⟩
theorem call86 : Callable Tryz.prog 86 := ⟨_, Tryz.func86, rfl, by kernel_rfl⟩
theorem flat9 : Flat Tryz.prog 9 := ⟨_, Tryz.underlying9, by simp⟩
theorem flat60 : Flat Tryz.prog 60 := ⟨_, Tryz.underlying60, by simp⟩
theorem ty5 : Ty Tryz.prog 5 (.int .u8 0) 1 1 := ty_of (by kernel_rfl)
theorem ty9 : Ty Tryz.prog 9 (S []) 1 16 := ty_of (by kernel_rfl)
theorem ty24 : Ty Tryz.prog 24 (.agg #[(.int .i64 0), (.int .i64 0), (.int .i64 0), (S [])]) 4 40 := ty_of (by kernel_rfl)
theorem ty32 : Ty Tryz.prog 32 (.agg #[(S []), (.int .i64 0), (.int .i64 0), (.int .i64 0), (S [])]) 5 56 := ty_of (by kernel_rfl)
theorem ty60 : Ty Tryz.prog 60 .nilIface 1 16 := ty_of (by kernel_rfl)
theorem ty89 : Ty Tryz.prog 89 (.agg #[(.int .i64 0), (.int .i32 0), (S []), (.int .i64 0)]) 4 40 := ty_of (by kernel_rfl)
theorem ty125 : Ty Tryz.prog 125 (.agg #[(S []), .nilIface]) 2 32 := ty_of (by kernel_rfl)
theorem ty126 : Ty Tryz.prog 126 (.bool false) 1 1 := ty_of (by kernel_rfl)
theorem ty127 : Ty Tryz.prog 127 (.int .i8 0) 1 1 := ty_of (by kernel_rfl)
theorem ty129 : Ty Tryz.prog 129 (.int .i16 0) 1 2 := ty_of (by kernel_rfl)
theorem ty130 : Ty Tryz.prog 130 (.int .i32 0) 1 4 := ty_of (by kernel_rfl)
theorem ty131 : Ty Tryz.prog 131 (.int .i64 0) 1 8 := ty_of (by kernel_rfl)
theorem ty132 : Ty Tryz.prog 132 (.slice none 0 0) 1 24 := ty_of (by kernel_rfl)
theorem ty133 : Ty Tryz.prog 133 (S []) 1 16 := ty_of (by kernel_rfl)
theorem ty134 : Ty Tryz.prog 134 (.agg #[(.int .i64 0), (.int .i32 0), (S []), (.int .i64 0)]) 4 40 := ty_of (by kernel_rfl)
theorem ty137 : Ty Tryz.prog 137 (.agg #[(.int .u8 0), (.int .u8 0), (.int .u8 0), (.int .u8 0), (.int .u8 0), (.int .u8 0), (.int .u8 0), (.int .u8 0), (.int .u8 0), (.int .u8 0), (.int .u8 0), (.int .u8 0), (.int .u8 0), (.int .u8 0), (.int .u8 0), (.int .u8 0)]) 16 16 := ty_of (by kernel_rfl)
theorem conc126 : Conc Tryz.prog 126 := ⟨_, Tryz.underlying126, by simp⟩
theorem conc127 : Conc Tryz.prog 127 := ⟨_, Tryz.underlying127, by simp⟩
theorem conc129 : Conc Tryz.prog 129 := ⟨_, Tryz.underlying129, by simp⟩
theorem conc130 : Conc Tryz.prog 130 := ⟨_, Tryz.underlying130, by simp⟩
theorem conc131 : Conc Tryz.prog 131 := ⟨_, Tryz.underlying131, by simp⟩
theorem conc132 : Conc Tryz.prog 132 := ⟨_, Tryz.underlying132, by simp⟩
theorem conc133 : Conc Tryz.prog 133 := ⟨_, Tryz.underlying133, by simp⟩
theorem conc134 : Conc Tryz.prog 134 := ⟨_, Tryz.underlying134, by simp⟩
theorem conc137 : Conc Tryz.prog 137 := ⟨_, Tryz.underlying137, by simp⟩
theorem agg24 : Agg Tryz.prog 24 := agg_of Tryz.underlying24
theorem agg89 : Agg Tryz.prog 89 := agg_of Tryz.underlying89
theorem agg125 : Agg Tryz.prog 125 := agg_of Tryz.underlying125
theorem agg134 : Agg Tryz.prog 134 := agg_of Tryz.underlying134
theorem str24 : Str Tryz.prog 24 #[(0, 1), (1, 1), (2, 1), (3, 1)] := ⟨_, Tryz.underlying24, fun w => by kernel_rfl⟩
theorem str32 : Str Tryz.prog 32 #[(0, 1), (1, 4)] := ⟨_, Tryz.underlying32, fun w => by kernel_rfl⟩
theorem fld125_0 : Fld Tryz.prog 125 0 0 9 := fld_of Tryz.underlying125 rfl rfl rfl ty9 (by decide)
theorem fld125_1 : Fld Tryz.prog 125 1 1 60 := fld_of Tryz.underlying125 rfl rfl rfl ty60 (by decide)
section
variable {n : Nat} {w0 : World} {ds : List Deferred} {fr : Fr} {H : List Hp} {dst : Option Tmp} {ty : TypeId} {pos : String} {aft : Array Edge} {g : Option (Nat × Bool)} {k t u : TypeId} {x : Operand} {v z : Value} {size bytes : Nat}
theorem oq_askN (hc : Conc Tryz.prog t) (hty : Ty Tryz.prog t z size bytes) (hne : k ≠ t) (hx : ev fr x = some (.iface k v)) : OV Tryz.prog n w0 ⟨dst, .typeAssert x u t true, ty, pos, aft, g⟩ (.tuple #[z, .bool false]) ds fr H :=
 (oq_askG hc hty hx).to (by rw [if_neg hne, decide_eq_false hne])
end
theorem ms_back {ms : Int} (h1 : -9223372036854775808 ≤ ms) (h2 : ms ≤ 9223372036854775807) : IntKind.i64.wrap (IntKind.i64.wrap ((ms / 1000 + 62135596800 + -62135596800) * 1000) + ms % 1000 * 1000000 / 1000000) = ms := by
 have e1 : ms % 1000 * 1000000 / 1000000 = ms % 1000 := by omega
 rw [e1, show ms / 1000 + 62135596800 + -62135596800 = ms / 1000 by omega]
 simp only [IntKind.wrap, IntKind.signed, IntKind.bits, Bool.true_and, decide_eq_true_eq]
 split <;> split <;> omega
theorem own_rd5 {base : Nat} {v : Value} {A : Hp} {l : List HV} {m : Nat} {xs : List Value} (h : OwS base 32 5 v A m xs) (hm : m = l.length) (hx : xs = recsV HV.row l) : RdS 5 v A l.length (recsV HV.row l) := by subst hm hx; exact h.rd
theorem hv_snoc {l : List HV} {i : Nat} (hi : i < l.length) : recsV HV.row (l.take i) ++ [S (l.getD i HV0).name, I (l.getD i HV0).kind, I (l.getD i HV0).width, I (l.getD i HV0).int, S (l.getD i HV0).text] = recsV HV.row (l.take (i + 1)) := by
 rw [take_snoc hi]; unfold recsV; rw [List.flatMap_append]; simp [HV.row]
theorem oneHV (h : HV) : ∀ u ∈ [S h.name, I h.kind, I h.width, I h.int, S h.text], u.oneCell' = true := fun u hu => by
 simp only [List.mem_cons, List.not_mem_nil, or_false] at hu
 rcases hu with rfl | rfl | rfl | rfl | rfl <;> rfl
theorem unixSec2 (s n : Int) (h : -10000000000000000 ≤ s ∧ s ≤ 10000000000000000) : Fn0 Tryz.prog 72 [tmV s n] (I (s + -62135596800)) := by
 refine Fn0.enter (n := 6) Tryz.func72 rfl rfl fun w0 => ?_
 refine WC.sub (fr' := [(0, _)]) ?_ ⟨rfl, trivial⟩
 refine WC.seq (WC.region ?_)
 refine WL.box rfl rfl rfl fun b0_0 hb0_0 => ?_
 refine WL.q (oq_assign rfl) rfl rfl rfl ?_
 refine WL.nil (WE.then_normal (WC.sub (fr' := [(1, _)]) ?_ ⟨rfl, trivial⟩))
 refine WC.seq (WC.region ?_)
 refine WL.q (oq_loadS [_, _, _, _] agg89 ty89 rfl (.head _) (List.mem_singleton.2 rfl) rfl rfl) rfl rfl rfl ?_
 refine WL.qc (oq_call (sec _ _) call86 rfl) rfl rfl rfl ?_
 refine WL.q (oq_add rfl rfl (by rw [i64_lo, i64_hi]; (first | omega | (simp only [List.length_cons, List.length_nil, List.length_append, List.length_drop, List.length_take]; omega)))) rfl rfl rfl ?_
 refine WL.q (oq_assign rfl) rfl rfl rfl ?_
 refine WL.nil (WE.then_normal (WC.sub (fr' := [(2, _)]) ?_ ⟨rfl, trivial⟩))
 refine WC.ret ?_
 refine WE.lose hb0_0 ?_
 refine WE.end0 (.inl rfl) (res1 Tryz.results72 rfl) ?_
 rfl
theorem unixT (s n : Int) (h : -10000000000000000 ≤ s ∧ s ≤ 10000000000000000) : Fn0 Tryz.prog 56 [tmV s n] (I (s + -62135596800)) := by
 refine Fn0.enter (n := 5) Tryz.func56 rfl rfl fun w0 => ?_
 refine WC.sub (fr' := [(0, _)]) ?_ ⟨rfl, trivial⟩
 refine WC.seq (WC.region ?_)
 refine WL.box rfl rfl rfl fun b0_0 hb0_0 => ?_
 refine WL.q (oq_assign rfl) rfl rfl rfl ?_
 refine WL.nil (WE.then_normal (WC.sub (fr' := [(1, _)]) ?_ ⟨rfl, trivial⟩))
 refine WC.seq (WC.region ?_)
 refine WL.q (oq_loadS [_, _, _, _] agg89 ty89 rfl (.head _) (List.mem_singleton.2 rfl) rfl rfl) rfl rfl rfl ?_
 refine WL.qc (oq_call (unixSec2 s n h) call72 rfl) rfl rfl rfl ?_
 refine WL.q (oq_assign rfl) rfl rfl rfl ?_
 refine WL.nil (WE.then_normal (WC.sub (fr' := [(2, _)]) ?_ ⟨rfl, trivial⟩))
 refine WC.ret ?_
 refine WE.lose hb0_0 ?_
 refine WE.end0 (.inl rfl) (res1 Tryz.results56 rfl) ?_
 rfl
theorem nanoT (s n : Int) (h : 0 ≤ n ∧ n ≤ 999999999) : Fn0 Tryz.prog 57 [tmV s n] (I n) := by
 refine Fn0.enter (n := 6) Tryz.func57 rfl rfl fun w0 => ?_
 refine WC.sub (fr' := [(0, _)]) ?_ ⟨rfl, trivial⟩
 refine WC.seq (WC.region ?_)
 refine WL.box rfl rfl rfl fun b0_0 hb0_0 => ?_
 refine WL.q (oq_assign rfl) rfl rfl rfl ?_
 refine WL.nil (WE.then_normal (WC.sub (fr' := [(1, _)]) ?_ ⟨rfl, trivial⟩))
 refine WC.seq (WC.region ?_)
 refine WL.q (oq_loadS [_, _, _, _] agg89 ty89 rfl (.head _) (List.mem_singleton.2 rfl) rfl rfl) rfl rfl rfl ?_
 refine WL.qc (oq_call (nsec s n) call73 rfl) rfl rfl rfl ?_
 refine WL.q (oq_conv Tryz.underlying21 Tryz.underlying3 rfl (by rw [i64_lo, i64_hi]; (first | omega | (simp only [List.length_cons, List.length_nil, List.length_append, List.length_drop, List.length_take]; omega)))) rfl rfl rfl ?_
 refine WL.q (oq_assign rfl) rfl rfl rfl ?_
 refine WL.nil (WE.then_normal (WC.sub (fr' := [(2, _)]) ?_ ⟨rfl, trivial⟩))
 refine WC.ret ?_
 refine WE.lose hb0_0 ?_
 refine WE.end0 (.inl rfl) (res1 Tryz.results57 rfl) ?_
 rfl
theorem backBoolValue (b : Bool) : Fn0 Tryz.prog 33 [.iface 126 (.bool b)] (.agg #[I 0, I 0, I (if b then 1 else 0), S []]) := by
 refine Fn0.enter (n := 72) Tryz.func33 rfl rfl fun w0 => ?_
 refine WC.sub (fr' := [(0, _)]) ?_ ⟨rfl, trivial⟩
 refine WC.seq (WC.region ?_)
 refine WL.alloc ty24 rfl rfl fun res hres => ?_
 refine WL.nil (WE.then_normal (WC.sub (fr' := [(0, _), (2, _)]) ?_ ⟨rfl, rfl, trivial⟩))
 refine WC.seq (WC.seq (WC.region ?_))
 refine WL.q (oq_move rfl) rfl rfl rfl ?_
 refine WL.nil (WE.then_normal (WC.sub (fr' := [(2, _), (13, _)]) ?_ ⟨rfl, rfl, trivial⟩))
 refine WC.block (WC.seq (WC.region ?_))
 refine WL.q (oq_askC conc126 rfl) rfl rfl rfl ?_
 refine WL.q (oq_extract rfl rfl) rfl rfl rfl ?_
 refine WL.q (oq_extract rfl rfl) rfl rfl rfl ?_
 refine WL.nil (WE.then_normal (WC.sub (fr' := [(2, _), (13, _), (15, _), (16, _)]) ?_ ⟨rfl, rfl, rfl, rfl, trivial⟩))
 refine WC.cond_t rfl ?_
 refine WC.seq (WC.region ?_)
 refine WL.q (oq_assign rfl) rfl rfl rfl ?_
 refine WL.nil (WE.then_normal (WC.sub (fr' := [(2, _), (3, _)]) ?_ ⟨rfl, rfl, trivial⟩))
 refine WC.seq (WC.region ?_)
 refine WL.q (oq_move rfl) rfl rfl rfl ?_
 refine WL.nil (WE.then_normal (WC.sub (fr' := [(2, _), (17, _)]) ?_ ⟨rfl, rfl, trivial⟩))
 refine WC.cond rfl (fun q4 => ?_) (fun q4 => ?_)
 ·
  try simp only [Z1, Z2, Z3, Z4, Z5, Z6, Z7, Z8, Z9, Z0] at q4
  refine WC.seq (WC.region ?_)
  refine WL.q (oq_build #[_, _, _, _] str24 ty24 rfl rfl) rfl rfl rfl ?_
  refine WL.storeS #[_, _, _, _] ty24 rfl rfl rfl rfl (Nat.le_of_ble_eq_true rfl) rfl rfl ?_
  refine WL.nil (WE.then_normal (WC.sub (fr' := [(2, _)]) ?_ ⟨rfl, trivial⟩))
  refine WC.ret (WE.block_ret (WE.then_ret ?_))
  refine WE.endD0 (.inl rfl) (rs1 Tryz.results33 (rv_cellS [_, _, _, _] agg24 ty24 rfl (.head _) (List.mem_singleton.2 rfl) rfl rfl)) (dr_lose hres dr_refl) ?_
  rw [q4]; rfl
 ·
  try simp only [Z1, Z2, Z3, Z4, Z5, Z6, Z7, Z8, Z9, Z0] at q4
  refine WC.skip (WE.block_normal (WE.then_normal (WC.sub (fr' := [(2, _)]) ?_ ⟨rfl, trivial⟩)))
  refine WC.seq (WC.region ?_)
  refine WL.q (oq_build #[_, _, _, _] str24 ty24 rfl rfl) rfl rfl rfl ?_
  refine WL.storeS #[_, _, _, _] ty24 rfl rfl rfl rfl (Nat.le_of_ble_eq_true rfl) rfl rfl ?_
  refine WL.nil (WE.then_normal (WC.sub (fr' := [(2, _)]) ?_ ⟨rfl, trivial⟩))
  refine WC.ret ?_
  refine WE.endD0 (.inl rfl) (rs1 Tryz.results33 (rv_cellS [_, _, _, _] agg24 ty24 rfl (.head _) (List.mem_singleton.2 rfl) rfl rfl)) (dr_lose hres dr_refl) ?_
  rw [q4]; rfl
theorem backInt8Value (x : Int) (hx : -128 ≤ x ∧ x ≤ 127) : Fn0 Tryz.prog 33 [.iface 127 (.int .i8 x)] (.agg #[I 1, I 8, I x, S []]) := by
 refine Fn0.enter (n := 72) Tryz.func33 rfl rfl fun w0 => ?_
 refine WC.sub (fr' := [(0, _)]) ?_ ⟨rfl, trivial⟩
 refine WC.seq (WC.region ?_)
 refine WL.alloc ty24 rfl rfl fun res hres => ?_
 refine WL.nil (WE.then_normal (WC.sub (fr' := [(0, _), (2, _)]) ?_ ⟨rfl, rfl, trivial⟩))
 refine WC.seq (WC.seq (WC.region ?_))
 refine WL.q (oq_move rfl) rfl rfl rfl ?_
 refine WL.nil (WE.then_normal (WC.sub (fr' := [(2, _), (13, _)]) ?_ ⟨rfl, rfl, trivial⟩))
 refine WC.block (WC.seq (WC.region ?_))
 refine WL.q (oq_askN conc126 ty126 (by decide) rfl) rfl rfl rfl ?_
 refine WL.q (oq_extract rfl rfl) rfl rfl rfl ?_
 refine WL.q (oq_extract rfl rfl) rfl rfl rfl ?_
 refine WL.nil (WE.then_normal (WC.sub (fr' := [(2, _), (13, _), (15, _), (16, _)]) ?_ ⟨rfl, rfl, rfl, rfl, trivial⟩))
 refine WC.cond_f rfl ?_
 refine WC.seq (WC.region ?_)
 refine WL.q (oq_askC conc127 rfl) rfl rfl rfl ?_
 refine WL.q (oq_extract rfl rfl) rfl rfl rfl ?_
 refine WL.q (oq_extract rfl rfl) rfl rfl rfl ?_
 refine WL.nil (WE.then_normal (WC.sub (fr' := [(2, _), (13, _), (20, _), (21, _)]) ?_ ⟨rfl, rfl, rfl, rfl, trivial⟩))
 refine WC.cond_t rfl ?_
 refine WC.seq (WC.region ?_)
 refine WL.q (oq_assign rfl) rfl rfl rfl ?_
 refine WL.nil (WE.then_normal (WC.sub (fr' := [(2, _), (4, _)]) ?_ ⟨rfl, rfl, trivial⟩))
 refine WC.seq (WC.region ?_)
 refine WL.q (oq_move rfl) rfl rfl rfl ?_
 refine WL.q (oq_conv Tryz.underlying127 Tryz.underlying2 rfl (by rw [i64_lo, i64_hi]; (first | omega | (simp only [List.length_cons, List.length_nil, List.length_append, List.length_drop, List.length_take]; omega)))) rfl rfl rfl ?_
 refine WL.q (oq_build #[_, _, _, _] str24 ty24 rfl rfl) rfl rfl rfl ?_
 refine WL.storeS #[_, _, _, _] ty24 rfl rfl rfl rfl (Nat.le_of_ble_eq_true rfl) rfl rfl ?_
 refine WL.nil (WE.then_normal (WC.sub (fr' := [(2, _)]) ?_ ⟨rfl, trivial⟩))
 refine WC.ret (WE.block_ret (WE.then_ret ?_))
 refine WE.endD0 (.inl rfl) (rs1 Tryz.results33 (rv_cellS [_, _, _, _] agg24 ty24 rfl (.head _) (List.mem_singleton.2 rfl) rfl rfl)) (dr_lose hres dr_refl) ?_
 rfl
theorem backInt16Value (x : Int) (hx : -32768 ≤ x ∧ x ≤ 32767) : Fn0 Tryz.prog 33 [.iface 129 (.int .i16 x)] (.agg #[I 1, I 16, I x, S []]) := by
 refine Fn0.enter (n := 72) Tryz.func33 rfl rfl fun w0 => ?_
 refine WC.sub (fr' := [(0, _)]) ?_ ⟨rfl, trivial⟩
 refine WC.seq (WC.region ?_)
 refine WL.alloc ty24 rfl rfl fun res hres => ?_
 refine WL.nil (WE.then_normal (WC.sub (fr' := [(0, _), (2, _)]) ?_ ⟨rfl, rfl, trivial⟩))
 refine WC.seq (WC.seq (WC.region ?_))
 refine WL.q (oq_move rfl) rfl rfl rfl ?_
 refine WL.nil (WE.then_normal (WC.sub (fr' := [(2, _), (13, _)]) ?_ ⟨rfl, rfl, trivial⟩))
 refine WC.block (WC.seq (WC.region ?_))
 refine WL.q (oq_askN conc126 ty126 (by decide) rfl) rfl rfl rfl ?_
 refine WL.q (oq_extract rfl rfl) rfl rfl rfl ?_
 refine WL.q (oq_extract rfl rfl) rfl rfl rfl ?_
 refine WL.nil (WE.then_normal (WC.sub (fr' := [(2, _), (13, _), (15, _), (16, _)]) ?_ ⟨rfl, rfl, rfl, rfl, trivial⟩))
 refine WC.cond_f rfl ?_
 refine WC.seq (WC.region ?_)
 refine WL.q (oq_askN conc127 ty127 (by decide) rfl) rfl rfl rfl ?_
 refine WL.q (oq_extract rfl rfl) rfl rfl rfl ?_
 refine WL.q (oq_extract rfl rfl) rfl rfl rfl ?_
 refine WL.nil (WE.then_normal (WC.sub (fr' := [(2, _), (13, _), (20, _), (21, _)]) ?_ ⟨rfl, rfl, rfl, rfl, trivial⟩))
 refine WC.cond_f rfl ?_
 refine WC.seq (WC.region ?_)
 refine WL.q (oq_askC conc129 rfl) rfl rfl rfl ?_
 refine WL.q (oq_extract rfl rfl) rfl rfl rfl ?_
 refine WL.q (oq_extract rfl rfl) rfl rfl rfl ?_
 refine WL.nil (WE.then_normal (WC.sub (fr' := [(2, _), (13, _), (26, _), (27, _)]) ?_ ⟨rfl, rfl, rfl, rfl, trivial⟩))
 refine WC.cond_t rfl ?_
 refine WC.seq (WC.region ?_)
 refine WL.q (oq_assign rfl) rfl rfl rfl ?_
 refine WL.nil (WE.then_normal (WC.sub (fr' := [(2, _), (5, _)]) ?_ ⟨rfl, rfl, trivial⟩))
 refine WC.seq (WC.region ?_)
 refine WL.q (oq_move rfl) rfl rfl rfl ?_
 refine WL.q (oq_conv Tryz.underlying129 Tryz.underlying2 rfl (by rw [i64_lo, i64_hi]; (first | omega | (simp only [List.length_cons, List.length_nil, List.length_append, List.length_drop, List.length_take]; omega)))) rfl rfl rfl ?_
 refine WL.q (oq_build #[_, _, _, _] str24 ty24 rfl rfl) rfl rfl rfl ?_
 refine WL.storeS #[_, _, _, _] ty24 rfl rfl rfl rfl (Nat.le_of_ble_eq_true rfl) rfl rfl ?_
 refine WL.nil (WE.then_normal (WC.sub (fr' := [(2, _)]) ?_ ⟨rfl, trivial⟩))
 refine WC.ret (WE.block_ret (WE.then_ret ?_))
 refine WE.endD0 (.inl rfl) (rs1 Tryz.results33 (rv_cellS [_, _, _, _] agg24 ty24 rfl (.head _) (List.mem_singleton.2 rfl) rfl rfl)) (dr_lose hres dr_refl) ?_
 rfl
theorem backInt32Value (x : Int) (hx : -2147483648 ≤ x ∧ x ≤ 2147483647) : Fn0 Tryz.prog 33 [.iface 130 (.int .i32 x)] (.agg #[I 1, I 32, I x, S []]) := by
 refine Fn0.enter (n := 72) Tryz.func33 rfl rfl fun w0 => ?_
 refine WC.sub (fr' := [(0, _)]) ?_ ⟨rfl, trivial⟩
 refine WC.seq (WC.region ?_)
 refine WL.alloc ty24 rfl rfl fun res hres => ?_
 refine WL.nil (WE.then_normal (WC.sub (fr' := [(0, _), (2, _)]) ?_ ⟨rfl, rfl, trivial⟩))
 refine WC.seq (WC.seq (WC.region ?_))
 refine WL.q (oq_move rfl) rfl rfl rfl ?_
 refine WL.nil (WE.then_normal (WC.sub (fr' := [(2, _), (13, _)]) ?_ ⟨rfl, rfl, trivial⟩))
 refine WC.block (WC.seq (WC.region ?_))
 refine WL.q (oq_askN conc126 ty126 (by decide) rfl) rfl rfl rfl ?_
 refine WL.q (oq_extract rfl rfl) rfl rfl rfl ?_
 refine WL.q (oq_extract rfl rfl) rfl rfl rfl ?_
 refine WL.nil (WE.then_normal (WC.sub (fr' := [(2, _), (13, _), (15, _), (16, _)]) ?_ ⟨rfl, rfl, rfl, rfl, trivial⟩))
 refine WC.cond_f rfl ?_
 refine WC.seq (WC.region ?_)
 refine WL.q (oq_askN conc127 ty127 (by decide) rfl) rfl rfl rfl ?_
 refine WL.q (oq_extract rfl rfl) rfl rfl rfl ?_
 refine WL.q (oq_extract rfl rfl) rfl rfl rfl ?_
 refine WL.nil (WE.then_normal (WC.sub (fr' := [(2, _), (13, _), (20, _), (21, _)]) ?_ ⟨rfl, rfl, rfl, rfl, trivial⟩))
 refine WC.cond_f rfl ?_
 refine WC.seq (WC.region ?_)
 refine WL.q (oq_askN conc129 ty129 (by decide) rfl) rfl rfl rfl ?_
 refine WL.q (oq_extract rfl rfl) rfl rfl rfl ?_
 refine WL.q (oq_extract rfl rfl) rfl rfl rfl ?_
 refine WL.nil (WE.then_normal (WC.sub (fr' := [(2, _), (13, _), (26, _), (27, _)]) ?_ ⟨rfl, rfl, rfl, rfl, trivial⟩))
 refine WC.cond_f rfl ?_
 refine WC.seq (WC.region ?_)
 refine WL.q (oq_askC conc130 rfl) rfl rfl rfl ?_
 refine WL.q (oq_extract rfl rfl) rfl rfl rfl ?_
 refine WL.q (oq_extract rfl rfl) rfl rfl rfl ?_
 refine WL.nil (WE.then_normal (WC.sub (fr' := [(2, _), (13, _), (32, _), (33, _)]) ?_ ⟨rfl, rfl, rfl, rfl, trivial⟩))
 refine WC.cond_t rfl ?_
 refine WC.seq (WC.region ?_)
 refine WL.q (oq_assign rfl) rfl rfl rfl ?_
 refine WL.nil (WE.then_normal (WC.sub (fr' := [(2, _), (6, _)]) ?_ ⟨rfl, rfl, trivial⟩))
 refine WC.seq (WC.region ?_)
 refine WL.q (oq_move rfl) rfl rfl rfl ?_
 refine WL.q (oq_conv Tryz.underlying130 Tryz.underlying2 rfl (by rw [i64_lo, i64_hi]; (first | omega | (simp only [List.length_cons, List.length_nil, List.length_append, List.length_drop, List.length_take]; omega)))) rfl rfl rfl ?_
 refine WL.q (oq_build #[_, _, _, _] str24 ty24 rfl rfl) rfl rfl rfl ?_
 refine WL.storeS #[_, _, _, _] ty24 rfl rfl rfl rfl (Nat.le_of_ble_eq_true rfl) rfl rfl ?_
 refine WL.nil (WE.then_normal (WC.sub (fr' := [(2, _)]) ?_ ⟨rfl, trivial⟩))
 refine WC.ret (WE.block_ret (WE.then_ret ?_))
 refine WE.endD0 (.inl rfl) (rs1 Tryz.results33 (rv_cellS [_, _, _, _] agg24 ty24 rfl (.head _) (List.mem_singleton.2 rfl) rfl rfl)) (dr_lose hres dr_refl) ?_
 rfl
theorem backInt64Value (x : Int) (hx : -9223372036854775808 ≤ x ∧ x ≤ 9223372036854775807) : Fn0 Tryz.prog 33 [.iface 131 (.int .i64 x)] (.agg #[I 1, I 64, I x, S []]) := by
 refine Fn0.enter (n := 72) Tryz.func33 rfl rfl fun w0 => ?_
 refine WC.sub (fr' := [(0, _)]) ?_ ⟨rfl, trivial⟩
 refine WC.seq (WC.region ?_)
 refine WL.alloc ty24 rfl rfl fun res hres => ?_
 refine WL.nil (WE.then_normal (WC.sub (fr' := [(0, _), (2, _)]) ?_ ⟨rfl, rfl, trivial⟩))
 refine WC.seq (WC.seq (WC.region ?_))
 refine WL.q (oq_move rfl) rfl rfl rfl ?_
 refine WL.nil (WE.then_normal (WC.sub (fr' := [(2, _), (13, _)]) ?_ ⟨rfl, rfl, trivial⟩))
 refine WC.block (WC.seq (WC.region ?_))
 refine WL.q (oq_askN conc126 ty126 (by decide) rfl) rfl rfl rfl ?_
 refine WL.q (oq_extract rfl rfl) rfl rfl rfl ?_
 refine WL.q (oq_extract rfl rfl) rfl rfl rfl ?_
 refine WL.nil (WE.then_normal (WC.sub (fr' := [(2, _), (13, _), (15, _), (16, _)]) ?_ ⟨rfl, rfl, rfl, rfl, trivial⟩))
 refine WC.cond_f rfl ?_
 refine WC.seq (WC.region ?_)
 refine WL.q (oq_askN conc127 ty127 (by decide) rfl) rfl rfl rfl ?_
 refine WL.q (oq_extract rfl rfl) rfl rfl rfl ?_
 refine WL.q (oq_extract rfl rfl) rfl rfl rfl ?_
 refine WL.nil (WE.then_normal (WC.sub (fr' := [(2, _), (13, _), (20, _), (21, _)]) ?_ ⟨rfl, rfl, rfl, rfl, trivial⟩))
 refine WC.cond_f rfl ?_
 refine WC.seq (WC.region ?_)
 refine WL.q (oq_askN conc129 ty129 (by decide) rfl) rfl rfl rfl ?_
 refine WL.q (oq_extract rfl rfl) rfl rfl rfl ?_
 refine WL.q (oq_extract rfl rfl) rfl rfl rfl ?_
 refine WL.nil (WE.then_normal (WC.sub (fr' := [(2, _), (13, _), (26, _), (27, _)]) ?_ ⟨rfl, rfl, rfl, rfl, trivial⟩))
 refine WC.cond_f rfl ?_
 refine WC.seq (WC.region ?_)
 refine WL.q (oq_askN conc130 ty130 (by decide) rfl) rfl rfl rfl ?_
 refine WL.q (oq_extract rfl rfl) rfl rfl rfl ?_
 refine WL.q (oq_extract rfl rfl) rfl rfl rfl ?_
 refine WL.nil (WE.then_normal (WC.sub (fr' := [(2, _), (13, _), (32, _), (33, _)]) ?_ ⟨rfl, rfl, rfl, rfl, trivial⟩))
 refine WC.cond_f rfl ?_
 refine WC.seq (WC.region ?_)
 refine WL.q (oq_askC conc131 rfl) rfl rfl rfl ?_
 refine WL.q (oq_extract rfl rfl) rfl rfl rfl ?_
 refine WL.q (oq_extract rfl rfl) rfl rfl rfl ?_
 refine WL.nil (WE.then_normal (WC.sub (fr' := [(2, _), (13, _), (38, _), (39, _)]) ?_ ⟨rfl, rfl, rfl, rfl, trivial⟩))
 refine WC.cond_t rfl ?_
 refine WC.seq (WC.region ?_)
 refine WL.q (oq_assign rfl) rfl rfl rfl ?_
 refine WL.nil (WE.then_normal (WC.sub (fr' := [(2, _), (7, _)]) ?_ ⟨rfl, rfl, trivial⟩))
 refine WC.seq (WC.region ?_)
 refine WL.q (oq_move rfl) rfl rfl rfl ?_
 refine WL.q (oq_build #[_, _, _, _] str24 ty24 rfl rfl) rfl rfl rfl ?_
 refine WL.storeS #[_, _, _, _] ty24 rfl rfl rfl rfl (Nat.le_of_ble_eq_true rfl) rfl rfl ?_
 refine WL.nil (WE.then_normal (WC.sub (fr' := [(2, _)]) ?_ ⟨rfl, trivial⟩))
 refine WC.ret (WE.block_ret (WE.then_ret ?_))
 refine WE.endD0 (.inl rfl) (rs1 Tryz.results33 (rv_cellS [_, _, _, _] agg24 ty24 rfl (.head _) (List.mem_singleton.2 rfl) rfl rfl)) (dr_lose hres dr_refl) ?_
 rfl
theorem backBytesValue (s : Value) (N : Hp) (t : List UInt8) (hr : RdS 1 s N t.length (bytesV t)) : FnR Tryz.prog 33 [.iface 132 s] N (.agg #[I 2, I 0, I 0, S t]) := by
 refine FnR.enter (n := 72) Tryz.func33 rfl rfl fun w0 => ?_
 refine WC.sub (fr' := [(0, _)]) ?_ ⟨rfl, trivial⟩
 refine WC.seq (WC.region ?_)
 refine WL.alloc ty24 rfl rfl fun res hres => ?_
 refine WL.nil (WE.then_normal (WC.sub (fr' := [(0, _), (2, _)]) ?_ ⟨rfl, rfl, trivial⟩))
 refine WC.seq (WC.seq (WC.region ?_))
 refine WL.q (oq_move rfl) rfl rfl rfl ?_
 refine WL.nil (WE.then_normal (WC.sub (fr' := [(2, _), (13, _)]) ?_ ⟨rfl, rfl, trivial⟩))
 refine WC.block (WC.seq (WC.region ?_))
 refine WL.q (oq_askN conc126 ty126 (by decide) rfl) rfl rfl rfl ?_
 refine WL.q (oq_extract rfl rfl) rfl rfl rfl ?_
 refine WL.q (oq_extract rfl rfl) rfl rfl rfl ?_
 refine WL.nil (WE.then_normal (WC.sub (fr' := [(2, _), (13, _), (15, _), (16, _)]) ?_ ⟨rfl, rfl, rfl, rfl, trivial⟩))
 refine WC.cond_f rfl ?_
 refine WC.seq (WC.region ?_)
 refine WL.q (oq_askN conc127 ty127 (by decide) rfl) rfl rfl rfl ?_
 refine WL.q (oq_extract rfl rfl) rfl rfl rfl ?_
 refine WL.q (oq_extract rfl rfl) rfl rfl rfl ?_
 refine WL.nil (WE.then_normal (WC.sub (fr' := [(2, _), (13, _), (20, _), (21, _)]) ?_ ⟨rfl, rfl, rfl, rfl, trivial⟩))
 refine WC.cond_f rfl ?_
 refine WC.seq (WC.region ?_)
 refine WL.q (oq_askN conc129 ty129 (by decide) rfl) rfl rfl rfl ?_
 refine WL.q (oq_extract rfl rfl) rfl rfl rfl ?_
 refine WL.q (oq_extract rfl rfl) rfl rfl rfl ?_
 refine WL.nil (WE.then_normal (WC.sub (fr' := [(2, _), (13, _), (26, _), (27, _)]) ?_ ⟨rfl, rfl, rfl, rfl, trivial⟩))
 refine WC.cond_f rfl ?_
 refine WC.seq (WC.region ?_)
 refine WL.q (oq_askN conc130 ty130 (by decide) rfl) rfl rfl rfl ?_
 refine WL.q (oq_extract rfl rfl) rfl rfl rfl ?_
 refine WL.q (oq_extract rfl rfl) rfl rfl rfl ?_
 refine WL.nil (WE.then_normal (WC.sub (fr' := [(2, _), (13, _), (32, _), (33, _)]) ?_ ⟨rfl, rfl, rfl, rfl, trivial⟩))
 refine WC.cond_f rfl ?_
 refine WC.seq (WC.region ?_)
 refine WL.q (oq_askN conc131 ty131 (by decide) rfl) rfl rfl rfl ?_
 refine WL.q (oq_extract rfl rfl) rfl rfl rfl ?_
 refine WL.q (oq_extract rfl rfl) rfl rfl rfl ?_
 refine WL.nil (WE.then_normal (WC.sub (fr' := [(2, _), (13, _), (38, _), (39, _)]) ?_ ⟨rfl, rfl, rfl, rfl, trivial⟩))
 refine WC.cond_f rfl ?_
 refine WC.seq (WC.region ?_)
 refine WL.q (oq_askC conc132 rfl) rfl rfl rfl ?_
 refine WL.q (oq_extract rfl rfl) rfl rfl rfl ?_
 refine WL.q (oq_extract rfl rfl) rfl rfl rfl ?_
 refine WL.nil (WE.then_normal (WC.sub (fr' := [(2, _), (13, _), (43, _), (44, _)]) ?_ ⟨rfl, rfl, rfl, rfl, trivial⟩))
 refine WC.cond_t rfl ?_
 refine WC.seq (WC.region ?_)
 refine WL.q (oq_assign rfl) rfl rfl rfl ?_
 refine WL.nil (WE.then_normal (WC.sub (fr' := [(2, _), (8, _)]) ?_ ⟨rfl, rfl, trivial⟩))
 refine WC.seq (WC.region ?_)
 refine WL.q (oq_move rfl) rfl rfl rfl ?_
 refine WL.q (oq_bytesStr hr (.tail _ (.head _)) Tryz.underlying9 Tryz.underlying132 Tryz.underlying5 rfl) rfl rfl rfl ?_
 refine WL.q (oq_build #[_, _, _, _] str24 ty24 rfl rfl) rfl rfl rfl ?_
 refine WL.storeS #[_, _, _, _] ty24 rfl rfl rfl rfl (Nat.le_of_ble_eq_true rfl) rfl rfl ?_
 refine WL.nil (WE.then_normal (WC.sub (fr' := [(2, _)]) ?_ ⟨rfl, trivial⟩))
 refine WC.ret (WE.block_ret (WE.then_ret ?_))
 refine WE.endDR (.inl rfl) (rs1 Tryz.results33 (rv_cellS [_, _, _, _] agg24 ty24 rfl (.head _) (List.mem_singleton.2 rfl) rfl rfl)) (dr_lose hres dr_refl) ?_
 rfl
theorem backStringValue (t : List UInt8) : Fn0 Tryz.prog 33 [.iface 133 (S t)] (.agg #[I 3, I 0, I 0, S t]) := by
 refine Fn0.enter (n := 72) Tryz.func33 rfl rfl fun w0 => ?_
 refine WC.sub (fr' := [(0, _)]) ?_ ⟨rfl, trivial⟩
 refine WC.seq (WC.region ?_)
 refine WL.alloc ty24 rfl rfl fun res hres => ?_
 refine WL.nil (WE.then_normal (WC.sub (fr' := [(0, _), (2, _)]) ?_ ⟨rfl, rfl, trivial⟩))
 refine WC.seq (WC.seq (WC.region ?_))
 refine WL.q (oq_move rfl) rfl rfl rfl ?_
 refine WL.nil (WE.then_normal (WC.sub (fr' := [(2, _), (13, _)]) ?_ ⟨rfl, rfl, trivial⟩))
 refine WC.block (WC.seq (WC.region ?_))
 refine WL.q (oq_askN conc126 ty126 (by decide) rfl) rfl rfl rfl ?_
 refine WL.q (oq_extract rfl rfl) rfl rfl rfl ?_
 refine WL.q (oq_extract rfl rfl) rfl rfl rfl ?_
 refine WL.nil (WE.then_normal (WC.sub (fr' := [(2, _), (13, _), (15, _), (16, _)]) ?_ ⟨rfl, rfl, rfl, rfl, trivial⟩))
 refine WC.cond_f rfl ?_
 refine WC.seq (WC.region ?_)
 refine WL.q (oq_askN conc127 ty127 (by decide) rfl) rfl rfl rfl ?_
 refine WL.q (oq_extract rfl rfl) rfl rfl rfl ?_
 refine WL.q (oq_extract rfl rfl) rfl rfl rfl ?_
 refine WL.nil (WE.then_normal (WC.sub (fr' := [(2, _), (13, _), (20, _), (21, _)]) ?_ ⟨rfl, rfl, rfl, rfl, trivial⟩))
 refine WC.cond_f rfl ?_
 refine WC.seq (WC.region ?_)
 refine WL.q (oq_askN conc129 ty129 (by decide) rfl) rfl rfl rfl ?_
 refine WL.q (oq_extract rfl rfl) rfl rfl rfl ?_
 refine WL.q (oq_extract rfl rfl) rfl rfl rfl ?_
 refine WL.nil (WE.then_normal (WC.sub (fr' := [(2, _), (13, _), (26, _), (27, _)]) ?_ ⟨rfl, rfl, rfl, rfl, trivial⟩))
 refine WC.cond_f rfl ?_
 refine WC.seq (WC.region ?_)
 refine WL.q (oq_askN conc130 ty130 (by decide) rfl) rfl rfl rfl ?_
 refine WL.q (oq_extract rfl rfl) rfl rfl rfl ?_
 refine WL.q (oq_extract rfl rfl) rfl rfl rfl ?_
 refine WL.nil (WE.then_normal (WC.sub (fr' := [(2, _), (13, _), (32, _), (33, _)]) ?_ ⟨rfl, rfl, rfl, rfl, trivial⟩))
 refine WC.cond_f rfl ?_
 refine WC.seq (WC.region ?_)
 refine WL.q (oq_askN conc131 ty131 (by decide) rfl) rfl rfl rfl ?_
 refine WL.q (oq_extract rfl rfl) rfl rfl rfl ?_
 refine WL.q (oq_extract rfl rfl) rfl rfl rfl ?_
 refine WL.nil (WE.then_normal (WC.sub (fr' := [(2, _), (13, _), (38, _), (39, _)]) ?_ ⟨rfl, rfl, rfl, rfl, trivial⟩))
 refine WC.cond_f rfl ?_
 refine WC.seq (WC.region ?_)
 refine WL.q (oq_askN conc132 ty132 (by decide) rfl) rfl rfl rfl ?_
 refine WL.q (oq_extract rfl rfl) rfl rfl rfl ?_
 refine WL.q (oq_extract rfl rfl) rfl rfl rfl ?_
 refine WL.nil (WE.then_normal (WC.sub (fr' := [(2, _), (13, _), (43, _), (44, _)]) ?_ ⟨rfl, rfl, rfl, rfl, trivial⟩))
 refine WC.cond_f rfl ?_
 refine WC.seq (WC.region ?_)
 refine WL.q (oq_askC conc133 rfl) rfl rfl rfl ?_
 refine WL.q (oq_extract rfl rfl) rfl rfl rfl ?_
 refine WL.q (oq_extract rfl rfl) rfl rfl rfl ?_
 refine WL.nil (WE.then_normal (WC.sub (fr' := [(2, _), (13, _), (49, _), (50, _)]) ?_ ⟨rfl, rfl, rfl, rfl, trivial⟩))
 refine WC.cond_t rfl ?_
 refine WC.seq (WC.region ?_)
 refine WL.q (oq_assign rfl) rfl rfl rfl ?_
 refine WL.nil (WE.then_normal (WC.sub (fr' := [(2, _), (9, _)]) ?_ ⟨rfl, rfl, trivial⟩))
 refine WC.seq (WC.region ?_)
 refine WL.q (oq_move rfl) rfl rfl rfl ?_
 refine WL.q (oq_build #[_, _, _, _] str24 ty24 rfl rfl) rfl rfl rfl ?_
 refine WL.storeS #[_, _, _, _] ty24 rfl rfl rfl rfl (Nat.le_of_ble_eq_true rfl) rfl rfl ?_
 refine WL.nil (WE.then_normal (WC.sub (fr' := [(2, _)]) ?_ ⟨rfl, trivial⟩))
 refine WC.ret (WE.block_ret (WE.then_ret ?_))
 refine WE.endD0 (.inl rfl) (rs1 Tryz.results33 (rv_cellS [_, _, _, _] agg24 ty24 rfl (.head _) (List.mem_singleton.2 rfl) rfl rfl)) (dr_lose hres dr_refl) ?_
 rfl
theorem backTimestampValue (ms : Int) (h1 : -9223372036854775808 ≤ ms) (h2 : ms ≤ 9223372036854775807) : Fn0 Tryz.prog 33 [.iface 134 (msV ms)] (.agg #[I 4, I 0, I ms, S []]) := by
 refine Fn0.enter (n := 72) Tryz.func33 rfl rfl fun w0 => ?_
 refine WC.sub (fr' := [(0, _)]) ?_ ⟨rfl, trivial⟩
 refine WC.seq (WC.region ?_)
 refine WL.alloc ty24 rfl rfl fun res hres => ?_
 refine WL.nil (WE.then_normal (WC.sub (fr' := [(0, _), (2, _)]) ?_ ⟨rfl, rfl, trivial⟩))
 refine WC.seq (WC.seq (WC.region ?_))
 refine WL.q (oq_move rfl) rfl rfl rfl ?_
 refine WL.nil (WE.then_normal (WC.sub (fr' := [(2, _), (13, _)]) ?_ ⟨rfl, rfl, trivial⟩))
 refine WC.block (WC.seq (WC.region ?_))
 refine WL.q (oq_askN conc126 ty126 (by decide) rfl) rfl rfl rfl ?_
 refine WL.q (oq_extract rfl rfl) rfl rfl rfl ?_
 refine WL.q (oq_extract rfl rfl) rfl rfl rfl ?_
 refine WL.nil (WE.then_normal (WC.sub (fr' := [(2, _), (13, _), (15, _), (16, _)]) ?_ ⟨rfl, rfl, rfl, rfl, trivial⟩))
 refine WC.cond_f rfl ?_
 refine WC.seq (WC.region ?_)
 refine WL.q (oq_askN conc127 ty127 (by decide) rfl) rfl rfl rfl ?_
 refine WL.q (oq_extract rfl rfl) rfl rfl rfl ?_
 refine WL.q (oq_extract rfl rfl) rfl rfl rfl ?_
 refine WL.nil (WE.then_normal (WC.sub (fr' := [(2, _), (13, _), (20, _), (21, _)]) ?_ ⟨rfl, rfl, rfl, rfl, trivial⟩))
 refine WC.cond_f rfl ?_
 refine WC.seq (WC.region ?_)
 refine WL.q (oq_askN conc129 ty129 (by decide) rfl) rfl rfl rfl ?_
 refine WL.q (oq_extract rfl rfl) rfl rfl rfl ?_
 refine WL.q (oq_extract rfl rfl) rfl rfl rfl ?_
 refine WL.nil (WE.then_normal (WC.sub (fr' := [(2, _), (13, _), (26, _), (27, _)]) ?_ ⟨rfl, rfl, rfl, rfl, trivial⟩))
 refine WC.cond_f rfl ?_
 refine WC.seq (WC.region ?_)
 refine WL.q (oq_askN conc130 ty130 (by decide) rfl) rfl rfl rfl ?_
 refine WL.q (oq_extract rfl rfl) rfl rfl rfl ?_
 refine WL.q (oq_extract rfl rfl) rfl rfl rfl ?_
 refine WL.nil (WE.then_normal (WC.sub (fr' := [(2, _), (13, _), (32, _), (33, _)]) ?_ ⟨rfl, rfl, rfl, rfl, trivial⟩))
 refine WC.cond_f rfl ?_
 refine WC.seq (WC.region ?_)
 refine WL.q (oq_askN conc131 ty131 (by decide) rfl) rfl rfl rfl ?_
 refine WL.q (oq_extract rfl rfl) rfl rfl rfl ?_
 refine WL.q (oq_extract rfl rfl) rfl rfl rfl ?_
 refine WL.nil (WE.then_normal (WC.sub (fr' := [(2, _), (13, _), (38, _), (39, _)]) ?_ ⟨rfl, rfl, rfl, rfl, trivial⟩))
 refine WC.cond_f rfl ?_
 refine WC.seq (WC.region ?_)
 refine WL.q (oq_askN conc132 ty132 (by decide) rfl) rfl rfl rfl ?_
 refine WL.q (oq_extract rfl rfl) rfl rfl rfl ?_
 refine WL.q (oq_extract rfl rfl) rfl rfl rfl ?_
 refine WL.nil (WE.then_normal (WC.sub (fr' := [(2, _), (13, _), (43, _), (44, _)]) ?_ ⟨rfl, rfl, rfl, rfl, trivial⟩))
 refine WC.cond_f rfl ?_
 refine WC.seq (WC.region ?_)
 refine WL.q (oq_askN conc133 ty133 (by decide) rfl) rfl rfl rfl ?_
 refine WL.q (oq_extract rfl rfl) rfl rfl rfl ?_
 refine WL.q (oq_extract rfl rfl) rfl rfl rfl ?_
 refine WL.nil (WE.then_normal (WC.sub (fr' := [(2, _), (13, _), (49, _), (50, _)]) ?_ ⟨rfl, rfl, rfl, rfl, trivial⟩))
 refine WC.cond_f rfl ?_
 refine WC.seq (WC.region ?_)
 refine WL.q (oq_askC conc134 rfl) rfl rfl rfl ?_
 refine WL.q (oq_extract rfl rfl) rfl rfl rfl ?_
 refine WL.q (oq_extract rfl rfl) rfl rfl rfl ?_
 refine WL.nil (WE.then_normal (WC.sub (fr' := [(2, _), (13, _), (54, _), (55, _)]) ?_ ⟨rfl, rfl, rfl, rfl, trivial⟩))
 refine WC.cond_t rfl ?_
 refine WC.seq (WC.region ?_)
 refine WL.alloc ty134 rfl rfl fun tq htq => ?_
 refine WL.storeS #[_, _, _, _] ty134 rfl rfl rfl rfl (Nat.le_of_ble_eq_true rfl) rfl rfl ?_
 refine WL.nil (WE.then_normal (WC.sub (fr' := [(2, _), (10, _)]) ?_ ⟨rfl, rfl, trivial⟩))
 refine WC.seq (WC.region ?_)
 refine WL.q (oq_loadS [_, _, _, _] agg134 ty134 rfl (.head _) (List.mem_singleton.2 rfl) rfl rfl) rfl rfl rfl ?_
 refine WL.alloc ty89 rfl rfl fun tr htr => ?_
 refine WL.storeS #[_, _, _, _] ty89 rfl rfl rfl rfl (Nat.le_of_ble_eq_true rfl) rfl rfl ?_
 refine WL.nil (WE.then_normal (WC.sub (fr' := [(2, _), (11, _)]) ?_ ⟨rfl, rfl, trivial⟩))
 refine WC.seq ?_
 refine WC.gate 8 ([(tr, .cells #[I (ms / 1000 + 62135596800), .int .i32 (ms % 1000 * 1000000), S [85, 84, 67], I 0] 89 (0, 0))]) (by kernel_rfl) ?_
 refine WG.q 0 [] rfl (.head _) (fun w0 => oq_loadS [_, _, _, _] agg89 ty89 rfl (.head _) (List.mem_singleton.2 rfl) rfl rfl) rfl rfl rfl ?_
 refine WG.q 3 [] rfl (.head _) (fun w0 => oq_loadS [_, _, _, _] agg89 ty89 rfl (.head _) (List.mem_singleton.2 rfl) rfl rfl) rfl rfl rfl ?_
 refine WG.step (i := 1) (by kernel_rfl) rfl ?_
 refine WL.qc (oq_call (unixT (ms / 1000 + 62135596800) (ms % 1000 * 1000000) (by omega)) call56 rfl) rfl rfl rfl ?_
 refine WL.nil ?_
 refine WE.toG (.head _) ?_
 refine WG.q 2 [] rfl (.head _) (fun w0 => oq_mulw rfl rfl) rfl rfl rfl ?_
 refine WG.step (i := 4) (by kernel_rfl) rfl ?_
 refine WL.qc (oq_call (nanoT (ms / 1000 + 62135596800) (ms % 1000 * 1000000) (by omega)) call57 rfl) rfl rfl rfl ?_
 refine WL.nil ?_
 refine WE.toG (.head _) ?_
 refine WG.q 5 [] rfl (.head _) (fun w0 => oq_quo rfl rfl (by rw [i64_hi]; omega)) rfl rfl rfl ?_
 refine WG.q 6 [] rfl (.head _) (fun w0 => oq_addw rfl rfl) rfl rfl rfl ?_
 refine WG.q 7 [] rfl (.head _) (fun w0 => oq_build #[_, _, _, _] str24 ty24 rfl rfl) rfl rfl rfl ?_
 refine WG.step (i := 8) (by kernel_rfl) rfl ?_
 refine WL.f2 ?_
 refine WL.storeS #[_, _, _, _] ty24 rfl rfl rfl rfl (Nat.le_of_ble_eq_true rfl) rfl rfl ?_
 refine WL.nil ?_
 refine WE.toG0 (by kernel_rfl) ?_
 refine WG.done (by kernel_rfl) ?_
 refine WE.then_normal (WC.sub (fr' := [(2, _)]) ?_ ⟨rfl, trivial⟩)
 refine WC.ret (WE.block_ret (WE.then_ret ?_))
 refine WE.endD0 (.inl rfl) (rs1 Tryz.results33 (rv_cellS [_, _, _, _] agg24 ty24 rfl (.head _) (List.mem_singleton.2 rfl) rfl rfl)) (dr_lose hres (dr_lose htr (dr_lose htq dr_refl))) ?_
 rw [ms_back h1 h2]; rfl
theorem backUUIDValue (a0 a1 a2 a3 a4 a5 a6 a7 a8 a9 a10 a11 a12 a13 a14 a15 : UInt8) : Fn0 Tryz.prog 33 [.iface 137 (.agg #[.int .u8 (a0.toNat : Int), .int .u8 (a1.toNat : Int), .int .u8 (a2.toNat : Int), .int .u8 (a3.toNat : Int), .int .u8 (a4.toNat : Int), .int .u8 (a5.toNat : Int), .int .u8 (a6.toNat : Int), .int .u8 (a7.toNat : Int), .int .u8 (a8.toNat : Int), .int .u8 (a9.toNat : Int), .int .u8 (a10.toNat : Int), .int .u8 (a11.toNat : Int), .int .u8 (a12.toNat : Int), .int .u8 (a13.toNat : Int), .int .u8 (a14.toNat : Int), .int .u8 (a15.toNat : Int)])] (.agg #[I 5, I 0, I 0, S [a0, a1, a2, a3, a4, a5, a6, a7, a8, a9, a10, a11, a12, a13, a14, a15]]) := by
 refine Fn0.enter (n := 72) Tryz.func33 rfl rfl fun w0 => ?_
 refine WC.sub (fr' := [(0, _)]) ?_ ⟨rfl, trivial⟩
 refine WC.seq (WC.region ?_)
 refine WL.alloc ty24 rfl rfl fun res hres => ?_
 refine WL.nil (WE.then_normal (WC.sub (fr' := [(0, _), (2, _)]) ?_ ⟨rfl, rfl, trivial⟩))
 refine WC.seq (WC.seq (WC.region ?_))
 refine WL.q (oq_move rfl) rfl rfl rfl ?_
 refine WL.nil (WE.then_normal (WC.sub (fr' := [(2, _), (13, _)]) ?_ ⟨rfl, rfl, trivial⟩))
 refine WC.block (WC.seq (WC.region ?_))
 refine WL.q (oq_askN conc126 ty126 (by decide) rfl) rfl rfl rfl ?_
 refine WL.q (oq_extract rfl rfl) rfl rfl rfl ?_
 refine WL.q (oq_extract rfl rfl) rfl rfl rfl ?_
 refine WL.nil (WE.then_normal (WC.sub (fr' := [(2, _), (13, _), (15, _), (16, _)]) ?_ ⟨rfl, rfl, rfl, rfl, trivial⟩))
 refine WC.cond_f rfl ?_
 refine WC.seq (WC.region ?_)
 refine WL.q (oq_askN conc127 ty127 (by decide) rfl) rfl rfl rfl ?_
 refine WL.q (oq_extract rfl rfl) rfl rfl rfl ?_
 refine WL.q (oq_extract rfl rfl) rfl rfl rfl ?_
 refine WL.nil (WE.then_normal (WC.sub (fr' := [(2, _), (13, _), (20, _), (21, _)]) ?_ ⟨rfl, rfl, rfl, rfl, trivial⟩))
 refine WC.cond_f rfl ?_
 refine WC.seq (WC.region ?_)
 refine WL.q (oq_askN conc129 ty129 (by decide) rfl) rfl rfl rfl ?_
 refine WL.q (oq_extract rfl rfl) rfl rfl rfl ?_
 refine WL.q (oq_extract rfl rfl) rfl rfl rfl ?_
 refine WL.nil (WE.then_normal (WC.sub (fr' := [(2, _), (13, _), (26, _), (27, _)]) ?_ ⟨rfl, rfl, rfl, rfl, trivial⟩))
 refine WC.cond_f rfl ?_
 refine WC.seq (WC.region ?_)
 refine WL.q (oq_askN conc130 ty130 (by decide) rfl) rfl rfl rfl ?_
 refine WL.q (oq_extract rfl rfl) rfl rfl rfl ?_
 refine WL.q (oq_extract rfl rfl) rfl rfl rfl ?_
 refine WL.nil (WE.then_normal (WC.sub (fr' := [(2, _), (13, _), (32, _), (33, _)]) ?_ ⟨rfl, rfl, rfl, rfl, trivial⟩))
 refine WC.cond_f rfl ?_
 refine WC.seq (WC.region ?_)
 refine WL.q (oq_askN conc131 ty131 (by decide) rfl) rfl rfl rfl ?_
 refine WL.q (oq_extract rfl rfl) rfl rfl rfl ?_
 refine WL.q (oq_extract rfl rfl) rfl rfl rfl ?_
 refine WL.nil (WE.then_normal (WC.sub (fr' := [(2, _), (13, _), (38, _), (39, _)]) ?_ ⟨rfl, rfl, rfl, rfl, trivial⟩))
 refine WC.cond_f rfl ?_
 refine WC.seq (WC.region ?_)
 refine WL.q (oq_askN conc132 ty132 (by decide) rfl) rfl rfl rfl ?_
 refine WL.q (oq_extract rfl rfl) rfl rfl rfl ?_
 refine WL.q (oq_extract rfl rfl) rfl rfl rfl ?_
 refine WL.nil (WE.then_normal (WC.sub (fr' := [(2, _), (13, _), (43, _), (44, _)]) ?_ ⟨rfl, rfl, rfl, rfl, trivial⟩))
 refine WC.cond_f rfl ?_
 refine WC.seq (WC.region ?_)
 refine WL.q (oq_askN conc133 ty133 (by decide) rfl) rfl rfl rfl ?_
 refine WL.q (oq_extract rfl rfl) rfl rfl rfl ?_
 refine WL.q (oq_extract rfl rfl) rfl rfl rfl ?_
 refine WL.nil (WE.then_normal (WC.sub (fr' := [(2, _), (13, _), (49, _), (50, _)]) ?_ ⟨rfl, rfl, rfl, rfl, trivial⟩))
 refine WC.cond_f rfl ?_
 refine WC.seq (WC.region ?_)
 refine WL.q (oq_askN conc134 ty134 (by decide) rfl) rfl rfl rfl ?_
 refine WL.q (oq_extract rfl rfl) rfl rfl rfl ?_
 refine WL.q (oq_extract rfl rfl) rfl rfl rfl ?_
 refine WL.nil (WE.then_normal (WC.sub (fr' := [(2, _), (13, _), (54, _), (55, _)]) ?_ ⟨rfl, rfl, rfl, rfl, trivial⟩))
 refine WC.cond_f rfl ?_
 refine WC.seq (WC.region ?_)
 refine WL.q (oq_askC conc137 rfl) rfl rfl rfl ?_
 refine WL.q (oq_extract rfl rfl) rfl rfl rfl ?_
 refine WL.q (oq_extract rfl rfl) rfl rfl rfl ?_
 refine WL.nil (WE.then_normal (WC.sub (fr' := [(2, _), (66, _), (67, _)]) ?_ ⟨rfl, rfl, rfl, trivial⟩))
 refine WC.cond_t rfl ?_
 refine WC.seq (WC.region ?_)
 refine WL.alloc ty137 rfl rfl fun ub hub => ?_
 refine WL.storeS (#[.int .u8 (a0.toNat : Int), .int .u8 (a1.toNat : Int), .int .u8 (a2.toNat : Int), .int .u8 (a3.toNat : Int), .int .u8 (a4.toNat : Int), .int .u8 (a5.toNat : Int), .int .u8 (a6.toNat : Int), .int .u8 (a7.toNat : Int), .int .u8 (a8.toNat : Int), .int .u8 (a9.toNat : Int), .int .u8 (a10.toNat : Int), .int .u8 (a11.toNat : Int), .int .u8 (a12.toNat : Int), .int .u8 (a13.toNat : Int), .int .u8 (a14.toNat : Int), .int .u8 (a15.toNat : Int)]) ty137 rfl rfl (by kernel_rfl) (by kernel_rfl) (Nat.le_of_ble_eq_true rfl) (by kernel_rfl) rfl ?_
 refine WL.nil (WE.then_normal (WC.sub (fr' := [(2, _), (12, _)]) ?_ ⟨rfl, rfl, trivial⟩))
 refine WC.seq (WC.region ?_)
 refine WL.asB [a0, a1, a2, a3, a4, a5, a6, a7, a8, a9, a10, a11, a12, a13, a14, a15] rfl ?_
 refine WL.q (oq_sliceArr Tryz.underlying137 ty5 rfl rfl rfl (by (first | omega | (simp; done))) (by (first | omega | (simp; done)))) rfl rfl rfl ?_
 refine WL.q (oq_bytesStr (Sl.rd (by (first | omega | (simp; done))) (by (first | omega | (simp; done)))) (.head _) Tryz.underlying9 Tryz.underlying28 Tryz.underlying5 rfl) rfl rfl rfl ?_
 refine WL.q (oq_build #[_, _, _, _] str24 ty24 rfl rfl) rfl rfl rfl ?_
 refine WL.f1 ?_
 refine WL.storeS #[_, _, _, _] ty24 rfl rfl rfl rfl (Nat.le_of_ble_eq_true rfl) rfl rfl ?_
 refine WL.nil (WE.then_normal (WC.sub (fr' := [(2, _)]) ?_ ⟨rfl, trivial⟩))
 refine WC.ret (WE.block_ret (WE.then_ret ?_))
 refine WE.endD0 (.inl rfl) (rs1 Tryz.results33 (rv_cellS [_, _, _, _] agg24 ty24 rfl (.head _) (List.mem_singleton.2 rfl) rfl rfl)) (dr_lose hres (dr_lose hub dr_refl)) ?_
 rfl
theorem l16 {l : List UInt8} (h : l.length = 16) : ∃ a0 a1 a2 a3 a4 a5 a6 a7 a8 a9 a10 a11 a12 a13 a14 a15, l = [a0, a1, a2, a3, a4, a5, a6, a7, a8, a9, a10, a11, a12, a13, a14, a15] := by
 match l, h with
 | [a0, a1, a2, a3, a4, a5, a6, a7, a8, a9, a10, a11, a12, a13, a14, a15], _ => exact ⟨a0, a1, a2, a3, a4, a5, a6, a7, a8, a9, a10, a11, a12, a13, a14, a15, rfl⟩
theorem valueBack {h : HV} {v : Value} {N : Hp} (hv : VBk h v N) : FnR Tryz.prog 33 [v] N (.agg #[I h.kind, I h.width, I h.int, S h.text]) := by
 have z : ∀ {a : Value}, Fn0 Tryz.prog 33 [v] a → FnR Tryz.prog 33 [v] N a := fun hf w hw => by
  refine (hf w).mono ?_
  rintro e w' ⟨he, hst⟩
  exact ⟨he, by have := St.pure (R := N) hw.st hst; simpa using this⟩
 rcases hv with ⟨k, a, b, c, rfl⟩ | ⟨k, a, b, c, rfl⟩ | ⟨k, a, b, c, rfl⟩ | ⟨k, a, b, c, rfl⟩ | ⟨k, a, b, c, rfl⟩ | ⟨k, a, b, s, rfl, c⟩ | ⟨k, a, b, rfl⟩ | ⟨k, a, b, c, rfl⟩ | ⟨k, a, b, c, rfl⟩
 ·have hb := backBoolValue (decide (h.int = 1))
  rw [k, a, b]
  refine z ?_
  rcases c with c | c
  ·rw [c] at hb ⊢; exact hb
  ·rw [c] at hb ⊢; exact hb
 ·rw [k, a, b]; exact z (backInt8Value h.int c)
 ·rw [k, a, b]; exact z (backInt16Value h.int c)
 ·rw [k, a, b]; exact z (backInt32Value h.int c)
 ·rw [k, a, b]; exact z (backInt64Value h.int c)
 ·rw [k, a, b]; exact backBytesValue s N h.text c
 ·rw [k, a, b]; exact z (backStringValue h.text)
 ·rw [k, a, b]; exact z (backTimestampValue h.int c.1 c.2)
 ·rw [k, a, b]
  obtain ⟨a0, a1, a2, a3, a4, a5, a6, a7, a8, a9, a10, a11, a12, a13, a14, a15, hl⟩ := l16 c
  have hb := backUUIDValue a0 a1 a2 a3 a4 a5 a6 a7 a8 a9 a10 a11 a12 a13 a14 a15
  have e : (bytesV h.text).toArray = #[.int .u8 (a0.toNat : Int), .int .u8 (a1.toNat : Int), .int .u8 (a2.toNat : Int), .int .u8 (a3.toNat : Int), .int .u8 (a4.toNat : Int), .int .u8 (a5.toNat : Int), .int .u8 (a6.toNat : Int), .int .u8 (a7.toNat : Int), .int .u8 (a8.toNat : Int), .int .u8 (a9.toNat : Int), .int .u8 (a10.toNat : Int), .int .u8 (a11.toNat : Int), .int .u8 (a12.toNat : Int), .int .u8 (a13.toNat : Int), .int .u8 (a14.toNat : Int), .int .u8 (a15.toNat : Int)] := by rw [hl]; rfl
  rw [e] at z ⊢
  rw [hl]
  exact z hb
theorem headersBack (v : Value) (Z : Hp) (ps : List PV) (l : List HV) (hr : RdS 2 v Z ps.length (recsV PV.row ps)) (hpb : PB l ps Z) (hn : ps.length ≤ 1000000) : FnA Tryz.prog 36 [v] Z (fun w N => RdS 5 w N l.length (recsV HV.row l)) := by
 have hpl := hpb.len
 refine FnA.enter (n := 23) Tryz.func36 rfl rfl fun w0 => ?_
 refine WC.sub (fr' := [(0, _)]) ?_ ⟨rfl, trivial⟩
 refine WC.seq (WC.region ?_)
 refine WL.q (oq_assign rfl) rfl rfl rfl ?_
 refine WL.nil (WE.then_normal (WC.sub (fr' := [(0, _)]) ?_ ⟨rfl, trivial⟩))
 refine WC.seq ?_
 refine WC.add0 ?_
 refine WC.region ?_
 refine WL.q (oq_assign rfl) rfl rfl rfl ?_
 refine WL.nil (WE.then_normal (WC.sub (fr' := [(0, _), (3, _)]) ?_ ⟨rfl, rfl, trivial⟩))
 refine WC.seq (WC.seq (WC.region ?_))
 refine WL.q (oq_move rfl) rfl rfl rfl ?_
 refine WL.q (oq_len_rd hr Tryz.underlying62 rfl) rfl rfl rfl ?_
 refine WL.q (oq_move rfl) rfl rfl rfl ?_
 refine WL.nil (WE.then_normal (WC.sub (fr' := [(3, _), (6, _), (7, _), (8, _)]) ?_ ⟨rfl, rfl, rfl, rfl, trivial⟩))
 refine WC.block ?_
 refine WC.loop (ι := Nat × Value × Hp) (fun i_ => (fun (i : Nat) (u : Value) (B : Hp) => [(3, u), (6, v), (7, I (ps.length : Int)), (8, I (i : Int))]) i_.1 i_.2.1 i_.2.2) (fun i_ => (fun (i : Nat) (u : Value) (B : Hp) => [B, Z]) i_.1 i_.2.1 i_.2.2) (fun i_ => (fun (i : Nat) (u : Value) (B : Hp) => i ≤ l.length ∧ OwS w0.heap.size 32 5 u B i (recsV HV.row (l.take i))) i_.1 i_.2.1 i_.2.2) (fun i_ => (fun (i : Nat) (u : Value) (B : Hp) => l.length - i) i_.1 i_.2.1 i_.2.2) ((0, _, _)) ?_ ⟨rfl, rfl, rfl, rfl, trivial⟩ (List.Perm.refl _) ?_
 ·try dsimp only
  exact ⟨by omega, OwS.nil _ _ _⟩
 ·rintro ⟨i, u, B⟩ hp
  try dsimp only at hp
  obtain ⟨hi, ho⟩ := hp
  show WC _ _ _ _ _ _ ([(3, u), (6, v), (7, I (ps.length : Int)), (8, I (i : Int))]) ([B, Z])
  refine WC.seq (WC.region ?_)
  refine WL.q (oq_lss rfl rfl) rfl rfl rfl ?_
  refine WL.nil (WE.then_normal (WC.sub (fr' := [(3, _), (6, _), (7, _), (8, _), (9, _)]) ?_ ⟨rfl, rfl, rfl, rfl, rfl, trivial⟩))
  refine WC.seq ?_
  refine WC.cond rfl (fun q3 => ?_) (fun q3 => ?_)
  ·
   try simp only [Z1, Z2, Z3, Z4, Z5, Z6, Z7, Z8, Z9, Z0] at q3
   refine WC.skip (WE.then_normal (WC.sub (fr' := [(3, _), (6, _), (7, _), (8, _)]) ?_ ⟨rfl, rfl, rfl, rfl, trivial⟩))
   refine WC.seq (WC.block (WC.seq ?_))
   have hlt : i < l.length := by omega
   obtain ⟨hnm, hvb⟩ := hpb.get i hlt
   refine WC.region ?_
   refine WL.q (oq_ixaddr hr Tryz.underlying62 ty125 rfl rfl (by (first | omega | (simp only [List.length_cons, List.length_nil, List.length_append, List.length_drop, List.length_take]; omega)))) rfl rfl rfl ?_
   refine WL.q (oq_loadEl (f := PV.row) PV0 [_, _] (fun _ => rfl) agg125 ty125 hr (.tail _ (.head _)) rfl (by (first | omega | (simp only [List.length_cons, List.length_nil, List.length_append, List.length_drop, List.length_take]; omega))) (by first | exact Int.toNat_natCast _ | exact rfl) rfl) rfl rfl rfl ?_
   refine WL.alloc ty125 rfl rfl fun pq hpq => ?_
   refine WL.storeS #[_, _] ty125 rfl rfl rfl rfl (Nat.le_of_ble_eq_true rfl) rfl rfl ?_
   refine WL.nil (WE.then_normal (WC.sub (fr' := [(3, _), (5, _), (6, _), (7, _), (8, _)]) ?_ ⟨rfl, rfl, rfl, rfl, rfl, trivial⟩))
   rw [hnm]
   refine WC.gate 7 ([(pq, .cells #[S (l.getD i HV0).name, .iface (ps.getD i PV0).k (ps.getD i PV0).r] 125 (0, 0))]) (by kernel_rfl) ?_
   refine WG.p 0 rfl (.inr (.head _)) (fun w0 => oq_move rfl) rfl rfl rfl ?_
   refine WG.q 1 [6, 2] rfl (.head _) (fun w0 => oq_fieldAddr fld125_0 rfl) rfl rfl rfl ?_
   refine WG.q 2 [6] rfl (.head _) (fun w0 => oq_load flat9 rfl (.head _) (List.mem_singleton.2 rfl) rfl) rfl rfl rfl ?_
   refine WG.q 3 [6, 5, 4] rfl (.head _) (fun w0 => oq_fieldAddr fld125_1 rfl) rfl rfl rfl ?_
   refine WG.q 4 [6, 5] rfl (.head _) (fun w0 => oq_load flat60 rfl (.head _) (List.mem_singleton.2 rfl) rfl) rfl rfl rfl ?_
   refine WG.step (i := 5) (by kernel_rfl) rfl ?_
   refine WL.qc (oq_callRm (valueBack hvb) (.tail _ (.tail _ (.head _))) call33 rfl) rfl rfl rfl ?_
   refine WL.nil ?_
   refine WE.toG (.head _) ?_
   refine WG.q 6 [] rfl (.head _) (fun w0 => oq_build (#[S (l.getD i HV0).name, I (l.getD i HV0).kind, I (l.getD i HV0).width, I (l.getD i HV0).int, S (l.getD i HV0).text]) str32 ty32 rfl (by kernel_rfl)) rfl rfl rfl ?_
   refine WG.step (i := 7) (by kernel_rfl) rfl ?_
   refine WL.buildSS (#[S (l.getD i HV0).name, I (l.getD i HV0).kind, I (l.getD i HV0).width, I (l.getD i HV0).int, S (l.getD i HV0).text]) Tryz.underlying22 ty32 rfl (by decide) (by decide) (by kernel_rfl) (by kernel_rfl) rfl rfl fun v5_7 A5_7 ho5_7 hne5_7 => ?_
   refine WL.nil ?_
   refine WE.toG0 (by kernel_rfl) ?_
   refine WG.step (i := 8) (by kernel_rfl) rfl ?_
   refine WL.f2 ?_
   refine WL.appendS ho Tryz.underlying22 ty32 rfl (by decide) rfl rfl ho5_7.rd (.head _) (oneHV _) (by unfold maxLen; omega) (by omega) rfl rfl fun v5b A5b ho5b hne5b => ?_
   refine WL.nil ?_
   refine WE.toG0 (by kernel_rfl) ?_
   refine WG.p 9 rfl (.inl (by kernel_rfl)) (fun w0 => oq_assign rfl) rfl rfl rfl ?_
   refine WG.done (by kernel_rfl) ?_
   refine WE.block_normal (WE.then_normal (WC.sub (fr' := [(3, _), (6, _), (7, _), (8, _)]) ?_ ⟨rfl, rfl, rfl, rfl, trivial⟩))
   refine WC.region ?_
   refine WL.q (oq_add rfl rfl (by rw [i64_lo, i64_hi]; (first | omega | (simp only [List.length_cons, List.length_nil, List.length_append, List.length_drop, List.length_take]; omega)))) rfl rfl rfl ?_
   refine WL.q (oq_move rfl) rfl rfl rfl ?_
   refine WL.nil ?_
   refine WE.f1 ?_
   refine WE.forget ho5_7.fresh ?_
   refine WE.f1 ?_
   refine WE.lose hpq ?_
   refine WE.again (i + 1, _, _) ?_ ?_ ⟨rfl, rfl, rfl, rfl, trivial⟩ (List.Perm.refl _)
   ·try dsimp only
    exact ⟨by omega, by rw [hv_snoc hlt] at ho5b; exact ho5b⟩
   ·(try dsimp only); omega
  ·
   try simp only [Z1, Z2, Z3, Z4, Z5, Z6, Z7, Z8, Z9, Z0] at q3
   refine WC.exit (WE.then_exit (WE.then_exit (WE.block_same (WE.then_normal (WC.sub (fr' := [(3, _)]) ?_ ⟨rfl, trivial⟩)))))
   refine WC.seq (WC.region ?_)
   refine WL.q (oq_move rfl) rfl rfl rfl ?_
   refine WL.q (oq_assign rfl) rfl rfl rfl ?_
   refine WL.nil (WE.then_normal (WC.sub (fr' := [(2, _)]) ?_ ⟨rfl, trivial⟩))
   refine WC.ret ?_
   refine WE.endA (.inl rfl) (res1 Tryz.results36 rfl) ?_ (ho.fresh)
   obtain rfl : i = l.length := by omega
   exact own_rd5 ho rfl (by rw [List.take_length])
end DL
end Go.Proofs.YtodlhaghdplclaaGreatDoor
/- A message as the caller has it. -/
namespace Go.Proofs.YtodlhaghdplclaaGreatDoor
open Go Go.RowKit V EA EB EC ED EL DC DD DA DE EE EH EI EJ DF DG DH DI EM DJ DK DL
set_option linter.unusedSimpArgs false
set_option linter.unusedVariables false
set_option maxRecDepth 10000
namespace DM
theorem call36 : Callable Tryz.prog 36 := ⟨_, Tryz.func36, rfl, by kernel_rfl⟩
theorem flat2 : Flat Tryz.prog 2 := ⟨_, Tryz.underlying2, by simp⟩
theorem flat28 : Flat Tryz.prog 28 := ⟨_, Tryz.underlying28, by simp⟩
theorem flat62 : Flat Tryz.prog 62 := ⟨_, Tryz.underlying62, by simp⟩
theorem ty2 : Ty Tryz.prog 2 (.int .i64 0) 1 8 := ty_of (by kernel_rfl)
theorem ty28 : Ty Tryz.prog 28 (.slice none 0 0) 1 24 := ty_of (by kernel_rfl)
theorem ty30 : Ty Tryz.prog 30 (.agg #[(.slice none 0 0), (.slice none 0 0)]) 2 48 := ty_of (by kernel_rfl)
theorem ty62 : Ty Tryz.prog 62 (.slice none 0 0) 1 24 := ty_of (by kernel_rfl)
theorem ty109 : Ty Tryz.prog 109 (.agg #[(.slice none 0 0), (.slice none 0 0)]) 2 48 := ty_of (by kernel_rfl)
theorem ty120 : Ty Tryz.prog 120 (.agg #[(S []), (.int .i64 0), (.int .i64 0), .nilIface]) 4 48 := ty_of (by kernel_rfl)
theorem conc120 : Conc Tryz.prog 120 := ⟨_, Tryz.underlying120, by simp⟩
theorem str30 : Str Tryz.prog 30 #[(0, 1), (1, 1)] := ⟨_, Tryz.underlying30, fun w => by kernel_rfl⟩
theorem fld109_0 : Fld Tryz.prog 109 0 0 62 := fld_of Tryz.underlying109 rfl rfl rfl ty62 (by decide)
theorem fld109_1 : Fld Tryz.prog 109 1 1 28 := fld_of Tryz.underlying109 rfl rfl rfl ty28 (by decide)
theorem put_len : ∀ (l : List HV) (h : HV), (put l h).length ≤ l.length + 1
 | [], _ => Nat.le_refl _
 | x :: l, h => by
  have := put_len l h
  unfold put; split
  ·simp
  ·rw [List.length_cons, List.length_cons]; omega
end DM
end Go.Proofs.YtodlhaghdplclaaGreatDoor
/- A message, headers: as bytes. -/
namespace Go.Proofs.YtodlhaghdplclaaGreatDoor
open Go Go.RowKit V EA EB EC ED EE EF EG EH EI EJ EK EL EM
set_option linter.unusedSimpArgs false
set_option linter.unusedVariables false
set_option maxRecDepth 10000
namespace EN
theorem call31 : Callable Tryz.prog 31 := ⟨_, Tryz.func31, rfl, by kernel_rfl⟩
theorem call47 : Callable Tryz.prog 47 := ⟨_, Tryz.func47, rfl, by kernel_rfl⟩
theorem call48 : Callable Tryz.prog 48 := ⟨_, Tryz.func48, rfl, by kernel_rfl⟩
theorem call49 : Callable Tryz.prog 49 := ⟨_, Tryz.func49, rfl, by kernel_rfl⟩
theorem flat22 : Flat Tryz.prog 22 := ⟨_, Tryz.underlying22, by simp⟩
theorem flat28 : Flat Tryz.prog 28 := ⟨_, Tryz.underlying28, by simp⟩
theorem ty22 : Ty Tryz.prog 22 (.slice none 0 0) 1 24 := ty_of (by kernel_rfl)
theorem ty28 : Ty Tryz.prog 28 (.slice none 0 0) 1 24 := ty_of (by kernel_rfl)
theorem ty79 : Ty Tryz.prog 79 (.agg #[(.slice none 0 0), (.int .i64 0), (.int .i8 0)]) 3 40 := ty_of (by kernel_rfl)
theorem ty109 : Ty Tryz.prog 109 (.agg #[(.slice none 0 0), (.slice none 0 0)]) 2 48 := ty_of (by kernel_rfl)
theorem conc107 : Conc Tryz.prog 107 := ⟨_, Tryz.underlying107, by simp⟩
theorem str109 : Str Tryz.prog 109 #[(0, 1), (1, 1)] := ⟨_, Tryz.underlying109, fun w => by kernel_rfl⟩
theorem fld30_0 : Fld Tryz.prog 30 0 0 22 := fld_of Tryz.underlying30 rfl rfl rfl ty22 (by decide)
theorem fld30_1 : Fld Tryz.prog 30 1 1 28 := fld_of Tryz.underlying30 rfl rfl rfl ty28 (by decide)
def EncG (base eb : Nat) (X : Hp) : Prop := ∃ b1 b2 B1 B2 a1 a2, X = (EncB eb b1 b2 ++ B1) ++ B2 ∧ BufG base b1 a1 B1 ∧ BufG base b2 a2 B2 ∧ base ≤ b1 ∧ base ≤ b2
theorem bufG_fresh {base bb : Nat} {acc : List UInt8} {G : Hp} (h : BufG base bb acc G) (hb : base ≤ bb) : ∀ b o, (b, o) ∈ G → base ≤ b := by
 obtain ⟨v, lr, A, rfl, h⟩ := h
 exact fresh_cat (fresh1 hb) h.fresh
theorem EncG.fresh {base eb : Nat} {X : Hp} (h : EncG base eb X) (he : base ≤ eb) : ∀ b o, (b, o) ∈ X → base ≤ b := by
 obtain ⟨b1, b2, B1, B2, a1, a2, rfl, h1, h2, g1, g2⟩ := h
 exact fresh_cat (fresh_cat (fresh1 he) (bufG_fresh h1 g1)) (bufG_fresh h2 g2)
theorem bufG_nil (base bb : Nat) (lr : Int) : BufG base bb [] (BB bb (.slice none 0 0) lr) := ⟨_, lr, [], rfl, .inl ⟨rfl, rfl, rfl⟩⟩
theorem encodeG (base eb ob : Nat) (acc0 : List UInt8) (EG O : Hp) (hE : EncG base eb EG) (hO : BufG base ob acc0 O) (vh : Value) (HZ : Hp) (l : List HV) (hh : HsOk l vh HZ) (hok : okH l) (hn : l.length ≤ 1000) (hsz : szL l ≤ 100000) (vp : Value) (Pg : Hp) (data : List UInt8) (hrp : RdS 1 vp Pg data.length (bytesV data)) (hpl : data.length ≤ 50000) (hal : acc0.length ≤ 100000) :
  FnW Tryz.prog 49 [Pt eb 0, .iface 107 (Pt ob 0), .agg #[vh, vp]] base [EG, O, HZ, Pg] (fun w Hs => ∃ EG2 O2 c, Hs = [EG2, O2, HZ, Pg] ∧ EncG base eb EG2 ∧ BufG base ob c O2 ∧ (w = .nilIface ∨ ∃ k u, w = .iface k u) ∧ (nilI w = true → l.any badH = false ∧ BufG base ob (acc0 ++ msgB l data) O2) ∧ (nilI w = false → l.any badH = true)) := by
 obtain ⟨b1, b2, B1, B2, a1, a2, rfl, h1, h2, g1, g2⟩ := hE
 obtain ⟨ps, M, Z, rfl, hr, hp⟩ := hh
 refine fw_perm (F := []) (encode base eb b1 b2 ob a1 a2 acc0 B1 B2 O h1 h2 hO vh M Z l ps hr hp hok hn hsz vp Pg data hrp hpl hal) (by simp) ?_
 rintro w Hs ⟨B1', B2', O', c1, c2, c3, rfl, hb1, hb2, hO2, h⟩
 cases hb : l.any badH with
 | true =>
  rw [hb] at h
  obtain ⟨k, e, rfl⟩ := h
  exact ⟨_, ⟨(EncB eb b1 b2 ++ B1') ++ B2', O', c3, rfl, ⟨_, _, _, _, _, _, rfl, hb1, hb2, g1, g2⟩, hO2, (.inr ⟨_, _, rfl⟩), (fun h => nomatch h), (fun _ => rfl)⟩, by simp⟩
 | false =>
  rw [hb] at h
  obtain ⟨rfl, rfl⟩ := h
  exact ⟨_, ⟨(EncB eb b1 b2 ++ B1') ++ B2', O', _, rfl, ⟨_, _, _, _, _, _, rfl, hb1, hb2, g1, g2⟩, hO2, (.inl rfl), (fun _ => ⟨rfl, hO2⟩), (fun h => nomatch h)⟩, by simp⟩
def BytesR (bad : Bool) (l : List UInt8) (w : Value) (N : Hp) : Prop := ∃ sv, w = .tuple #[sv, .bool (!bad)] ∧ RdS 1 sv N (if bad then [] else l).length (bytesV (if bad then [] else l))
theorem bytesR_bad {l : List UInt8} {b : Bool} (h : b = true) : BytesR b l (.tuple #[.slice none 0 0, .bool false]) [] := by subst h; exact ⟨_, rfl, rfl, .inl ⟨rfl, _, _, rfl⟩⟩
theorem vEncode (vh : Value) (A : Hp) (l : List HV) (hr : RdS 5 vh A l.length (recsV HV.row l)) (hok : okH l) (hn : l.length ≤ 1000) (hsz : szL l ≤ 100000) (pp : Option Addr) (pc : Nat) (data : List UInt8) (hrp : RdS 1 (.slice pp data.length pc) A data.length (bytesV data)) (hpl : data.length ≤ 50000) : FnA Tryz.prog 26 [.agg #[vh, .slice pp data.length pc]] A (BytesR (l.any badH) (msgB l data)) := by
 refine FnA.enter (n := 16) Tryz.func26 rfl rfl fun w0 => ?_
 refine WC.sub (fr' := [(0, _)]) ?_ ⟨rfl, trivial⟩
 refine WC.seq (WC.region ?_)
 refine WL.box rfl rfl rfl fun xb hxb => ?_
 refine WL.q (oq_assign rfl) rfl rfl rfl ?_
 refine WL.q (oq_assign rfl) rfl rfl rfl ?_
 refine WL.nil (WE.then_normal (WC.sub (fr' := [(1, _)]) ?_ ⟨rfl, trivial⟩))
 refine WC.seq (WC.region ?_)
 refine WL.alloc ty79 rfl rfl fun ob hob => ?_
 refine WL.nil (WE.then_normal (WC.sub (fr' := [(1, _), (4, _)]) ?_ ⟨rfl, rfl, trivial⟩))
 refine WC.seq (WC.seq ?_)
 refine WC.gate 8 ([(xb, .cells #[vh, .slice pp data.length pc] 30 (0, 0))]) (by kernel_rfl) ?_
 refine WG.q 1 [] rfl (.tail _ (.head _)) (fun w0 => oq_makeI conc107 rfl) rfl rfl rfl ?_
 refine WG.q 2 [4, 3] rfl (.tail _ (.head _)) (fun w0 => oq_fieldAddr fld30_0 rfl) rfl rfl rfl ?_
 refine WG.q 3 [4] rfl (.tail _ (.head _)) (fun w0 => oq_load flat22 rfl (.head _) (List.mem_singleton.2 rfl) rfl) rfl rfl rfl ?_
 refine WG.q 5 [7, 6] rfl (.tail _ (.head _)) (fun w0 => oq_fieldAddr fld30_1 rfl) rfl rfl rfl ?_
 refine WG.q 6 [7] rfl (.tail _ (.head _)) (fun w0 => oq_load flat28 rfl (.head _) (List.mem_singleton.2 rfl) rfl) rfl rfl rfl ?_
 refine WG.step (i := 0) (by kernel_rfl) rfl ?_
 refine WL.callA0 (newEncoder) call48 rfl rfl rfl fun v2_0 N2_0 hR2_0 hN2_0 => ?_
 obtain ⟨eb, b1, b2, rfl, rfl⟩ := hR2_0
 have heb := hN2_0 eb _ (List.mem_append_left _ (List.mem_append_left _ (List.mem_singleton.2 rfl)))
 have hb1 := hN2_0 b1 _ (List.mem_append_left _ (List.mem_append_right _ (List.mem_singleton.2 rfl)))
 have hb2 := hN2_0 b2 _ (List.mem_append_right _ (List.mem_singleton.2 rfl))
 refine WL.nil ?_
 refine WE.toG (.tail _ (.tail _ (.head _))) ?_
 refine WG.step (i := 4) (by kernel_rfl) rfl ?_
 refine WL.f3 ?_
 refine WL.callA (headersFor vh A l hr hok hn) call31 rfl rfl rfl fun v2_4 N2_4 hR2_4 hN2_4 => ?_
 obtain ⟨ps0, M0, Z0, hN0, hr0, hp0⟩ := hR2_4
 obtain ⟨pv, cv, rfl⟩ := hr0.shape
 have hR2_4 : HsOk l (.slice pv ps0.length cv) N2_4 := ⟨ps0, M0, Z0, hN0, hr0, hp0⟩
 refine WL.nil ?_
 refine WE.toG (.tail _ (.tail _ (.tail _ (.tail _ (.head _))))) ?_
 refine WG.q 7 [] rfl (.tail _ (.tail _ (.tail _ (.tail _ (.head _))))) (fun w0 => oq_build #[_, _] str109 ty109 rfl rfl) rfl rfl rfl ?_
 refine WG.step (i := 8) (by kernel_rfl) rfl ?_
 refine WL.f1 ?_
 refine WL.f1 ?_
 refine WL.f3 ?_
 refine WL.f3 ?_
 refine WL.callW4 (encodeG _ eb ob [] _ _ ⟨b1, b2, _, _, [], [], rfl, bufG_nil _ b1 0, bufG_nil _ b2 0, hb1, hb2⟩ (bufG_nil _ ob 0) _ _ l hR2_4 hok hn hsz (.slice pp data.length pc) A data hrp hpl (by simp)) call49 rfl rfl rfl fun v2_8 Hs2_8 hR2_8 => ?_
 obtain ⟨EG2, O2, c, rfl, hEG, hOc, hei, he0, he1⟩ := hR2_8
 refine WL.to4 ?_
 refine WL.nil ?_
 refine WE.toG0 (by kernel_rfl) ?_
 refine WG.p 9 rfl (.inl (by kernel_rfl)) (fun w0 => oq_ineq Tryz.underlying99 rfl (hei)) rfl rfl rfl ?_
 refine WG.done (by kernel_rfl) ?_
 refine WE.then_normal (WC.sub (fr' := [(4, _), (14, _)]) ?_ ⟨rfl, rfl, trivial⟩)
 refine WC.cond rfl (fun q2 => ?_) (fun q2 => ?_)
 ·
  try simp only [Z1, Z2, Z3, Z4, Z5, Z6, Z7, Z8, Z9, Z0] at q2
  refine WC.seq (WC.region ?_)
  refine WL.q (oq_assign rfl) rfl rfl rfl ?_
  refine WL.q (oq_assign rfl) rfl rfl rfl ?_
  refine WL.nil (WE.then_normal (WC.sub (fr' := [(2, _), (3, _)]) ?_ ⟨rfl, rfl, trivial⟩))
  refine WC.ret (WE.then_ret ?_)
  refine WE.forget (hEG.fresh heb) ?_
  refine WE.forget (bufG_fresh hOc hob) ?_
  refine WE.forget hN2_4 ?_
  refine WE.f1 ?_
  refine WE.lose hxb ?_
  refine WE.add0 ?_
  refine WE.endA (.inl rfl) (res2 Tryz.results26 rfl rfl) ?_ fresh0
  exact bytesR_bad (he1 (by simpa using q2))
 ·
  try simp only [Z1, Z2, Z3, Z4, Z5, Z6, Z7, Z8, Z9, Z0] at q2
  refine WC.skip (WE.then_normal (WC.sub (fr' := [(4, _)]) ?_ ⟨rfl, trivial⟩))
  refine WC.seq ?_
  obtain ⟨hnb, hO2⟩ := he0 (by simpa using q2)
  rw [List.nil_append] at hO2
  obtain ⟨bv, hbf, hbr⟩ := bytesG _ ob _ O2 hO2
  refine WC.region ?_
  refine WL.qc (oq_callRm (hbf) (.tail _ (.head _)) call47 rfl) rfl rfl rfl ?_
  refine WL.q (oq_assign rfl) rfl rfl rfl ?_
  refine WL.q (oq_assign rfl) rfl rfl rfl ?_
  refine WL.nil (WE.then_normal (WC.sub (fr' := [(2, _), (3, _)]) ?_ ⟨rfl, rfl, trivial⟩))
  refine WC.ret ?_
  refine WE.forget (hEG.fresh heb) ?_
  refine WE.f1 ?_
  refine WE.forget hN2_4 ?_
  refine WE.f2 ?_
  refine WE.lose hxb ?_
  refine WE.endA (.inl rfl) (res2 Tryz.results26 rfl rfl) ?_ ((bufG_fresh hOc hob))
  exact ⟨_, by rw [hnb]; rfl, by rw [hnb]; exact hbr⟩
end EN
end Go.Proofs.YtodlhaghdplclaaGreatDoor
/- What the guards of the law ask. -/
namespace Go.Proofs.YtodlhaghdplclaaGreatDoor
open Go Go.RowKit V EA EB EC ED EE EF EG EH EI EJ EK EL EM EN
set_option linter.unusedSimpArgs false
set_option linter.unusedVariables false
set_option maxRecDepth 10000
namespace EO
theorem call9 : Callable Tryz.prog 9 := ⟨_, Tryz.func9, rfl, by kernel_rfl⟩
theorem call10 : Callable Tryz.prog 10 := ⟨_, Tryz.func10, rfl, by kernel_rfl⟩
theorem call30 : Callable Tryz.prog 30 := ⟨_, Tryz.func30, rfl, by kernel_rfl⟩
theorem flat9 : Flat Tryz.prog 9 := ⟨_, Tryz.underlying9, by simp⟩
theorem flat22 : Flat Tryz.prog 22 := ⟨_, Tryz.underlying22, by simp⟩
theorem flat28 : Flat Tryz.prog 28 := ⟨_, Tryz.underlying28, by simp⟩
theorem ty9 : Ty Tryz.prog 9 (S []) 1 16 := ty_of (by kernel_rfl)
theorem ty22 : Ty Tryz.prog 22 (.slice none 0 0) 1 24 := ty_of (by kernel_rfl)
theorem ty24 : Ty Tryz.prog 24 (.agg #[(.int .i64 0), (.int .i64 0), (.int .i64 0), (S [])]) 4 40 := ty_of (by kernel_rfl)
theorem ty28 : Ty Tryz.prog 28 (.slice none 0 0) 1 24 := ty_of (by kernel_rfl)
theorem ty32 : Ty Tryz.prog 32 (.agg #[(S []), (.int .i64 0), (.int .i64 0), (.int .i64 0), (S [])]) 5 56 := ty_of (by kernel_rfl)
theorem agg24 : Agg Tryz.prog 24 := agg_of Tryz.underlying24
theorem agg32 : Agg Tryz.prog 32 := agg_of Tryz.underlying32
theorem fld24_3 : Fld Tryz.prog 24 3 3 9 := fld_of Tryz.underlying24 rfl rfl rfl ty9 (by decide)
theorem fld30_0 : Fld Tryz.prog 30 0 0 22 := fld_of Tryz.underlying30 rfl rfl rfl ty22 (by decide)
theorem fld30_1 : Fld Tryz.prog 30 1 1 28 := fld_of Tryz.underlying30 rfl rfl rfl ty28 (by decide)
theorem fld32_0 : Fld Tryz.prog 32 0 0 9 := fld_of Tryz.underlying32 rfl rfl rfl ty9 (by decide)
theorem fld32_1 : Fld Tryz.prog 32 1 1 24 := fld_of Tryz.underlying32 rfl rfl rfl ty24 (by decide)
def fitH (h : HV) : Bool := decide (h.name.length ≤ 2147483647) && decide (h.text.length ≤ 2147483647)
def fitL (l : List HV) : Bool := decide (l.length ≤ 2147483647) && l.all fitH
def sumH (l : List HV) : Nat := (l.map fun h => h.name.length + h.text.length).sum
theorem sumH_snoc {l : List HV} {i : Nat} (hi : i < l.length) : sumH (l.take (i + 1)) = sumH (l.take i) + ((l.getD i HV0).name.length + (l.getD i HV0).text.length) := by
 rw [take_snoc hi]; simp [sumH]
theorem all_get {l : List HV} {f : HV → Bool} (h : l.all f = true) {i : Nat} (hi : i < l.length) : f (l.getD i HV0) = true := by
 rw [List.all_eq_true] at h
 refine h _ ?_
 rw [List.getD_eq_getElem?_getD, List.getElem?_eq_getElem hi]; exact List.getElem_mem hi
theorem all_not {l : List HV} {f : HV → Bool} {i : Nat} (hi : i < l.length) (h : f (l.getD i HV0) = false) : l.all f = false := by
 cases hb : l.all f with
 | false => rfl
 | true => rw [all_get hb hi] at h; cases h
theorem all_snoc {l : List HV} {f : HV → Bool} {i : Nat} (hi : i < l.length) (h : (l.take i).all f = true) (hb : f (l.getD i HV0) = true) : (l.take (i + 1)).all f = true := by
 rw [take_snoc hi, List.all_append, h, List.all_cons, hb]; rfl
theorem fitL_len {l : List HV} (h : fitL l = true) : l.length ≤ 2147483647 := by
 unfold fitL at h; rw [Bool.and_eq_true, decide_eq_true_eq] at h; exact h.1
theorem fitL_get {l : List HV} (h : fitL l = true) {i : Nat} (hi : i < l.length) : (l.getD i HV0).name.length ≤ 2147483647 ∧ (l.getD i HV0).text.length ≤ 2147483647 := by
 unfold fitL at h; rw [Bool.and_eq_true] at h
 have h2 := all_get h.2 hi
 unfold fitH at h2; rw [Bool.and_eq_true, decide_eq_true_eq, decide_eq_true_eq] at h2; exact h2
theorem sumH_le {l : List HV} (h : fitL l = true) : ∀ i, i ≤ l.length → sumH (l.take i) ≤ i * 4294967294
 | 0, _ => by simp [sumH]
 | i + 1, hi => by
  rw [sumH_snoc (by omega)]
  have h1 := sumH_le h i (by omega)
  have h2 := fitL_get h (show i < l.length by omega)
  omega
theorem fits6 (h : HV) : Fn0 Tryz.prog 10 [.agg #[I h.kind, I h.width, I h.int, S h.text]] (.bool (decide (h.text.length ≤ 2147483647))) := by
 refine Fn0.enter (n := 7) Tryz.func10 rfl rfl fun w0 => ?_
 refine WC.sub (fr' := [(0, _)]) ?_ ⟨rfl, trivial⟩
 refine WC.seq (WC.region ?_)
 refine WL.box rfl rfl rfl fun b0_0 hb0_0 => ?_
 refine WL.q (oq_assign rfl) rfl rfl rfl ?_
 refine WL.nil (WE.then_normal (WC.sub (fr' := [(1, _)]) ?_ ⟨rfl, trivial⟩))
 refine WC.seq (WC.seq (WC.region ?_))
 refine WL.q (oq_fieldAddr fld24_3 rfl) rfl rfl rfl ?_
 refine WL.q (oq_load flat9 rfl (.head _) (List.mem_singleton.2 rfl) rfl) rfl rfl rfl ?_
 refine WL.q (oq_len_s Tryz.underlying9 rfl) rfl rfl rfl ?_
 refine WL.q (oq_gtr rfl rfl) rfl rfl rfl ?_
 refine WL.nil (WE.then_normal (WC.sub (fr' := [(6, _)]) ?_ ⟨rfl, trivial⟩))
 refine WC.cond rfl (fun q1 => ?_) (fun q1 => ?_)
 ·
  try simp only [Z1, Z2, Z3, Z4, Z5, Z6, Z7, Z8, Z9, Z0] at q1
  refine WC.seq (WC.region ?_)
  refine WL.q (oq_assign rfl) rfl rfl rfl ?_
  refine WL.nil (WE.then_normal (WC.sub (fr' := [(2, _)]) ?_ ⟨rfl, trivial⟩))
  refine WC.ret (WE.then_ret ?_)
  refine WE.lose hb0_0 ?_
  refine WE.end0 (.inl rfl) (res1 Tryz.results10 rfl) ?_
  rw [decide_eq_false (by omega)]
 ·
  try simp only [Z1, Z2, Z3, Z4, Z5, Z6, Z7, Z8, Z9, Z0] at q1
  refine WC.skip (WE.then_normal (WC.sub (fr' := []) ?_ trivial))
  refine WC.seq (WC.region ?_)
  refine WL.q (oq_assign rfl) rfl rfl rfl ?_
  refine WL.nil (WE.then_normal (WC.sub (fr' := [(2, _)]) ?_ ⟨rfl, trivial⟩))
  refine WC.ret ?_
  refine WE.lose hb0_0 ?_
  refine WE.end0 (.inl rfl) (res1 Tryz.results10 rfl) ?_
  rw [decide_eq_true (by omega)]
theorem fits5 (h : HV) : Fn0 Tryz.prog 30 [.agg #[S h.name, I h.kind, I h.width, I h.int, S h.text]] (.bool (fitH h)) := by
 refine Fn0.enter (n := 11) Tryz.func30 rfl rfl fun w0 => ?_
 refine WC.sub (fr' := [(0, _)]) ?_ ⟨rfl, trivial⟩
 refine WC.seq (WC.region ?_)
 refine WL.box rfl rfl rfl fun b0_0 hb0_0 => ?_
 refine WL.q (oq_assign rfl) rfl rfl rfl ?_
 refine WL.nil (WE.then_normal (WC.sub (fr' := [(1, _)]) ?_ ⟨rfl, trivial⟩))
 refine WC.seq (WC.seq (WC.region ?_))
 refine WL.q (oq_fieldAddr fld32_0 rfl) rfl rfl rfl ?_
 refine WL.q (oq_load flat9 rfl (.head _) (List.mem_singleton.2 rfl) rfl) rfl rfl rfl ?_
 refine WL.q (oq_len_s Tryz.underlying9 rfl) rfl rfl rfl ?_
 refine WL.q (oq_gtr rfl rfl) rfl rfl rfl ?_
 refine WL.nil (WE.then_normal (WC.sub (fr' := [(1, _), (6, _)]) ?_ ⟨rfl, rfl, trivial⟩))
 refine WC.cond rfl (fun q1 => ?_) (fun q1 => ?_)
 ·
  try simp only [Z1, Z2, Z3, Z4, Z5, Z6, Z7, Z8, Z9, Z0] at q1
  refine WC.seq (WC.region ?_)
  refine WL.q (oq_assign rfl) rfl rfl rfl ?_
  refine WL.nil (WE.then_normal (WC.sub (fr' := [(2, _)]) ?_ ⟨rfl, trivial⟩))
  refine WC.ret (WE.then_ret ?_)
  refine WE.lose hb0_0 ?_
  refine WE.end0 (.inl rfl) (res1 Tryz.results30 rfl) ?_
  unfold fitH; rw [decide_eq_false (by omega)]; rfl
 ·
  try simp only [Z1, Z2, Z3, Z4, Z5, Z6, Z7, Z8, Z9, Z0] at q1
  refine WC.skip (WE.then_normal (WC.sub (fr' := [(1, _)]) ?_ ⟨rfl, trivial⟩))
  refine WC.seq (WC.seq (WC.region ?_))
  refine WL.q (oq_fieldAddr fld32_1 rfl) rfl rfl rfl ?_
  refine WL.q (oq_loadS [_, _, _, _] agg24 ty24 rfl (.head _) (List.mem_singleton.2 rfl) rfl rfl) rfl rfl rfl ?_
  refine WL.qc (oq_call (fits6 h) call10 rfl) rfl rfl rfl ?_
  refine WL.q (oq_not rfl) rfl rfl rfl ?_
  refine WL.nil (WE.then_normal (WC.sub (fr' := [(10, _)]) ?_ ⟨rfl, trivial⟩))
  refine WC.cond rfl (fun q3 => ?_) (fun q3 => ?_)
  ·
   try simp only [Z1, Z2, Z3, Z4, Z5, Z6, Z7, Z8, Z9, Z0] at q3
   refine WC.seq (WC.region ?_)
   refine WL.q (oq_assign rfl) rfl rfl rfl ?_
   refine WL.nil (WE.then_normal (WC.sub (fr' := [(2, _)]) ?_ ⟨rfl, trivial⟩))
   refine WC.ret (WE.then_ret ?_)
   refine WE.lose hb0_0 ?_
   refine WE.end0 (.inl rfl) (res1 Tryz.results30 rfl) ?_
   unfold fitH; rw [show decide (h.text.length ≤ 2147483647) = false by simpa using q3, Bool.and_false]
  ·
   try simp only [Z1, Z2, Z3, Z4, Z5, Z6, Z7, Z8, Z9, Z0] at q3
   refine WC.skip (WE.then_normal (WC.sub (fr' := []) ?_ trivial))
   refine WC.seq (WC.region ?_)
   refine WL.q (oq_assign rfl) rfl rfl rfl ?_
   refine WL.nil (WE.then_normal (WC.sub (fr' := [(2, _)]) ?_ ⟨rfl, trivial⟩))
   refine WC.ret ?_
   refine WE.lose hb0_0 ?_
   refine WE.end0 (.inl rfl) (res1 Tryz.results30 rfl) ?_
   unfold fitH; rw [show decide (h.text.length ≤ 2147483647) = true by simpa using q3, decide_eq_true (by omega)]; rfl
theorem fits4 (v : Value) (A : Hp) (l : List HV) (hr : RdS 5 v A l.length (recsV HV.row l)) : FnR Tryz.prog 9 [v] A (.bool (fitL l)) := by
 refine FnR.enter (n := 18) Tryz.func9 rfl rfl fun w0 => ?_
 refine WC.sub (fr' := [(0, _)]) ?_ ⟨rfl, trivial⟩
 refine WC.seq (WC.region ?_)
 refine WL.q (oq_assign rfl) rfl rfl rfl ?_
 refine WL.nil (WE.then_normal (WC.sub (fr' := [(0, _)]) ?_ ⟨rfl, trivial⟩))
 refine WC.seq (WC.seq (WC.region ?_))
 refine WL.q (oq_move rfl) rfl rfl rfl ?_
 refine WL.q (oq_len_rd hr Tryz.underlying22 rfl) rfl rfl rfl ?_
 refine WL.q (oq_gtr rfl rfl) rfl rfl rfl ?_
 refine WL.nil (WE.then_normal (WC.sub (fr' := [(0, _), (7, _)]) ?_ ⟨rfl, rfl, trivial⟩))
 refine WC.cond rfl (fun q1 => ?_) (fun q1 => ?_)
 ·
  try simp only [Z1, Z2, Z3, Z4, Z5, Z6, Z7, Z8, Z9, Z0] at q1
  refine WC.seq (WC.region ?_)
  refine WL.q (oq_assign rfl) rfl rfl rfl ?_
  refine WL.nil (WE.then_normal (WC.sub (fr' := [(2, _)]) ?_ ⟨rfl, trivial⟩))
  refine WC.ret (WE.then_ret ?_)
  refine WE.endR (.inl rfl) (res1 Tryz.results9 rfl) ?_
  unfold fitL; rw [decide_eq_false (by omega)]; rfl
 ·
  try simp only [Z1, Z2, Z3, Z4, Z5, Z6, Z7, Z8, Z9, Z0] at q1
  refine WC.skip (WE.then_normal (WC.sub (fr' := [(0, _)]) ?_ ⟨rfl, trivial⟩))
  refine WC.seq (WC.seq (WC.region ?_))
  refine WL.q (oq_move rfl) rfl rfl rfl ?_
  refine WL.q (oq_len_rd hr Tryz.underlying22 rfl) rfl rfl rfl ?_
  refine WL.q (oq_move rfl) rfl rfl rfl ?_
  refine WL.nil (WE.then_normal (WC.sub (fr' := [(8, _), (9, _), (10, _)]) ?_ ⟨rfl, rfl, rfl, trivial⟩))
  refine WC.block ?_
  refine WC.loop (ι := Nat) (fun (i : Nat) => [(8, v), (9, I (l.length : Int)), (10, I (i : Int))]) (fun (i : Nat) => [A]) (fun (i : Nat) => i ≤ l.length ∧ (l.take i).all fitH = true) (fun (i : Nat) => l.length - i) (0) ?_ ⟨rfl, rfl, rfl, trivial⟩ (List.Perm.refl _) ?_
  ·try dsimp only
   exact ⟨by omega, rfl⟩
  ·rintro i hp
   try dsimp only at hp
   obtain ⟨hi, hall⟩ := hp
   show WC _ _ _ _ _ _ ([(8, v), (9, I (l.length : Int)), (10, I (i : Int))]) ([A])
   refine WC.seq (WC.region ?_)
   refine WL.q (oq_lss rfl rfl) rfl rfl rfl ?_
   refine WL.nil (WE.then_normal (WC.sub (fr' := [(8, _), (9, _), (10, _), (11, _)]) ?_ ⟨rfl, rfl, rfl, rfl, trivial⟩))
   refine WC.seq ?_
   refine WC.cond rfl (fun q4 => ?_) (fun q4 => ?_)
   ·
    try simp only [Z1, Z2, Z3, Z4, Z5, Z6, Z7, Z8, Z9, Z0] at q4
    refine WC.skip (WE.then_normal (WC.sub (fr' := [(8, _), (9, _), (10, _)]) ?_ ⟨rfl, rfl, rfl, trivial⟩))
    refine WC.seq (WC.block (WC.seq (WC.region ?_)))
    refine WL.q (oq_ixaddr hr Tryz.underlying22 ty32 rfl rfl (by (first | omega | (simp only [List.length_cons, List.length_nil, List.length_append, List.length_drop, List.length_take]; omega)))) rfl rfl rfl ?_
    refine WL.q (oq_loadEl (f := HV.row) HV0 [_, _, _, _, _] (fun _ => rfl) agg32 ty32 hr (.head _) rfl (by (first | omega | (simp only [List.length_cons, List.length_nil, List.length_append, List.length_drop, List.length_take]; omega))) (by first | exact Int.toNat_natCast _ | exact rfl) rfl) rfl rfl rfl ?_
    refine WL.alloc ty32 rfl rfl fun b5_2 hb5_2 => ?_
    refine WL.storeS #[_, _, _, _, _] ty32 rfl rfl rfl rfl (Nat.le_of_ble_eq_true rfl) rfl rfl ?_
    refine WL.nil (WE.then_normal (WC.sub (fr' := [(4, _), (8, _), (9, _), (10, _)]) ?_ ⟨rfl, rfl, rfl, rfl, trivial⟩))
    refine WC.seq (WC.region ?_)
    refine WL.q (oq_loadS [_, _, _, _, _] agg32 ty32 rfl (.head _) (List.mem_singleton.2 rfl) rfl rfl) rfl rfl rfl ?_
    refine WL.qc (oq_call (fits5 (l.getD i HV0)) call30 rfl) rfl rfl rfl ?_
    refine WL.q (oq_not rfl) rfl rfl rfl ?_
    refine WL.nil (WE.then_normal (WC.sub (fr' := [(8, _), (9, _), (10, _), (16, _)]) ?_ ⟨rfl, rfl, rfl, rfl, trivial⟩))
    refine WC.cond rfl (fun q6 => ?_) (fun q6 => ?_)
    ·
     try simp only [Z1, Z2, Z3, Z4, Z5, Z6, Z7, Z8, Z9, Z0] at q6
     refine WC.seq (WC.region ?_)
     refine WL.q (oq_assign rfl) rfl rfl rfl ?_
     refine WL.nil (WE.then_normal (WC.sub (fr' := [(2, _)]) ?_ ⟨rfl, trivial⟩))
     refine WC.ret (WE.block_ret (WE.then_ret (WE.then_ret (WE.block_ret (WE.then_ret ?_)))))
     refine WE.lose hb5_2 ?_
     refine WE.endR (.inl rfl) (res1 Tryz.results9 rfl) ?_
     unfold fitL; rw [all_not (show i < l.length by omega) (by simpa using q6), Bool.and_false]
    ·
     try simp only [Z1, Z2, Z3, Z4, Z5, Z6, Z7, Z8, Z9, Z0] at q6
     refine WC.skip (WE.block_normal (WE.then_normal (WC.sub (fr' := [(8, _), (9, _), (10, _)]) ?_ ⟨rfl, rfl, rfl, trivial⟩)))
     refine WC.region ?_
     refine WL.q (oq_add rfl rfl (by rw [i64_lo, i64_hi]; (first | omega | (simp only [List.length_cons, List.length_nil, List.length_append, List.length_drop, List.length_take]; omega)))) rfl rfl rfl ?_
     refine WL.q (oq_move rfl) rfl rfl rfl ?_
     refine WL.nil ?_
     refine WE.lose hb5_2 ?_
     refine WE.again (i + 1) ?_ ?_ ⟨rfl, rfl, rfl, trivial⟩ (List.Perm.refl _)
     ·try dsimp only
      exact ⟨by omega, all_snoc (by omega) hall (by simpa using q6)⟩
     ·(try dsimp only); omega
   ·
    try simp only [Z1, Z2, Z3, Z4, Z5, Z6, Z7, Z8, Z9, Z0] at q4
    refine WC.exit (WE.then_exit (WE.then_exit (WE.block_same (WE.then_normal (WC.sub (fr' := []) ?_ trivial)))))
    refine WC.seq (WC.region ?_)
    refine WL.q (oq_assign rfl) rfl rfl rfl ?_
    refine WL.nil (WE.then_normal (WC.sub (fr' := [(2, _)]) ?_ ⟨rfl, trivial⟩))
    refine WC.ret ?_
    refine WE.endR (.inl rfl) (res1 Tryz.results9 rfl) ?_
    obtain rfl : i = l.length := by omega
    rw [List.take_length] at hall
    unfold fitL; rw [hall, decide_eq_true (by omega)]; rfl
theorem sized (vh : Value) (A : Hp) (l : List HV) (hr : RdS 5 vh A l.length (recsV HV.row l)) (pp : Option Addr) (pc n : Nat) (hf : fitL l = true) : FnR Tryz.prog 11 [.agg #[vh, .slice pp n pc]] A (.bool (decide (l.length ≤ 100) && decide (sumH l ≤ 70000) && decide (n ≤ 5000))) := by
 have hln := fitL_len hf
 refine FnR.enter (n := 44) Tryz.func11 rfl rfl fun w0 => ?_
 refine WC.sub (fr' := [(0, _)]) ?_ ⟨rfl, trivial⟩
 refine WC.seq (WC.region ?_)
 refine WL.box rfl rfl rfl fun xb hxb => ?_
 refine WL.q (oq_assign rfl) rfl rfl rfl ?_
 refine WL.nil (WE.then_normal (WC.sub (fr' := [(1, _)]) ?_ ⟨rfl, trivial⟩))
 refine WC.seq (WC.region ?_)
 refine WL.q (oq_assign rfl) rfl rfl rfl ?_
 refine WL.nil (WE.then_normal (WC.sub (fr' := [(1, _), (3, _)]) ?_ ⟨rfl, rfl, trivial⟩))
 refine WC.seq (WC.seq (WC.region ?_))
 refine WL.q (oq_assign rfl) rfl rfl rfl ?_
 refine WL.nil (WE.then_normal (WC.sub (fr' := [(1, _), (3, _), (4, _)]) ?_ ⟨rfl, rfl, rfl, trivial⟩))
 refine WC.block ?_
 refine WC.loop (ι := Nat) (fun (i : Nat) => [(1, Pt xb 0), (3, I (sumH (l.take i) : Int)), (4, I (i : Int))]) (fun (i : Nat) => [[(xb, .cells #[vh, .slice pp n pc] 30 (0, 0))], A]) (fun (i : Nat) => i ≤ l.length) (fun (i : Nat) => l.length - i) (0) ?_ ⟨rfl, rfl, rfl, trivial⟩ (List.Perm.refl _) ?_
 ·try dsimp only
  omega
 ·rintro i hp
  try dsimp only at hp
  obtain hi := hp
  show WC _ _ _ _ _ _ ([(1, Pt xb 0), (3, I (sumH (l.take i) : Int)), (4, I (i : Int))]) ([[(xb, .cells #[vh, .slice pp n pc] 30 (0, 0))], A])
  refine WC.seq (WC.seq (WC.region ?_))
  refine WL.q (oq_move rfl) rfl rfl rfl ?_
  refine WL.q (oq_fieldAddr fld30_0 rfl) rfl rfl rfl ?_
  refine WL.q (oq_load flat22 rfl (.head _) (List.mem_singleton.2 rfl) rfl) rfl rfl rfl ?_
  refine WL.q (oq_len_rd hr Tryz.underlying22 rfl) rfl rfl rfl ?_
  refine WL.q (oq_lss rfl rfl) rfl rfl rfl ?_
  refine WL.nil (WE.then_normal (WC.sub (fr' := [(1, _), (3, _), (4, _), (9, _)]) ?_ ⟨rfl, rfl, rfl, rfl, trivial⟩))
  refine WC.cond rfl (fun q3 => ?_) (fun q3 => ?_)
  ·
   try simp only [Z1, Z2, Z3, Z4, Z5, Z6, Z7, Z8, Z9, Z0] at q3
   refine WC.skip (WE.then_normal (WC.sub (fr' := [(1, _), (3, _), (4, _)]) ?_ ⟨rfl, rfl, rfl, trivial⟩))
   refine WC.seq (WC.block ?_)
   have hlt : i < l.length := by omega
   have hfg := fitL_get hf hlt
   have hsm := sumH_le hf i (by omega)
   refine WC.quiet (by kernel_rfl) (by kernel_rfl) ?_
   refine WQ.q (oq_move rfl) rfl rfl rfl ?_
   refine WQ.q (oq_fieldAddr fld30_0 rfl) rfl rfl rfl ?_
   refine WQ.q (oq_load flat22 rfl (.head _) (List.mem_singleton.2 rfl) rfl) rfl rfl rfl ?_
   refine WQ.q (oq_move rfl) rfl rfl rfl ?_
   refine WQ.q (oq_ixaddr hr Tryz.underlying22 ty32 rfl rfl (by (first | omega | (simp only [List.length_cons, List.length_nil, List.length_append, List.length_drop, List.length_take]; omega)))) rfl rfl rfl ?_
   refine WQ.q (oq_fldEl fld32_0 hr rfl (by (first | omega | (simp only [List.length_cons, List.length_nil, List.length_append, List.length_drop, List.length_take]; omega)))) rfl rfl rfl ?_
   refine WQ.q (oq_loadF (f := HV.row) HV0 (fun _ => rfl) flat9 hr (.tail _ (.head _)) rfl (by (first | omega | (simp only [List.length_cons, List.length_nil, List.length_append, List.length_drop, List.length_take]; omega))) (by first | exact Int.toNat_natCast _ | exact rfl) (by decide) rfl) rfl rfl rfl ?_
   refine WQ.q (oq_len_s Tryz.underlying9 rfl) rfl rfl rfl ?_
   refine WQ.q (oq_add rfl rfl (by rw [i64_lo, i64_hi]; (first | omega | (simp only [List.length_cons, List.length_nil, List.length_append, List.length_drop, List.length_take]; omega)))) rfl rfl rfl ?_
   refine WQ.q (oq_fieldAddr fld30_0 rfl) rfl rfl rfl ?_
   refine WQ.q (oq_load flat22 rfl (.head _) (List.mem_singleton.2 rfl) rfl) rfl rfl rfl ?_
   refine WQ.q (oq_move rfl) rfl rfl rfl ?_
   refine WQ.q (oq_ixaddr hr Tryz.underlying22 ty32 rfl rfl (by (first | omega | (simp only [List.length_cons, List.length_nil, List.length_append, List.length_drop, List.length_take]; omega)))) rfl rfl rfl ?_
   refine WQ.q (oq_fldEl fld32_1 hr rfl (by (first | omega | (simp only [List.length_cons, List.length_nil, List.length_append, List.length_drop, List.length_take]; omega)))) rfl rfl rfl ?_
   refine WQ.q (oq_fldElF fld24_3 hr rfl (by (first | omega | (simp only [List.length_cons, List.length_nil, List.length_append, List.length_drop, List.length_take]; omega)))) rfl rfl rfl ?_
   refine WQ.q (oq_loadF (f := HV.row) HV0 (fun _ => rfl) flat9 hr (.tail _ (.head _)) rfl (by (first | omega | (simp only [List.length_cons, List.length_nil, List.length_append, List.length_drop, List.length_take]; omega))) (by first | exact Int.toNat_natCast _ | exact rfl) (by decide) rfl) rfl rfl rfl ?_
   refine WQ.q (oq_len_s Tryz.underlying9 rfl) rfl rfl rfl ?_
   refine WQ.q (oq_add rfl rfl (by rw [i64_lo, i64_hi]; (first | omega | (simp only [List.length_cons, List.length_nil, List.length_append, List.length_drop, List.length_take]; omega)))) rfl rfl rfl ?_
   refine WQ.q (oq_assign rfl) rfl rfl rfl ?_
   refine WQ.nil (WE.block_normal (WE.then_normal (WC.sub (fr' := [(1, _), (3, _), (4, _)]) ?_ ⟨rfl, rfl, rfl, trivial⟩)))
   refine WC.region ?_
   refine WL.q (oq_move rfl) rfl rfl rfl ?_
   refine WL.q (oq_add rfl rfl (by rw [i64_lo, i64_hi]; (first | omega | (simp only [List.length_cons, List.length_nil, List.length_append, List.length_drop, List.length_take]; omega)))) rfl rfl rfl ?_
   refine WL.q (oq_assign rfl) rfl rfl rfl ?_
   refine WL.nil ?_
   refine WE.again (i + 1) ?_ ?_ ⟨rfl, (gti rfl (by (try dsimp only); rw [sumH_snoc hlt]; omega)), rfl, trivial⟩ (List.Perm.refl _)
   ·try dsimp only
    omega
   ·(try dsimp only); omega
  ·
   try simp only [Z1, Z2, Z3, Z4, Z5, Z6, Z7, Z8, Z9, Z0] at q3
   refine WC.exit (WE.then_exit (WE.then_exit (WE.block_same (WE.then_normal (WC.sub (fr' := [(1, _), (3, _)]) ?_ ⟨rfl, rfl, trivial⟩)))))
   refine WC.seq ?_
   obtain rfl : i = l.length := by omega
   rw [List.take_length]
   refine WC.region ?_
   refine WL.q (oq_fieldAddr fld30_0 rfl) rfl rfl rfl ?_
   refine WL.q (oq_load flat22 rfl (.head _) (List.mem_singleton.2 rfl) rfl) rfl rfl rfl ?_
   refine WL.q (oq_len_rd hr Tryz.underlying22 rfl) rfl rfl rfl ?_
   refine WL.q (oq_leq rfl rfl) rfl rfl rfl ?_
   refine WL.q (oq_move rfl) rfl rfl rfl ?_
   refine WL.split 34 rfl (fun s6_4 => ?_) (fun s6_4 => ?_)
   ·
    try simp only [Z1, Z2, Z3, Z4, Z5, Z6, Z7, Z8, Z9, Z0] at s6_4
    refine WL.q (oq_move rfl) rfl rfl rfl ?_
    refine WL.q (oq_leq rfl rfl) rfl rfl rfl ?_
    refine WL.q (oq_pick_t rfl rfl) rfl rfl rfl ?_
    refine WL.q (oq_move rfl) rfl rfl rfl ?_
    refine WL.split 38 rfl (fun s6_8 => ?_) (fun s6_8 => ?_)
    ·
     try simp only [Z1, Z2, Z3, Z4, Z5, Z6, Z7, Z8, Z9, Z0] at s6_8
     refine WL.q (oq_fieldAddr fld30_1 rfl) rfl rfl rfl ?_
     refine WL.q (oq_load flat28 rfl (.head _) (List.mem_singleton.2 rfl) rfl) rfl rfl rfl ?_
     refine WL.q (oq_len_sl Tryz.underlying28 rfl) rfl rfl rfl ?_
     refine WL.q (oq_leq rfl rfl) rfl rfl rfl ?_
     refine WL.q (oq_pick_t rfl rfl) rfl rfl rfl ?_
     refine WL.q (oq_assign rfl) rfl rfl rfl ?_
     refine WL.nil (WE.then_normal (WC.sub (fr' := [(2, _)]) ?_ ⟨rfl, trivial⟩))
     refine WC.ret ?_
     refine WE.lose hxb ?_
     refine WE.endR (.inl rfl) (res1 Tryz.results11 rfl) ?_
     congr 1; rw [Bool.eq_iff_iff]; simp; omega
    ·
     try simp only [Z1, Z2, Z3, Z4, Z5, Z6, Z7, Z8, Z9, Z0] at s6_8
     refine WL.skip rfl rfl rfl ?_
     refine WL.skip rfl rfl rfl ?_
     refine WL.skip rfl rfl rfl ?_
     refine WL.skip rfl rfl rfl ?_
     refine WL.q (oq_pick_f rfl rfl) rfl rfl rfl ?_
     refine WL.q (oq_assign rfl) rfl rfl rfl ?_
     refine WL.nil (WE.then_normal (WC.sub (fr' := [(2, _)]) ?_ ⟨rfl, trivial⟩))
     refine WC.ret ?_
     refine WE.lose hxb ?_
     refine WE.endR (.inl rfl) (res1 Tryz.results11 rfl) ?_
     congr 1; rw [Bool.eq_iff_iff]; simp; omega
   ·
    try simp only [Z1, Z2, Z3, Z4, Z5, Z6, Z7, Z8, Z9, Z0] at s6_4
    refine WL.skip rfl rfl rfl ?_
    refine WL.skip rfl rfl rfl ?_
    refine WL.q (oq_pick_f rfl rfl) rfl rfl rfl ?_
    refine WL.q (oq_move rfl) rfl rfl rfl ?_
    refine WL.skip rfl rfl rfl ?_
    refine WL.skip rfl rfl rfl ?_
    refine WL.skip rfl rfl rfl ?_
    refine WL.skip rfl rfl rfl ?_
    refine WL.q (oq_pick_f rfl rfl) rfl rfl rfl ?_
    refine WL.q (oq_assign rfl) rfl rfl rfl ?_
    refine WL.nil (WE.then_normal (WC.sub (fr' := [(2, _)]) ?_ ⟨rfl, trivial⟩))
    refine WC.ret ?_
    refine WE.lose hxb ?_
    refine WE.endR (.inl rfl) (res1 Tryz.results11 rfl) ?_
    congr 1; rw [Bool.eq_iff_iff]; simp; omega
end EO
end Go.Proofs.YtodlhaghdplclaaGreatDoor
/- The bytes of headers, as the reference tells them. -/
namespace Go.Proofs.YtodlhaghdplclaaGreatDoor
open Go Go.RowKit V EA EB EC ED EE EF EG EH EI EJ EK EL EM EN EO
set_option linter.unusedSimpArgs false
set_option linter.unusedVariables false
set_option maxRecDepth 10000
namespace EP
theorem flat2 : Flat Tryz.prog 2 := ⟨_, Tryz.underlying2, by simp⟩
theorem flat3 : Flat Tryz.prog 3 := ⟨_, Tryz.underlying3, by simp⟩
theorem flat9 : Flat Tryz.prog 9 := ⟨_, Tryz.underlying9, by simp⟩
theorem ty2 : Ty Tryz.prog 2 (.int .i64 0) 1 8 := ty_of (by kernel_rfl)
theorem ty3 : Ty Tryz.prog 3 (.int .i64 0) 1 8 := ty_of (by kernel_rfl)
theorem ty5 : Ty Tryz.prog 5 (.int .u8 0) 1 1 := ty_of (by kernel_rfl)
theorem ty9 : Ty Tryz.prog 9 (S []) 1 16 := ty_of (by kernel_rfl)
theorem ty24 : Ty Tryz.prog 24 (.agg #[(.int .i64 0), (.int .i64 0), (.int .i64 0), (S [])]) 4 40 := ty_of (by kernel_rfl)
theorem ty32 : Ty Tryz.prog 32 (.agg #[(S []), (.int .i64 0), (.int .i64 0), (.int .i64 0), (S [])]) 5 56 := ty_of (by kernel_rfl)
theorem agg24 : Agg Tryz.prog 24 := agg_of Tryz.underlying24
theorem fld24_0 : Fld Tryz.prog 24 0 0 3 := fld_of Tryz.underlying24 rfl rfl rfl ty3 (by decide)
theorem fld24_1 : Fld Tryz.prog 24 1 1 3 := fld_of Tryz.underlying24 rfl rfl rfl ty3 (by decide)
theorem fld24_2 : Fld Tryz.prog 24 2 2 2 := fld_of Tryz.underlying24 rfl rfl rfl ty2 (by decide)
theorem fld24_3 : Fld Tryz.prog 24 3 3 9 := fld_of Tryz.underlying24 rfl rfl rfl ty9 (by decide)
theorem fld32_0 : Fld Tryz.prog 32 0 0 9 := fld_of Tryz.underlying32 rfl rfl rfl ty9 (by decide)
theorem fld32_1 : Fld Tryz.prog 32 1 1 24 := fld_of Tryz.underlying32 rfl rfl rfl ty24 (by decide)
theorem bytesV_app (xs ys : List UInt8) : bytesV xs ++ bytesV ys = bytesV (xs ++ ys) := by simp [bytesV]
end EP
end Go.Proofs.YtodlhaghdplclaaGreatDoor
/- The bytes of a message, as the reference tells them. -/
namespace Go.Proofs.YtodlhaghdplclaaGreatDoor
open Go Go.RowKit V EA EB EC ED EE EF EG EH EI EJ EK EL EM EN EO EP
set_option linter.unusedSimpArgs false
set_option linter.unusedVariables false
set_option maxRecDepth 10000
namespace EQ
theorem flat22 : Flat Tryz.prog 22 := ⟨_, Tryz.underlying22, by simp⟩
theorem flat28 : Flat Tryz.prog 28 := ⟨_, Tryz.underlying28, by simp⟩
theorem ty5 : Ty Tryz.prog 5 (.int .u8 0) 1 1 := ty_of (by kernel_rfl)
theorem ty22 : Ty Tryz.prog 22 (.slice none 0 0) 1 24 := ty_of (by kernel_rfl)
theorem ty28 : Ty Tryz.prog 28 (.slice none 0 0) 1 24 := ty_of (by kernel_rfl)
theorem fld30_0 : Fld Tryz.prog 30 0 0 22 := fld_of Tryz.underlying30 rfl rfl rfl ty22 (by decide)
theorem fld30_1 : Fld Tryz.prog 30 1 1 28 := fld_of Tryz.underlying30 rfl rfl rfl ty28 (by decide)
end EQ
end Go.Proofs.YtodlhaghdplclaaGreatDoor
/- Fine headers. -/
namespace Go.Proofs.YtodlhaghdplclaaGreatDoor
open Go Go.RowKit V EA EB EC ED EE EF EG EH EI EJ EK EL EM EN EO EP EQ
set_option linter.unusedSimpArgs false
set_option linter.unusedVariables false
set_option maxRecDepth 10000
namespace ER
theorem flat2 : Flat Tryz.prog 2 := ⟨_, Tryz.underlying2, by simp⟩
theorem flat3 : Flat Tryz.prog 3 := ⟨_, Tryz.underlying3, by simp⟩
theorem flat9 : Flat Tryz.prog 9 := ⟨_, Tryz.underlying9, by simp⟩
theorem ty2 : Ty Tryz.prog 2 (.int .i64 0) 1 8 := ty_of (by kernel_rfl)
theorem ty3 : Ty Tryz.prog 3 (.int .i64 0) 1 8 := ty_of (by kernel_rfl)
theorem ty9 : Ty Tryz.prog 9 (S []) 1 16 := ty_of (by kernel_rfl)
theorem ty24 : Ty Tryz.prog 24 (.agg #[(.int .i64 0), (.int .i64 0), (.int .i64 0), (S [])]) 4 40 := ty_of (by kernel_rfl)
theorem ty32 : Ty Tryz.prog 32 (.agg #[(S []), (.int .i64 0), (.int .i64 0), (.int .i64 0), (S [])]) 5 56 := ty_of (by kernel_rfl)
theorem agg24 : Agg Tryz.prog 24 := agg_of Tryz.underlying24
theorem fld24_0 : Fld Tryz.prog 24 0 0 3 := fld_of Tryz.underlying24 rfl rfl rfl ty3 (by decide)
theorem fld24_1 : Fld Tryz.prog 24 1 1 3 := fld_of Tryz.underlying24 rfl rfl rfl ty3 (by decide)
theorem fld24_2 : Fld Tryz.prog 24 2 2 2 := fld_of Tryz.underlying24 rfl rfl rfl ty2 (by decide)
theorem fld24_3 : Fld Tryz.prog 24 3 3 9 := fld_of Tryz.underlying24 rfl rfl rfl ty9 (by decide)
theorem fld32_1 : Fld Tryz.prog 32 1 1 24 := fld_of Tryz.underlying32 rfl rfl rfl ty24 (by decide)
instance (h : HV) : Decidable (fineV h) := by unfold fineV; infer_instance
def fineB (h : HV) : Bool := decide (fineV h)
def intOk (l : List HV) : Prop := ∀ i, i < l.length → -9223372036854775808 ≤ (l.getD i HV0).int ∧ (l.getD i HV0).int ≤ 9223372036854775807 ∧ -9223372036854775808 ≤ (l.getD i HV0).width ∧ (l.getD i HV0).width ≤ 9223372036854775807
abbrev shT (w x : Int) : Int := Int.fdiv (IntKind.i64.wrap (x * 2 ^ (min (64 - w).toNat IntKind.i64.bits))) (2 ^ (min (64 - w).toNat IntKind.i64.bits))
theorem sh_law {w x : Int} (h1 : -9223372036854775808 ≤ x) (h2 : x ≤ 9223372036854775807) : (w = 8 → (shT w x = x ↔ -128 ≤ x ∧ x ≤ 127)) ∧ (w = 16 → (shT w x = x ↔ -32768 ≤ x ∧ x ≤ 32767)) ∧ (w = 32 → (shT w x = x ↔ -2147483648 ≤ x ∧ x ≤ 2147483647)) ∧ (w = 64 → shT w x = x) := by
 refine ⟨?_, ?_, ?_, ?_⟩ <;> rintro rfl <;> unfold shT <;> rw [Int.fdiv_eq_ediv_of_nonneg _ (Int.le_of_lt (Int.pow_pos (by decide)))]
 ·rw [show min (64 - (8 : Int)).toNat IntKind.i64.bits = 56 by decide]; simp only [IntKind.wrap, IntKind.signed, IntKind.bits, Bool.true_and, decide_eq_true_eq]; by_cases hc : x * 2 ^ 56 % 2 ^ 64 ≥ 2 ^ (64 - 1) <;> simp only [hc, decide_true, decide_false, Bool.false_eq_true, if_true, if_false] <;> omega
 ·rw [show min (64 - (16 : Int)).toNat IntKind.i64.bits = 48 by decide]; simp only [IntKind.wrap, IntKind.signed, IntKind.bits, Bool.true_and, decide_eq_true_eq]; by_cases hc : x * 2 ^ 48 % 2 ^ 64 ≥ 2 ^ (64 - 1) <;> simp only [hc, decide_true, decide_false, Bool.false_eq_true, if_true, if_false] <;> omega
 ·rw [show min (64 - (32 : Int)).toNat IntKind.i64.bits = 32 by decide]; simp only [IntKind.wrap, IntKind.signed, IntKind.bits, Bool.true_and, decide_eq_true_eq]; by_cases hc : x * 2 ^ 32 % 2 ^ 64 ≥ 2 ^ (64 - 1) <;> simp only [hc, decide_true, decide_false, Bool.false_eq_true, if_true, if_false] <;> omega
 ·rw [show min (64 - (64 : Int)).toNat IntKind.i64.bits = 0 by decide]; simp only [IntKind.wrap, IntKind.signed, IntKind.bits, Bool.true_and, decide_eq_true_eq]; by_cases hc : x * 2 ^ 0 % 2 ^ 64 ≥ 2 ^ (64 - 1) <;> simp only [hc, decide_true, decide_false, Bool.false_eq_true, if_true, if_false] <;> omega
theorem vFine (v : Value) (A : Hp) (l : List HV) (hr : RdS 5 v A l.length (recsV HV.row l)) (hint : intOk l) (hn : l.length ≤ 1000) : FnR Tryz.prog 12 [v] A (.bool (l.all fineB)) := by
 refine FnR.enter (n := 87) Tryz.func12 rfl rfl fun w0 => ?_
 refine WC.sub (fr' := [(0, _)]) ?_ ⟨rfl, trivial⟩
 refine WC.seq (WC.region ?_)
 refine WL.q (oq_assign rfl) rfl rfl rfl ?_
 refine WL.nil (WE.then_normal (WC.sub (fr' := [(0, _)]) ?_ ⟨rfl, trivial⟩))
 refine WC.seq (WC.seq (WC.region ?_))
 refine WL.q (oq_assign rfl) rfl rfl rfl ?_
 refine WL.nil (WE.then_normal (WC.sub (fr' := [(0, _), (3, _)]) ?_ ⟨rfl, rfl, trivial⟩))
 refine WC.block ?_
 refine WC.loop (ι := Nat) (fun (i : Nat) => [(0, v), (3, I (i : Int))]) (fun (i : Nat) => [A]) (fun (i : Nat) => i ≤ l.length ∧ (l.take i).all fineB = true) (fun (i : Nat) => l.length - i) (0) ?_ ⟨rfl, rfl, trivial⟩ (List.Perm.refl _) ?_
 ·try dsimp only
  exact ⟨by omega, rfl⟩
 ·rintro i hp
  try dsimp only at hp
  obtain ⟨hi, hall⟩ := hp
  show WC _ _ _ _ _ _ ([(0, v), (3, I (i : Int))]) ([A])
  refine WC.seq (WC.seq (WC.region ?_))
  refine WL.q (oq_move rfl) rfl rfl rfl ?_
  refine WL.q (oq_move rfl) rfl rfl rfl ?_
  refine WL.q (oq_len_rd hr Tryz.underlying22 rfl) rfl rfl rfl ?_
  refine WL.q (oq_lss rfl rfl) rfl rfl rfl ?_
  refine WL.nil (WE.then_normal (WC.sub (fr' := [(0, _), (3, _), (9, _)]) ?_ ⟨rfl, rfl, rfl, trivial⟩))
  refine WC.cond rfl (fun q2 => ?_) (fun q2 => ?_)
  ·
   try simp only [Z1, Z2, Z3, Z4, Z5, Z6, Z7, Z8, Z9, Z0] at q2
   refine WC.skip (WE.then_normal (WC.sub (fr' := [(0, _), (3, _)]) ?_ ⟨rfl, rfl, trivial⟩))
   refine WC.seq (WC.block (WC.seq ?_))
   have hlt : i < l.length := by omega
   obtain ⟨hi1, hi2, hi3, hi4⟩ := hint i hlt
   obtain ⟨hs8, hs16, hs32, hs64⟩ := sh_law (w := (l.getD i HV0).width) hi1 hi2
   simp only [shT] at hs8 hs16 hs32 hs64
   refine WC.region ?_
   refine WL.q (oq_move rfl) rfl rfl rfl ?_
   refine WL.q (oq_move rfl) rfl rfl rfl ?_
   refine WL.q (oq_ixaddr hr Tryz.underlying22 ty32 rfl rfl (by (first | omega | (simp only [List.length_cons, List.length_nil, List.length_append, List.length_drop, List.length_take]; omega)))) rfl rfl rfl ?_
   refine WL.q (oq_fldEl fld32_1 hr rfl (by (first | omega | (simp only [List.length_cons, List.length_nil, List.length_append, List.length_drop, List.length_take]; omega)))) rfl rfl rfl ?_
   refine WL.q (oq_loadFS (f := HV.row) HV0 [_, _, _, _] (fun _ => rfl) agg24 ty24 hr (.head _) rfl (by (first | omega | (simp only [List.length_cons, List.length_nil, List.length_append, List.length_drop, List.length_take]; omega))) (by first | exact Int.toNat_natCast _ | exact rfl) (by decide) rfl rfl) rfl rfl rfl ?_
   refine WL.alloc ty24 rfl rfl fun o4 ho4 => ?_
   refine WL.storeS #[_, _, _, _] ty24 rfl rfl rfl rfl (Nat.le_of_ble_eq_true rfl) rfl rfl ?_
   refine WL.nil (WE.then_normal (WC.sub (fr' := [(0, _), (3, _), (4, _)]) ?_ ⟨rfl, rfl, rfl, trivial⟩))
   refine WC.seq (WC.region ?_)
   refine WL.q (oq_fieldAddr fld24_1 rfl) rfl rfl rfl ?_
   refine WL.q (oq_load flat3 rfl (.head _) (List.mem_singleton.2 rfl) rfl) rfl rfl rfl ?_
   refine WL.q (oq_assign rfl) rfl rfl rfl ?_
   refine WL.nil (WE.then_normal (WC.sub (fr' := [(0, _), (3, _), (4, _), (5, _)]) ?_ ⟨rfl, rfl, rfl, rfl, trivial⟩))
   refine WC.seq (WC.quiet (by kernel_rfl) (by kernel_rfl) ?_)
   refine WQ.q (oq_fieldAddr fld24_0 rfl) rfl rfl rfl ?_
   refine WQ.q (oq_load flat3 rfl (.head _) (List.mem_singleton.2 rfl) rfl) rfl rfl rfl ?_
   refine WQ.q (oq_lss rfl rfl) rfl rfl rfl ?_
   refine WQ.q (oq_move rfl) rfl rfl rfl ?_
   refine WQ.split 22 rfl (fun s6_3 => ?_) (fun s6_3 => ?_)
   ·
    try simp only [Z1, Z2, Z3, Z4, Z5, Z6, Z7, Z8, Z9, Z0] at s6_3
    refine WQ.skip rfl rfl rfl ?_
    refine WQ.skip rfl rfl rfl ?_
    refine WQ.skip rfl rfl rfl ?_
    refine WQ.q (oq_pick_t rfl rfl) rfl rfl rfl ?_
    refine WQ.q (oq_move rfl) rfl rfl rfl ?_
    refine WQ.skip rfl rfl rfl ?_
    refine WQ.skip rfl rfl rfl ?_
    refine WQ.skip rfl rfl rfl ?_
    refine WQ.skip rfl rfl rfl ?_
    refine WQ.skip rfl rfl rfl ?_
    refine WQ.skip rfl rfl rfl ?_
    refine WQ.skip rfl rfl rfl ?_
    refine WQ.skip rfl rfl rfl ?_
    refine WQ.skip rfl rfl rfl ?_
    refine WQ.skip rfl rfl rfl ?_
    refine WQ.skip rfl rfl rfl ?_
    refine WQ.skip rfl rfl rfl ?_
    refine WQ.skip rfl rfl rfl ?_
    refine WQ.skip rfl rfl rfl ?_
    refine WQ.skip rfl rfl rfl ?_
    refine WQ.skip rfl rfl rfl ?_
    refine WQ.skip rfl rfl rfl ?_
    refine WQ.skip rfl rfl rfl ?_
    refine WQ.skip rfl rfl rfl ?_
    refine WQ.skip rfl rfl rfl ?_
    refine WQ.skip rfl rfl rfl ?_
    refine WQ.skip rfl rfl rfl ?_
    refine WQ.skip rfl rfl rfl ?_
    refine WQ.skip rfl rfl rfl ?_
    refine WQ.skip rfl rfl rfl ?_
    refine WQ.skip rfl rfl rfl ?_
    refine WQ.skip rfl rfl rfl ?_
    refine WQ.skip rfl rfl rfl ?_
    refine WQ.skip rfl rfl rfl ?_
    refine WQ.skip rfl rfl rfl ?_
    refine WQ.skip rfl rfl rfl ?_
    refine WQ.skip rfl rfl rfl ?_
    refine WQ.q (oq_pick_t rfl rfl) rfl rfl rfl ?_
    refine WQ.q (oq_move rfl) rfl rfl rfl ?_
    refine WQ.skip rfl rfl rfl ?_
    refine WQ.skip rfl rfl rfl ?_
    refine WQ.skip rfl rfl rfl ?_
    refine WQ.skip rfl rfl rfl ?_
    refine WQ.skip rfl rfl rfl ?_
    refine WQ.skip rfl rfl rfl ?_
    refine WQ.skip rfl rfl rfl ?_
    refine WQ.skip rfl rfl rfl ?_
    refine WQ.skip rfl rfl rfl ?_
    refine WQ.q (oq_pick_t rfl rfl) rfl rfl rfl ?_
    refine WQ.q (oq_move rfl) rfl rfl rfl ?_
    refine WQ.skip rfl rfl rfl ?_
    refine WQ.skip rfl rfl rfl ?_
    refine WQ.skip rfl rfl rfl ?_
    refine WQ.skip rfl rfl rfl ?_
    refine WQ.skip rfl rfl rfl ?_
    refine WQ.skip rfl rfl rfl ?_
    refine WQ.skip rfl rfl rfl ?_
    refine WQ.skip rfl rfl rfl ?_
    refine WQ.skip rfl rfl rfl ?_
    refine WQ.skip rfl rfl rfl ?_
    refine WQ.skip rfl rfl rfl ?_
    refine WQ.skip rfl rfl rfl ?_
    refine WQ.skip rfl rfl rfl ?_
    refine WQ.q (oq_pick_t rfl rfl) rfl rfl rfl ?_
    refine WQ.nil (WE.then_normal (WC.sub (fr' := [(0, _), (3, _), (86, _)]) ?_ ⟨rfl, rfl, rfl, trivial⟩))
    refine WC.cond_t rfl ?_
    refine WC.seq (WC.region ?_)
    refine WL.q (oq_assign rfl) rfl rfl rfl ?_
    refine WL.nil (WE.then_normal (WC.sub (fr' := [(2, _)]) ?_ ⟨rfl, trivial⟩))
    refine WC.ret (WE.block_ret (WE.then_ret (WE.then_ret (WE.block_ret (WE.then_ret ?_)))))
    refine WE.lose ho4 ?_
    refine WE.endR (.inl rfl) (res1 Tryz.results12 rfl) ?_
    exact congrArg Value.bool (all_not hlt (decide_eq_false (by unfold fineV; omega))).symm
   ·
    try simp only [Z1, Z2, Z3, Z4, Z5, Z6, Z7, Z8, Z9, Z0] at s6_3
    refine WQ.q (oq_fieldAddr fld24_0 rfl) rfl rfl rfl ?_
    refine WQ.q (oq_load flat3 rfl (.head _) (List.mem_singleton.2 rfl) rfl) rfl rfl rfl ?_
    refine WQ.q (oq_gtr rfl rfl) rfl rfl rfl ?_
    refine WQ.q (oq_pick_f rfl rfl) rfl rfl rfl ?_
    refine WQ.q (oq_move rfl) rfl rfl rfl ?_
    refine WQ.split 27 rfl (fun s6_8 => ?_) (fun s6_8 => ?_)
    ·
     try simp only [Z1, Z2, Z3, Z4, Z5, Z6, Z7, Z8, Z9, Z0] at s6_8
     refine WQ.skip rfl rfl rfl ?_
     refine WQ.skip rfl rfl rfl ?_
     refine WQ.skip rfl rfl rfl ?_
     refine WQ.skip rfl rfl rfl ?_
     refine WQ.skip rfl rfl rfl ?_
     refine WQ.skip rfl rfl rfl ?_
     refine WQ.skip rfl rfl rfl ?_
     refine WQ.skip rfl rfl rfl ?_
     refine WQ.skip rfl rfl rfl ?_
     refine WQ.skip rfl rfl rfl ?_
     refine WQ.skip rfl rfl rfl ?_
     refine WQ.skip rfl rfl rfl ?_
     refine WQ.skip rfl rfl rfl ?_
     refine WQ.skip rfl rfl rfl ?_
     refine WQ.skip rfl rfl rfl ?_
     refine WQ.skip rfl rfl rfl ?_
     refine WQ.skip rfl rfl rfl ?_
     refine WQ.skip rfl rfl rfl ?_
     refine WQ.skip rfl rfl rfl ?_
     refine WQ.skip rfl rfl rfl ?_
     refine WQ.skip rfl rfl rfl ?_
     refine WQ.skip rfl rfl rfl ?_
     refine WQ.skip rfl rfl rfl ?_
     refine WQ.skip rfl rfl rfl ?_
     refine WQ.skip rfl rfl rfl ?_
     refine WQ.skip rfl rfl rfl ?_
     refine WQ.skip rfl rfl rfl ?_
     refine WQ.skip rfl rfl rfl ?_
     refine WQ.skip rfl rfl rfl ?_
     refine WQ.skip rfl rfl rfl ?_
     refine WQ.skip rfl rfl rfl ?_
     refine WQ.skip rfl rfl rfl ?_
     refine WQ.q (oq_pick_t rfl rfl) rfl rfl rfl ?_
     refine WQ.q (oq_move rfl) rfl rfl rfl ?_
     refine WQ.skip rfl rfl rfl ?_
     refine WQ.skip rfl rfl rfl ?_
     refine WQ.skip rfl rfl rfl ?_
     refine WQ.skip rfl rfl rfl ?_
     refine WQ.skip rfl rfl rfl ?_
     refine WQ.skip rfl rfl rfl ?_
     refine WQ.skip rfl rfl rfl ?_
     refine WQ.skip rfl rfl rfl ?_
     refine WQ.skip rfl rfl rfl ?_
     refine WQ.q (oq_pick_t rfl rfl) rfl rfl rfl ?_
     refine WQ.q (oq_move rfl) rfl rfl rfl ?_
     refine WQ.skip rfl rfl rfl ?_
     refine WQ.skip rfl rfl rfl ?_
     refine WQ.skip rfl rfl rfl ?_
     refine WQ.skip rfl rfl rfl ?_
     refine WQ.skip rfl rfl rfl ?_
     refine WQ.skip rfl rfl rfl ?_
     refine WQ.skip rfl rfl rfl ?_
     refine WQ.skip rfl rfl rfl ?_
     refine WQ.skip rfl rfl rfl ?_
     refine WQ.skip rfl rfl rfl ?_
     refine WQ.skip rfl rfl rfl ?_
     refine WQ.skip rfl rfl rfl ?_
     refine WQ.skip rfl rfl rfl ?_
     refine WQ.q (oq_pick_t rfl rfl) rfl rfl rfl ?_
     refine WQ.nil (WE.then_normal (WC.sub (fr' := [(0, _), (3, _), (86, _)]) ?_ ⟨rfl, rfl, rfl, trivial⟩))
     refine WC.cond_t rfl ?_
     refine WC.seq (WC.region ?_)
     refine WL.q (oq_assign rfl) rfl rfl rfl ?_
     refine WL.nil (WE.then_normal (WC.sub (fr' := [(2, _)]) ?_ ⟨rfl, trivial⟩))
     refine WC.ret (WE.block_ret (WE.then_ret (WE.then_ret (WE.block_ret (WE.then_ret ?_)))))
     refine WE.lose ho4 ?_
     refine WE.endR (.inl rfl) (res1 Tryz.results12 rfl) ?_
     exact congrArg Value.bool (all_not hlt (decide_eq_false (by unfold fineV; omega))).symm
    ·
     try simp only [Z1, Z2, Z3, Z4, Z5, Z6, Z7, Z8, Z9, Z0] at s6_8
     refine WQ.q (oq_fieldAddr fld24_0 rfl) rfl rfl rfl ?_
     refine WQ.q (oq_load flat3 rfl (.head _) (List.mem_singleton.2 rfl) rfl) rfl rfl rfl ?_
     refine WQ.q (oq_eql rfl rfl) rfl rfl rfl ?_
     refine WQ.q (oq_move rfl) rfl rfl rfl ?_
     refine WQ.split 31 rfl (fun s6_12 => ?_) (fun s6_12 => ?_)
     ·
      try simp only [Z1, Z2, Z3, Z4, Z5, Z6, Z7, Z8, Z9, Z0] at s6_12
      refine WQ.q (oq_move rfl) rfl rfl rfl ?_
      refine WQ.q (oq_neq rfl rfl) rfl rfl rfl ?_
      refine WQ.q (oq_move rfl) rfl rfl rfl ?_
      refine WQ.split 34 rfl (fun s6_15 => ?_) (fun s6_15 => ?_)
      ·
       try simp only [Z1, Z2, Z3, Z4, Z5, Z6, Z7, Z8, Z9, Z0] at s6_15
       refine WQ.q (oq_move rfl) rfl rfl rfl ?_
       refine WQ.q (oq_neq rfl rfl) rfl rfl rfl ?_
       refine WQ.q (oq_pick_t rfl rfl) rfl rfl rfl ?_
       refine WQ.q (oq_move rfl) rfl rfl rfl ?_
       refine WQ.split 38 rfl (fun s6_19 => ?_) (fun s6_19 => ?_)
       ·
        try simp only [Z1, Z2, Z3, Z4, Z5, Z6, Z7, Z8, Z9, Z0] at s6_19
        refine WQ.q (oq_move rfl) rfl rfl rfl ?_
        refine WQ.q (oq_neq rfl rfl) rfl rfl rfl ?_
        refine WQ.q (oq_pick_t rfl rfl) rfl rfl rfl ?_
        refine WQ.q (oq_move rfl) rfl rfl rfl ?_
        refine WQ.split 42 rfl (fun s6_23 => ?_) (fun s6_23 => ?_)
        ·
         try simp only [Z1, Z2, Z3, Z4, Z5, Z6, Z7, Z8, Z9, Z0] at s6_23
         refine WQ.q (oq_move rfl) rfl rfl rfl ?_
         refine WQ.q (oq_neq rfl rfl) rfl rfl rfl ?_
         refine WQ.q (oq_pick_t rfl rfl) rfl rfl rfl ?_
         refine WQ.q (oq_move rfl) rfl rfl rfl ?_
         refine WQ.split 46 rfl (fun s6_27 => ?_) (fun s6_27 => ?_)
         ·
          try simp only [Z1, Z2, Z3, Z4, Z5, Z6, Z7, Z8, Z9, Z0] at s6_27
          refine WQ.skip rfl rfl rfl ?_
          refine WQ.skip rfl rfl rfl ?_
          refine WQ.skip rfl rfl rfl ?_
          refine WQ.skip rfl rfl rfl ?_
          refine WQ.skip rfl rfl rfl ?_
          refine WQ.skip rfl rfl rfl ?_
          refine WQ.skip rfl rfl rfl ?_
          refine WQ.skip rfl rfl rfl ?_
          refine WQ.skip rfl rfl rfl ?_
          refine WQ.skip rfl rfl rfl ?_
          refine WQ.skip rfl rfl rfl ?_
          refine WQ.q (oq_pick_t rfl rfl) rfl rfl rfl ?_
          refine WQ.q (oq_pick_t rfl rfl) rfl rfl rfl ?_
          refine WQ.q (oq_pick_f rfl rfl) rfl rfl rfl ?_
          refine WQ.q (oq_move rfl) rfl rfl rfl ?_
          refine WQ.skip rfl rfl rfl ?_
          refine WQ.skip rfl rfl rfl ?_
          refine WQ.skip rfl rfl rfl ?_
          refine WQ.skip rfl rfl rfl ?_
          refine WQ.skip rfl rfl rfl ?_
          refine WQ.skip rfl rfl rfl ?_
          refine WQ.skip rfl rfl rfl ?_
          refine WQ.skip rfl rfl rfl ?_
          refine WQ.skip rfl rfl rfl ?_
          refine WQ.q (oq_pick_t rfl rfl) rfl rfl rfl ?_
          refine WQ.q (oq_move rfl) rfl rfl rfl ?_
          refine WQ.skip rfl rfl rfl ?_
          refine WQ.skip rfl rfl rfl ?_
          refine WQ.skip rfl rfl rfl ?_
          refine WQ.skip rfl rfl rfl ?_
          refine WQ.skip rfl rfl rfl ?_
          refine WQ.skip rfl rfl rfl ?_
          refine WQ.skip rfl rfl rfl ?_
          refine WQ.skip rfl rfl rfl ?_
          refine WQ.skip rfl rfl rfl ?_
          refine WQ.skip rfl rfl rfl ?_
          refine WQ.skip rfl rfl rfl ?_
          refine WQ.skip rfl rfl rfl ?_
          refine WQ.skip rfl rfl rfl ?_
          refine WQ.q (oq_pick_t rfl rfl) rfl rfl rfl ?_
          refine WQ.nil (WE.then_normal (WC.sub (fr' := [(0, _), (3, _), (86, _)]) ?_ ⟨rfl, rfl, rfl, trivial⟩))
          refine WC.cond_t rfl ?_
          refine WC.seq (WC.region ?_)
          refine WL.q (oq_assign rfl) rfl rfl rfl ?_
          refine WL.nil (WE.then_normal (WC.sub (fr' := [(2, _)]) ?_ ⟨rfl, trivial⟩))
          refine WC.ret (WE.block_ret (WE.then_ret (WE.then_ret (WE.block_ret (WE.then_ret ?_)))))
          refine WE.lose ho4 ?_
          refine WE.endR (.inl rfl) (res1 Tryz.results12 rfl) ?_
          exact congrArg Value.bool (all_not hlt (decide_eq_false (by unfold fineV; omega))).symm
         ·
          try simp only [Z1, Z2, Z3, Z4, Z5, Z6, Z7, Z8, Z9, Z0] at s6_27
          refine WQ.q (oq_fieldAddr fld24_2 rfl) rfl rfl rfl ?_
          refine WQ.q (oq_load flat2 rfl (.head _) (List.mem_singleton.2 rfl) rfl) rfl rfl rfl ?_
          refine WQ.q (oq_move rfl) rfl rfl rfl ?_
          refine WQ.q (oq_sub rfl rfl (by rw [i64_lo, i64_hi]; (first | omega | (simp only [List.length_cons, List.length_nil, List.length_append, List.length_drop, List.length_take]; omega)))) rfl rfl rfl ?_
          refine WQ.q (oq_shl rfl rfl (by omega)) rfl rfl rfl ?_
          refine WQ.q (oq_move rfl) rfl rfl rfl ?_
          refine WQ.q (oq_sub rfl rfl (by rw [i64_lo, i64_hi]; (first | omega | (simp only [List.length_cons, List.length_nil, List.length_append, List.length_drop, List.length_take]; omega)))) rfl rfl rfl ?_
          refine WQ.q (oq_shr rfl rfl (by omega)) rfl rfl rfl ?_
          refine WQ.q (oq_fieldAddr fld24_2 rfl) rfl rfl rfl ?_
          refine WQ.q (oq_load flat2 rfl (.head _) (List.mem_singleton.2 rfl) rfl) rfl rfl rfl ?_
          refine WQ.q (oq_neq rfl rfl) rfl rfl rfl ?_
          refine WQ.q (oq_pick_f rfl rfl) rfl rfl rfl ?_
          refine WQ.q (oq_pick_t rfl rfl) rfl rfl rfl ?_
          refine WQ.q (oq_pick_f rfl rfl) rfl rfl rfl ?_
          refine WQ.q (oq_move rfl) rfl rfl rfl ?_
          refine WQ.split 61 rfl (fun s6_42 => ?_) (fun s6_42 => ?_)
          ·
           try simp only [Z1, Z2, Z3, Z4, Z5, Z6, Z7, Z8, Z9, Z0] at s6_42
           refine WQ.skip rfl rfl rfl ?_
           refine WQ.skip rfl rfl rfl ?_
           refine WQ.skip rfl rfl rfl ?_
           refine WQ.skip rfl rfl rfl ?_
           refine WQ.skip rfl rfl rfl ?_
           refine WQ.skip rfl rfl rfl ?_
           refine WQ.skip rfl rfl rfl ?_
           refine WQ.skip rfl rfl rfl ?_
           refine WQ.skip rfl rfl rfl ?_
           refine WQ.q (oq_pick_t rfl rfl) rfl rfl rfl ?_
           refine WQ.q (oq_move rfl) rfl rfl rfl ?_
           refine WQ.skip rfl rfl rfl ?_
           refine WQ.skip rfl rfl rfl ?_
           refine WQ.skip rfl rfl rfl ?_
           refine WQ.skip rfl rfl rfl ?_
           refine WQ.skip rfl rfl rfl ?_
           refine WQ.skip rfl rfl rfl ?_
           refine WQ.skip rfl rfl rfl ?_
           refine WQ.skip rfl rfl rfl ?_
           refine WQ.skip rfl rfl rfl ?_
           refine WQ.skip rfl rfl rfl ?_
           refine WQ.skip rfl rfl rfl ?_
           refine WQ.skip rfl rfl rfl ?_
           refine WQ.skip rfl rfl rfl ?_
           refine WQ.q (oq_pick_t rfl rfl) rfl rfl rfl ?_
           refine WQ.nil (WE.then_normal (WC.sub (fr' := [(0, _), (3, _), (86, _)]) ?_ ⟨rfl, rfl, rfl, trivial⟩))
           refine WC.cond_t rfl ?_
           refine WC.seq (WC.region ?_)
           refine WL.q (oq_assign rfl) rfl rfl rfl ?_
           refine WL.nil (WE.then_normal (WC.sub (fr' := [(2, _)]) ?_ ⟨rfl, trivial⟩))
           refine WC.ret (WE.block_ret (WE.then_ret (WE.then_ret (WE.block_ret (WE.then_ret ?_)))))
           refine WE.lose ho4 ?_
           refine WE.endR (.inl rfl) (res1 Tryz.results12 rfl) ?_
           exact congrArg Value.bool (all_not hlt (decide_eq_false (by unfold fineV; omega))).symm
          ·
           try simp only [Z1, Z2, Z3, Z4, Z5, Z6, Z7, Z8, Z9, Z0] at s6_42
           refine WQ.q (oq_fieldAddr fld24_0 rfl) rfl rfl rfl ?_
           refine WQ.q (oq_load flat3 rfl (.head _) (List.mem_singleton.2 rfl) rfl) rfl rfl rfl ?_
           refine WQ.q (oq_eql rfl rfl) rfl rfl rfl ?_
           refine WQ.q (oq_move rfl) rfl rfl rfl ?_
           refine WQ.split 65 rfl (fun s6_46 => ?_) (fun s6_46 => ?_)
           ·
            try simp only [Z1, Z2, Z3, Z4, Z5, Z6, Z7, Z8, Z9, Z0] at s6_46
            refine WQ.q (oq_fieldAddr fld24_3 rfl) rfl rfl rfl ?_
            refine WQ.q (oq_load flat9 rfl (.head _) (List.mem_singleton.2 rfl) rfl) rfl rfl rfl ?_
            refine WQ.q (oq_len_s Tryz.underlying9 rfl) rfl rfl rfl ?_
            refine WQ.q (oq_neq rfl rfl) rfl rfl rfl ?_
            refine WQ.q (oq_pick_t rfl rfl) rfl rfl rfl ?_
            refine WQ.q (oq_pick_f rfl rfl) rfl rfl rfl ?_
            refine WQ.q (oq_move rfl) rfl rfl rfl ?_
            refine WQ.split 72 rfl (fun s6_53 => ?_) (fun s6_53 => ?_)
            ·
             try simp only [Z1, Z2, Z3, Z4, Z5, Z6, Z7, Z8, Z9, Z0] at s6_53
             refine WQ.skip rfl rfl rfl ?_
             refine WQ.skip rfl rfl rfl ?_
             refine WQ.skip rfl rfl rfl ?_
             refine WQ.skip rfl rfl rfl ?_
             refine WQ.skip rfl rfl rfl ?_
             refine WQ.skip rfl rfl rfl ?_
             refine WQ.skip rfl rfl rfl ?_
             refine WQ.skip rfl rfl rfl ?_
             refine WQ.skip rfl rfl rfl ?_
             refine WQ.skip rfl rfl rfl ?_
             refine WQ.skip rfl rfl rfl ?_
             refine WQ.skip rfl rfl rfl ?_
             refine WQ.skip rfl rfl rfl ?_
             refine WQ.q (oq_pick_t rfl rfl) rfl rfl rfl ?_
             refine WQ.nil (WE.then_normal (WC.sub (fr' := [(0, _), (3, _), (86, _)]) ?_ ⟨rfl, rfl, rfl, trivial⟩))
             refine WC.cond_t rfl ?_
             refine WC.seq (WC.region ?_)
             refine WL.q (oq_assign rfl) rfl rfl rfl ?_
             refine WL.nil (WE.then_normal (WC.sub (fr' := [(2, _)]) ?_ ⟨rfl, trivial⟩))
             refine WC.ret (WE.block_ret (WE.then_ret (WE.then_ret (WE.block_ret (WE.then_ret ?_)))))
             refine WE.lose ho4 ?_
             refine WE.endR (.inl rfl) (res1 Tryz.results12 rfl) ?_
             exact congrArg Value.bool (all_not hlt (decide_eq_false (by unfold fineV; omega))).symm
            ·
             try simp only [Z1, Z2, Z3, Z4, Z5, Z6, Z7, Z8, Z9, Z0] at s6_53
             refine WQ.q (oq_fieldAddr fld24_0 rfl) rfl rfl rfl ?_
             refine WQ.q (oq_load flat3 rfl (.head _) (List.mem_singleton.2 rfl) rfl) rfl rfl rfl ?_
             refine WQ.q (oq_eql rfl rfl) rfl rfl rfl ?_
             refine WQ.q (oq_move rfl) rfl rfl rfl ?_
             refine WQ.split 76 rfl (fun s6_57 => ?_) (fun s6_57 => ?_)
             ·
              try simp only [Z1, Z2, Z3, Z4, Z5, Z6, Z7, Z8, Z9, Z0] at s6_57
              refine WQ.q (oq_fieldAddr fld24_2 rfl) rfl rfl rfl ?_
              refine WQ.q (oq_load flat2 rfl (.head _) (List.mem_singleton.2 rfl) rfl) rfl rfl rfl ?_
              refine WQ.q (oq_gtr rfl rfl) rfl rfl rfl ?_
              refine WQ.q (oq_move rfl) rfl rfl rfl ?_
              refine WQ.split 80 rfl (fun s6_61 => ?_) (fun s6_61 => ?_)
              ·
               try simp only [Z1, Z2, Z3, Z4, Z5, Z6, Z7, Z8, Z9, Z0] at s6_61
               refine WQ.skip rfl rfl rfl ?_
               refine WQ.skip rfl rfl rfl ?_
               refine WQ.skip rfl rfl rfl ?_
               refine WQ.q (oq_pick_t rfl rfl) rfl rfl rfl ?_
               refine WQ.q (oq_pick_t rfl rfl) rfl rfl rfl ?_
               refine WQ.q (oq_pick_f rfl rfl) rfl rfl rfl ?_
               refine WQ.nil (WE.then_normal (WC.sub (fr' := [(0, _), (3, _), (86, _)]) ?_ ⟨rfl, rfl, rfl, trivial⟩))
               refine WC.cond_t rfl ?_
               refine WC.seq (WC.region ?_)
               refine WL.q (oq_assign rfl) rfl rfl rfl ?_
               refine WL.nil (WE.then_normal (WC.sub (fr' := [(2, _)]) ?_ ⟨rfl, trivial⟩))
               refine WC.ret (WE.block_ret (WE.then_ret (WE.then_ret (WE.block_ret (WE.then_ret ?_)))))
               refine WE.lose ho4 ?_
               refine WE.endR (.inl rfl) (res1 Tryz.results12 rfl) ?_
               exact congrArg Value.bool (all_not hlt (decide_eq_false (by unfold fineV; omega))).symm
              ·
               try simp only [Z1, Z2, Z3, Z4, Z5, Z6, Z7, Z8, Z9, Z0] at s6_61
               refine WQ.q (oq_fieldAddr fld24_2 rfl) rfl rfl rfl ?_
               refine WQ.q (oq_load flat2 rfl (.head _) (List.mem_singleton.2 rfl) rfl) rfl rfl rfl ?_
               refine WQ.q (oq_lss rfl rfl) rfl rfl rfl ?_
               refine WQ.q (oq_pick_f rfl rfl) rfl rfl rfl ?_
               refine WQ.q (oq_pick_t rfl rfl) rfl rfl rfl ?_
               refine WQ.q (oq_pick_f rfl rfl) rfl rfl rfl ?_
               refine WQ.nil (WE.then_normal (WC.sub (fr' := [(0, _), (3, _), (86, _)]) ?_ ⟨rfl, rfl, rfl, trivial⟩))
               refine WC.cond rfl (fun q6 => ?_) (fun q6 => ?_)
               ·
                try simp only [Z1, Z2, Z3, Z4, Z5, Z6, Z7, Z8, Z9, Z0] at q6
                refine WC.seq (WC.region ?_)
                refine WL.q (oq_assign rfl) rfl rfl rfl ?_
                refine WL.nil (WE.then_normal (WC.sub (fr' := [(2, _)]) ?_ ⟨rfl, trivial⟩))
                refine WC.ret (WE.block_ret (WE.then_ret (WE.then_ret (WE.block_ret (WE.then_ret ?_)))))
                refine WE.lose ho4 ?_
                refine WE.endR (.inl rfl) (res1 Tryz.results12 rfl) ?_
                exact congrArg Value.bool (all_not hlt (decide_eq_false (by unfold fineV; omega))).symm
               ·
                try simp only [Z1, Z2, Z3, Z4, Z5, Z6, Z7, Z8, Z9, Z0] at q6
                refine WC.skip (WE.block_normal (WE.then_normal (WC.sub (fr' := [(0, _), (3, _)]) ?_ ⟨rfl, rfl, trivial⟩)))
                refine WC.region ?_
                refine WL.q (oq_move rfl) rfl rfl rfl ?_
                refine WL.q (oq_add rfl rfl (by rw [i64_lo, i64_hi]; (first | omega | (simp only [List.length_cons, List.length_nil, List.length_append, List.length_drop, List.length_take]; omega)))) rfl rfl rfl ?_
                refine WL.q (oq_assign rfl) rfl rfl rfl ?_
                refine WL.nil ?_
                refine WE.lose ho4 ?_
                refine WE.again (i + 1) ?_ ?_ ⟨rfl, rfl, trivial⟩ (List.Perm.refl _)
                ·try dsimp only
                 exact ⟨by omega, all_snoc (by omega) hall (decide_eq_true (by unfold fineV; omega))⟩
                ·(try dsimp only); omega
             ·
              try simp only [Z1, Z2, Z3, Z4, Z5, Z6, Z7, Z8, Z9, Z0] at s6_57
              refine WQ.skip rfl rfl rfl ?_
              refine WQ.skip rfl rfl rfl ?_
              refine WQ.skip rfl rfl rfl ?_
              refine WQ.skip rfl rfl rfl ?_
              refine WQ.skip rfl rfl rfl ?_
              refine WQ.skip rfl rfl rfl ?_
              refine WQ.skip rfl rfl rfl ?_
              refine WQ.skip rfl rfl rfl ?_
              refine WQ.q (oq_pick_f rfl rfl) rfl rfl rfl ?_
              refine WQ.q (oq_pick_f rfl rfl) rfl rfl rfl ?_
              refine WQ.nil (WE.then_normal (WC.sub (fr' := [(0, _), (3, _), (86, _)]) ?_ ⟨rfl, rfl, rfl, trivial⟩))
              refine WC.cond_f rfl ?_
              refine WC.skip (WE.block_normal (WE.then_normal (WC.sub (fr' := [(0, _), (3, _)]) ?_ ⟨rfl, rfl, trivial⟩)))
              refine WC.region ?_
              refine WL.q (oq_move rfl) rfl rfl rfl ?_
              refine WL.q (oq_add rfl rfl (by rw [i64_lo, i64_hi]; (first | omega | (simp only [List.length_cons, List.length_nil, List.length_append, List.length_drop, List.length_take]; omega)))) rfl rfl rfl ?_
              refine WL.q (oq_assign rfl) rfl rfl rfl ?_
              refine WL.nil ?_
              refine WE.lose ho4 ?_
              refine WE.again (i + 1) ?_ ?_ ⟨rfl, rfl, trivial⟩ (List.Perm.refl _)
              ·try dsimp only
               exact ⟨by omega, all_snoc (by omega) hall (decide_eq_true (by unfold fineV; omega))⟩
              ·(try dsimp only); omega
           ·
            try simp only [Z1, Z2, Z3, Z4, Z5, Z6, Z7, Z8, Z9, Z0] at s6_46
            refine WQ.skip rfl rfl rfl ?_
            refine WQ.skip rfl rfl rfl ?_
            refine WQ.skip rfl rfl rfl ?_
            refine WQ.skip rfl rfl rfl ?_
            refine WQ.q (oq_pick_f rfl rfl) rfl rfl rfl ?_
            refine WQ.q (oq_pick_f rfl rfl) rfl rfl rfl ?_
            refine WQ.q (oq_move rfl) rfl rfl rfl ?_
            refine WQ.q (oq_fieldAddr fld24_0 rfl) rfl rfl rfl ?_
            refine WQ.q (oq_load flat3 rfl (.head _) (List.mem_singleton.2 rfl) rfl) rfl rfl rfl ?_
            refine WQ.q (oq_eql rfl rfl) rfl rfl rfl ?_
            refine WQ.q (oq_move rfl) rfl rfl rfl ?_
            refine WQ.split 76 rfl (fun s6_57 => ?_) (fun s6_57 => ?_)
            ·
             try simp only [Z1, Z2, Z3, Z4, Z5, Z6, Z7, Z8, Z9, Z0] at s6_57
             refine WQ.q (oq_fieldAddr fld24_2 rfl) rfl rfl rfl ?_
             refine WQ.q (oq_load flat2 rfl (.head _) (List.mem_singleton.2 rfl) rfl) rfl rfl rfl ?_
             refine WQ.q (oq_gtr rfl rfl) rfl rfl rfl ?_
             refine WQ.q (oq_move rfl) rfl rfl rfl ?_
             refine WQ.split 80 rfl (fun s6_61 => ?_) (fun s6_61 => ?_)
             ·
              try simp only [Z1, Z2, Z3, Z4, Z5, Z6, Z7, Z8, Z9, Z0] at s6_61
              refine WQ.skip rfl rfl rfl ?_
              refine WQ.skip rfl rfl rfl ?_
              refine WQ.skip rfl rfl rfl ?_
              refine WQ.q (oq_pick_t rfl rfl) rfl rfl rfl ?_
              refine WQ.q (oq_pick_t rfl rfl) rfl rfl rfl ?_
              refine WQ.q (oq_pick_f rfl rfl) rfl rfl rfl ?_
              refine WQ.nil (WE.then_normal (WC.sub (fr' := [(0, _), (3, _), (86, _)]) ?_ ⟨rfl, rfl, rfl, trivial⟩))
              refine WC.cond_t rfl ?_
              refine WC.seq (WC.region ?_)
              refine WL.q (oq_assign rfl) rfl rfl rfl ?_
              refine WL.nil (WE.then_normal (WC.sub (fr' := [(2, _)]) ?_ ⟨rfl, trivial⟩))
              refine WC.ret (WE.block_ret (WE.then_ret (WE.then_ret (WE.block_ret (WE.then_ret ?_)))))
              refine WE.lose ho4 ?_
              refine WE.endR (.inl rfl) (res1 Tryz.results12 rfl) ?_
              exact congrArg Value.bool (all_not hlt (decide_eq_false (by unfold fineV; omega))).symm
             ·
              try simp only [Z1, Z2, Z3, Z4, Z5, Z6, Z7, Z8, Z9, Z0] at s6_61
              refine WQ.q (oq_fieldAddr fld24_2 rfl) rfl rfl rfl ?_
              refine WQ.q (oq_load flat2 rfl (.head _) (List.mem_singleton.2 rfl) rfl) rfl rfl rfl ?_
              refine WQ.q (oq_lss rfl rfl) rfl rfl rfl ?_
              refine WQ.q (oq_pick_f rfl rfl) rfl rfl rfl ?_
              refine WQ.q (oq_pick_t rfl rfl) rfl rfl rfl ?_
              refine WQ.q (oq_pick_f rfl rfl) rfl rfl rfl ?_
              refine WQ.nil (WE.then_normal (WC.sub (fr' := [(0, _), (3, _), (86, _)]) ?_ ⟨rfl, rfl, rfl, trivial⟩))
              refine WC.cond rfl (fun q6 => ?_) (fun q6 => ?_)
              ·
               try simp only [Z1, Z2, Z3, Z4, Z5, Z6, Z7, Z8, Z9, Z0] at q6
               refine WC.seq (WC.region ?_)
               refine WL.q (oq_assign rfl) rfl rfl rfl ?_
               refine WL.nil (WE.then_normal (WC.sub (fr' := [(2, _)]) ?_ ⟨rfl, trivial⟩))
               refine WC.ret (WE.block_ret (WE.then_ret (WE.then_ret (WE.block_ret (WE.then_ret ?_)))))
               refine WE.lose ho4 ?_
               refine WE.endR (.inl rfl) (res1 Tryz.results12 rfl) ?_
               exact congrArg Value.bool (all_not hlt (decide_eq_false (by unfold fineV; omega))).symm
              ·
               try simp only [Z1, Z2, Z3, Z4, Z5, Z6, Z7, Z8, Z9, Z0] at q6
               refine WC.skip (WE.block_normal (WE.then_normal (WC.sub (fr' := [(0, _), (3, _)]) ?_ ⟨rfl, rfl, trivial⟩)))
               refine WC.region ?_
               refine WL.q (oq_move rfl) rfl rfl rfl ?_
               refine WL.q (oq_add rfl rfl (by rw [i64_lo, i64_hi]; (first | omega | (simp only [List.length_cons, List.length_nil, List.length_append, List.length_drop, List.length_take]; omega)))) rfl rfl rfl ?_
               refine WL.q (oq_assign rfl) rfl rfl rfl ?_
               refine WL.nil ?_
               refine WE.lose ho4 ?_
               refine WE.again (i + 1) ?_ ?_ ⟨rfl, rfl, trivial⟩ (List.Perm.refl _)
               ·try dsimp only
                exact ⟨by omega, all_snoc (by omega) hall (decide_eq_true (by unfold fineV; omega))⟩
               ·(try dsimp only); omega
            ·
             try simp only [Z1, Z2, Z3, Z4, Z5, Z6, Z7, Z8, Z9, Z0] at s6_57
             refine WQ.skip rfl rfl rfl ?_
             refine WQ.skip rfl rfl rfl ?_
             refine WQ.skip rfl rfl rfl ?_
             refine WQ.skip rfl rfl rfl ?_
             refine WQ.skip rfl rfl rfl ?_
             refine WQ.skip rfl rfl rfl ?_
             refine WQ.skip rfl rfl rfl ?_
             refine WQ.skip rfl rfl rfl ?_
             refine WQ.q (oq_pick_f rfl rfl) rfl rfl rfl ?_
             refine WQ.q (oq_pick_f rfl rfl) rfl rfl rfl ?_
             refine WQ.nil (WE.then_normal (WC.sub (fr' := [(0, _), (3, _), (86, _)]) ?_ ⟨rfl, rfl, rfl, trivial⟩))
             refine WC.cond_f rfl ?_
             refine WC.skip (WE.block_normal (WE.then_normal (WC.sub (fr' := [(0, _), (3, _)]) ?_ ⟨rfl, rfl, trivial⟩)))
             refine WC.region ?_
             refine WL.q (oq_move rfl) rfl rfl rfl ?_
             refine WL.q (oq_add rfl rfl (by rw [i64_lo, i64_hi]; (first | omega | (simp only [List.length_cons, List.length_nil, List.length_append, List.length_drop, List.length_take]; omega)))) rfl rfl rfl ?_
             refine WL.q (oq_assign rfl) rfl rfl rfl ?_
             refine WL.nil ?_
             refine WE.lose ho4 ?_
             refine WE.again (i + 1) ?_ ?_ ⟨rfl, rfl, trivial⟩ (List.Perm.refl _)
             ·try dsimp only
              exact ⟨by omega, all_snoc (by omega) hall (decide_eq_true (by unfold fineV; omega))⟩
             ·(try dsimp only); omega
        ·
         try simp only [Z1, Z2, Z3, Z4, Z5, Z6, Z7, Z8, Z9, Z0] at s6_23
         refine WQ.skip rfl rfl rfl ?_
         refine WQ.skip rfl rfl rfl ?_
         refine WQ.q (oq_pick_f rfl rfl) rfl rfl rfl ?_
         refine WQ.q (oq_move rfl) rfl rfl rfl ?_
         refine WQ.q (oq_fieldAddr fld24_2 rfl) rfl rfl rfl ?_
         refine WQ.q (oq_load flat2 rfl (.head _) (List.mem_singleton.2 rfl) rfl) rfl rfl rfl ?_
         refine WQ.q (oq_move rfl) rfl rfl rfl ?_
         refine WQ.q (oq_sub rfl rfl (by rw [i64_lo, i64_hi]; (first | omega | (simp only [List.length_cons, List.length_nil, List.length_append, List.length_drop, List.length_take]; omega)))) rfl rfl rfl ?_
         refine WQ.q (oq_shl rfl rfl (by omega)) rfl rfl rfl ?_
         refine WQ.q (oq_move rfl) rfl rfl rfl ?_
         refine WQ.q (oq_sub rfl rfl (by rw [i64_lo, i64_hi]; (first | omega | (simp only [List.length_cons, List.length_nil, List.length_append, List.length_drop, List.length_take]; omega)))) rfl rfl rfl ?_
         refine WQ.q (oq_shr rfl rfl (by omega)) rfl rfl rfl ?_
         refine WQ.q (oq_fieldAddr fld24_2 rfl) rfl rfl rfl ?_
         refine WQ.q (oq_load flat2 rfl (.head _) (List.mem_singleton.2 rfl) rfl) rfl rfl rfl ?_
         refine WQ.q (oq_neq rfl rfl) rfl rfl rfl ?_
         refine WQ.q (oq_pick_f rfl rfl) rfl rfl rfl ?_
         refine WQ.q (oq_pick_t rfl rfl) rfl rfl rfl ?_
         refine WQ.q (oq_pick_f rfl rfl) rfl rfl rfl ?_
         refine WQ.q (oq_move rfl) rfl rfl rfl ?_
         refine WQ.split 61 rfl (fun s6_42 => ?_) (fun s6_42 => ?_)
         ·
          try simp only [Z1, Z2, Z3, Z4, Z5, Z6, Z7, Z8, Z9, Z0] at s6_42
          refine WQ.skip rfl rfl rfl ?_
          refine WQ.skip rfl rfl rfl ?_
          refine WQ.skip rfl rfl rfl ?_
          refine WQ.skip rfl rfl rfl ?_
          refine WQ.skip rfl rfl rfl ?_
          refine WQ.skip rfl rfl rfl ?_
          refine WQ.skip rfl rfl rfl ?_
          refine WQ.skip rfl rfl rfl ?_
          refine WQ.skip rfl rfl rfl ?_
          refine WQ.q (oq_pick_t rfl rfl) rfl rfl rfl ?_
          refine WQ.q (oq_move rfl) rfl rfl rfl ?_
          refine WQ.skip rfl rfl rfl ?_
          refine WQ.skip rfl rfl rfl ?_
          refine WQ.skip rfl rfl rfl ?_
          refine WQ.skip rfl rfl rfl ?_
          refine WQ.skip rfl rfl rfl ?_
          refine WQ.skip rfl rfl rfl ?_
          refine WQ.skip rfl rfl rfl ?_
          refine WQ.skip rfl rfl rfl ?_
          refine WQ.skip rfl rfl rfl ?_
          refine WQ.skip rfl rfl rfl ?_
          refine WQ.skip rfl rfl rfl ?_
          refine WQ.skip rfl rfl rfl ?_
          refine WQ.skip rfl rfl rfl ?_
          refine WQ.q (oq_pick_t rfl rfl) rfl rfl rfl ?_
          refine WQ.nil (WE.then_normal (WC.sub (fr' := [(0, _), (3, _), (86, _)]) ?_ ⟨rfl, rfl, rfl, trivial⟩))
          refine WC.cond_t rfl ?_
          refine WC.seq (WC.region ?_)
          refine WL.q (oq_assign rfl) rfl rfl rfl ?_
          refine WL.nil (WE.then_normal (WC.sub (fr' := [(2, _)]) ?_ ⟨rfl, trivial⟩))
          refine WC.ret (WE.block_ret (WE.then_ret (WE.then_ret (WE.block_ret (WE.then_ret ?_)))))
          refine WE.lose ho4 ?_
          refine WE.endR (.inl rfl) (res1 Tryz.results12 rfl) ?_
          exact congrArg Value.bool (all_not hlt (decide_eq_false (by unfold fineV; omega))).symm
         ·
          try simp only [Z1, Z2, Z3, Z4, Z5, Z6, Z7, Z8, Z9, Z0] at s6_42
          refine WQ.q (oq_fieldAddr fld24_0 rfl) rfl rfl rfl ?_
          refine WQ.q (oq_load flat3 rfl (.head _) (List.mem_singleton.2 rfl) rfl) rfl rfl rfl ?_
          refine WQ.q (oq_eql rfl rfl) rfl rfl rfl ?_
          refine WQ.q (oq_move rfl) rfl rfl rfl ?_
          refine WQ.split 65 rfl (fun s6_46 => ?_) (fun s6_46 => ?_)
          ·
           try simp only [Z1, Z2, Z3, Z4, Z5, Z6, Z7, Z8, Z9, Z0] at s6_46
           refine WQ.q (oq_fieldAddr fld24_3 rfl) rfl rfl rfl ?_
           refine WQ.q (oq_load flat9 rfl (.head _) (List.mem_singleton.2 rfl) rfl) rfl rfl rfl ?_
           refine WQ.q (oq_len_s Tryz.underlying9 rfl) rfl rfl rfl ?_
           refine WQ.q (oq_neq rfl rfl) rfl rfl rfl ?_
           refine WQ.q (oq_pick_t rfl rfl) rfl rfl rfl ?_
           refine WQ.q (oq_pick_f rfl rfl) rfl rfl rfl ?_
           refine WQ.q (oq_move rfl) rfl rfl rfl ?_
           refine WQ.split 72 rfl (fun s6_53 => ?_) (fun s6_53 => ?_)
           ·
            try simp only [Z1, Z2, Z3, Z4, Z5, Z6, Z7, Z8, Z9, Z0] at s6_53
            refine WQ.skip rfl rfl rfl ?_
            refine WQ.skip rfl rfl rfl ?_
            refine WQ.skip rfl rfl rfl ?_
            refine WQ.skip rfl rfl rfl ?_
            refine WQ.skip rfl rfl rfl ?_
            refine WQ.skip rfl rfl rfl ?_
            refine WQ.skip rfl rfl rfl ?_
            refine WQ.skip rfl rfl rfl ?_
            refine WQ.skip rfl rfl rfl ?_
            refine WQ.skip rfl rfl rfl ?_
            refine WQ.skip rfl rfl rfl ?_
            refine WQ.skip rfl rfl rfl ?_
            refine WQ.skip rfl rfl rfl ?_
            refine WQ.q (oq_pick_t rfl rfl) rfl rfl rfl ?_
            refine WQ.nil (WE.then_normal (WC.sub (fr' := [(0, _), (3, _), (86, _)]) ?_ ⟨rfl, rfl, rfl, trivial⟩))
            refine WC.cond_t rfl ?_
            refine WC.seq (WC.region ?_)
            refine WL.q (oq_assign rfl) rfl rfl rfl ?_
            refine WL.nil (WE.then_normal (WC.sub (fr' := [(2, _)]) ?_ ⟨rfl, trivial⟩))
            refine WC.ret (WE.block_ret (WE.then_ret (WE.then_ret (WE.block_ret (WE.then_ret ?_)))))
            refine WE.lose ho4 ?_
            refine WE.endR (.inl rfl) (res1 Tryz.results12 rfl) ?_
            exact congrArg Value.bool (all_not hlt (decide_eq_false (by unfold fineV; omega))).symm
           ·
            try simp only [Z1, Z2, Z3, Z4, Z5, Z6, Z7, Z8, Z9, Z0] at s6_53
            refine WQ.q (oq_fieldAddr fld24_0 rfl) rfl rfl rfl ?_
            refine WQ.q (oq_load flat3 rfl (.head _) (List.mem_singleton.2 rfl) rfl) rfl rfl rfl ?_
            refine WQ.q (oq_eql rfl rfl) rfl rfl rfl ?_
            refine WQ.q (oq_move rfl) rfl rfl rfl ?_
            refine WQ.split 76 rfl (fun s6_57 => ?_) (fun s6_57 => ?_)
            ·
             try simp only [Z1, Z2, Z3, Z4, Z5, Z6, Z7, Z8, Z9, Z0] at s6_57
             refine WQ.q (oq_fieldAddr fld24_2 rfl) rfl rfl rfl ?_
             refine WQ.q (oq_load flat2 rfl (.head _) (List.mem_singleton.2 rfl) rfl) rfl rfl rfl ?_
             refine WQ.q (oq_gtr rfl rfl) rfl rfl rfl ?_
             refine WQ.q (oq_move rfl) rfl rfl rfl ?_
             refine WQ.split 80 rfl (fun s6_61 => ?_) (fun s6_61 => ?_)
             ·
              try simp only [Z1, Z2, Z3, Z4, Z5, Z6, Z7, Z8, Z9, Z0] at s6_61
              refine WQ.skip rfl rfl rfl ?_
              refine WQ.skip rfl rfl rfl ?_
              refine WQ.skip rfl rfl rfl ?_
              refine WQ.q (oq_pick_t rfl rfl) rfl rfl rfl ?_
              refine WQ.q (oq_pick_t rfl rfl) rfl rfl rfl ?_
              refine WQ.q (oq_pick_f rfl rfl) rfl rfl rfl ?_
              refine WQ.nil (WE.then_normal (WC.sub (fr' := [(0, _), (3, _), (86, _)]) ?_ ⟨rfl, rfl, rfl, trivial⟩))
              refine WC.cond_t rfl ?_
              refine WC.seq (WC.region ?_)
              refine WL.q (oq_assign rfl) rfl rfl rfl ?_
              refine WL.nil (WE.then_normal (WC.sub (fr' := [(2, _)]) ?_ ⟨rfl, trivial⟩))
              refine WC.ret (WE.block_ret (WE.then_ret (WE.then_ret (WE.block_ret (WE.then_ret ?_)))))
              refine WE.lose ho4 ?_
              refine WE.endR (.inl rfl) (res1 Tryz.results12 rfl) ?_
              exact congrArg Value.bool (all_not hlt (decide_eq_false (by unfold fineV; omega))).symm
             ·
              try simp only [Z1, Z2, Z3, Z4, Z5, Z6, Z7, Z8, Z9, Z0] at s6_61
              refine WQ.q (oq_fieldAddr fld24_2 rfl) rfl rfl rfl ?_
              refine WQ.q (oq_load flat2 rfl (.head _) (List.mem_singleton.2 rfl) rfl) rfl rfl rfl ?_
              refine WQ.q (oq_lss rfl rfl) rfl rfl rfl ?_
              refine WQ.q (oq_pick_f rfl rfl) rfl rfl rfl ?_
              refine WQ.q (oq_pick_t rfl rfl) rfl rfl rfl ?_
              refine WQ.q (oq_pick_f rfl rfl) rfl rfl rfl ?_
              refine WQ.nil (WE.then_normal (WC.sub (fr' := [(0, _), (3, _), (86, _)]) ?_ ⟨rfl, rfl, rfl, trivial⟩))
              refine WC.cond rfl (fun q6 => ?_) (fun q6 => ?_)
              ·
               try simp only [Z1, Z2, Z3, Z4, Z5, Z6, Z7, Z8, Z9, Z0] at q6
               refine WC.seq (WC.region ?_)
               refine WL.q (oq_assign rfl) rfl rfl rfl ?_
               refine WL.nil (WE.then_normal (WC.sub (fr' := [(2, _)]) ?_ ⟨rfl, trivial⟩))
               refine WC.ret (WE.block_ret (WE.then_ret (WE.then_ret (WE.block_ret (WE.then_ret ?_)))))
               refine WE.lose ho4 ?_
               refine WE.endR (.inl rfl) (res1 Tryz.results12 rfl) ?_
               exact congrArg Value.bool (all_not hlt (decide_eq_false (by unfold fineV; omega))).symm
              ·
               try simp only [Z1, Z2, Z3, Z4, Z5, Z6, Z7, Z8, Z9, Z0] at q6
               refine WC.skip (WE.block_normal (WE.then_normal (WC.sub (fr' := [(0, _), (3, _)]) ?_ ⟨rfl, rfl, trivial⟩)))
               refine WC.region ?_
               refine WL.q (oq_move rfl) rfl rfl rfl ?_
               refine WL.q (oq_add rfl rfl (by rw [i64_lo, i64_hi]; (first | omega | (simp only [List.length_cons, List.length_nil, List.length_append, List.length_drop, List.length_take]; omega)))) rfl rfl rfl ?_
               refine WL.q (oq_assign rfl) rfl rfl rfl ?_
               refine WL.nil ?_
               refine WE.lose ho4 ?_
               refine WE.again (i + 1) ?_ ?_ ⟨rfl, rfl, trivial⟩ (List.Perm.refl _)
               ·try dsimp only
                exact ⟨by omega, all_snoc (by omega) hall (decide_eq_true (by unfold fineV; omega))⟩
               ·(try dsimp only); omega
            ·
             try simp only [Z1, Z2, Z3, Z4, Z5, Z6, Z7, Z8, Z9, Z0] at s6_57
             refine WQ.skip rfl rfl rfl ?_
             refine WQ.skip rfl rfl rfl ?_
             refine WQ.skip rfl rfl rfl ?_
             refine WQ.skip rfl rfl rfl ?_
             refine WQ.skip rfl rfl rfl ?_
             refine WQ.skip rfl rfl rfl ?_
             refine WQ.skip rfl rfl rfl ?_
             refine WQ.skip rfl rfl rfl ?_
             refine WQ.q (oq_pick_f rfl rfl) rfl rfl rfl ?_
             refine WQ.q (oq_pick_f rfl rfl) rfl rfl rfl ?_
             refine WQ.nil (WE.then_normal (WC.sub (fr' := [(0, _), (3, _), (86, _)]) ?_ ⟨rfl, rfl, rfl, trivial⟩))
             refine WC.cond_f rfl ?_
             refine WC.skip (WE.block_normal (WE.then_normal (WC.sub (fr' := [(0, _), (3, _)]) ?_ ⟨rfl, rfl, trivial⟩)))
             refine WC.region ?_
             refine WL.q (oq_move rfl) rfl rfl rfl ?_
             refine WL.q (oq_add rfl rfl (by rw [i64_lo, i64_hi]; (first | omega | (simp only [List.length_cons, List.length_nil, List.length_append, List.length_drop, List.length_take]; omega)))) rfl rfl rfl ?_
             refine WL.q (oq_assign rfl) rfl rfl rfl ?_
             refine WL.nil ?_
             refine WE.lose ho4 ?_
             refine WE.again (i + 1) ?_ ?_ ⟨rfl, rfl, trivial⟩ (List.Perm.refl _)
             ·try dsimp only
              exact ⟨by omega, all_snoc (by omega) hall (decide_eq_true (by unfold fineV; omega))⟩
             ·(try dsimp only); omega
          ·
           try simp only [Z1, Z2, Z3, Z4, Z5, Z6, Z7, Z8, Z9, Z0] at s6_46
           refine WQ.skip rfl rfl rfl ?_
           refine WQ.skip rfl rfl rfl ?_
           refine WQ.skip rfl rfl rfl ?_
           refine WQ.skip rfl rfl rfl ?_
           refine WQ.q (oq_pick_f rfl rfl) rfl rfl rfl ?_
           refine WQ.q (oq_pick_f rfl rfl) rfl rfl rfl ?_
           refine WQ.q (oq_move rfl) rfl rfl rfl ?_
           refine WQ.q (oq_fieldAddr fld24_0 rfl) rfl rfl rfl ?_
           refine WQ.q (oq_load flat3 rfl (.head _) (List.mem_singleton.2 rfl) rfl) rfl rfl rfl ?_
           refine WQ.q (oq_eql rfl rfl) rfl rfl rfl ?_
           refine WQ.q (oq_move rfl) rfl rfl rfl ?_
           refine WQ.split 76 rfl (fun s6_57 => ?_) (fun s6_57 => ?_)
           ·
            try simp only [Z1, Z2, Z3, Z4, Z5, Z6, Z7, Z8, Z9, Z0] at s6_57
            refine WQ.q (oq_fieldAddr fld24_2 rfl) rfl rfl rfl ?_
            refine WQ.q (oq_load flat2 rfl (.head _) (List.mem_singleton.2 rfl) rfl) rfl rfl rfl ?_
            refine WQ.q (oq_gtr rfl rfl) rfl rfl rfl ?_
            refine WQ.q (oq_move rfl) rfl rfl rfl ?_
            refine WQ.split 80 rfl (fun s6_61 => ?_) (fun s6_61 => ?_)
            ·
             try simp only [Z1, Z2, Z3, Z4, Z5, Z6, Z7, Z8, Z9, Z0] at s6_61
             refine WQ.skip rfl rfl rfl ?_
             refine WQ.skip rfl rfl rfl ?_
             refine WQ.skip rfl rfl rfl ?_
             refine WQ.q (oq_pick_t rfl rfl) rfl rfl rfl ?_
             refine WQ.q (oq_pick_t rfl rfl) rfl rfl rfl ?_
             refine WQ.q (oq_pick_f rfl rfl) rfl rfl rfl ?_
             refine WQ.nil (WE.then_normal (WC.sub (fr' := [(0, _), (3, _), (86, _)]) ?_ ⟨rfl, rfl, rfl, trivial⟩))
             refine WC.cond_t rfl ?_
             refine WC.seq (WC.region ?_)
             refine WL.q (oq_assign rfl) rfl rfl rfl ?_
             refine WL.nil (WE.then_normal (WC.sub (fr' := [(2, _)]) ?_ ⟨rfl, trivial⟩))
             refine WC.ret (WE.block_ret (WE.then_ret (WE.then_ret (WE.block_ret (WE.then_ret ?_)))))
             refine WE.lose ho4 ?_
             refine WE.endR (.inl rfl) (res1 Tryz.results12 rfl) ?_
             exact congrArg Value.bool (all_not hlt (decide_eq_false (by unfold fineV; omega))).symm
            ·
             try simp only [Z1, Z2, Z3, Z4, Z5, Z6, Z7, Z8, Z9, Z0] at s6_61
             refine WQ.q (oq_fieldAddr fld24_2 rfl) rfl rfl rfl ?_
             refine WQ.q (oq_load flat2 rfl (.head _) (List.mem_singleton.2 rfl) rfl) rfl rfl rfl ?_
             refine WQ.q (oq_lss rfl rfl) rfl rfl rfl ?_
             refine WQ.q (oq_pick_f rfl rfl) rfl rfl rfl ?_
             refine WQ.q (oq_pick_t rfl rfl) rfl rfl rfl ?_
             refine WQ.q (oq_pick_f rfl rfl) rfl rfl rfl ?_
             refine WQ.nil (WE.then_normal (WC.sub (fr' := [(0, _), (3, _), (86, _)]) ?_ ⟨rfl, rfl, rfl, trivial⟩))
             refine WC.cond rfl (fun q6 => ?_) (fun q6 => ?_)
             ·
              try simp only [Z1, Z2, Z3, Z4, Z5, Z6, Z7, Z8, Z9, Z0] at q6
              refine WC.seq (WC.region ?_)
              refine WL.q (oq_assign rfl) rfl rfl rfl ?_
              refine WL.nil (WE.then_normal (WC.sub (fr' := [(2, _)]) ?_ ⟨rfl, trivial⟩))
              refine WC.ret (WE.block_ret (WE.then_ret (WE.then_ret (WE.block_ret (WE.then_ret ?_)))))
              refine WE.lose ho4 ?_
              refine WE.endR (.inl rfl) (res1 Tryz.results12 rfl) ?_
              exact congrArg Value.bool (all_not hlt (decide_eq_false (by unfold fineV; omega))).symm
             ·
              try simp only [Z1, Z2, Z3, Z4, Z5, Z6, Z7, Z8, Z9, Z0] at q6
              refine WC.skip (WE.block_normal (WE.then_normal (WC.sub (fr' := [(0, _), (3, _)]) ?_ ⟨rfl, rfl, trivial⟩)))
              refine WC.region ?_
              refine WL.q (oq_move rfl) rfl rfl rfl ?_
              refine WL.q (oq_add rfl rfl (by rw [i64_lo, i64_hi]; (first | omega | (simp only [List.length_cons, List.length_nil, List.length_append, List.length_drop, List.length_take]; omega)))) rfl rfl rfl ?_
              refine WL.q (oq_assign rfl) rfl rfl rfl ?_
              refine WL.nil ?_
              refine WE.lose ho4 ?_
              refine WE.again (i + 1) ?_ ?_ ⟨rfl, rfl, trivial⟩ (List.Perm.refl _)
              ·try dsimp only
               exact ⟨by omega, all_snoc (by omega) hall (decide_eq_true (by unfold fineV; omega))⟩
              ·(try dsimp only); omega
           ·
            try simp only [Z1, Z2, Z3, Z4, Z5, Z6, Z7, Z8, Z9, Z0] at s6_57
            refine WQ.skip rfl rfl rfl ?_
            refine WQ.skip rfl rfl rfl ?_
            refine WQ.skip rfl rfl rfl ?_
            refine WQ.skip rfl rfl rfl ?_
            refine WQ.skip rfl rfl rfl ?_
            refine WQ.skip rfl rfl rfl ?_
            refine WQ.skip rfl rfl rfl ?_
            refine WQ.skip rfl rfl rfl ?_
            refine WQ.q (oq_pick_f rfl rfl) rfl rfl rfl ?_
            refine WQ.q (oq_pick_f rfl rfl) rfl rfl rfl ?_
            refine WQ.nil (WE.then_normal (WC.sub (fr' := [(0, _), (3, _), (86, _)]) ?_ ⟨rfl, rfl, rfl, trivial⟩))
            refine WC.cond_f rfl ?_
            refine WC.skip (WE.block_normal (WE.then_normal (WC.sub (fr' := [(0, _), (3, _)]) ?_ ⟨rfl, rfl, trivial⟩)))
            refine WC.region ?_
            refine WL.q (oq_move rfl) rfl rfl rfl ?_
            refine WL.q (oq_add rfl rfl (by rw [i64_lo, i64_hi]; (first | omega | (simp only [List.length_cons, List.length_nil, List.length_append, List.length_drop, List.length_take]; omega)))) rfl rfl rfl ?_
            refine WL.q (oq_assign rfl) rfl rfl rfl ?_
            refine WL.nil ?_
            refine WE.lose ho4 ?_
            refine WE.again (i + 1) ?_ ?_ ⟨rfl, rfl, trivial⟩ (List.Perm.refl _)
            ·try dsimp only
             exact ⟨by omega, all_snoc (by omega) hall (decide_eq_true (by unfold fineV; omega))⟩
            ·(try dsimp only); omega
       ·
        try simp only [Z1, Z2, Z3, Z4, Z5, Z6, Z7, Z8, Z9, Z0] at s6_19
        refine WQ.skip rfl rfl rfl ?_
        refine WQ.skip rfl rfl rfl ?_
        refine WQ.q (oq_pick_f rfl rfl) rfl rfl rfl ?_
        refine WQ.q (oq_move rfl) rfl rfl rfl ?_
        refine WQ.skip rfl rfl rfl ?_
        refine WQ.skip rfl rfl rfl ?_
        refine WQ.q (oq_pick_f rfl rfl) rfl rfl rfl ?_
        refine WQ.q (oq_move rfl) rfl rfl rfl ?_
        refine WQ.q (oq_fieldAddr fld24_2 rfl) rfl rfl rfl ?_
        refine WQ.q (oq_load flat2 rfl (.head _) (List.mem_singleton.2 rfl) rfl) rfl rfl rfl ?_
        refine WQ.q (oq_move rfl) rfl rfl rfl ?_
        refine WQ.q (oq_sub rfl rfl (by rw [i64_lo, i64_hi]; (first | omega | (simp only [List.length_cons, List.length_nil, List.length_append, List.length_drop, List.length_take]; omega)))) rfl rfl rfl ?_
        refine WQ.q (oq_shl rfl rfl (by omega)) rfl rfl rfl ?_
        refine WQ.q (oq_move rfl) rfl rfl rfl ?_
        refine WQ.q (oq_sub rfl rfl (by rw [i64_lo, i64_hi]; (first | omega | (simp only [List.length_cons, List.length_nil, List.length_append, List.length_drop, List.length_take]; omega)))) rfl rfl rfl ?_
        refine WQ.q (oq_shr rfl rfl (by omega)) rfl rfl rfl ?_
        refine WQ.q (oq_fieldAddr fld24_2 rfl) rfl rfl rfl ?_
        refine WQ.q (oq_load flat2 rfl (.head _) (List.mem_singleton.2 rfl) rfl) rfl rfl rfl ?_
        refine WQ.q (oq_neq rfl rfl) rfl rfl rfl ?_
        refine WQ.q (oq_pick_f rfl rfl) rfl rfl rfl ?_
        refine WQ.q (oq_pick_t rfl rfl) rfl rfl rfl ?_
        refine WQ.q (oq_pick_f rfl rfl) rfl rfl rfl ?_
        refine WQ.q (oq_move rfl) rfl rfl rfl ?_
        refine WQ.split 61 rfl (fun s6_42 => ?_) (fun s6_42 => ?_)
        ·
         try simp only [Z1, Z2, Z3, Z4, Z5, Z6, Z7, Z8, Z9, Z0] at s6_42
         refine WQ.skip rfl rfl rfl ?_
         refine WQ.skip rfl rfl rfl ?_
         refine WQ.skip rfl rfl rfl ?_
         refine WQ.skip rfl rfl rfl ?_
         refine WQ.skip rfl rfl rfl ?_
         refine WQ.skip rfl rfl rfl ?_
         refine WQ.skip rfl rfl rfl ?_
         refine WQ.skip rfl rfl rfl ?_
         refine WQ.skip rfl rfl rfl ?_
         refine WQ.q (oq_pick_t rfl rfl) rfl rfl rfl ?_
         refine WQ.q (oq_move rfl) rfl rfl rfl ?_
         refine WQ.skip rfl rfl rfl ?_
         refine WQ.skip rfl rfl rfl ?_
         refine WQ.skip rfl rfl rfl ?_
         refine WQ.skip rfl rfl rfl ?_
         refine WQ.skip rfl rfl rfl ?_
         refine WQ.skip rfl rfl rfl ?_
         refine WQ.skip rfl rfl rfl ?_
         refine WQ.skip rfl rfl rfl ?_
         refine WQ.skip rfl rfl rfl ?_
         refine WQ.skip rfl rfl rfl ?_
         refine WQ.skip rfl rfl rfl ?_
         refine WQ.skip rfl rfl rfl ?_
         refine WQ.skip rfl rfl rfl ?_
         refine WQ.q (oq_pick_t rfl rfl) rfl rfl rfl ?_
         refine WQ.nil (WE.then_normal (WC.sub (fr' := [(0, _), (3, _), (86, _)]) ?_ ⟨rfl, rfl, rfl, trivial⟩))
         refine WC.cond_t rfl ?_
         refine WC.seq (WC.region ?_)
         refine WL.q (oq_assign rfl) rfl rfl rfl ?_
         refine WL.nil (WE.then_normal (WC.sub (fr' := [(2, _)]) ?_ ⟨rfl, trivial⟩))
         refine WC.ret (WE.block_ret (WE.then_ret (WE.then_ret (WE.block_ret (WE.then_ret ?_)))))
         refine WE.lose ho4 ?_
         refine WE.endR (.inl rfl) (res1 Tryz.results12 rfl) ?_
         exact congrArg Value.bool (all_not hlt (decide_eq_false (by unfold fineV; omega))).symm
        ·
         try simp only [Z1, Z2, Z3, Z4, Z5, Z6, Z7, Z8, Z9, Z0] at s6_42
         refine WQ.q (oq_fieldAddr fld24_0 rfl) rfl rfl rfl ?_
         refine WQ.q (oq_load flat3 rfl (.head _) (List.mem_singleton.2 rfl) rfl) rfl rfl rfl ?_
         refine WQ.q (oq_eql rfl rfl) rfl rfl rfl ?_
         refine WQ.q (oq_move rfl) rfl rfl rfl ?_
         refine WQ.split 65 rfl (fun s6_46 => ?_) (fun s6_46 => ?_)
         ·
          try simp only [Z1, Z2, Z3, Z4, Z5, Z6, Z7, Z8, Z9, Z0] at s6_46
          refine WQ.q (oq_fieldAddr fld24_3 rfl) rfl rfl rfl ?_
          refine WQ.q (oq_load flat9 rfl (.head _) (List.mem_singleton.2 rfl) rfl) rfl rfl rfl ?_
          refine WQ.q (oq_len_s Tryz.underlying9 rfl) rfl rfl rfl ?_
          refine WQ.q (oq_neq rfl rfl) rfl rfl rfl ?_
          refine WQ.q (oq_pick_t rfl rfl) rfl rfl rfl ?_
          refine WQ.q (oq_pick_f rfl rfl) rfl rfl rfl ?_
          refine WQ.q (oq_move rfl) rfl rfl rfl ?_
          refine WQ.split 72 rfl (fun s6_53 => ?_) (fun s6_53 => ?_)
          ·
           try simp only [Z1, Z2, Z3, Z4, Z5, Z6, Z7, Z8, Z9, Z0] at s6_53
           refine WQ.skip rfl rfl rfl ?_
           refine WQ.skip rfl rfl rfl ?_
           refine WQ.skip rfl rfl rfl ?_
           refine WQ.skip rfl rfl rfl ?_
           refine WQ.skip rfl rfl rfl ?_
           refine WQ.skip rfl rfl rfl ?_
           refine WQ.skip rfl rfl rfl ?_
           refine WQ.skip rfl rfl rfl ?_
           refine WQ.skip rfl rfl rfl ?_
           refine WQ.skip rfl rfl rfl ?_
           refine WQ.skip rfl rfl rfl ?_
           refine WQ.skip rfl rfl rfl ?_
           refine WQ.skip rfl rfl rfl ?_
           refine WQ.q (oq_pick_t rfl rfl) rfl rfl rfl ?_
           refine WQ.nil (WE.then_normal (WC.sub (fr' := [(0, _), (3, _), (86, _)]) ?_ ⟨rfl, rfl, rfl, trivial⟩))
           refine WC.cond_t rfl ?_
           refine WC.seq (WC.region ?_)
           refine WL.q (oq_assign rfl) rfl rfl rfl ?_
           refine WL.nil (WE.then_normal (WC.sub (fr' := [(2, _)]) ?_ ⟨rfl, trivial⟩))
           refine WC.ret (WE.block_ret (WE.then_ret (WE.then_ret (WE.block_ret (WE.then_ret ?_)))))
           refine WE.lose ho4 ?_
           refine WE.endR (.inl rfl) (res1 Tryz.results12 rfl) ?_
           exact congrArg Value.bool (all_not hlt (decide_eq_false (by unfold fineV; omega))).symm
          ·
           try simp only [Z1, Z2, Z3, Z4, Z5, Z6, Z7, Z8, Z9, Z0] at s6_53
           refine WQ.q (oq_fieldAddr fld24_0 rfl) rfl rfl rfl ?_
           refine WQ.q (oq_load flat3 rfl (.head _) (List.mem_singleton.2 rfl) rfl) rfl rfl rfl ?_
           refine WQ.q (oq_eql rfl rfl) rfl rfl rfl ?_
           refine WQ.q (oq_move rfl) rfl rfl rfl ?_
           refine WQ.split 76 rfl (fun s6_57 => ?_) (fun s6_57 => ?_)
           ·
            try simp only [Z1, Z2, Z3, Z4, Z5, Z6, Z7, Z8, Z9, Z0] at s6_57
            refine WQ.q (oq_fieldAddr fld24_2 rfl) rfl rfl rfl ?_
            refine WQ.q (oq_load flat2 rfl (.head _) (List.mem_singleton.2 rfl) rfl) rfl rfl rfl ?_
            refine WQ.q (oq_gtr rfl rfl) rfl rfl rfl ?_
            refine WQ.q (oq_move rfl) rfl rfl rfl ?_
            refine WQ.split 80 rfl (fun s6_61 => ?_) (fun s6_61 => ?_)
            ·
             try simp only [Z1, Z2, Z3, Z4, Z5, Z6, Z7, Z8, Z9, Z0] at s6_61
             refine WQ.skip rfl rfl rfl ?_
             refine WQ.skip rfl rfl rfl ?_
             refine WQ.skip rfl rfl rfl ?_
             refine WQ.q (oq_pick_t rfl rfl) rfl rfl rfl ?_
             refine WQ.q (oq_pick_t rfl rfl) rfl rfl rfl ?_
             refine WQ.q (oq_pick_f rfl rfl) rfl rfl rfl ?_
             refine WQ.nil (WE.then_normal (WC.sub (fr' := [(0, _), (3, _), (86, _)]) ?_ ⟨rfl, rfl, rfl, trivial⟩))
             refine WC.cond_t rfl ?_
             refine WC.seq (WC.region ?_)
             refine WL.q (oq_assign rfl) rfl rfl rfl ?_
             refine WL.nil (WE.then_normal (WC.sub (fr' := [(2, _)]) ?_ ⟨rfl, trivial⟩))
             refine WC.ret (WE.block_ret (WE.then_ret (WE.then_ret (WE.block_ret (WE.then_ret ?_)))))
             refine WE.lose ho4 ?_
             refine WE.endR (.inl rfl) (res1 Tryz.results12 rfl) ?_
             exact congrArg Value.bool (all_not hlt (decide_eq_false (by unfold fineV; omega))).symm
            ·
             try simp only [Z1, Z2, Z3, Z4, Z5, Z6, Z7, Z8, Z9, Z0] at s6_61
             refine WQ.q (oq_fieldAddr fld24_2 rfl) rfl rfl rfl ?_
             refine WQ.q (oq_load flat2 rfl (.head _) (List.mem_singleton.2 rfl) rfl) rfl rfl rfl ?_
             refine WQ.q (oq_lss rfl rfl) rfl rfl rfl ?_
             refine WQ.q (oq_pick_f rfl rfl) rfl rfl rfl ?_
             refine WQ.q (oq_pick_t rfl rfl) rfl rfl rfl ?_
             refine WQ.q (oq_pick_f rfl rfl) rfl rfl rfl ?_
             refine WQ.nil (WE.then_normal (WC.sub (fr' := [(0, _), (3, _), (86, _)]) ?_ ⟨rfl, rfl, rfl, trivial⟩))
             refine WC.cond rfl (fun q6 => ?_) (fun q6 => ?_)
             ·
              try simp only [Z1, Z2, Z3, Z4, Z5, Z6, Z7, Z8, Z9, Z0] at q6
              refine WC.seq (WC.region ?_)
              refine WL.q (oq_assign rfl) rfl rfl rfl ?_
              refine WL.nil (WE.then_normal (WC.sub (fr' := [(2, _)]) ?_ ⟨rfl, trivial⟩))
              refine WC.ret (WE.block_ret (WE.then_ret (WE.then_ret (WE.block_ret (WE.then_ret ?_)))))
              refine WE.lose ho4 ?_
              refine WE.endR (.inl rfl) (res1 Tryz.results12 rfl) ?_
              exact congrArg Value.bool (all_not hlt (decide_eq_false (by unfold fineV; omega))).symm
             ·
              try simp only [Z1, Z2, Z3, Z4, Z5, Z6, Z7, Z8, Z9, Z0] at q6
              refine WC.skip (WE.block_normal (WE.then_normal (WC.sub (fr' := [(0, _), (3, _)]) ?_ ⟨rfl, rfl, trivial⟩)))
              refine WC.region ?_
              refine WL.q (oq_move rfl) rfl rfl rfl ?_
              refine WL.q (oq_add rfl rfl (by rw [i64_lo, i64_hi]; (first | omega | (simp only [List.length_cons, List.length_nil, List.length_append, List.length_drop, List.length_take]; omega)))) rfl rfl rfl ?_
              refine WL.q (oq_assign rfl) rfl rfl rfl ?_
              refine WL.nil ?_
              refine WE.lose ho4 ?_
              refine WE.again (i + 1) ?_ ?_ ⟨rfl, rfl, trivial⟩ (List.Perm.refl _)
              ·try dsimp only
               exact ⟨by omega, all_snoc (by omega) hall (decide_eq_true (by unfold fineV; omega))⟩
              ·(try dsimp only); omega
           ·
            try simp only [Z1, Z2, Z3, Z4, Z5, Z6, Z7, Z8, Z9, Z0] at s6_57
            refine WQ.skip rfl rfl rfl ?_
            refine WQ.skip rfl rfl rfl ?_
            refine WQ.skip rfl rfl rfl ?_
            refine WQ.skip rfl rfl rfl ?_
            refine WQ.skip rfl rfl rfl ?_
            refine WQ.skip rfl rfl rfl ?_
            refine WQ.skip rfl rfl rfl ?_
            refine WQ.skip rfl rfl rfl ?_
            refine WQ.q (oq_pick_f rfl rfl) rfl rfl rfl ?_
            refine WQ.q (oq_pick_f rfl rfl) rfl rfl rfl ?_
            refine WQ.nil (WE.then_normal (WC.sub (fr' := [(0, _), (3, _), (86, _)]) ?_ ⟨rfl, rfl, rfl, trivial⟩))
            refine WC.cond_f rfl ?_
            refine WC.skip (WE.block_normal (WE.then_normal (WC.sub (fr' := [(0, _), (3, _)]) ?_ ⟨rfl, rfl, trivial⟩)))
            refine WC.region ?_
            refine WL.q (oq_move rfl) rfl rfl rfl ?_
            refine WL.q (oq_add rfl rfl (by rw [i64_lo, i64_hi]; (first | omega | (simp only [List.length_cons, List.length_nil, List.length_append, List.length_drop, List.length_take]; omega)))) rfl rfl rfl ?_
            refine WL.q (oq_assign rfl) rfl rfl rfl ?_
            refine WL.nil ?_
            refine WE.lose ho4 ?_
            refine WE.again (i + 1) ?_ ?_ ⟨rfl, rfl, trivial⟩ (List.Perm.refl _)
            ·try dsimp only
             exact ⟨by omega, all_snoc (by omega) hall (decide_eq_true (by unfold fineV; omega))⟩
            ·(try dsimp only); omega
         ·
          try simp only [Z1, Z2, Z3, Z4, Z5, Z6, Z7, Z8, Z9, Z0] at s6_46
          refine WQ.skip rfl rfl rfl ?_
          refine WQ.skip rfl rfl rfl ?_
          refine WQ.skip rfl rfl rfl ?_
          refine WQ.skip rfl rfl rfl ?_
          refine WQ.q (oq_pick_f rfl rfl) rfl rfl rfl ?_
          refine WQ.q (oq_pick_f rfl rfl) rfl rfl rfl ?_
          refine WQ.q (oq_move rfl) rfl rfl rfl ?_
          refine WQ.q (oq_fieldAddr fld24_0 rfl) rfl rfl rfl ?_
          refine WQ.q (oq_load flat3 rfl (.head _) (List.mem_singleton.2 rfl) rfl) rfl rfl rfl ?_
          refine WQ.q (oq_eql rfl rfl) rfl rfl rfl ?_
          refine WQ.q (oq_move rfl) rfl rfl rfl ?_
          refine WQ.split 76 rfl (fun s6_57 => ?_) (fun s6_57 => ?_)
          ·
           try simp only [Z1, Z2, Z3, Z4, Z5, Z6, Z7, Z8, Z9, Z0] at s6_57
           refine WQ.q (oq_fieldAddr fld24_2 rfl) rfl rfl rfl ?_
           refine WQ.q (oq_load flat2 rfl (.head _) (List.mem_singleton.2 rfl) rfl) rfl rfl rfl ?_
           refine WQ.q (oq_gtr rfl rfl) rfl rfl rfl ?_
           refine WQ.q (oq_move rfl) rfl rfl rfl ?_
           refine WQ.split 80 rfl (fun s6_61 => ?_) (fun s6_61 => ?_)
           ·
            try simp only [Z1, Z2, Z3, Z4, Z5, Z6, Z7, Z8, Z9, Z0] at s6_61
            refine WQ.skip rfl rfl rfl ?_
            refine WQ.skip rfl rfl rfl ?_
            refine WQ.skip rfl rfl rfl ?_
            refine WQ.q (oq_pick_t rfl rfl) rfl rfl rfl ?_
            refine WQ.q (oq_pick_t rfl rfl) rfl rfl rfl ?_
            refine WQ.q (oq_pick_f rfl rfl) rfl rfl rfl ?_
            refine WQ.nil (WE.then_normal (WC.sub (fr' := [(0, _), (3, _), (86, _)]) ?_ ⟨rfl, rfl, rfl, trivial⟩))
            refine WC.cond_t rfl ?_
            refine WC.seq (WC.region ?_)
            refine WL.q (oq_assign rfl) rfl rfl rfl ?_
            refine WL.nil (WE.then_normal (WC.sub (fr' := [(2, _)]) ?_ ⟨rfl, trivial⟩))
            refine WC.ret (WE.block_ret (WE.then_ret (WE.then_ret (WE.block_ret (WE.then_ret ?_)))))
            refine WE.lose ho4 ?_
            refine WE.endR (.inl rfl) (res1 Tryz.results12 rfl) ?_
            exact congrArg Value.bool (all_not hlt (decide_eq_false (by unfold fineV; omega))).symm
           ·
            try simp only [Z1, Z2, Z3, Z4, Z5, Z6, Z7, Z8, Z9, Z0] at s6_61
            refine WQ.q (oq_fieldAddr fld24_2 rfl) rfl rfl rfl ?_
            refine WQ.q (oq_load flat2 rfl (.head _) (List.mem_singleton.2 rfl) rfl) rfl rfl rfl ?_
            refine WQ.q (oq_lss rfl rfl) rfl rfl rfl ?_
            refine WQ.q (oq_pick_f rfl rfl) rfl rfl rfl ?_
            refine WQ.q (oq_pick_t rfl rfl) rfl rfl rfl ?_
            refine WQ.q (oq_pick_f rfl rfl) rfl rfl rfl ?_
            refine WQ.nil (WE.then_normal (WC.sub (fr' := [(0, _), (3, _), (86, _)]) ?_ ⟨rfl, rfl, rfl, trivial⟩))
            refine WC.cond rfl (fun q6 => ?_) (fun q6 => ?_)
            ·
             try simp only [Z1, Z2, Z3, Z4, Z5, Z6, Z7, Z8, Z9, Z0] at q6
             refine WC.seq (WC.region ?_)
             refine WL.q (oq_assign rfl) rfl rfl rfl ?_
             refine WL.nil (WE.then_normal (WC.sub (fr' := [(2, _)]) ?_ ⟨rfl, trivial⟩))
             refine WC.ret (WE.block_ret (WE.then_ret (WE.then_ret (WE.block_ret (WE.then_ret ?_)))))
             refine WE.lose ho4 ?_
             refine WE.endR (.inl rfl) (res1 Tryz.results12 rfl) ?_
             exact congrArg Value.bool (all_not hlt (decide_eq_false (by unfold fineV; omega))).symm
            ·
             try simp only [Z1, Z2, Z3, Z4, Z5, Z6, Z7, Z8, Z9, Z0] at q6
             refine WC.skip (WE.block_normal (WE.then_normal (WC.sub (fr' := [(0, _), (3, _)]) ?_ ⟨rfl, rfl, trivial⟩)))
             refine WC.region ?_
             refine WL.q (oq_move rfl) rfl rfl rfl ?_
             refine WL.q (oq_add rfl rfl (by rw [i64_lo, i64_hi]; (first | omega | (simp only [List.length_cons, List.length_nil, List.length_append, List.length_drop, List.length_take]; omega)))) rfl rfl rfl ?_
             refine WL.q (oq_assign rfl) rfl rfl rfl ?_
             refine WL.nil ?_
             refine WE.lose ho4 ?_
             refine WE.again (i + 1) ?_ ?_ ⟨rfl, rfl, trivial⟩ (List.Perm.refl _)
             ·try dsimp only
              exact ⟨by omega, all_snoc (by omega) hall (decide_eq_true (by unfold fineV; omega))⟩
             ·(try dsimp only); omega
          ·
           try simp only [Z1, Z2, Z3, Z4, Z5, Z6, Z7, Z8, Z9, Z0] at s6_57
           refine WQ.skip rfl rfl rfl ?_
           refine WQ.skip rfl rfl rfl ?_
           refine WQ.skip rfl rfl rfl ?_
           refine WQ.skip rfl rfl rfl ?_
           refine WQ.skip rfl rfl rfl ?_
           refine WQ.skip rfl rfl rfl ?_
           refine WQ.skip rfl rfl rfl ?_
           refine WQ.skip rfl rfl rfl ?_
           refine WQ.q (oq_pick_f rfl rfl) rfl rfl rfl ?_
           refine WQ.q (oq_pick_f rfl rfl) rfl rfl rfl ?_
           refine WQ.nil (WE.then_normal (WC.sub (fr' := [(0, _), (3, _), (86, _)]) ?_ ⟨rfl, rfl, rfl, trivial⟩))
           refine WC.cond_f rfl ?_
           refine WC.skip (WE.block_normal (WE.then_normal (WC.sub (fr' := [(0, _), (3, _)]) ?_ ⟨rfl, rfl, trivial⟩)))
           refine WC.region ?_
           refine WL.q (oq_move rfl) rfl rfl rfl ?_
           refine WL.q (oq_add rfl rfl (by rw [i64_lo, i64_hi]; (first | omega | (simp only [List.length_cons, List.length_nil, List.length_append, List.length_drop, List.length_take]; omega)))) rfl rfl rfl ?_
           refine WL.q (oq_assign rfl) rfl rfl rfl ?_
           refine WL.nil ?_
           refine WE.lose ho4 ?_
           refine WE.again (i + 1) ?_ ?_ ⟨rfl, rfl, trivial⟩ (List.Perm.refl _)
           ·try dsimp only
            exact ⟨by omega, all_snoc (by omega) hall (decide_eq_true (by unfold fineV; omega))⟩
           ·(try dsimp only); omega
      ·
       try simp only [Z1, Z2, Z3, Z4, Z5, Z6, Z7, Z8, Z9, Z0] at s6_15
       refine WQ.skip rfl rfl rfl ?_
       refine WQ.skip rfl rfl rfl ?_
       refine WQ.q (oq_pick_f rfl rfl) rfl rfl rfl ?_
       refine WQ.q (oq_move rfl) rfl rfl rfl ?_
       refine WQ.skip rfl rfl rfl ?_
       refine WQ.skip rfl rfl rfl ?_
       refine WQ.q (oq_pick_f rfl rfl) rfl rfl rfl ?_
       refine WQ.q (oq_move rfl) rfl rfl rfl ?_
       refine WQ.skip rfl rfl rfl ?_
       refine WQ.skip rfl rfl rfl ?_
       refine WQ.q (oq_pick_f rfl rfl) rfl rfl rfl ?_
       refine WQ.q (oq_move rfl) rfl rfl rfl ?_
       refine WQ.q (oq_fieldAddr fld24_2 rfl) rfl rfl rfl ?_
       refine WQ.q (oq_load flat2 rfl (.head _) (List.mem_singleton.2 rfl) rfl) rfl rfl rfl ?_
       refine WQ.q (oq_move rfl) rfl rfl rfl ?_
       refine WQ.q (oq_sub rfl rfl (by rw [i64_lo, i64_hi]; (first | omega | (simp only [List.length_cons, List.length_nil, List.length_append, List.length_drop, List.length_take]; omega)))) rfl rfl rfl ?_
       refine WQ.q (oq_shl rfl rfl (by omega)) rfl rfl rfl ?_
       refine WQ.q (oq_move rfl) rfl rfl rfl ?_
       refine WQ.q (oq_sub rfl rfl (by rw [i64_lo, i64_hi]; (first | omega | (simp only [List.length_cons, List.length_nil, List.length_append, List.length_drop, List.length_take]; omega)))) rfl rfl rfl ?_
       refine WQ.q (oq_shr rfl rfl (by omega)) rfl rfl rfl ?_
       refine WQ.q (oq_fieldAddr fld24_2 rfl) rfl rfl rfl ?_
       refine WQ.q (oq_load flat2 rfl (.head _) (List.mem_singleton.2 rfl) rfl) rfl rfl rfl ?_
       refine WQ.q (oq_neq rfl rfl) rfl rfl rfl ?_
       refine WQ.q (oq_pick_f rfl rfl) rfl rfl rfl ?_
       refine WQ.q (oq_pick_t rfl rfl) rfl rfl rfl ?_
       refine WQ.q (oq_pick_f rfl rfl) rfl rfl rfl ?_
       refine WQ.q (oq_move rfl) rfl rfl rfl ?_
       refine WQ.split 61 rfl (fun s6_42 => ?_) (fun s6_42 => ?_)
       ·
        try simp only [Z1, Z2, Z3, Z4, Z5, Z6, Z7, Z8, Z9, Z0] at s6_42
        refine WQ.skip rfl rfl rfl ?_
        refine WQ.skip rfl rfl rfl ?_
        refine WQ.skip rfl rfl rfl ?_
        refine WQ.skip rfl rfl rfl ?_
        refine WQ.skip rfl rfl rfl ?_
        refine WQ.skip rfl rfl rfl ?_
        refine WQ.skip rfl rfl rfl ?_
        refine WQ.skip rfl rfl rfl ?_
        refine WQ.skip rfl rfl rfl ?_
        refine WQ.q (oq_pick_t rfl rfl) rfl rfl rfl ?_
        refine WQ.q (oq_move rfl) rfl rfl rfl ?_
        refine WQ.skip rfl rfl rfl ?_
        refine WQ.skip rfl rfl rfl ?_
        refine WQ.skip rfl rfl rfl ?_
        refine WQ.skip rfl rfl rfl ?_
        refine WQ.skip rfl rfl rfl ?_
        refine WQ.skip rfl rfl rfl ?_
        refine WQ.skip rfl rfl rfl ?_
        refine WQ.skip rfl rfl rfl ?_
        refine WQ.skip rfl rfl rfl ?_
        refine WQ.skip rfl rfl rfl ?_
        refine WQ.skip rfl rfl rfl ?_
        refine WQ.skip rfl rfl rfl ?_
        refine WQ.skip rfl rfl rfl ?_
        refine WQ.q (oq_pick_t rfl rfl) rfl rfl rfl ?_
        refine WQ.nil (WE.then_normal (WC.sub (fr' := [(0, _), (3, _), (86, _)]) ?_ ⟨rfl, rfl, rfl, trivial⟩))
        refine WC.cond_t rfl ?_
        refine WC.seq (WC.region ?_)
        refine WL.q (oq_assign rfl) rfl rfl rfl ?_
        refine WL.nil (WE.then_normal (WC.sub (fr' := [(2, _)]) ?_ ⟨rfl, trivial⟩))
        refine WC.ret (WE.block_ret (WE.then_ret (WE.then_ret (WE.block_ret (WE.then_ret ?_)))))
        refine WE.lose ho4 ?_
        refine WE.endR (.inl rfl) (res1 Tryz.results12 rfl) ?_
        exact congrArg Value.bool (all_not hlt (decide_eq_false (by unfold fineV; omega))).symm
       ·
        try simp only [Z1, Z2, Z3, Z4, Z5, Z6, Z7, Z8, Z9, Z0] at s6_42
        refine WQ.q (oq_fieldAddr fld24_0 rfl) rfl rfl rfl ?_
        refine WQ.q (oq_load flat3 rfl (.head _) (List.mem_singleton.2 rfl) rfl) rfl rfl rfl ?_
        refine WQ.q (oq_eql rfl rfl) rfl rfl rfl ?_
        refine WQ.q (oq_move rfl) rfl rfl rfl ?_
        refine WQ.split 65 rfl (fun s6_46 => ?_) (fun s6_46 => ?_)
        ·
         try simp only [Z1, Z2, Z3, Z4, Z5, Z6, Z7, Z8, Z9, Z0] at s6_46
         refine WQ.q (oq_fieldAddr fld24_3 rfl) rfl rfl rfl ?_
         refine WQ.q (oq_load flat9 rfl (.head _) (List.mem_singleton.2 rfl) rfl) rfl rfl rfl ?_
         refine WQ.q (oq_len_s Tryz.underlying9 rfl) rfl rfl rfl ?_
         refine WQ.q (oq_neq rfl rfl) rfl rfl rfl ?_
         refine WQ.q (oq_pick_t rfl rfl) rfl rfl rfl ?_
         refine WQ.q (oq_pick_f rfl rfl) rfl rfl rfl ?_
         refine WQ.q (oq_move rfl) rfl rfl rfl ?_
         refine WQ.split 72 rfl (fun s6_53 => ?_) (fun s6_53 => ?_)
         ·
          try simp only [Z1, Z2, Z3, Z4, Z5, Z6, Z7, Z8, Z9, Z0] at s6_53
          refine WQ.skip rfl rfl rfl ?_
          refine WQ.skip rfl rfl rfl ?_
          refine WQ.skip rfl rfl rfl ?_
          refine WQ.skip rfl rfl rfl ?_
          refine WQ.skip rfl rfl rfl ?_
          refine WQ.skip rfl rfl rfl ?_
          refine WQ.skip rfl rfl rfl ?_
          refine WQ.skip rfl rfl rfl ?_
          refine WQ.skip rfl rfl rfl ?_
          refine WQ.skip rfl rfl rfl ?_
          refine WQ.skip rfl rfl rfl ?_
          refine WQ.skip rfl rfl rfl ?_
          refine WQ.skip rfl rfl rfl ?_
          refine WQ.q (oq_pick_t rfl rfl) rfl rfl rfl ?_
          refine WQ.nil (WE.then_normal (WC.sub (fr' := [(0, _), (3, _), (86, _)]) ?_ ⟨rfl, rfl, rfl, trivial⟩))
          refine WC.cond_t rfl ?_
          refine WC.seq (WC.region ?_)
          refine WL.q (oq_assign rfl) rfl rfl rfl ?_
          refine WL.nil (WE.then_normal (WC.sub (fr' := [(2, _)]) ?_ ⟨rfl, trivial⟩))
          refine WC.ret (WE.block_ret (WE.then_ret (WE.then_ret (WE.block_ret (WE.then_ret ?_)))))
          refine WE.lose ho4 ?_
          refine WE.endR (.inl rfl) (res1 Tryz.results12 rfl) ?_
          exact congrArg Value.bool (all_not hlt (decide_eq_false (by unfold fineV; omega))).symm
         ·
          try simp only [Z1, Z2, Z3, Z4, Z5, Z6, Z7, Z8, Z9, Z0] at s6_53
          refine WQ.q (oq_fieldAddr fld24_0 rfl) rfl rfl rfl ?_
          refine WQ.q (oq_load flat3 rfl (.head _) (List.mem_singleton.2 rfl) rfl) rfl rfl rfl ?_
          refine WQ.q (oq_eql rfl rfl) rfl rfl rfl ?_
          refine WQ.q (oq_move rfl) rfl rfl rfl ?_
          refine WQ.split 76 rfl (fun s6_57 => ?_) (fun s6_57 => ?_)
          ·
           try simp only [Z1, Z2, Z3, Z4, Z5, Z6, Z7, Z8, Z9, Z0] at s6_57
           refine WQ.q (oq_fieldAddr fld24_2 rfl) rfl rfl rfl ?_
           refine WQ.q (oq_load flat2 rfl (.head _) (List.mem_singleton.2 rfl) rfl) rfl rfl rfl ?_
           refine WQ.q (oq_gtr rfl rfl) rfl rfl rfl ?_
           refine WQ.q (oq_move rfl) rfl rfl rfl ?_
           refine WQ.split 80 rfl (fun s6_61 => ?_) (fun s6_61 => ?_)
           ·
            try simp only [Z1, Z2, Z3, Z4, Z5, Z6, Z7, Z8, Z9, Z0] at s6_61
            refine WQ.skip rfl rfl rfl ?_
            refine WQ.skip rfl rfl rfl ?_
            refine WQ.skip rfl rfl rfl ?_
            refine WQ.q (oq_pick_t rfl rfl) rfl rfl rfl ?_
            refine WQ.q (oq_pick_t rfl rfl) rfl rfl rfl ?_
            refine WQ.q (oq_pick_f rfl rfl) rfl rfl rfl ?_
            refine WQ.nil (WE.then_normal (WC.sub (fr' := [(0, _), (3, _), (86, _)]) ?_ ⟨rfl, rfl, rfl, trivial⟩))
            refine WC.cond_t rfl ?_
            refine WC.seq (WC.region ?_)
            refine WL.q (oq_assign rfl) rfl rfl rfl ?_
            refine WL.nil (WE.then_normal (WC.sub (fr' := [(2, _)]) ?_ ⟨rfl, trivial⟩))
            refine WC.ret (WE.block_ret (WE.then_ret (WE.then_ret (WE.block_ret (WE.then_ret ?_)))))
            refine WE.lose ho4 ?_
            refine WE.endR (.inl rfl) (res1 Tryz.results12 rfl) ?_
            exact congrArg Value.bool (all_not hlt (decide_eq_false (by unfold fineV; omega))).symm
           ·
            try simp only [Z1, Z2, Z3, Z4, Z5, Z6, Z7, Z8, Z9, Z0] at s6_61
            refine WQ.q (oq_fieldAddr fld24_2 rfl) rfl rfl rfl ?_
            refine WQ.q (oq_load flat2 rfl (.head _) (List.mem_singleton.2 rfl) rfl) rfl rfl rfl ?_
            refine WQ.q (oq_lss rfl rfl) rfl rfl rfl ?_
            refine WQ.q (oq_pick_f rfl rfl) rfl rfl rfl ?_
            refine WQ.q (oq_pick_t rfl rfl) rfl rfl rfl ?_
            refine WQ.q (oq_pick_f rfl rfl) rfl rfl rfl ?_
            refine WQ.nil (WE.then_normal (WC.sub (fr' := [(0, _), (3, _), (86, _)]) ?_ ⟨rfl, rfl, rfl, trivial⟩))
            refine WC.cond rfl (fun q6 => ?_) (fun q6 => ?_)
            ·
             try simp only [Z1, Z2, Z3, Z4, Z5, Z6, Z7, Z8, Z9, Z0] at q6
             refine WC.seq (WC.region ?_)
             refine WL.q (oq_assign rfl) rfl rfl rfl ?_
             refine WL.nil (WE.then_normal (WC.sub (fr' := [(2, _)]) ?_ ⟨rfl, trivial⟩))
             refine WC.ret (WE.block_ret (WE.then_ret (WE.then_ret (WE.block_ret (WE.then_ret ?_)))))
             refine WE.lose ho4 ?_
             refine WE.endR (.inl rfl) (res1 Tryz.results12 rfl) ?_
             exact congrArg Value.bool (all_not hlt (decide_eq_false (by unfold fineV; omega))).symm
            ·
             try simp only [Z1, Z2, Z3, Z4, Z5, Z6, Z7, Z8, Z9, Z0] at q6
             refine WC.skip (WE.block_normal (WE.then_normal (WC.sub (fr' := [(0, _), (3, _)]) ?_ ⟨rfl, rfl, trivial⟩)))
             refine WC.region ?_
             refine WL.q (oq_move rfl) rfl rfl rfl ?_
             refine WL.q (oq_add rfl rfl (by rw [i64_lo, i64_hi]; (first | omega | (simp only [List.length_cons, List.length_nil, List.length_append, List.length_drop, List.length_take]; omega)))) rfl rfl rfl ?_
             refine WL.q (oq_assign rfl) rfl rfl rfl ?_
             refine WL.nil ?_
             refine WE.lose ho4 ?_
             refine WE.again (i + 1) ?_ ?_ ⟨rfl, rfl, trivial⟩ (List.Perm.refl _)
             ·try dsimp only
              exact ⟨by omega, all_snoc (by omega) hall (decide_eq_true (by unfold fineV; omega))⟩
             ·(try dsimp only); omega
          ·
           try simp only [Z1, Z2, Z3, Z4, Z5, Z6, Z7, Z8, Z9, Z0] at s6_57
           refine WQ.skip rfl rfl rfl ?_
           refine WQ.skip rfl rfl rfl ?_
           refine WQ.skip rfl rfl rfl ?_
           refine WQ.skip rfl rfl rfl ?_
           refine WQ.skip rfl rfl rfl ?_
           refine WQ.skip rfl rfl rfl ?_
           refine WQ.skip rfl rfl rfl ?_
           refine WQ.skip rfl rfl rfl ?_
           refine WQ.q (oq_pick_f rfl rfl) rfl rfl rfl ?_
           refine WQ.q (oq_pick_f rfl rfl) rfl rfl rfl ?_
           refine WQ.nil (WE.then_normal (WC.sub (fr' := [(0, _), (3, _), (86, _)]) ?_ ⟨rfl, rfl, rfl, trivial⟩))
           refine WC.cond_f rfl ?_
           refine WC.skip (WE.block_normal (WE.then_normal (WC.sub (fr' := [(0, _), (3, _)]) ?_ ⟨rfl, rfl, trivial⟩)))
           refine WC.region ?_
           refine WL.q (oq_move rfl) rfl rfl rfl ?_
           refine WL.q (oq_add rfl rfl (by rw [i64_lo, i64_hi]; (first | omega | (simp only [List.length_cons, List.length_nil, List.length_append, List.length_drop, List.length_take]; omega)))) rfl rfl rfl ?_
           refine WL.q (oq_assign rfl) rfl rfl rfl ?_
           refine WL.nil ?_
           refine WE.lose ho4 ?_
           refine WE.again (i + 1) ?_ ?_ ⟨rfl, rfl, trivial⟩ (List.Perm.refl _)
           ·try dsimp only
            exact ⟨by omega, all_snoc (by omega) hall (decide_eq_true (by unfold fineV; omega))⟩
           ·(try dsimp only); omega
        ·
         try simp only [Z1, Z2, Z3, Z4, Z5, Z6, Z7, Z8, Z9, Z0] at s6_46
         refine WQ.skip rfl rfl rfl ?_
         refine WQ.skip rfl rfl rfl ?_
         refine WQ.skip rfl rfl rfl ?_
         refine WQ.skip rfl rfl rfl ?_
         refine WQ.q (oq_pick_f rfl rfl) rfl rfl rfl ?_
         refine WQ.q (oq_pick_f rfl rfl) rfl rfl rfl ?_
         refine WQ.q (oq_move rfl) rfl rfl rfl ?_
         refine WQ.q (oq_fieldAddr fld24_0 rfl) rfl rfl rfl ?_
         refine WQ.q (oq_load flat3 rfl (.head _) (List.mem_singleton.2 rfl) rfl) rfl rfl rfl ?_
         refine WQ.q (oq_eql rfl rfl) rfl rfl rfl ?_
         refine WQ.q (oq_move rfl) rfl rfl rfl ?_
         refine WQ.split 76 rfl (fun s6_57 => ?_) (fun s6_57 => ?_)
         ·
          try simp only [Z1, Z2, Z3, Z4, Z5, Z6, Z7, Z8, Z9, Z0] at s6_57
          refine WQ.q (oq_fieldAddr fld24_2 rfl) rfl rfl rfl ?_
          refine WQ.q (oq_load flat2 rfl (.head _) (List.mem_singleton.2 rfl) rfl) rfl rfl rfl ?_
          refine WQ.q (oq_gtr rfl rfl) rfl rfl rfl ?_
          refine WQ.q (oq_move rfl) rfl rfl rfl ?_
          refine WQ.split 80 rfl (fun s6_61 => ?_) (fun s6_61 => ?_)
          ·
           try simp only [Z1, Z2, Z3, Z4, Z5, Z6, Z7, Z8, Z9, Z0] at s6_61
           refine WQ.skip rfl rfl rfl ?_
           refine WQ.skip rfl rfl rfl ?_
           refine WQ.skip rfl rfl rfl ?_
           refine WQ.q (oq_pick_t rfl rfl) rfl rfl rfl ?_
           refine WQ.q (oq_pick_t rfl rfl) rfl rfl rfl ?_
           refine WQ.q (oq_pick_f rfl rfl) rfl rfl rfl ?_
           refine WQ.nil (WE.then_normal (WC.sub (fr' := [(0, _), (3, _), (86, _)]) ?_ ⟨rfl, rfl, rfl, trivial⟩))
           refine WC.cond_t rfl ?_
           refine WC.seq (WC.region ?_)
           refine WL.q (oq_assign rfl) rfl rfl rfl ?_
           refine WL.nil (WE.then_normal (WC.sub (fr' := [(2, _)]) ?_ ⟨rfl, trivial⟩))
           refine WC.ret (WE.block_ret (WE.then_ret (WE.then_ret (WE.block_ret (WE.then_ret ?_)))))
           refine WE.lose ho4 ?_
           refine WE.endR (.inl rfl) (res1 Tryz.results12 rfl) ?_
           exact congrArg Value.bool (all_not hlt (decide_eq_false (by unfold fineV; omega))).symm
          ·
           try simp only [Z1, Z2, Z3, Z4, Z5, Z6, Z7, Z8, Z9, Z0] at s6_61
           refine WQ.q (oq_fieldAddr fld24_2 rfl) rfl rfl rfl ?_
           refine WQ.q (oq_load flat2 rfl (.head _) (List.mem_singleton.2 rfl) rfl) rfl rfl rfl ?_
           refine WQ.q (oq_lss rfl rfl) rfl rfl rfl ?_
           refine WQ.q (oq_pick_f rfl rfl) rfl rfl rfl ?_
           refine WQ.q (oq_pick_t rfl rfl) rfl rfl rfl ?_
           refine WQ.q (oq_pick_f rfl rfl) rfl rfl rfl ?_
           refine WQ.nil (WE.then_normal (WC.sub (fr' := [(0, _), (3, _), (86, _)]) ?_ ⟨rfl, rfl, rfl, trivial⟩))
           refine WC.cond rfl (fun q6 => ?_) (fun q6 => ?_)
           ·
            try simp only [Z1, Z2, Z3, Z4, Z5, Z6, Z7, Z8, Z9, Z0] at q6
            refine WC.seq (WC.region ?_)
            refine WL.q (oq_assign rfl) rfl rfl rfl ?_
            refine WL.nil (WE.then_normal (WC.sub (fr' := [(2, _)]) ?_ ⟨rfl, trivial⟩))
            refine WC.ret (WE.block_ret (WE.then_ret (WE.then_ret (WE.block_ret (WE.then_ret ?_)))))
            refine WE.lose ho4 ?_
            refine WE.endR (.inl rfl) (res1 Tryz.results12 rfl) ?_
            exact congrArg Value.bool (all_not hlt (decide_eq_false (by unfold fineV; omega))).symm
           ·
            try simp only [Z1, Z2, Z3, Z4, Z5, Z6, Z7, Z8, Z9, Z0] at q6
            refine WC.skip (WE.block_normal (WE.then_normal (WC.sub (fr' := [(0, _), (3, _)]) ?_ ⟨rfl, rfl, trivial⟩)))
            refine WC.region ?_
            refine WL.q (oq_move rfl) rfl rfl rfl ?_
            refine WL.q (oq_add rfl rfl (by rw [i64_lo, i64_hi]; (first | omega | (simp only [List.length_cons, List.length_nil, List.length_append, List.length_drop, List.length_take]; omega)))) rfl rfl rfl ?_
            refine WL.q (oq_assign rfl) rfl rfl rfl ?_
            refine WL.nil ?_
            refine WE.lose ho4 ?_
            refine WE.again (i + 1) ?_ ?_ ⟨rfl, rfl, trivial⟩ (List.Perm.refl _)
            ·try dsimp only
             exact ⟨by omega, all_snoc (by omega) hall (decide_eq_true (by unfold fineV; omega))⟩
            ·(try dsimp only); omega
         ·
          try simp only [Z1, Z2, Z3, Z4, Z5, Z6, Z7, Z8, Z9, Z0] at s6_57
          refine WQ.skip rfl rfl rfl ?_
          refine WQ.skip rfl rfl rfl ?_
          refine WQ.skip rfl rfl rfl ?_
          refine WQ.skip rfl rfl rfl ?_
          refine WQ.skip rfl rfl rfl ?_
          refine WQ.skip rfl rfl rfl ?_
          refine WQ.skip rfl rfl rfl ?_
          refine WQ.skip rfl rfl rfl ?_
          refine WQ.q (oq_pick_f rfl rfl) rfl rfl rfl ?_
          refine WQ.q (oq_pick_f rfl rfl) rfl rfl rfl ?_
          refine WQ.nil (WE.then_normal (WC.sub (fr' := [(0, _), (3, _), (86, _)]) ?_ ⟨rfl, rfl, rfl, trivial⟩))
          refine WC.cond_f rfl ?_
          refine WC.skip (WE.block_normal (WE.then_normal (WC.sub (fr' := [(0, _), (3, _)]) ?_ ⟨rfl, rfl, trivial⟩)))
          refine WC.region ?_
          refine WL.q (oq_move rfl) rfl rfl rfl ?_
          refine WL.q (oq_add rfl rfl (by rw [i64_lo, i64_hi]; (first | omega | (simp only [List.length_cons, List.length_nil, List.length_append, List.length_drop, List.length_take]; omega)))) rfl rfl rfl ?_
          refine WL.q (oq_assign rfl) rfl rfl rfl ?_
          refine WL.nil ?_
          refine WE.lose ho4 ?_
          refine WE.again (i + 1) ?_ ?_ ⟨rfl, rfl, trivial⟩ (List.Perm.refl _)
          ·try dsimp only
           exact ⟨by omega, all_snoc (by omega) hall (decide_eq_true (by unfold fineV; omega))⟩
          ·(try dsimp only); omega
     ·
      try simp only [Z1, Z2, Z3, Z4, Z5, Z6, Z7, Z8, Z9, Z0] at s6_12
      refine WQ.skip rfl rfl rfl ?_
      refine WQ.skip rfl rfl rfl ?_
      refine WQ.skip rfl rfl rfl ?_
      refine WQ.skip rfl rfl rfl ?_
      refine WQ.skip rfl rfl rfl ?_
      refine WQ.skip rfl rfl rfl ?_
      refine WQ.skip rfl rfl rfl ?_
      refine WQ.skip rfl rfl rfl ?_
      refine WQ.skip rfl rfl rfl ?_
      refine WQ.skip rfl rfl rfl ?_
      refine WQ.skip rfl rfl rfl ?_
      refine WQ.skip rfl rfl rfl ?_
      refine WQ.skip rfl rfl rfl ?_
      refine WQ.skip rfl rfl rfl ?_
      refine WQ.skip rfl rfl rfl ?_
      refine WQ.skip rfl rfl rfl ?_
      refine WQ.skip rfl rfl rfl ?_
      refine WQ.skip rfl rfl rfl ?_
      refine WQ.skip rfl rfl rfl ?_
      refine WQ.skip rfl rfl rfl ?_
      refine WQ.skip rfl rfl rfl ?_
      refine WQ.skip rfl rfl rfl ?_
      refine WQ.skip rfl rfl rfl ?_
      refine WQ.skip rfl rfl rfl ?_
      refine WQ.skip rfl rfl rfl ?_
      refine WQ.skip rfl rfl rfl ?_
      refine WQ.skip rfl rfl rfl ?_
      refine WQ.q (oq_pick_f rfl rfl) rfl rfl rfl ?_
      refine WQ.q (oq_pick_f rfl rfl) rfl rfl rfl ?_
      refine WQ.q (oq_move rfl) rfl rfl rfl ?_
      refine WQ.q (oq_fieldAddr fld24_0 rfl) rfl rfl rfl ?_
      refine WQ.q (oq_load flat3 rfl (.head _) (List.mem_singleton.2 rfl) rfl) rfl rfl rfl ?_
      refine WQ.q (oq_eql rfl rfl) rfl rfl rfl ?_
      refine WQ.q (oq_move rfl) rfl rfl rfl ?_
      refine WQ.split 65 rfl (fun s6_46 => ?_) (fun s6_46 => ?_)
      ·
       try simp only [Z1, Z2, Z3, Z4, Z5, Z6, Z7, Z8, Z9, Z0] at s6_46
       refine WQ.q (oq_fieldAddr fld24_3 rfl) rfl rfl rfl ?_
       refine WQ.q (oq_load flat9 rfl (.head _) (List.mem_singleton.2 rfl) rfl) rfl rfl rfl ?_
       refine WQ.q (oq_len_s Tryz.underlying9 rfl) rfl rfl rfl ?_
       refine WQ.q (oq_neq rfl rfl) rfl rfl rfl ?_
       refine WQ.q (oq_pick_t rfl rfl) rfl rfl rfl ?_
       refine WQ.q (oq_pick_f rfl rfl) rfl rfl rfl ?_
       refine WQ.q (oq_move rfl) rfl rfl rfl ?_
       refine WQ.split 72 rfl (fun s6_53 => ?_) (fun s6_53 => ?_)
       ·
        try simp only [Z1, Z2, Z3, Z4, Z5, Z6, Z7, Z8, Z9, Z0] at s6_53
        refine WQ.skip rfl rfl rfl ?_
        refine WQ.skip rfl rfl rfl ?_
        refine WQ.skip rfl rfl rfl ?_
        refine WQ.skip rfl rfl rfl ?_
        refine WQ.skip rfl rfl rfl ?_
        refine WQ.skip rfl rfl rfl ?_
        refine WQ.skip rfl rfl rfl ?_
        refine WQ.skip rfl rfl rfl ?_
        refine WQ.skip rfl rfl rfl ?_
        refine WQ.skip rfl rfl rfl ?_
        refine WQ.skip rfl rfl rfl ?_
        refine WQ.skip rfl rfl rfl ?_
        refine WQ.skip rfl rfl rfl ?_
        refine WQ.q (oq_pick_t rfl rfl) rfl rfl rfl ?_
        refine WQ.nil (WE.then_normal (WC.sub (fr' := [(0, _), (3, _), (86, _)]) ?_ ⟨rfl, rfl, rfl, trivial⟩))
        refine WC.cond_t rfl ?_
        refine WC.seq (WC.region ?_)
        refine WL.q (oq_assign rfl) rfl rfl rfl ?_
        refine WL.nil (WE.then_normal (WC.sub (fr' := [(2, _)]) ?_ ⟨rfl, trivial⟩))
        refine WC.ret (WE.block_ret (WE.then_ret (WE.then_ret (WE.block_ret (WE.then_ret ?_)))))
        refine WE.lose ho4 ?_
        refine WE.endR (.inl rfl) (res1 Tryz.results12 rfl) ?_
        exact congrArg Value.bool (all_not hlt (decide_eq_false (by unfold fineV; omega))).symm
       ·
        try simp only [Z1, Z2, Z3, Z4, Z5, Z6, Z7, Z8, Z9, Z0] at s6_53
        refine WQ.q (oq_fieldAddr fld24_0 rfl) rfl rfl rfl ?_
        refine WQ.q (oq_load flat3 rfl (.head _) (List.mem_singleton.2 rfl) rfl) rfl rfl rfl ?_
        refine WQ.q (oq_eql rfl rfl) rfl rfl rfl ?_
        refine WQ.q (oq_move rfl) rfl rfl rfl ?_
        refine WQ.split 76 rfl (fun s6_57 => ?_) (fun s6_57 => ?_)
        ·
         try simp only [Z1, Z2, Z3, Z4, Z5, Z6, Z7, Z8, Z9, Z0] at s6_57
         refine WQ.q (oq_fieldAddr fld24_2 rfl) rfl rfl rfl ?_
         refine WQ.q (oq_load flat2 rfl (.head _) (List.mem_singleton.2 rfl) rfl) rfl rfl rfl ?_
         refine WQ.q (oq_gtr rfl rfl) rfl rfl rfl ?_
         refine WQ.q (oq_move rfl) rfl rfl rfl ?_
         refine WQ.split 80 rfl (fun s6_61 => ?_) (fun s6_61 => ?_)
         ·
          try simp only [Z1, Z2, Z3, Z4, Z5, Z6, Z7, Z8, Z9, Z0] at s6_61
          refine WQ.skip rfl rfl rfl ?_
          refine WQ.skip rfl rfl rfl ?_
          refine WQ.skip rfl rfl rfl ?_
          refine WQ.q (oq_pick_t rfl rfl) rfl rfl rfl ?_
          refine WQ.q (oq_pick_t rfl rfl) rfl rfl rfl ?_
          refine WQ.q (oq_pick_f rfl rfl) rfl rfl rfl ?_
          refine WQ.nil (WE.then_normal (WC.sub (fr' := [(0, _), (3, _), (86, _)]) ?_ ⟨rfl, rfl, rfl, trivial⟩))
          refine WC.cond_t rfl ?_
          refine WC.seq (WC.region ?_)
          refine WL.q (oq_assign rfl) rfl rfl rfl ?_
          refine WL.nil (WE.then_normal (WC.sub (fr' := [(2, _)]) ?_ ⟨rfl, trivial⟩))
          refine WC.ret (WE.block_ret (WE.then_ret (WE.then_ret (WE.block_ret (WE.then_ret ?_)))))
          refine WE.lose ho4 ?_
          refine WE.endR (.inl rfl) (res1 Tryz.results12 rfl) ?_
          exact congrArg Value.bool (all_not hlt (decide_eq_false (by unfold fineV; omega))).symm
         ·
          try simp only [Z1, Z2, Z3, Z4, Z5, Z6, Z7, Z8, Z9, Z0] at s6_61
          refine WQ.q (oq_fieldAddr fld24_2 rfl) rfl rfl rfl ?_
          refine WQ.q (oq_load flat2 rfl (.head _) (List.mem_singleton.2 rfl) rfl) rfl rfl rfl ?_
          refine WQ.q (oq_lss rfl rfl) rfl rfl rfl ?_
          refine WQ.q (oq_pick_f rfl rfl) rfl rfl rfl ?_
          refine WQ.q (oq_pick_t rfl rfl) rfl rfl rfl ?_
          refine WQ.q (oq_pick_f rfl rfl) rfl rfl rfl ?_
          refine WQ.nil (WE.then_normal (WC.sub (fr' := [(0, _), (3, _), (86, _)]) ?_ ⟨rfl, rfl, rfl, trivial⟩))
          refine WC.cond rfl (fun q6 => ?_) (fun q6 => ?_)
          ·
           try simp only [Z1, Z2, Z3, Z4, Z5, Z6, Z7, Z8, Z9, Z0] at q6
           refine WC.seq (WC.region ?_)
           refine WL.q (oq_assign rfl) rfl rfl rfl ?_
           refine WL.nil (WE.then_normal (WC.sub (fr' := [(2, _)]) ?_ ⟨rfl, trivial⟩))
           refine WC.ret (WE.block_ret (WE.then_ret (WE.then_ret (WE.block_ret (WE.then_ret ?_)))))
           refine WE.lose ho4 ?_
           refine WE.endR (.inl rfl) (res1 Tryz.results12 rfl) ?_
           exact congrArg Value.bool (all_not hlt (decide_eq_false (by unfold fineV; omega))).symm
          ·
           try simp only [Z1, Z2, Z3, Z4, Z5, Z6, Z7, Z8, Z9, Z0] at q6
           refine WC.skip (WE.block_normal (WE.then_normal (WC.sub (fr' := [(0, _), (3, _)]) ?_ ⟨rfl, rfl, trivial⟩)))
           refine WC.region ?_
           refine WL.q (oq_move rfl) rfl rfl rfl ?_
           refine WL.q (oq_add rfl rfl (by rw [i64_lo, i64_hi]; (first | omega | (simp only [List.length_cons, List.length_nil, List.length_append, List.length_drop, List.length_take]; omega)))) rfl rfl rfl ?_
           refine WL.q (oq_assign rfl) rfl rfl rfl ?_
           refine WL.nil ?_
           refine WE.lose ho4 ?_
           refine WE.again (i + 1) ?_ ?_ ⟨rfl, rfl, trivial⟩ (List.Perm.refl _)
           ·try dsimp only
            exact ⟨by omega, all_snoc (by omega) hall (decide_eq_true (by unfold fineV; omega))⟩
           ·(try dsimp only); omega
        ·
         try simp only [Z1, Z2, Z3, Z4, Z5, Z6, Z7, Z8, Z9, Z0] at s6_57
         refine WQ.skip rfl rfl rfl ?_
         refine WQ.skip rfl rfl rfl ?_
         refine WQ.skip rfl rfl rfl ?_
         refine WQ.skip rfl rfl rfl ?_
         refine WQ.skip rfl rfl rfl ?_
         refine WQ.skip rfl rfl rfl ?_
         refine WQ.skip rfl rfl rfl ?_
         refine WQ.skip rfl rfl rfl ?_
         refine WQ.q (oq_pick_f rfl rfl) rfl rfl rfl ?_
         refine WQ.q (oq_pick_f rfl rfl) rfl rfl rfl ?_
         refine WQ.nil (WE.then_normal (WC.sub (fr' := [(0, _), (3, _), (86, _)]) ?_ ⟨rfl, rfl, rfl, trivial⟩))
         refine WC.cond_f rfl ?_
         refine WC.skip (WE.block_normal (WE.then_normal (WC.sub (fr' := [(0, _), (3, _)]) ?_ ⟨rfl, rfl, trivial⟩)))
         refine WC.region ?_
         refine WL.q (oq_move rfl) rfl rfl rfl ?_
         refine WL.q (oq_add rfl rfl (by rw [i64_lo, i64_hi]; (first | omega | (simp only [List.length_cons, List.length_nil, List.length_append, List.length_drop, List.length_take]; omega)))) rfl rfl rfl ?_
         refine WL.q (oq_assign rfl) rfl rfl rfl ?_
         refine WL.nil ?_
         refine WE.lose ho4 ?_
         refine WE.again (i + 1) ?_ ?_ ⟨rfl, rfl, trivial⟩ (List.Perm.refl _)
         ·try dsimp only
          exact ⟨by omega, all_snoc (by omega) hall (decide_eq_true (by unfold fineV; omega))⟩
         ·(try dsimp only); omega
      ·
       try simp only [Z1, Z2, Z3, Z4, Z5, Z6, Z7, Z8, Z9, Z0] at s6_46
       refine WQ.skip rfl rfl rfl ?_
       refine WQ.skip rfl rfl rfl ?_
       refine WQ.skip rfl rfl rfl ?_
       refine WQ.skip rfl rfl rfl ?_
       refine WQ.q (oq_pick_f rfl rfl) rfl rfl rfl ?_
       refine WQ.q (oq_pick_f rfl rfl) rfl rfl rfl ?_
       refine WQ.q (oq_move rfl) rfl rfl rfl ?_
       refine WQ.q (oq_fieldAddr fld24_0 rfl) rfl rfl rfl ?_
       refine WQ.q (oq_load flat3 rfl (.head _) (List.mem_singleton.2 rfl) rfl) rfl rfl rfl ?_
       refine WQ.q (oq_eql rfl rfl) rfl rfl rfl ?_
       refine WQ.q (oq_move rfl) rfl rfl rfl ?_
       refine WQ.split 76 rfl (fun s6_57 => ?_) (fun s6_57 => ?_)
       ·
        try simp only [Z1, Z2, Z3, Z4, Z5, Z6, Z7, Z8, Z9, Z0] at s6_57
        refine WQ.q (oq_fieldAddr fld24_2 rfl) rfl rfl rfl ?_
        refine WQ.q (oq_load flat2 rfl (.head _) (List.mem_singleton.2 rfl) rfl) rfl rfl rfl ?_
        refine WQ.q (oq_gtr rfl rfl) rfl rfl rfl ?_
        refine WQ.q (oq_move rfl) rfl rfl rfl ?_
        refine WQ.split 80 rfl (fun s6_61 => ?_) (fun s6_61 => ?_)
        ·
         try simp only [Z1, Z2, Z3, Z4, Z5, Z6, Z7, Z8, Z9, Z0] at s6_61
         refine WQ.skip rfl rfl rfl ?_
         refine WQ.skip rfl rfl rfl ?_
         refine WQ.skip rfl rfl rfl ?_
         refine WQ.q (oq_pick_t rfl rfl) rfl rfl rfl ?_
         refine WQ.q (oq_pick_t rfl rfl) rfl rfl rfl ?_
         refine WQ.q (oq_pick_f rfl rfl) rfl rfl rfl ?_
         refine WQ.nil (WE.then_normal (WC.sub (fr' := [(0, _), (3, _), (86, _)]) ?_ ⟨rfl, rfl, rfl, trivial⟩))
         refine WC.cond_t rfl ?_
         refine WC.seq (WC.region ?_)
         refine WL.q (oq_assign rfl) rfl rfl rfl ?_
         refine WL.nil (WE.then_normal (WC.sub (fr' := [(2, _)]) ?_ ⟨rfl, trivial⟩))
         refine WC.ret (WE.block_ret (WE.then_ret (WE.then_ret (WE.block_ret (WE.then_ret ?_)))))
         refine WE.lose ho4 ?_
         refine WE.endR (.inl rfl) (res1 Tryz.results12 rfl) ?_
         exact congrArg Value.bool (all_not hlt (decide_eq_false (by unfold fineV; omega))).symm
        ·
         try simp only [Z1, Z2, Z3, Z4, Z5, Z6, Z7, Z8, Z9, Z0] at s6_61
         refine WQ.q (oq_fieldAddr fld24_2 rfl) rfl rfl rfl ?_
         refine WQ.q (oq_load flat2 rfl (.head _) (List.mem_singleton.2 rfl) rfl) rfl rfl rfl ?_
         refine WQ.q (oq_lss rfl rfl) rfl rfl rfl ?_
         refine WQ.q (oq_pick_f rfl rfl) rfl rfl rfl ?_
         refine WQ.q (oq_pick_t rfl rfl) rfl rfl rfl ?_
         refine WQ.q (oq_pick_f rfl rfl) rfl rfl rfl ?_
         refine WQ.nil (WE.then_normal (WC.sub (fr' := [(0, _), (3, _), (86, _)]) ?_ ⟨rfl, rfl, rfl, trivial⟩))
         refine WC.cond rfl (fun q6 => ?_) (fun q6 => ?_)
         ·
          try simp only [Z1, Z2, Z3, Z4, Z5, Z6, Z7, Z8, Z9, Z0] at q6
          refine WC.seq (WC.region ?_)
          refine WL.q (oq_assign rfl) rfl rfl rfl ?_
          refine WL.nil (WE.then_normal (WC.sub (fr' := [(2, _)]) ?_ ⟨rfl, trivial⟩))
          refine WC.ret (WE.block_ret (WE.then_ret (WE.then_ret (WE.block_ret (WE.then_ret ?_)))))
          refine WE.lose ho4 ?_
          refine WE.endR (.inl rfl) (res1 Tryz.results12 rfl) ?_
          exact congrArg Value.bool (all_not hlt (decide_eq_false (by unfold fineV; omega))).symm
         ·
          try simp only [Z1, Z2, Z3, Z4, Z5, Z6, Z7, Z8, Z9, Z0] at q6
          refine WC.skip (WE.block_normal (WE.then_normal (WC.sub (fr' := [(0, _), (3, _)]) ?_ ⟨rfl, rfl, trivial⟩)))
          refine WC.region ?_
          refine WL.q (oq_move rfl) rfl rfl rfl ?_
          refine WL.q (oq_add rfl rfl (by rw [i64_lo, i64_hi]; (first | omega | (simp only [List.length_cons, List.length_nil, List.length_append, List.length_drop, List.length_take]; omega)))) rfl rfl rfl ?_
          refine WL.q (oq_assign rfl) rfl rfl rfl ?_
          refine WL.nil ?_
          refine WE.lose ho4 ?_
          refine WE.again (i + 1) ?_ ?_ ⟨rfl, rfl, trivial⟩ (List.Perm.refl _)
          ·try dsimp only
           exact ⟨by omega, all_snoc (by omega) hall (decide_eq_true (by unfold fineV; omega))⟩
          ·(try dsimp only); omega
       ·
        try simp only [Z1, Z2, Z3, Z4, Z5, Z6, Z7, Z8, Z9, Z0] at s6_57
        refine WQ.skip rfl rfl rfl ?_
        refine WQ.skip rfl rfl rfl ?_
        refine WQ.skip rfl rfl rfl ?_
        refine WQ.skip rfl rfl rfl ?_
        refine WQ.skip rfl rfl rfl ?_
        refine WQ.skip rfl rfl rfl ?_
        refine WQ.skip rfl rfl rfl ?_
        refine WQ.skip rfl rfl rfl ?_
        refine WQ.q (oq_pick_f rfl rfl) rfl rfl rfl ?_
        refine WQ.q (oq_pick_f rfl rfl) rfl rfl rfl ?_
        refine WQ.nil (WE.then_normal (WC.sub (fr' := [(0, _), (3, _), (86, _)]) ?_ ⟨rfl, rfl, rfl, trivial⟩))
        refine WC.cond_f rfl ?_
        refine WC.skip (WE.block_normal (WE.then_normal (WC.sub (fr' := [(0, _), (3, _)]) ?_ ⟨rfl, rfl, trivial⟩)))
        refine WC.region ?_
        refine WL.q (oq_move rfl) rfl rfl rfl ?_
        refine WL.q (oq_add rfl rfl (by rw [i64_lo, i64_hi]; (first | omega | (simp only [List.length_cons, List.length_nil, List.length_append, List.length_drop, List.length_take]; omega)))) rfl rfl rfl ?_
        refine WL.q (oq_assign rfl) rfl rfl rfl ?_
        refine WL.nil ?_
        refine WE.lose ho4 ?_
        refine WE.again (i + 1) ?_ ?_ ⟨rfl, rfl, trivial⟩ (List.Perm.refl _)
        ·try dsimp only
         exact ⟨by omega, all_snoc (by omega) hall (decide_eq_true (by unfold fineV; omega))⟩
        ·(try dsimp only); omega
  ·
   try simp only [Z1, Z2, Z3, Z4, Z5, Z6, Z7, Z8, Z9, Z0] at q2
   refine WC.exit (WE.then_exit (WE.then_exit (WE.block_same (WE.then_normal (WC.sub (fr' := []) ?_ trivial)))))
   refine WC.seq (WC.region ?_)
   refine WL.q (oq_assign rfl) rfl rfl rfl ?_
   refine WL.nil (WE.then_normal (WC.sub (fr' := [(2, _)]) ?_ ⟨rfl, trivial⟩))
   refine WC.ret ?_
   refine WE.endR (.inl rfl) (res1 Tryz.results12 rfl) ?_
   obtain rfl : i = l.length := by omega
   rw [List.take_length] at hall
   rw [hall]
end ER
end Go.Proofs.YtodlhaghdplclaaGreatDoor
/- The law: what is written is what the reference tells. -/
namespace Go.Proofs.YtodlhaghdplclaaGreatDoor
open Go Go.RowKit V EA EB EC ED EE EF EG EH EI EJ EK EL EM EN EO EP EQ ER
set_option linter.unusedSimpArgs false
set_option linter.unusedVariables false
set_option maxRecDepth 10000
namespace ES
theorem call26 : Callable Tryz.prog 26 := ⟨_, Tryz.func26, rfl, by kernel_rfl⟩
theorem ty30 : Ty Tryz.prog 30 (.agg #[(.slice none 0 0), (.slice none 0 0)]) 2 48 := ty_of (by kernel_rfl)
theorem str30 : Str Tryz.prog 30 #[(0, 1), (1, 1)] := ⟨_, Tryz.underlying30, fun w => by kernel_rfl⟩
theorem okH0 : okH [] := fun i h => nomatch h
theorem len16 : (msgB [] []).length = 16 := by unfold msgB msg0 crcB; rw [List.length_append, List.length_append, List.length_append, pre12_len, be_len]; rfl
theorem rd0 (s : Nat) : RdS s (.slice none 0 0) [] 0 [] := ⟨by simp, .inl ⟨rfl, _, _, rfl⟩⟩
theorem enc0 : FnA Tryz.prog 26 [.agg #[.slice none 0 0, .slice none 0 0]] [] (fun w N => ∃ sv, w = .tuple #[sv, .bool true] ∧ RdS 1 sv N 16 (bytesV (msgB [] []))) := by
 refine (vEncode (.slice none 0 0) [] [] (rd0 5) okH0 (by simp) (by simp [szL]) none 0 [] (rd0 1) (by simp)).mono ?_
 rintro w N ⟨sv, rfl, h⟩
 refine ⟨sv, rfl, ?_⟩
 have h2 : RdS 1 sv N (msgB [] []).length (bytesV (msgB [] [])) := h
 rw [len16] at h2; exact h2
theorem sumH_get : ∀ {l : List HV} {i : Nat}, i < l.length → (l.getD i HV0).text.length ≤ sumH l
 | [], _, h => nomatch h
 | h :: l, 0, _ => by simp [sumH]; omega
 | h :: l, i + 1, hi => by
  have := sumH_get (l := l) (i := i) (by simpa using hi)
  have e : sumH (h :: l) = h.name.length + h.text.length + sumH l := by simp [sumH]
  have e2 : (h :: l).getD (i + 1) HV0 = l.getD i HV0 := by simp [List.getD_eq_getElem?_getD]
  rw [e, e2]; omega
theorem fine_ok {l : List HV} (h : l.all fineB = true) (hs : sumH l ≤ 70000) : okH l := fun i hi => by
 have h1 := all_get h hi
 have h2 := sumH_get hi
 exact ⟨of_decide_eq_true h1, by omega⟩
theorem sized_of {l : List HV} {n : Nat} (h : (decide (l.length ≤ 100) && decide (sumH l ≤ 70000) && decide (n ≤ 5000)) = true) : l.length ≤ 100 ∧ sumH l ≤ 70000 ∧ n ≤ 5000 := by
 simp only [Bool.and_eq_true, decide_eq_true_eq] at h; exact ⟨h.1.1, h.1.2, h.2⟩
theorem vAwake  : Fn0 Tryz.prog 14 [] (.bool true) := by
 refine Fn0.enter (n := 14) Tryz.func14 rfl rfl fun w0 => ?_
 refine WC.sub (fr' := []) ?_ trivial
 refine WC.seq (WC.region ?_)
 refine WL.q (oq_assign rfl) rfl rfl rfl ?_
 refine WL.nil (WE.then_normal (WC.sub (fr' := []) ?_ trivial))
 refine WC.seq (WC.region ?_)
 refine WL.q (oq_build #[_, _] str30 ty30 rfl rfl) rfl rfl rfl ?_
 refine WL.callA0 (enc0) call26 rfl rfl rfl fun v1_1 N1_1 hR1_1 hN1_1 => ?_
 obtain ⟨sv, rfl, hsv⟩ := hR1_1
 refine WL.q (oq_move rfl) rfl rfl rfl ?_
 refine WL.q (oq_extract rfl rfl) rfl rfl rfl ?_
 refine WL.q (oq_extract rfl rfl) rfl rfl rfl ?_
 refine WL.q (oq_assign rfl) rfl rfl rfl ?_
 refine WL.q (oq_assign rfl) rfl rfl rfl ?_
 refine WL.nil (WE.then_normal (WC.sub (fr' := [(1, _), (2, _)]) ?_ ⟨rfl, rfl, trivial⟩))
 refine WC.seq (WC.region ?_)
 refine WL.q (oq_move rfl) rfl rfl rfl ?_
 refine WL.q (oq_move rfl) rfl rfl rfl ?_
 refine WL.q (oq_move rfl) rfl rfl rfl ?_
 refine WL.q (oq_len_rd hsv Tryz.underlying28 rfl) rfl rfl rfl ?_
 refine WL.q (oq_eql rfl rfl) rfl rfl rfl ?_
 refine WL.q (oq_pick_t rfl rfl) rfl rfl rfl ?_
 refine WL.q (oq_assign rfl) rfl rfl rfl ?_
 refine WL.nil (WE.then_normal (WC.sub (fr' := [(0, _)]) ?_ ⟨rfl, trivial⟩))
 refine WC.ret ?_
 refine WE.forget hN1_1 ?_
 refine WE.end0 (.inl rfl) (res1 Tryz.results14 rfl) ?_
 rfl
end ES
end Go.Proofs.YtodlhaghdplclaaGreatDoor
/- Plain words: the sum tells a byte that is another one; what is written is read again. -/
namespace Go.Proofs.YtodlhaghdplclaaGreatDoor
open Go V EI EJ EK EM DA
set_option linter.unusedSimpArgs false
set_option linter.unusedVariables false
namespace DB
/-! ### The sum -/
/-! ### What is written is read -/
def can (h : HV) : Prop := (h.kind = 0 → h.width = 0 ∧ h.text = [] ∧ (h.int = 0 ∨ h.int = 1)) ∧ (h.kind = 1 → h.text = []) ∧ ((h.kind = 2 ∨ h.kind = 3 ∨ h.kind = 5) → h.width = 0 ∧ h.int = 0) ∧ (h.kind = 4 → h.width = 0 ∧ h.text = [])
theorem put_new : ∀ (acc : List HV) (h : HV), (∀ x ∈ acc, x.name ≠ h.name) → put acc h = acc ++ [h]
 | [], _, _ => rfl
 | x :: l, h, hx => by
  unfold put
  rw [if_neg (hx x List.mem_cons_self), put_new l h fun y hy => hx y (List.mem_cons_of_mem _ hy)]; rfl
section
variable {b t4 h4 c4 hd pl s4 beh : List UInt8}
end
/-! ### A byte that is another one -/
end DB
end Go.Proofs.YtodlhaghdplclaaGreatDoor
/- Headers that are the same, headers that are read as they were. -/
namespace Go.Proofs.YtodlhaghdplclaaGreatDoor
open Go Go.RowKit V EI EJ EO DB
set_option linter.unusedSimpArgs false
set_option linter.unusedVariables false
set_option maxRecDepth 10000
namespace DP
instance decHV : DecidableEq HV := fun ⟨n, k, w, i, t⟩ ⟨n', k', w', i', t'⟩ => decidable_of_iff (n = n' ∧ k = k' ∧ w = w' ∧ i = i' ∧ t = t') (by simp)
section
variable {P : Program} {w : World}
theorem eqF_cons {d : Nat} {xs ys : Array Value} {f : Field} {fs : List Field} {a b : Value} {r s : Bool} (hn : f.name ≠ "_") (h1 : (part f.type xs f.offset).run P w = .ok a w) (h2 : (part f.type ys f.offset).run P w = .ok b w) (h3 : (Op.equalIn d f.type a b).run P w = .ok r w) (h4 : (Op.eqFields d xs ys fs).run P w = .ok s w) : (Op.eqFields d xs ys (f :: fs)).run P w = .ok (r && s) w := by
 unfold Op.eqFields
 rw [if_pos hn]
 simp only [Sem.run_bind, h1, h2, h3, Result.andThen_ok]
 cases r
 ·simp
 ·simpa using h4
theorem eqF_nil {d : Nat} {xs ys : Array Value} : (Op.eqFields d xs ys []).run P w = .ok true w := by simp [Op.eqFields]
theorem part_flat {t : TypeId} {cs : Array Value} {off : Nat} {v : Value} (h : Flat P t) (hv : cs[off]? = some v) : (part t cs off).run P w = .ok v w := by
 obtain ⟨d, hd, hn⟩ := h
 unfold part isAgg
 cases d <;> simp_all [run_underlying hd]
theorem part_agg {t : TypeId} {cs vs : Array Value} {off size bytes : Nat} {z : Value} (h : Agg P t) (hty : Ty P t z size bytes) (hv : cs.extract off (off + size) = vs) : (part t cs off).run P w = .ok (.agg vs) w := by
 unfold part
 rw [Sem.run_bind, h w]
 simp [run_size hty, hv]
end
theorem flI : Flat Tryz.prog 3 := ⟨_, Tryz.underlying3, by simp⟩
theorem flJ : Flat Tryz.prog 2 := ⟨_, Tryz.underlying2, by simp⟩
theorem flS : Flat Tryz.prog 9 := ⟨_, Tryz.underlying9, by simp⟩
theorem aggV : Agg Tryz.prog 24 := agg_of Tryz.underlying24
theorem tyV : Ty Tryz.prog 24 (.agg #[I 0, I 0, I 0, S []]) 4 40 := ty_of (by kernel_rfl)
theorem eq_str (a b : List UInt8) : ((⟨⟨a⟩⟩ : ByteArray).toList == (⟨⟨b⟩⟩ : ByteArray).toList) = decide (a = b) := by
 rw [S_toList, S_toList, Bool.eq_iff_iff]; simp
theorem eqVal (d : Nat) (w : World) (a b : HV) : (Op.equalIn (d + 2) 24 (.agg #[I a.kind, I a.width, I a.int, S a.text]) (.agg #[I b.kind, I b.width, I b.int, S b.text])).run Tryz.prog w = .ok ((a.kind == b.kind) && ((a.width == b.width) && ((a.int == b.int) && (decide (a.text = b.text) && true)))) w := by
 have hS : Tryz.prog.underlying 24 = some (.struct (Tryz.prog.fieldsOf 24)) := by kernel_rfl
 have hp : Tryz.prog.stoodInHeld 24 = false := by kernel_rfl
 rw [show d + 2 = d + 1 + 1 from rfl, run_equalIn_struct w (d + 1) _ _ _ hS hp]
 unfold Program.fieldsOf
 rw [Tryz.underlying24]
 refine eqF_cons (by decide) (part_flat flI rfl) (part_flat flI rfl) (run_equalIn_int w d 3 .i64 .i64 _ _ Tryz.underlying3) ?_
 refine eqF_cons (by decide) (part_flat flI rfl) (part_flat flI rfl) (run_equalIn_int w d 3 .i64 .i64 _ _ Tryz.underlying3) ?_
 refine eqF_cons (by decide) (part_flat flJ rfl) (part_flat flJ rfl) (run_equalIn_int w d 2 .i64 .i64 _ _ Tryz.underlying2) ?_
 refine eqF_cons (by decide) (part_flat flS rfl) (part_flat flS rfl) ?_ eqF_nil
 rw [← eq_str]
 exact run_equalIn_string w d 9 _ _ Tryz.underlying9
theorem eqHdr (d : Nat) (w : World) (a b : HV) : (Op.equalIn (d + 3) 32 (.agg #[S a.name, I a.kind, I a.width, I a.int, S a.text]) (.agg #[S b.name, I b.kind, I b.width, I b.int, S b.text])).run Tryz.prog w = .ok (decide (a = b)) w := by
 have hS : Tryz.prog.underlying 32 = some (.struct (Tryz.prog.fieldsOf 32)) := by kernel_rfl
 have hp : Tryz.prog.stoodInHeld 32 = false := by kernel_rfl
 have hb : decide (a = b) = (decide (a.name = b.name) && (((a.kind == b.kind) && ((a.width == b.width) && ((a.int == b.int) && (decide (a.text = b.text) && true)))) && true)) := by
  obtain ⟨n, k, x, i, t⟩ := a
  obtain ⟨n', k', x', i', t'⟩ := b
  rw [Bool.eq_iff_iff]
  simp
 rw [hb, show d + 3 = d + 2 + 1 from rfl, run_equalIn_struct w (d + 2) _ _ _ hS hp]
 unfold Program.fieldsOf
 rw [Tryz.underlying32]
 refine eqF_cons (by decide) (part_flat flS rfl) (part_flat flS rfl) ?_ ?_
 ·rw [← eq_str]
  exact run_equalIn_string w (d + 1) 9 _ _ Tryz.underlying9
 ·exact eqF_cons (by decide) (part_agg aggV tyV rfl) (part_agg aggV tyV rfl) (eqVal d w a b) eqF_nil
section
variable {n : Nat} {w0 : World} {ds : List Deferred} {fr : Fr} {H : List Hp} {dst : Option Tmp} {ty t' : TypeId} {pos : String} {aft : Array Edge} {g : Option (Nat × Bool)} {x y : Operand} {a b : HV}
theorem oq_neHV (hx : ev fr x = some (.agg #[S a.name, I a.kind, I a.width, I a.int, S a.text])) (hy : ev fr y = some (.agg #[S b.name, I b.kind, I b.width, I b.int, S b.text])) : OV Tryz.prog n w0 ⟨dst, .binOp .neq 32 x y t', ty, pos, aft, g⟩ (.bool (!decide (a = b))) ds fr H :=
 oq_of_run fun c w hf _ => by
  have hg : Tryz.prog.eqGuardType Tryz.prog.depth 32 = false := by kernel_rfl
  simp only [execOp, hf.eval hx, hf.eval hy, Sem.run_bind, run_eqGuard_agg w .neq 32 x y _ _ hg, Result.andThen_ok, run_neq_struct, eqHdr 9997 w a b, Sem.run_pure]
theorem oq_neVV (hx : ev fr x = some (.agg #[I a.kind, I a.width, I a.int, S a.text])) (hy : ev fr y = some (.agg #[I b.kind, I b.width, I b.int, S b.text])) : OV Tryz.prog n w0 ⟨dst, .binOp .neq 24 x y t', ty, pos, aft, g⟩ (.bool (!((a.kind == b.kind) && ((a.width == b.width) && ((a.int == b.int) && (decide (a.text = b.text) && true)))))) ds fr H :=
 oq_of_run fun c w hf _ => by
  have hg : Tryz.prog.eqGuardType Tryz.prog.depth 24 = false := by kernel_rfl
  simp only [execOp, hf.eval hx, hf.eval hy, Sem.run_bind, run_eqGuard_agg w .neq 24 x y _ _ hg, Result.andThen_ok, run_neq_struct, eqVal 9998 w a b, Sem.run_pure]
end
theorem oq_callRall {P : Program} {n : Nat} {w0 : World} {ds : List Deferred} {fr : Fr} {H : List Hp} {dst : Option Tmp} {ty : TypeId} {pos : String} {aft : Array Edge} {g : Option (Nat × Bool)} {f : FuncId} {xs : Array Operand} {ts : Array TypeId} {args : List Value} {v : Value} (hc : FnR P f args H.flatten v) (hf : Callable P f) (ha : evs fr xs.toList = some args) : OQ P n w0 ⟨dst, .call ⟨.value (.func f), xs, ts⟩, ty, pos, aft, g⟩ v ds fr H := by
 intro a hfit w hw
 unfold Oper.quietAt
 rw [run_enter hf ha hfit w]
 exact ⟨rfl, (hc.pure ⟨hw.now, hw.nodup⟩).mono fun e w' h => ⟨h.1, hw.pure h.2⟩⟩
theorem rd_flat {s m : Nat} {v : Value} {A : Hp} {H : List Hp} {xs : List Value} (h : RdS s v A m xs) (hA : A ∈ H) : RdS s v H.flatten m xs := h.weaken fun x hx => mem_flat hA hx
theorem and1_mod (x : Int) (h : -9223372036854775808 ≤ x ∧ x ≤ 9223372036854775807) : bitOp .and .i64 x 1 = x % 2 := by
 unfold bitOp
 have e : (BitVec.ofInt IntKind.i64.bits x &&& BitVec.ofInt IntKind.i64.bits 1).toNat = (x % 2).toNat := by
  rw [BitVec.toNat_and]
  have h1 : (BitVec.ofInt IntKind.i64.bits 1).toNat = 1 := by decide
  have h2 : (BitVec.ofInt IntKind.i64.bits x).toNat = (x % 18446744073709551616).toNat := by
   show (BitVec.ofInt 64 x).toNat = _
   rw [BitVec.toNat_ofInt]; rfl
  rw [h1, h2, Nat.and_one_is_mod]
  omega
 simp only [e]
 have : ((x % 2).toNat : Int) = x % 2 := by omega
 rw [this, wrap_in (by rw [i64_lo, i64_hi]; omega)]
def canV (h : HV) : Prop := if h.kind = 0 then h.width = 0 ∧ h.int % 2 = h.int ∧ h.text = [] else if h.kind = 1 then h.text = [] else if h.kind = 4 then h.width = 0 ∧ h.text = [] else h.width = 0 ∧ h.int = 0
instance (h : HV) : Decidable (canV h) := by unfold canV; infer_instance
theorem can_of {h : HV} (hc : canV h) : can h := by
 unfold canV at hc
 by_cases h0 : h.kind = 0
 ·rw [if_pos h0] at hc
  exact ⟨fun _ => ⟨hc.1, hc.2.2, by omega⟩, fun h => by omega, fun h => by omega, fun h => by omega⟩
 rw [if_neg h0] at hc
 by_cases h1 : h.kind = 1
 ·rw [if_pos h1] at hc
  exact ⟨fun h => by omega, fun _ => hc, fun h => by omega, fun h => by omega⟩
 rw [if_neg h1] at hc
 by_cases h4 : h.kind = 4
 ·rw [if_pos h4] at hc
  exact ⟨fun h => by omega, fun h => by omega, fun h => by omega, fun _ => hc⟩
 rw [if_neg h4] at hc
 exact ⟨fun h => by omega, fun h => by omega, fun _ => hc, fun h => by omega⟩
def UnL (l : List HV) : Prop := ∀ i, i < l.length → (∀ k, k < i → (l.getD k HV0).name ≠ (l.getD i HV0).name) ∧ canV (l.getD i HV0)
theorem take_eq {l1 l2 : List HV} {i : Nat} (h1 : i < l1.length) (h2 : i < l2.length) (h : l1.take i = l2.take i) (he : l1.getD i HV0 = l2.getD i HV0) : l1.take (i + 1) = l2.take (i + 1) := by
 rw [take_snoc h1, take_snoc h2, h, he]
theorem ne_getD {l1 l2 : List HV} {i : Nat} (he : ¬ l1.getD i HV0 = l2.getD i HV0) : l1 ≠ l2 := fun e => he (by rw [e])
end DP
end Go.Proofs.YtodlhaghdplclaaGreatDoor
/- The law: a spoilt message is not read. -/
namespace Go.Proofs.YtodlhaghdplclaaGreatDoor
open Go Go.RowKit V EA EB EC ED EL DC DD DA DE EE EH EI EJ DF DG DH DI EM DJ DK DL DM DB EF EG EK EN EO ER ES
set_option linter.unusedSimpArgs false
set_option linter.unusedVariables false
set_option maxRecDepth 10000
namespace DO
theorem call11 : Callable Tryz.prog 11 := ⟨_, Tryz.func11, rfl, by kernel_rfl⟩
theorem call12 : Callable Tryz.prog 12 := ⟨_, Tryz.func12, rfl, by kernel_rfl⟩
theorem call14 : Callable Tryz.prog 14 := ⟨_, Tryz.func14, rfl, by kernel_rfl⟩
theorem call26 : Callable Tryz.prog 26 := ⟨_, Tryz.func26, rfl, by kernel_rfl⟩
theorem call31 : Callable Tryz.prog 31 := ⟨_, Tryz.func31, rfl, by kernel_rfl⟩
theorem call47 : Callable Tryz.prog 47 := ⟨_, Tryz.func47, rfl, by kernel_rfl⟩
theorem call48 : Callable Tryz.prog 48 := ⟨_, Tryz.func48, rfl, by kernel_rfl⟩
theorem call49 : Callable Tryz.prog 49 := ⟨_, Tryz.func49, rfl, by kernel_rfl⟩
theorem flat5 : Flat Tryz.prog 5 := ⟨_, Tryz.underlying5, by simp⟩
theorem flat22 : Flat Tryz.prog 22 := ⟨_, Tryz.underlying22, by simp⟩
theorem flat28 : Flat Tryz.prog 28 := ⟨_, Tryz.underlying28, by simp⟩
theorem ty5 : Ty Tryz.prog 5 (.int .u8 0) 1 1 := ty_of (by kernel_rfl)
theorem ty22 : Ty Tryz.prog 22 (.slice none 0 0) 1 24 := ty_of (by kernel_rfl)
theorem ty28 : Ty Tryz.prog 28 (.slice none 0 0) 1 24 := ty_of (by kernel_rfl)
theorem ty30 : Ty Tryz.prog 30 (.agg #[(.slice none 0 0), (.slice none 0 0)]) 2 48 := ty_of (by kernel_rfl)
theorem ty79 : Ty Tryz.prog 79 (.agg #[(.slice none 0 0), (.int .i64 0), (.int .i8 0)]) 3 40 := ty_of (by kernel_rfl)
theorem ty109 : Ty Tryz.prog 109 (.agg #[(.slice none 0 0), (.slice none 0 0)]) 2 48 := ty_of (by kernel_rfl)
theorem conc107 : Conc Tryz.prog 107 := ⟨_, Tryz.underlying107, by simp⟩
theorem str109 : Str Tryz.prog 109 #[(0, 1), (1, 1)] := ⟨_, Tryz.underlying109, fun w => by kernel_rfl⟩
theorem fld30_0 : Fld Tryz.prog 30 0 0 22 := fld_of Tryz.underlying30 rfl rfl rfl ty22 (by decide)
theorem fld30_1 : Fld Tryz.prog 30 1 1 28 := fld_of Tryz.underlying30 rfl rfl rfl ty28 (by decide)
end DO
end Go.Proofs.YtodlhaghdplclaaGreatDoor
/- Headers that are the same, headers as they are read. -/
namespace Go.Proofs.YtodlhaghdplclaaGreatDoor
open Go Go.RowKit V EA EB EC ED EL DC DD DA DE EE EH EI EJ DF DG DH DI EM DJ DK DL DM DB EF EG EK EN EO ER ES DP
set_option linter.unusedSimpArgs false
set_option linter.unusedVariables false
set_option maxRecDepth 10000
namespace DQ
theorem flat2 : Flat Tryz.prog 2 := ⟨_, Tryz.underlying2, by simp⟩
theorem flat3 : Flat Tryz.prog 3 := ⟨_, Tryz.underlying3, by simp⟩
theorem flat9 : Flat Tryz.prog 9 := ⟨_, Tryz.underlying9, by simp⟩
theorem ty2 : Ty Tryz.prog 2 (.int .i64 0) 1 8 := ty_of (by kernel_rfl)
theorem ty3 : Ty Tryz.prog 3 (.int .i64 0) 1 8 := ty_of (by kernel_rfl)
theorem ty9 : Ty Tryz.prog 9 (S []) 1 16 := ty_of (by kernel_rfl)
theorem ty24 : Ty Tryz.prog 24 (.agg #[(.int .i64 0), (.int .i64 0), (.int .i64 0), (S [])]) 4 40 := ty_of (by kernel_rfl)
theorem ty32 : Ty Tryz.prog 32 (.agg #[(S []), (.int .i64 0), (.int .i64 0), (.int .i64 0), (S [])]) 5 56 := ty_of (by kernel_rfl)
theorem agg24 : Agg Tryz.prog 24 := agg_of Tryz.underlying24
theorem agg32 : Agg Tryz.prog 32 := agg_of Tryz.underlying32
theorem str24 : Str Tryz.prog 24 #[(0, 1), (1, 1), (2, 1), (3, 1)] := ⟨_, Tryz.underlying24, fun w => by kernel_rfl⟩
theorem fld24_0 : Fld Tryz.prog 24 0 0 3 := fld_of Tryz.underlying24 rfl rfl rfl ty3 (by decide)
theorem fld24_1 : Fld Tryz.prog 24 1 1 3 := fld_of Tryz.underlying24 rfl rfl rfl ty3 (by decide)
theorem fld24_2 : Fld Tryz.prog 24 2 2 2 := fld_of Tryz.underlying24 rfl rfl rfl ty2 (by decide)
theorem fld24_3 : Fld Tryz.prog 24 3 3 9 := fld_of Tryz.underlying24 rfl rfl rfl ty9 (by decide)
theorem fld32_0 : Fld Tryz.prog 32 0 0 9 := fld_of Tryz.underlying32 rfl rfl rfl ty9 (by decide)
theorem fld32_1 : Fld Tryz.prog 32 1 1 24 := fld_of Tryz.underlying32 rfl rfl rfl ty24 (by decide)
def canC (h : HV) (cw ci : Int) (ct : List UInt8) : Prop := if h.kind = 0 then cw = 0 ∧ ci = h.int % 2 ∧ ct = [] else if h.kind = 1 then cw = h.width ∧ ci = h.int ∧ ct = [] else if h.kind = 4 then cw = 0 ∧ ci = h.int ∧ ct = [] else cw = 0 ∧ ci = 0 ∧ ct = h.text
theorem can_iff {h : HV} {cw ci : Int} {ct : List UInt8} (hc : canC h cw ci ct) : canV h ↔ (h.width = cw ∧ h.int = ci ∧ h.text = ct) := by
 unfold canC at hc
 unfold canV
 by_cases h0 : h.kind = 0
 ·rw [if_pos h0] at hc ⊢; obtain ⟨rfl, rfl, rfl⟩ := hc; constructor <;> (rintro ⟨a, b, c⟩; exact ⟨a, b.symm, c⟩)
 rw [if_neg h0] at hc ⊢
 by_cases h1 : h.kind = 1
 ·rw [if_pos h1] at hc ⊢; obtain ⟨rfl, rfl, rfl⟩ := hc; exact ⟨fun h => ⟨rfl, rfl, h⟩, fun h => h.2.2⟩
 rw [if_neg h1] at hc ⊢
 by_cases h4 : h.kind = 4
 ·rw [if_pos h4] at hc ⊢; obtain ⟨rfl, rfl, rfl⟩ := hc; exact ⟨fun h => ⟨h.1, rfl, h.2⟩, fun h => ⟨h.1, h.2.2⟩⟩
 rw [if_neg h4] at hc ⊢; obtain ⟨rfl, rfl, rfl⟩ := hc; exact ⟨fun h => ⟨h.1, h.2, rfl⟩, fun h => ⟨h.1, h.2.1⟩⟩
theorem can_ok {h : HV} {cw ci : Int} {ct : List UInt8} (hc : canC h cw ci ct) (he : (h.width = cw ∧ h.int = ci ∧ h.text = ct)) : canV h := (can_iff hc).2 he
theorem can_no {h : HV} {cw ci : Int} {ct : List UInt8} (hc : canC h cw ci ct) (hv : canV h) (he : ¬ (h.width = cw ∧ h.int = ci ∧ h.text = ct)) : False := he ((can_iff hc).1 hv)
theorem unl_step {l : List HV} {i : Nat} (h : ∀ j, j < i → (∀ k, k < j → (l.getD k HV0).name ≠ (l.getD j HV0).name) ∧ canV (l.getD j HV0)) (h1 : ∀ m, m < i → (l.getD m HV0).name ≠ (l.getD i HV0).name) (h2 : canV (l.getD i HV0)) : ∀ j, j < i + 1 → (∀ k, k < j → (l.getD k HV0).name ≠ (l.getD j HV0).name) ∧ canV (l.getD j HV0) := fun j hj => by
 rcases Nat.lt_or_ge j i with h3 | h3
 ·exact h j h3
 ·rw [show j = i by omega]; exact ⟨h1, h2⟩
instance (l : List HV) : Decidable (UnL l) := decidable_of_iff (∀ i, i < l.length → (∀ k, k < i → (l.getD k HV0).name ≠ (l.getD i HV0).name) ∧ canV (l.getD i HV0)) Iff.rfl
theorem vSame (v1 v2 : Value) (A : Hp) (l1 l2 : List HV) (hr1 : RdS 5 v1 A l1.length (recsV HV.row l1)) (hr2 : RdS 5 v2 A l2.length (recsV HV.row l2)) (hn : l1.length ≤ 1000000) : FnR Tryz.prog 17 [v1, v2] A (.bool (decide (l1 = l2))) := by
 refine FnR.enter (n := 26) Tryz.func17 rfl rfl fun w0 => ?_
 refine WC.sub (fr' := [(0, _), (1, _)]) ?_ ⟨rfl, rfl, trivial⟩
 refine WC.seq (WC.region ?_)
 refine WL.q (oq_assign rfl) rfl rfl rfl ?_
 refine WL.nil (WE.then_normal (WC.sub (fr' := [(0, _), (1, _)]) ?_ ⟨rfl, rfl, trivial⟩))
 refine WC.seq (WC.seq (WC.region ?_))
 refine WL.q (oq_move rfl) rfl rfl rfl ?_
 refine WL.q (oq_len_rd hr1 Tryz.underlying22 rfl) rfl rfl rfl ?_
 refine WL.q (oq_move rfl) rfl rfl rfl ?_
 refine WL.q (oq_len_rd hr2 Tryz.underlying22 rfl) rfl rfl rfl ?_
 refine WL.q (oq_neq rfl rfl) rfl rfl rfl ?_
 refine WL.nil (WE.then_normal (WC.sub (fr' := [(0, _), (1, _), (10, _)]) ?_ ⟨rfl, rfl, rfl, trivial⟩))
 refine WC.cond rfl (fun q1 => ?_) (fun q1 => ?_)
 ·
  try simp only [Z1, Z2, Z3, Z4, Z5, Z6, Z7, Z8, Z9, Z0] at q1
  refine WC.seq (WC.region ?_)
  refine WL.q (oq_assign rfl) rfl rfl rfl ?_
  refine WL.nil (WE.then_normal (WC.sub (fr' := [(4, _)]) ?_ ⟨rfl, trivial⟩))
  refine WC.ret (WE.then_ret ?_)
  refine WE.endR (.inl rfl) (res1 Tryz.results17 rfl) ?_
  rw [decide_eq_false (fun e => by rw [e] at q1; exact q1 rfl)]
 ·
  try simp only [Z1, Z2, Z3, Z4, Z5, Z6, Z7, Z8, Z9, Z0] at q1
  refine WC.skip (WE.then_normal (WC.sub (fr' := [(0, _), (1, _)]) ?_ ⟨rfl, rfl, trivial⟩))
  refine WC.seq (WC.seq (WC.region ?_))
  refine WL.q (oq_assign rfl) rfl rfl rfl ?_
  refine WL.nil (WE.then_normal (WC.sub (fr' := [(0, _), (1, _), (5, _)]) ?_ ⟨rfl, rfl, rfl, trivial⟩))
  refine WC.block ?_
  refine WC.loop (ι := Nat) (fun (i : Nat) => [(0, v1), (1, v2), (5, I (i : Int))]) (fun (i : Nat) => [A]) (fun (i : Nat) => i ≤ l1.length ∧ l1.take i = l2.take i) (fun (i : Nat) => l1.length - i) (0) ?_ ⟨rfl, rfl, rfl, trivial⟩ (List.Perm.refl _) ?_
  ·try dsimp only
   exact ⟨by omega, rfl⟩
  ·rintro i hp
   try dsimp only at hp
   obtain ⟨hi, ht⟩ := hp
   show WC _ _ _ _ _ _ ([(0, v1), (1, v2), (5, I (i : Int))]) ([A])
   refine WC.seq (WC.seq (WC.region ?_))
   refine WL.q (oq_move rfl) rfl rfl rfl ?_
   refine WL.q (oq_move rfl) rfl rfl rfl ?_
   refine WL.q (oq_len_rd hr1 Tryz.underlying22 rfl) rfl rfl rfl ?_
   refine WL.q (oq_lss rfl rfl) rfl rfl rfl ?_
   refine WL.nil (WE.then_normal (WC.sub (fr' := [(0, _), (1, _), (5, _), (14, _)]) ?_ ⟨rfl, rfl, rfl, rfl, trivial⟩))
   refine WC.cond rfl (fun q4 => ?_) (fun q4 => ?_)
   ·
    try simp only [Z1, Z2, Z3, Z4, Z5, Z6, Z7, Z8, Z9, Z0] at q4
    refine WC.skip (WE.then_normal (WC.sub (fr' := [(0, _), (1, _), (5, _)]) ?_ ⟨rfl, rfl, rfl, trivial⟩))
    refine WC.seq (WC.block (WC.seq (WC.quiet (by kernel_rfl) (by kernel_rfl) ?_)))
    refine WQ.q (oq_move rfl) rfl rfl rfl ?_
    refine WQ.q (oq_move rfl) rfl rfl rfl ?_
    refine WQ.q (oq_ixaddr hr1 Tryz.underlying22 ty32 rfl rfl (by (first | omega | (simp only [List.length_cons, List.length_nil, List.length_append, List.length_drop, List.length_take]; omega)))) rfl rfl rfl ?_
    refine WQ.q (oq_loadEl (f := HV.row) HV0 [_, _, _, _, _] (fun _ => rfl) agg32 ty32 hr1 (.head _) rfl (by (first | omega | (simp only [List.length_cons, List.length_nil, List.length_append, List.length_drop, List.length_take]; omega))) (by first | exact Int.toNat_natCast _ | exact rfl) rfl) rfl rfl rfl ?_
    refine WQ.q (oq_move rfl) rfl rfl rfl ?_
    refine WQ.q (oq_move rfl) rfl rfl rfl ?_
    refine WQ.q (oq_ixaddr hr2 Tryz.underlying22 ty32 rfl rfl (by (first | omega | (simp only [List.length_cons, List.length_nil, List.length_append, List.length_drop, List.length_take]; omega)))) rfl rfl rfl ?_
    refine WQ.q (oq_loadEl (f := HV.row) HV0 [_, _, _, _, _] (fun _ => rfl) agg32 ty32 hr2 (.head _) rfl (by (first | omega | (simp only [List.length_cons, List.length_nil, List.length_append, List.length_drop, List.length_take]; omega))) (by first | exact Int.toNat_natCast _ | exact rfl) rfl) rfl rfl rfl ?_
    refine WQ.q (oq_neHV (a := l1.getD i HV0) (b := l2.getD i HV0) rfl rfl) rfl rfl rfl ?_
    refine WQ.nil (WE.then_normal (WC.sub (fr' := [(0, _), (1, _), (5, _), (25, _)]) ?_ ⟨rfl, rfl, rfl, rfl, trivial⟩))
    refine WC.cond rfl (fun q6 => ?_) (fun q6 => ?_)
    ·
     try simp only [Z1, Z2, Z3, Z4, Z5, Z6, Z7, Z8, Z9, Z0] at q6
     refine WC.seq (WC.region ?_)
     refine WL.q (oq_assign rfl) rfl rfl rfl ?_
     refine WL.nil (WE.then_normal (WC.sub (fr' := [(4, _)]) ?_ ⟨rfl, trivial⟩))
     refine WC.ret (WE.block_ret (WE.then_ret (WE.then_ret (WE.block_ret (WE.then_ret ?_)))))
     refine WE.endR (.inl rfl) (res1 Tryz.results17 rfl) ?_
     rw [decide_eq_false (ne_getD (by simpa using q6))]
    ·
     try simp only [Z1, Z2, Z3, Z4, Z5, Z6, Z7, Z8, Z9, Z0] at q6
     refine WC.skip (WE.block_normal (WE.then_normal (WC.sub (fr' := [(0, _), (1, _), (5, _)]) ?_ ⟨rfl, rfl, rfl, trivial⟩)))
     refine WC.region ?_
     refine WL.q (oq_move rfl) rfl rfl rfl ?_
     refine WL.q (oq_add rfl rfl (by rw [i64_lo, i64_hi]; (first | omega | (simp only [List.length_cons, List.length_nil, List.length_append, List.length_drop, List.length_take]; omega)))) rfl rfl rfl ?_
     refine WL.q (oq_assign rfl) rfl rfl rfl ?_
     refine WL.nil ?_
     refine WE.again (i + 1) ?_ ?_ ⟨rfl, rfl, rfl, trivial⟩ (List.Perm.refl _)
     ·try dsimp only
      exact ⟨by omega, take_eq (by omega) (by omega) ht (by simpa using q6)⟩
     ·(try dsimp only); omega
   ·
    try simp only [Z1, Z2, Z3, Z4, Z5, Z6, Z7, Z8, Z9, Z0] at q4
    refine WC.exit (WE.then_exit (WE.then_exit (WE.block_same (WE.then_normal (WC.sub (fr' := []) ?_ trivial)))))
    refine WC.seq (WC.region ?_)
    refine WL.q (oq_assign rfl) rfl rfl rfl ?_
    refine WL.nil (WE.then_normal (WC.sub (fr' := [(4, _)]) ?_ ⟨rfl, trivial⟩))
    refine WC.ret ?_
    refine WE.endR (.inl rfl) (res1 Tryz.results17 rfl) ?_
    obtain rfl : i = l1.length := by omega
    rw [List.take_length, List.take_of_length_le (by omega)] at ht
    rw [decide_eq_true ht]
theorem vUnlike (v : Value) (A : Hp) (l : List HV) (hr : RdS 5 v A l.length (recsV HV.row l)) (hint : intOk l) (hn : l.length ≤ 1000) : FnR Tryz.prog 13 [v] A (.bool (decide (UnL l))) := by
 refine FnR.enter (n := 64) Tryz.func13 rfl rfl fun w0 => ?_
 refine WC.sub (fr' := [(0, _)]) ?_ ⟨rfl, trivial⟩
 refine WC.seq (WC.region ?_)
 refine WL.q (oq_assign rfl) rfl rfl rfl ?_
 refine WL.nil (WE.then_normal (WC.sub (fr' := [(0, _)]) ?_ ⟨rfl, trivial⟩))
 refine WC.seq (WC.seq (WC.region ?_))
 refine WL.q (oq_assign rfl) rfl rfl rfl ?_
 refine WL.nil (WE.then_normal (WC.sub (fr' := [(0, _), (3, _)]) ?_ ⟨rfl, rfl, trivial⟩))
 refine WC.block ?_
 refine WC.loop (ι := Nat) (fun (i : Nat) => [(0, v), (3, I (i : Int))]) (fun (i : Nat) => [A]) (fun (i : Nat) => i ≤ l.length ∧ ∀ j, j < i → (∀ k, k < j → (l.getD k HV0).name ≠ (l.getD j HV0).name) ∧ canV (l.getD j HV0)) (fun (i : Nat) => l.length - i) (0) ?_ ⟨rfl, rfl, trivial⟩ (List.Perm.refl _) ?_
 ·try dsimp only
  exact ⟨by omega, fun j h => (by omega)⟩
 ·rintro i hp
  try dsimp only at hp
  obtain ⟨hi, hall⟩ := hp
  show WC _ _ _ _ _ _ ([(0, v), (3, I (i : Int))]) ([A])
  refine WC.seq (WC.seq (WC.region ?_))
  refine WL.q (oq_move rfl) rfl rfl rfl ?_
  refine WL.q (oq_move rfl) rfl rfl rfl ?_
  refine WL.q (oq_len_rd hr Tryz.underlying22 rfl) rfl rfl rfl ?_
  refine WL.q (oq_lss rfl rfl) rfl rfl rfl ?_
  refine WL.nil (WE.then_normal (WC.sub (fr' := [(0, _), (3, _), (10, _)]) ?_ ⟨rfl, rfl, rfl, trivial⟩))
  refine WC.cond rfl (fun q2 => ?_) (fun q2 => ?_)
  ·
   try simp only [Z1, Z2, Z3, Z4, Z5, Z6, Z7, Z8, Z9, Z0] at q2
   refine WC.skip (WE.then_normal (WC.sub (fr' := [(0, _), (3, _)]) ?_ ⟨rfl, rfl, trivial⟩))
   refine WC.seq (WC.block (WC.seq (WC.seq ?_)))
   have hlt : i < l.length := by omega
   have hii := hint i hlt
   refine WC.region ?_
   refine WL.q (oq_assign rfl) rfl rfl rfl ?_
   refine WL.nil (WE.then_normal (WC.sub (fr' := [(0, _), (3, _), (4, _)]) ?_ ⟨rfl, rfl, rfl, trivial⟩))
   refine WC.block ?_
   refine WC.loop (ι := Nat) (fun (k : Nat) => [(0, v), (3, I (i : Int)), (4, I (k : Int))]) (fun (k : Nat) => [A]) (fun (k : Nat) => k ≤ i ∧ ∀ m, m < k → (l.getD m HV0).name ≠ (l.getD i HV0).name) (fun (k : Nat) => i - k) (0) ?_ ⟨rfl, rfl, rfl, trivial⟩ (List.Perm.refl _) ?_
   ·try dsimp only
    exact ⟨by omega, fun m h => (by omega)⟩
   ·rintro k hp
    try dsimp only at hp
    obtain ⟨hk, hks⟩ := hp
    show WC _ _ _ _ _ _ ([(0, v), (3, I (i : Int)), (4, I (k : Int))]) ([A])
    refine WC.seq (WC.seq (WC.region ?_))
    refine WL.q (oq_move rfl) rfl rfl rfl ?_
    refine WL.q (oq_move rfl) rfl rfl rfl ?_
    refine WL.q (oq_lss rfl rfl) rfl rfl rfl ?_
    refine WL.nil (WE.then_normal (WC.sub (fr' := [(0, _), (3, _), (4, _), (15, _)]) ?_ ⟨rfl, rfl, rfl, rfl, trivial⟩))
    refine WC.cond rfl (fun q5 => ?_) (fun q5 => ?_)
    ·
     try simp only [Z1, Z2, Z3, Z4, Z5, Z6, Z7, Z8, Z9, Z0] at q5
     refine WC.skip (WE.then_normal (WC.sub (fr' := [(0, _), (3, _), (4, _)]) ?_ ⟨rfl, rfl, rfl, trivial⟩))
     refine WC.seq (WC.block (WC.seq (WC.quiet (by kernel_rfl) (by kernel_rfl) ?_)))
     refine WQ.q (oq_move rfl) rfl rfl rfl ?_
     refine WQ.q (oq_move rfl) rfl rfl rfl ?_
     refine WQ.q (oq_ixaddr hr Tryz.underlying22 ty32 rfl rfl (by (first | omega | (simp only [List.length_cons, List.length_nil, List.length_append, List.length_drop, List.length_take]; omega)))) rfl rfl rfl ?_
     refine WQ.q (oq_fldEl fld32_0 hr rfl (by (first | omega | (simp only [List.length_cons, List.length_nil, List.length_append, List.length_drop, List.length_take]; omega)))) rfl rfl rfl ?_
     refine WQ.q (oq_loadF (f := HV.row) HV0 (fun _ => rfl) flat9 hr (.head _) rfl (by (first | omega | (simp only [List.length_cons, List.length_nil, List.length_append, List.length_drop, List.length_take]; omega))) (by first | exact Int.toNat_natCast _ | exact rfl) (by decide) rfl) rfl rfl rfl ?_
     refine WQ.q (oq_move rfl) rfl rfl rfl ?_
     refine WQ.q (oq_move rfl) rfl rfl rfl ?_
     refine WQ.q (oq_ixaddr hr Tryz.underlying22 ty32 rfl rfl (by (first | omega | (simp only [List.length_cons, List.length_nil, List.length_append, List.length_drop, List.length_take]; omega)))) rfl rfl rfl ?_
     refine WQ.q (oq_fldEl fld32_0 hr rfl (by (first | omega | (simp only [List.length_cons, List.length_nil, List.length_append, List.length_drop, List.length_take]; omega)))) rfl rfl rfl ?_
     refine WQ.q (oq_loadF (f := HV.row) HV0 (fun _ => rfl) flat9 hr (.head _) rfl (by (first | omega | (simp only [List.length_cons, List.length_nil, List.length_append, List.length_drop, List.length_take]; omega))) (by first | exact Int.toNat_natCast _ | exact rfl) (by decide) rfl) rfl rfl rfl ?_
     refine WQ.q (oq_seql rfl rfl) rfl rfl rfl ?_
     refine WQ.nil (WE.then_normal (WC.sub (fr' := [(0, _), (3, _), (4, _), (28, _)]) ?_ ⟨rfl, rfl, rfl, rfl, trivial⟩))
     refine WC.cond rfl (fun q7 => ?_) (fun q7 => ?_)
     ·
      try simp only [Z1, Z2, Z3, Z4, Z5, Z6, Z7, Z8, Z9, Z0] at q7
      refine WC.seq (WC.region ?_)
      refine WL.q (oq_assign rfl) rfl rfl rfl ?_
      refine WL.nil (WE.then_normal (WC.sub (fr' := [(2, _)]) ?_ ⟨rfl, trivial⟩))
      refine WC.ret (WE.block_ret (WE.then_ret (WE.then_ret (WE.block_ret (WE.then_ret (WE.block_ret (WE.then_ret (WE.then_ret (WE.block_ret (WE.then_ret ?_))))))))))
      refine WE.endR (.inl rfl) (res1 Tryz.results13 rfl) ?_
      rw [decide_eq_false (fun h => (h i hlt).1 k (by omega) (by simpa using q7))]
     ·
      try simp only [Z1, Z2, Z3, Z4, Z5, Z6, Z7, Z8, Z9, Z0] at q7
      refine WC.skip (WE.block_normal (WE.then_normal (WC.sub (fr' := [(0, _), (3, _), (4, _)]) ?_ ⟨rfl, rfl, rfl, trivial⟩)))
      refine WC.region ?_
      refine WL.q (oq_move rfl) rfl rfl rfl ?_
      refine WL.q (oq_add rfl rfl (by rw [i64_lo, i64_hi]; (first | omega | (simp only [List.length_cons, List.length_nil, List.length_append, List.length_drop, List.length_take]; omega)))) rfl rfl rfl ?_
      refine WL.q (oq_assign rfl) rfl rfl rfl ?_
      refine WL.nil ?_
      refine WE.again (k + 1) ?_ ?_ ⟨rfl, rfl, rfl, trivial⟩ (List.Perm.refl _)
      ·try dsimp only
       refine ⟨by omega, fun m hm => ?_⟩
       rcases Nat.lt_or_ge m k with h | h
       ·exact hks m h
       ·rw [show m = k by omega]; simpa using q7
      ·(try dsimp only); omega
    ·
     try simp only [Z1, Z2, Z3, Z4, Z5, Z6, Z7, Z8, Z9, Z0] at q5
     refine WC.exit (WE.then_exit (WE.then_exit (WE.block_same (WE.then_normal (WC.sub (fr' := [(0, _), (3, _)]) ?_ ⟨rfl, rfl, trivial⟩)))))
     refine WC.seq ?_
     obtain rfl : i = k := by omega
     refine WC.region ?_
     refine WL.q (oq_move rfl) rfl rfl rfl ?_
     refine WL.q (oq_move rfl) rfl rfl rfl ?_
     refine WL.q (oq_ixaddr hr Tryz.underlying22 ty32 rfl rfl (by (first | omega | (simp only [List.length_cons, List.length_nil, List.length_append, List.length_drop, List.length_take]; omega)))) rfl rfl rfl ?_
     refine WL.q (oq_fldEl fld32_1 hr rfl (by (first | omega | (simp only [List.length_cons, List.length_nil, List.length_append, List.length_drop, List.length_take]; omega)))) rfl rfl rfl ?_
     refine WL.q (oq_loadFS (f := HV.row) HV0 [_, _, _, _] (fun _ => rfl) agg24 ty24 hr (.head _) rfl (by (first | omega | (simp only [List.length_cons, List.length_nil, List.length_append, List.length_drop, List.length_take]; omega))) (by first | exact Int.toNat_natCast _ | exact rfl) (by decide) rfl rfl) rfl rfl rfl ?_
     refine WL.alloc ty24 rfl rfl fun v4 hv4 => ?_
     refine WL.storeS #[_, _, _, _] ty24 rfl rfl rfl rfl (Nat.le_of_ble_eq_true rfl) rfl rfl ?_
     refine WL.nil (WE.then_normal (WC.sub (fr' := [(0, _), (3, _), (5, _)]) ?_ ⟨rfl, rfl, rfl, trivial⟩))
     refine WC.seq (WC.region ?_)
     refine WL.q (oq_fieldAddr fld24_0 rfl) rfl rfl rfl ?_
     refine WL.q (oq_load flat3 rfl (.head _) (List.mem_singleton.2 rfl) rfl) rfl rfl rfl ?_
     refine WL.q (oq_build #[_, _, _, _] str24 ty24 rfl rfl) rfl rfl rfl ?_
     refine WL.alloc ty24 rfl rfl fun w4 hw4 => ?_
     refine WL.storeS #[_, _, _, _] ty24 rfl rfl rfl rfl (Nat.le_of_ble_eq_true rfl) rfl rfl ?_
     refine WL.nil (WE.then_normal (WC.sub (fr' := [(0, _), (3, _), (5, _), (6, _)]) ?_ ⟨rfl, rfl, rfl, rfl, trivial⟩))
     refine WC.cut (ι := Int × Int × (List UInt8)) (fun i_ => (fun (cw : Int) (ci : Int) (ct : List UInt8) => [(0, v), (3, I (i : Int)), (5, Pt v4 0), (6, Pt w4 0)]) i_.1 i_.2.1 i_.2.2) (fun i_ => (fun (cw : Int) (ci : Int) (ct : List UInt8) => [[(v4, .cells #[I (l.getD i HV0).kind, I (l.getD i HV0).width, I (l.getD i HV0).int, S (l.getD i HV0).text] 24 (0, 0))], [(w4, .cells #[I (l.getD i HV0).kind, I cw, I ci, S ct] 24 (0, 0))], A]) i_.1 i_.2.1 i_.2.2) (fun i_ => (fun (cw : Int) (ci : Int) (ct : List UInt8) => canC (l.getD i HV0) cw ci ct ∧ True) i_.1 i_.2.1 i_.2.2) ?_ ?_
     ·
      refine WC.seq (WC.region ?_)
      refine WL.q (oq_fieldAddr fld24_0 rfl) rfl rfl rfl ?_
      refine WL.q (oq_load flat3 rfl (.tail _ (.head _)) (List.mem_singleton.2 rfl) rfl) rfl rfl rfl ?_
      refine WL.nil (WE.then_normal (WC.sub (fr' := [(0, _), (3, _), (5, _), (6, _), (38, _)]) ?_ ⟨rfl, rfl, rfl, rfl, rfl, trivial⟩))
      refine WC.block (WC.seq (WC.region ?_))
      refine WL.q (oq_eql rfl rfl) rfl rfl rfl ?_
      refine WL.q (oq_assign rfl) rfl rfl rfl ?_
      refine WL.nil (WE.then_normal (WC.sub (fr' := [(0, _), (3, _), (5, _), (6, _), (38, _), (42, _)]) ?_ ⟨rfl, rfl, rfl, rfl, rfl, rfl, trivial⟩))
      refine WC.cond rfl (fun q13 => ?_) (fun q13 => ?_)
      ·
       try simp only [Z1, Z2, Z3, Z4, Z5, Z6, Z7, Z8, Z9, Z0] at q13
       refine WC.region ?_
       refine WL.q (oq_fieldAddr fld24_2 rfl) rfl rfl rfl ?_
       refine WL.q (oq_load flat2 rfl (.tail _ (.head _)) (List.mem_singleton.2 rfl) rfl) rfl rfl rfl ?_
       refine WL.q (oq_bits (op := .and) rfl rfl (by simp)) rfl rfl rfl ?_
       refine WL.q (oq_fieldAddr fld24_2 rfl) rfl rfl rfl ?_
       refine WL.store1 #[_, _, _, _] ty2 rfl rfl (by first | rfl | exact OwS.one one_) (Nat.lt_of_lt_of_le (Nat.lt_succ_self _) (Nat.le_of_ble_eq_true rfl)) rfl rfl ?_
       refine WL.nil (WE.block_normal ?_)
       refine WE.f2 ?_
       refine WE.f1 ?_
       refine WE.f2 ?_
       refine WE.meet (_, _, _) ?_ ⟨rfl, rfl, rfl, rfl, trivial⟩ (List.Perm.refl _)
       try dsimp only
       exact ⟨by unfold canC; first | (rw [if_pos (by omega)]; exact ⟨rfl, and1_mod _ ⟨hii.1, hii.2.1⟩, rfl⟩) | (rw [if_neg (by omega), if_pos (by omega)]; exact ⟨rfl, rfl, rfl⟩) | (rw [if_neg (by omega), if_neg (by omega), if_pos (by omega)]; exact ⟨rfl, rfl, rfl⟩) | (rw [if_neg (by omega), if_neg (by omega), if_neg (by omega)]; exact ⟨rfl, rfl, rfl⟩), trivial⟩
      ·
       try simp only [Z1, Z2, Z3, Z4, Z5, Z6, Z7, Z8, Z9, Z0] at q13
       refine WC.seq (WC.region ?_)
       refine WL.q (oq_eql rfl rfl) rfl rfl rfl ?_
       refine WL.q (oq_assign rfl) rfl rfl rfl ?_
       refine WL.nil (WE.then_normal (WC.sub (fr' := [(0, _), (3, _), (5, _), (6, _), (38, _), (48, _)]) ?_ ⟨rfl, rfl, rfl, rfl, rfl, rfl, trivial⟩))
       refine WC.cond rfl (fun q15 => ?_) (fun q15 => ?_)
       ·
        try simp only [Z1, Z2, Z3, Z4, Z5, Z6, Z7, Z8, Z9, Z0] at q15
        refine WC.held ([(v4, .cells #[I (l.getD i HV0).kind, I (l.getD i HV0).width, I (l.getD i HV0).int, S (l.getD i HV0).text] 24 (0, 0))]) (by kernel_rfl) ?_
        refine WH.q 0 rfl (.tail _ (.head _)) (fun w0 => oq_fieldAddr fld24_1 rfl) rfl rfl rfl ?_
        refine WH.q 1 rfl (.tail _ (.head _)) (fun w0 => oq_load flat3 rfl (.head _) (List.mem_singleton.2 rfl) rfl) rfl rfl rfl ?_
        refine WH.q 2 rfl (.tail _ (.head _)) (fun w0 => oq_fieldAddr fld24_2 rfl) rfl rfl rfl ?_
        refine WH.q 3 rfl (.tail _ (.head _)) (fun w0 => oq_load flat2 rfl (.head _) (List.mem_singleton.2 rfl) rfl) rfl rfl rfl ?_
        refine WH.q 4 rfl (.tail _ (.head _)) (fun w0 => oq_fieldAddr fld24_1 rfl) rfl rfl rfl ?_
        refine WH.step (i := 5) (by kernel_rfl) rfl ?_
        refine WL.store1 #[_, _, _, _] ty3 rfl rfl (by first | rfl | exact OwS.one one_) (Nat.lt_of_lt_of_le (Nat.lt_succ_self _) (Nat.le_of_ble_eq_true rfl)) rfl rfl ?_
        refine WL.nil ?_
        refine WE.toH (.tail _ (.head _)) ?_
        refine WH.q 6 rfl (.tail _ (.head _)) (fun w0 => oq_fieldAddr fld24_2 rfl) rfl rfl rfl ?_
        refine WH.step (i := 7) (by kernel_rfl) rfl ?_
        refine WL.store1 #[_, _, _, _] ty2 rfl rfl (by first | rfl | exact OwS.one one_) (Nat.lt_of_lt_of_le (Nat.lt_succ_self _) (Nat.le_of_ble_eq_true rfl)) rfl rfl ?_
        refine WL.nil ?_
        refine WE.toH (.tail _ (.head _)) ?_
        refine WH.done (by kernel_rfl) ?_
        refine WE.block_normal ?_
        refine WE.f2 ?_
        refine WE.f1 ?_
        refine WE.f2 ?_
        refine WE.meet (_, _, _) ?_ ⟨rfl, rfl, rfl, rfl, trivial⟩ (List.Perm.refl _)
        try dsimp only
        exact ⟨by unfold canC; first | (rw [if_pos (by omega)]; exact ⟨rfl, and1_mod _ ⟨hii.1, hii.2.1⟩, rfl⟩) | (rw [if_neg (by omega), if_pos (by omega)]; exact ⟨rfl, rfl, rfl⟩) | (rw [if_neg (by omega), if_neg (by omega), if_pos (by omega)]; exact ⟨rfl, rfl, rfl⟩) | (rw [if_neg (by omega), if_neg (by omega), if_neg (by omega)]; exact ⟨rfl, rfl, rfl⟩), trivial⟩
       ·
        try simp only [Z1, Z2, Z3, Z4, Z5, Z6, Z7, Z8, Z9, Z0] at q15
        refine WC.seq (WC.region ?_)
        refine WL.q (oq_eql rfl rfl) rfl rfl rfl ?_
        refine WL.q (oq_assign rfl) rfl rfl rfl ?_
        refine WL.nil (WE.then_normal (WC.sub (fr' := [(0, _), (3, _), (5, _), (6, _), (56, _)]) ?_ ⟨rfl, rfl, rfl, rfl, rfl, trivial⟩))
        refine WC.cond rfl (fun q17 => ?_) (fun q17 => ?_)
        ·
         try simp only [Z1, Z2, Z3, Z4, Z5, Z6, Z7, Z8, Z9, Z0] at q17
         refine WC.region ?_
         refine WL.q (oq_fieldAddr fld24_2 rfl) rfl rfl rfl ?_
         refine WL.q (oq_load flat2 rfl (.tail _ (.head _)) (List.mem_singleton.2 rfl) rfl) rfl rfl rfl ?_
         refine WL.q (oq_fieldAddr fld24_2 rfl) rfl rfl rfl ?_
         refine WL.store1 #[_, _, _, _] ty2 rfl rfl (by first | rfl | exact OwS.one one_) (Nat.lt_of_lt_of_le (Nat.lt_succ_self _) (Nat.le_of_ble_eq_true rfl)) rfl rfl ?_
         refine WL.nil (WE.block_normal ?_)
         refine WE.f2 ?_
         refine WE.f1 ?_
         refine WE.f2 ?_
         refine WE.meet (_, _, _) ?_ ⟨rfl, rfl, rfl, rfl, trivial⟩ (List.Perm.refl _)
         try dsimp only
         exact ⟨by unfold canC; first | (rw [if_pos (by omega)]; exact ⟨rfl, and1_mod _ ⟨hii.1, hii.2.1⟩, rfl⟩) | (rw [if_neg (by omega), if_pos (by omega)]; exact ⟨rfl, rfl, rfl⟩) | (rw [if_neg (by omega), if_neg (by omega), if_pos (by omega)]; exact ⟨rfl, rfl, rfl⟩) | (rw [if_neg (by omega), if_neg (by omega), if_neg (by omega)]; exact ⟨rfl, rfl, rfl⟩), trivial⟩
        ·
         try simp only [Z1, Z2, Z3, Z4, Z5, Z6, Z7, Z8, Z9, Z0] at q17
         refine WC.region ?_
         refine WL.q (oq_fieldAddr fld24_3 rfl) rfl rfl rfl ?_
         refine WL.q (oq_load flat9 rfl (.tail _ (.head _)) (List.mem_singleton.2 rfl) rfl) rfl rfl rfl ?_
         refine WL.q (oq_fieldAddr fld24_3 rfl) rfl rfl rfl ?_
         refine WL.store1 #[_, _, _, _] ty9 rfl rfl (by first | rfl | exact OwS.one one_) (Nat.lt_of_lt_of_le (Nat.lt_succ_self _) (Nat.le_of_ble_eq_true rfl)) rfl rfl ?_
         refine WL.nil (WE.block_normal ?_)
         refine WE.f2 ?_
         refine WE.f1 ?_
         refine WE.f2 ?_
         refine WE.meet (_, _, _) ?_ ⟨rfl, rfl, rfl, rfl, trivial⟩ (List.Perm.refl _)
         try dsimp only
         exact ⟨by unfold canC; first | (rw [if_pos (by omega)]; exact ⟨rfl, and1_mod _ ⟨hii.1, hii.2.1⟩, rfl⟩) | (rw [if_neg (by omega), if_pos (by omega)]; exact ⟨rfl, rfl, rfl⟩) | (rw [if_neg (by omega), if_neg (by omega), if_pos (by omega)]; exact ⟨rfl, rfl, rfl⟩) | (rw [if_neg (by omega), if_neg (by omega), if_neg (by omega)]; exact ⟨rfl, rfl, rfl⟩), trivial⟩
     ·rintro ⟨cw, ci, ct⟩ hp
      try dsimp only at hp
      obtain ⟨hcc, _⟩ := hp
      show WC _ _ _ _ _ _ ([(0, v), (3, I (i : Int)), (5, Pt v4 0), (6, Pt w4 0)]) ([[(v4, .cells #[I (l.getD i HV0).kind, I (l.getD i HV0).width, I (l.getD i HV0).int, S (l.getD i HV0).text] 24 (0, 0))], [(w4, .cells #[I (l.getD i HV0).kind, I cw, I ci, S ct] 24 (0, 0))], A])
      refine WC.seq (WC.region ?_)
      refine WL.q (oq_loadS [_, _, _, _] agg24 ty24 rfl (.head _) (List.mem_singleton.2 rfl) rfl rfl) rfl rfl rfl ?_
      refine WL.q (oq_loadS [_, _, _, _] agg24 ty24 rfl (.tail _ (.head _)) (List.mem_singleton.2 rfl) rfl rfl) rfl rfl rfl ?_
      refine WL.q (oq_neVV (a := (l.getD i HV0)) (b := ⟨[], (l.getD i HV0).kind, cw, ci, ct⟩) rfl rfl) rfl rfl rfl ?_
      refine WL.nil (WE.then_normal (WC.sub (fr' := [(0, _), (3, _), (63, _)]) ?_ ⟨rfl, rfl, rfl, trivial⟩))
      refine WC.cond rfl (fun q19 => ?_) (fun q19 => ?_)
      ·
       try simp only [Z1, Z2, Z3, Z4, Z5, Z6, Z7, Z8, Z9, Z0] at q19
       refine WC.seq (WC.region ?_)
       refine WL.q (oq_assign rfl) rfl rfl rfl ?_
       refine WL.nil (WE.then_normal (WC.sub (fr' := [(2, _)]) ?_ ⟨rfl, trivial⟩))
       refine WC.ret (WE.block_ret (WE.then_ret (WE.then_ret (WE.block_ret (WE.then_ret ?_)))))
       refine WE.lose hv4 ?_
       refine WE.lose hw4 ?_
       refine WE.endR (.inl rfl) (res1 Tryz.results13 rfl) ?_
       rw [decide_eq_false (fun h => can_no hcc (h i hlt).2 (by simpa using q19))]
      ·
       try simp only [Z1, Z2, Z3, Z4, Z5, Z6, Z7, Z8, Z9, Z0] at q19
       refine WC.skip (WE.block_normal (WE.then_normal (WC.sub (fr' := [(0, _), (3, _)]) ?_ ⟨rfl, rfl, trivial⟩)))
       refine WC.region ?_
       refine WL.q (oq_move rfl) rfl rfl rfl ?_
       refine WL.q (oq_add rfl rfl (by rw [i64_lo, i64_hi]; (first | omega | (simp only [List.length_cons, List.length_nil, List.length_append, List.length_drop, List.length_take]; omega)))) rfl rfl rfl ?_
       refine WL.q (oq_assign rfl) rfl rfl rfl ?_
       refine WL.nil ?_
       refine WE.lose hv4 ?_
       refine WE.lose hw4 ?_
       refine WE.again (i + 1) ?_ ?_ ⟨rfl, rfl, trivial⟩ (List.Perm.refl _)
       ·try dsimp only
        exact ⟨by omega, unl_step hall hks (can_ok hcc (by simpa using q19))⟩
       ·(try dsimp only); omega
  ·
   try simp only [Z1, Z2, Z3, Z4, Z5, Z6, Z7, Z8, Z9, Z0] at q2
   refine WC.exit (WE.then_exit (WE.then_exit (WE.block_same (WE.then_normal (WC.sub (fr' := []) ?_ trivial)))))
   refine WC.seq (WC.region ?_)
   refine WL.q (oq_assign rfl) rfl rfl rfl ?_
   refine WL.nil (WE.then_normal (WC.sub (fr' := [(2, _)]) ?_ ⟨rfl, trivial⟩))
   refine WC.ret ?_
   refine WE.endR (.inl rfl) (res1 Tryz.results13 rfl) ?_
   obtain rfl : i = l.length := by omega
   exact congrArg Value.bool (decide_eq_true (p := UnL l) (fun j hj => hall j hj)).symm
end DQ
end Go.Proofs.YtodlhaghdplclaaGreatDoor
/- Headers and messages that come in. -/
namespace Go.Proofs.YtodlhaghdplclaaGreatDoor
open Go Go.RowKit Go.ChangeShapes Go.WideShapes V EI EJ ER
set_option linter.unusedVariables false
set_option linter.unusedSimpArgs false
namespace ET
theorem cS : Tryz.prog.cellsOf 9 = 1 := by kernel_rfl
theorem cI : Tryz.prog.cellsOf 3 = 1 := by kernel_rfl
theorem cJ : Tryz.prog.cellsOf 2 = 1 := by kernel_rfl
theorem cV : Tryz.prog.cellsOf 24 = 4 := by kernel_rfl
theorem cH : Tryz.prog.cellsOf 32 = 5 := by kernel_rfl
def okI (x : Int) : Prop := -9223372036854775808 ≤ x ∧ x ≤ 9223372036854775807
def okV (h : HV) : Prop := okI h.int ∧ okI h.width ∧ okI h.kind
theorem wfI {n : Int} (h : (Lit.int .i64 n).wf = true) : okI n := by
 have := wf_bounds h
 rw [i64_lo, i64_hi] at this; exact this
section
variable {H : Type} {enc : TypeId × Value → H} {W : World}
set_option maxRecDepth 100000 in
theorem val_cells {n : Nat} {cs : List Value} {y : DataW H × List MemPlace} (h : DataW.trod enc Tryz.prog W 0 (fun _ => true) true n 24 cs = some y) (hl : cs.length = 4) : ∃ x : HV, cs = [I x.kind, I x.width, I x.int, S x.text] ∧ okV x := by
 obtain ⟨xs, m, _, rfl, _, hlen, hf⟩ := DataW.trod_struct Tryz.underlying24 h
 match xs, hlen with
 | [y0, y1, y2, y3], _ =>
  match cs, hl with
  | [a, b, c, d], _ =>
   have k0 : DataW.trod enc Tryz.prog W 0 (fun _ => true) true m 3 (([a, b, c, d].drop 0).take (Tryz.prog.cellsOf 3)) = some y0 := hf 0 _ rfl
   have k1 : DataW.trod enc Tryz.prog W 0 (fun _ => true) true m 3 (([a, b, c, d].drop 1).take (Tryz.prog.cellsOf 3)) = some y1 := hf 1 _ rfl
   have k2 : DataW.trod enc Tryz.prog W 0 (fun _ => true) true m 2 (([a, b, c, d].drop 2).take (Tryz.prog.cellsOf 2)) = some y2 := hf 2 _ rfl
   have k3 : DataW.trod enc Tryz.prog W 0 (fun _ => true) true m 9 (([a, b, c, d].drop 3).take (Tryz.prog.cellsOf 9)) = some y3 := hf 3 _ rfl
   rw [cI] at k0 k1
   rw [cJ] at k2
   rw [cS] at k3
   obtain ⟨s0, e0, _, w0⟩ := DataW.trod_int Tryz.underlying3 k0
   obtain ⟨s1, e1, _, w1⟩ := DataW.trod_int Tryz.underlying3 k1
   obtain ⟨s2, e2, _, w2⟩ := DataW.trod_int Tryz.underlying2 k2
   obtain ⟨s3, e3, _⟩ := DataW.trod_string Tryz.underlying9 k3
   simp at e0 e1 e2 e3
   subst e0; subst e1; subst e2; subst e3
   obtain ⟨⟨s3⟩⟩ := s3
   exact ⟨⟨[], s0, s1, s2, s3⟩, rfl, wfI w2, wfI w1, wfI w0⟩
set_option maxRecDepth 100000 in
theorem hv_cells (n : Nat) (cs : List Value) (y : DataW H × List MemPlace) (h : DataW.trod enc Tryz.prog W 0 (fun _ => true) true n 32 cs = some y) (hl : cs.length = 5) : ∃ (x : HV) (A : Hp), cs = HV.row x ∧ Has A W ∧ okV x := by
 obtain ⟨xs, m, _, rfl, _, hlen, hf⟩ := DataW.trod_struct Tryz.underlying32 h
 match xs, hlen with
 | [y0, y1], _ =>
  match cs, hl with
  | [a, b, c, d, e], _ =>
   have k0 : DataW.trod enc Tryz.prog W 0 (fun _ => true) true m 9 (([a, b, c, d, e].drop 0).take (Tryz.prog.cellsOf 9)) = some y0 := hf 0 _ rfl
   have k1 : DataW.trod enc Tryz.prog W 0 (fun _ => true) true m 24 (([a, b, c, d, e].drop 1).take (Tryz.prog.cellsOf 24)) = some y1 := hf 1 _ rfl
   rw [cS] at k0
   rw [cV] at k1
   obtain ⟨s0, e0, _⟩ := DataW.trod_string Tryz.underlying9 k0
   obtain ⟨x, e1, hx⟩ := val_cells k1 rfl
   simp at e0 e1
   obtain ⟨rfl, rfl, rfl, rfl⟩ := e1
   subst e0
   obtain ⟨⟨s0⟩⟩ := s0
   exact ⟨⟨s0, x.kind, x.width, x.int, x.text⟩, [], rfl, Has.nil W, hx⟩
theorem int_of {l : List HV} (h : ∀ x ∈ l, okV x) : intOk l := fun i hi => by
 have := h (l.getD i HV0) (by rw [List.getD_eq_getElem?_getD, List.getElem?_eq_getElem hi]; exact List.getElem_mem hi)
 exact ⟨this.1.1, this.1.2, this.2.1.1, this.2.1.2⟩
theorem hs_cells {n : Nat} {cs : List Value} {y : DataW H × List MemPlace} (h : DataW.trod enc Tryz.prog W 0 (fun _ => true) true n 22 cs = some y) :
  ∃ (v : Value) (l : List HV) (A : Hp), cs = [v] ∧ Has A W ∧ RdS 5 v A l.length (recsV HV.row l) ∧ l.length ≤ maxLen ∧ ∀ x ∈ l, okV x :=
 trod_sl HV.row (fun x _ => okV x) (fun _ _ _ h _ => h) (fun _ => rfl) (by decide) Tryz.underlying22 cH hv_cells h
set_option maxRecDepth 100000 in
theorem arg_hs {base : Nat} {r : Reach} {v : Value} {d : DataW H} {ps : List MemPlace} (hval : Value.okWide Tryz.prog W r base 22 v) (h : DataW.Trod enc Tryz.prog W 0 (fun _ => true) true 22 v d ps) :
  ∃ (l : List HV) (A : Hp), Has A W ∧ RdS 5 v A l.length (recsV HV.row l) ∧ l.length ≤ maxLen ∧ ∀ x ∈ l, okV x := by
 obtain ⟨a, len, cap, rfl⟩ := okWide_slice Tryz.underlying22 hval
 obtain ⟨fuel, hfu⟩ := h
 obtain ⟨v, l, A, e, hA, hr, hl, hok⟩ := hs_cells hfu
 simp [Value.cells] at e
 subst e
 exact ⟨l, A, hA, hr, hl, hok⟩
set_option maxRecDepth 100000 in
theorem arg_val {base : Nat} {r : Reach} {v : Value} {d : DataW H} {ps : List MemPlace} (hval : Value.okWide Tryz.prog W r base 24 v) (h : DataW.Trod enc Tryz.prog W 0 (fun _ => true) true 24 v d ps) :
  ∃ x : HV, v = .agg #[I x.kind, I x.width, I x.int, S x.text] ∧ okV x := by
 obtain ⟨cs, rfl, hsz⟩ := okWide_struct Tryz.underlying24 hval
 obtain ⟨fuel, hfu⟩ := h
 obtain ⟨x, e, hx⟩ := val_cells hfu (by show cs.toList.length = 4; rw [Array.length_toList, hsz, cV])
 refine ⟨x, ?_, hx⟩
 obtain ⟨cs⟩ := cs
 simp [Value.cells] at e
 rw [e]
end
end ET
end Go.Proofs.YtodlhaghdplclaaGreatDoor
