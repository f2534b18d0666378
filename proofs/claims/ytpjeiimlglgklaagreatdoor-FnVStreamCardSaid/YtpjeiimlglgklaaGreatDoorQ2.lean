/- The encodings of values. -/
import Derived.Test.YtpjeiimlglgklaaGreatDoorQ1
import Derived.Test.YtpjeiimlglgklaaGreatDoorQ0
import Derived.Lay
import Derived.LaidEql
namespace Go.Proofs.YtpjeiimlglgklaaGreatDoor
open Go Go.RowKit V EA EB EC ED EE EF
set_option linter.unusedSimpArgs false
set_option linter.unusedVariables false
set_option maxRecDepth 10000
namespace EG
theorem call31 : Callable Tryz.prog 31 := ⟨_, Tryz.func31, rfl, by kernel_rfl⟩
theorem call121 : Callable Tryz.prog 121 := ⟨_, Tryz.func121, rfl, by kernel_rfl⟩
theorem call122 : Callable Tryz.prog 122 := ⟨_, Tryz.func122, rfl, by kernel_rfl⟩
theorem call126 : Callable Tryz.prog 126 := ⟨_, Tryz.func126, rfl, by kernel_rfl⟩
theorem call130 : Callable Tryz.prog 130 := ⟨_, Tryz.func130, rfl, by kernel_rfl⟩
theorem call134 : Callable Tryz.prog 134 := ⟨_, Tryz.func134, rfl, by kernel_rfl⟩
theorem call138 : Callable Tryz.prog 138 := ⟨_, Tryz.func138, rfl, by kernel_rfl⟩
theorem call139 : Callable Tryz.prog 139 := ⟨_, Tryz.func139, rfl, by kernel_rfl⟩
theorem call143 : Callable Tryz.prog 143 := ⟨_, Tryz.func143, rfl, by kernel_rfl⟩
theorem call144 : Callable Tryz.prog 144 := ⟨_, Tryz.func144, rfl, by kernel_rfl⟩
theorem call155 : Callable Tryz.prog 155 := ⟨_, Tryz.func155, rfl, by kernel_rfl⟩
theorem call156 : Callable Tryz.prog 156 := ⟨_, Tryz.func156, rfl, by kernel_rfl⟩
theorem call160 : Callable Tryz.prog 160 := ⟨_, Tryz.func160, rfl, by kernel_rfl⟩
theorem ty5 : Ty Tryz.prog 5 (.int .u8 0) 1 1 := ty_of (by kernel_rfl)
theorem ty20 : Ty Tryz.prog 20 .nilIface 1 16 := ty_of (by kernel_rfl)
theorem ty127 : Ty Tryz.prog 127 (.agg #[(.int .u8 0), (.int .u8 0), (.int .u8 0), (.int .u8 0), (.int .u8 0), (.int .u8 0), (.int .u8 0), (.int .u8 0), (.int .u8 0), (.int .u8 0), (.int .u8 0), (.int .u8 0), (.int .u8 0), (.int .u8 0), (.int .u8 0), (.int .u8 0)]) 16 16 := ty_of (by kernel_rfl)
theorem ty170 : Ty Tryz.prog 170 (.agg #[(.int .u8 0), (.int .u16 0), (.slice none 0 0)]) 3 32 := ty_of (by kernel_rfl)
theorem conc113 : Conc Tryz.prog 113 := ⟨_, Tryz.underlying113, by simp⟩
theorem conc114 : Conc Tryz.prog 114 := ⟨_, Tryz.underlying114, by simp⟩
theorem conc117 : Conc Tryz.prog 117 := ⟨_, Tryz.underlying117, by simp⟩
theorem conc118 : Conc Tryz.prog 118 := ⟨_, Tryz.underlying118, by simp⟩
theorem conc119 : Conc Tryz.prog 119 := ⟨_, Tryz.underlying119, by simp⟩
theorem agg127 : Agg Tryz.prog 127 := agg_arr Tryz.underlying127
theorem agg170 : Agg Tryz.prog 170 := agg_of Tryz.underlying170
theorem str170 : Str Tryz.prog 170 #[(0, 1), (1, 1), (2, 1)] := ⟨_, Tryz.underlying170, fun w => by kernel_rfl⟩
theorem vtInt8Value (x : Int) : Fn0 Tryz.prog 121 [.int .i8 x] (.int .u8 2) := by
 refine Fn0.enter (n := 3) Tryz.func121 rfl rfl fun w0 => ?_
 refine WC.sub (fr' := []) ?_ trivial
 refine WC.seq (WC.region ?_)
 refine WL.q (oq_assign rfl) rfl rfl rfl ?_
 refine WL.nil (WE.then_normal (WC.sub (fr' := []) ?_ trivial))
 refine WC.seq (WC.region ?_)
 refine WL.q (oq_assign rfl) rfl rfl rfl ?_
 refine WL.nil (WE.then_normal (WC.sub (fr' := [(2, _)]) ?_ ⟨rfl, trivial⟩))
 refine WC.ret ?_
 refine WE.end0 (.inl rfl) (res1 Tryz.results121 rfl) ?_
 rfl
theorem vtInt16Value (x : Int) : Fn0 Tryz.prog 126 [.int .i16 x] (.int .u8 3) := by
 refine Fn0.enter (n := 3) Tryz.func126 rfl rfl fun w0 => ?_
 refine WC.sub (fr' := []) ?_ trivial
 refine WC.seq (WC.region ?_)
 refine WL.q (oq_assign rfl) rfl rfl rfl ?_
 refine WL.nil (WE.then_normal (WC.sub (fr' := []) ?_ trivial))
 refine WC.seq (WC.region ?_)
 refine WL.q (oq_assign rfl) rfl rfl rfl ?_
 refine WL.nil (WE.then_normal (WC.sub (fr' := [(2, _)]) ?_ ⟨rfl, trivial⟩))
 refine WC.ret ?_
 refine WE.end0 (.inl rfl) (res1 Tryz.results126 rfl) ?_
 rfl
theorem vtInt32Value (x : Int) : Fn0 Tryz.prog 130 [.int .i32 x] (.int .u8 4) := by
 refine Fn0.enter (n := 3) Tryz.func130 rfl rfl fun w0 => ?_
 refine WC.sub (fr' := []) ?_ trivial
 refine WC.seq (WC.region ?_)
 refine WL.q (oq_assign rfl) rfl rfl rfl ?_
 refine WL.nil (WE.then_normal (WC.sub (fr' := []) ?_ trivial))
 refine WC.seq (WC.region ?_)
 refine WL.q (oq_assign rfl) rfl rfl rfl ?_
 refine WL.nil (WE.then_normal (WC.sub (fr' := [(2, _)]) ?_ ⟨rfl, trivial⟩))
 refine WC.ret ?_
 refine WE.end0 (.inl rfl) (res1 Tryz.results130 rfl) ?_
 rfl
theorem vtInt64Value (x : Int) : Fn0 Tryz.prog 134 [.int .i64 x] (.int .u8 5) := by
 refine Fn0.enter (n := 3) Tryz.func134 rfl rfl fun w0 => ?_
 refine WC.sub (fr' := []) ?_ trivial
 refine WC.seq (WC.region ?_)
 refine WL.q (oq_assign rfl) rfl rfl rfl ?_
 refine WL.nil (WE.then_normal (WC.sub (fr' := []) ?_ trivial))
 refine WC.seq (WC.region ?_)
 refine WL.q (oq_assign rfl) rfl rfl rfl ?_
 refine WL.nil (WE.then_normal (WC.sub (fr' := [(2, _)]) ?_ ⟨rfl, trivial⟩))
 refine WC.ret ?_
 refine WE.end0 (.inl rfl) (res1 Tryz.results134 rfl) ?_
 rfl
theorem encInt8Value (base : Nat) (k : TypeId) (r : Value) (f : FuncId) (Wt : List UInt8 → Hp → Prop) (hW : Wr base k r f Wt) (acc0 : List UInt8) (G : Hp) (hG : Wt acc0 G) (x : Int) (hal : acc0.length ≤ 80000000000000) : FnW Tryz.prog 120 [.int .i8 x, .iface k r] base [G] (Then Wt (acc0 ++ (2 :: be 1 x)) []) := by
 refine FnW.enter (n := 14) Tryz.func120 rfl rfl fun w0 R0 hbase => ?_
 subst hbase
 show WC _ _ _ _ _ _ _ ([G, R0])
 refine WC.sub (fr' := [(0, _), (1, _)]) ?_ ⟨rfl, rfl, trivial⟩
 refine WC.seq (WC.region ?_)
 refine WL.q (oq_assign rfl) rfl rfl rfl ?_
 refine WL.nil (WE.then_normal (WC.sub (fr' := [(0, _), (1, _)]) ?_ ⟨rfl, rfl, trivial⟩))
 refine WC.seq (WC.region ?_)
 refine WL.q (oq_move rfl) rfl rfl rfl ?_
 refine WL.qc (oq_call (vtInt8Value x) call121 rfl) rfl rfl rfl ?_
 refine WL.q (oq_build #[_, _, _] str170 ty170 rfl rfl) rfl rfl rfl ?_
 refine WL.alloc ty170 rfl rfl fun b1_3 hb1_3 => ?_
 refine WL.storeS #[_, _, _] ty170 rfl rfl rfl rfl (Nat.le_of_ble_eq_true rfl) rfl rfl ?_
 refine WL.nil (WE.then_normal (WC.sub (fr' := [(0, _), (1, _), (5, _)]) ?_ ⟨rfl, rfl, rfl, trivial⟩))
 refine WC.seq (WC.region ?_)
 refine WL.q (oq_loadS [_, _, _] agg170 ty170 rfl (.head _) (List.mem_singleton.2 rfl) rfl rfl) rfl rfl rfl ?_
 refine WL.q (oq_move rfl) rfl rfl rfl ?_
 refine WL.q (oq_move rfl) rfl rfl rfl ?_
 refine WL.q (oq_makeI conc114 rfl) rfl rfl rfl ?_
 refine WL.f1 ?_
 refine WL.callW1 (encScalar _ k r f Wt hW acc0 G hG 2 (.int .u16 0) (.slice none 0 0) ⟨114, .i8, 1, x⟩ (by simp [Num.ok, Num.kinds]) hal) call122 rfl rfl rfl fun v2_4 Hs2_4 hR2_4 => ?_
 obtain ⟨G2, rfl, rfl, hG2⟩ := hR2_4
 refine WL.to1 ?_
 refine WL.q (oq_assign rfl) rfl rfl rfl ?_
 refine WL.nil (WE.then_normal (WC.sub (fr' := [(4, _)]) ?_ ⟨rfl, trivial⟩))
 refine WC.ret ?_
 refine WE.f1 ?_
 refine WE.lose hb1_3 ?_
 refine WE.endW1 (.inl rfl) (res1 Tryz.results120 rfl) ?_
 exact ⟨_, rfl, rfl, hG2⟩
theorem encInt16Value (base : Nat) (k : TypeId) (r : Value) (f : FuncId) (Wt : List UInt8 → Hp → Prop) (hW : Wr base k r f Wt) (acc0 : List UInt8) (G : Hp) (hG : Wt acc0 G) (x : Int) (hal : acc0.length ≤ 80000000000000) : FnW Tryz.prog 125 [.int .i16 x, .iface k r] base [G] (Then Wt (acc0 ++ (3 :: be 2 x)) []) := by
 refine FnW.enter (n := 14) Tryz.func125 rfl rfl fun w0 R0 hbase => ?_
 subst hbase
 show WC _ _ _ _ _ _ _ ([G, R0])
 refine WC.sub (fr' := [(0, _), (1, _)]) ?_ ⟨rfl, rfl, trivial⟩
 refine WC.seq (WC.region ?_)
 refine WL.q (oq_assign rfl) rfl rfl rfl ?_
 refine WL.nil (WE.then_normal (WC.sub (fr' := [(0, _), (1, _)]) ?_ ⟨rfl, rfl, trivial⟩))
 refine WC.seq (WC.region ?_)
 refine WL.q (oq_move rfl) rfl rfl rfl ?_
 refine WL.qc (oq_call (vtInt16Value x) call126 rfl) rfl rfl rfl ?_
 refine WL.q (oq_build #[_, _, _] str170 ty170 rfl rfl) rfl rfl rfl ?_
 refine WL.alloc ty170 rfl rfl fun b1_3 hb1_3 => ?_
 refine WL.storeS #[_, _, _] ty170 rfl rfl rfl rfl (Nat.le_of_ble_eq_true rfl) rfl rfl ?_
 refine WL.nil (WE.then_normal (WC.sub (fr' := [(0, _), (1, _), (5, _)]) ?_ ⟨rfl, rfl, rfl, trivial⟩))
 refine WC.seq (WC.region ?_)
 refine WL.q (oq_loadS [_, _, _] agg170 ty170 rfl (.head _) (List.mem_singleton.2 rfl) rfl rfl) rfl rfl rfl ?_
 refine WL.q (oq_move rfl) rfl rfl rfl ?_
 refine WL.q (oq_move rfl) rfl rfl rfl ?_
 refine WL.q (oq_makeI conc117 rfl) rfl rfl rfl ?_
 refine WL.f1 ?_
 refine WL.callW1 (encScalar _ k r f Wt hW acc0 G hG 3 (.int .u16 0) (.slice none 0 0) ⟨117, .i16, 2, x⟩ (by simp [Num.ok, Num.kinds]) hal) call122 rfl rfl rfl fun v2_4 Hs2_4 hR2_4 => ?_
 obtain ⟨G2, rfl, rfl, hG2⟩ := hR2_4
 refine WL.to1 ?_
 refine WL.q (oq_assign rfl) rfl rfl rfl ?_
 refine WL.nil (WE.then_normal (WC.sub (fr' := [(4, _)]) ?_ ⟨rfl, trivial⟩))
 refine WC.ret ?_
 refine WE.f1 ?_
 refine WE.lose hb1_3 ?_
 refine WE.endW1 (.inl rfl) (res1 Tryz.results125 rfl) ?_
 exact ⟨_, rfl, rfl, hG2⟩
theorem encInt32Value (base : Nat) (k : TypeId) (r : Value) (f : FuncId) (Wt : List UInt8 → Hp → Prop) (hW : Wr base k r f Wt) (acc0 : List UInt8) (G : Hp) (hG : Wt acc0 G) (x : Int) (hal : acc0.length ≤ 80000000000000) : FnW Tryz.prog 129 [.int .i32 x, .iface k r] base [G] (Then Wt (acc0 ++ (4 :: be 4 x)) []) := by
 refine FnW.enter (n := 14) Tryz.func129 rfl rfl fun w0 R0 hbase => ?_
 subst hbase
 show WC _ _ _ _ _ _ _ ([G, R0])
 refine WC.sub (fr' := [(0, _), (1, _)]) ?_ ⟨rfl, rfl, trivial⟩
 refine WC.seq (WC.region ?_)
 refine WL.q (oq_assign rfl) rfl rfl rfl ?_
 refine WL.nil (WE.then_normal (WC.sub (fr' := [(0, _), (1, _)]) ?_ ⟨rfl, rfl, trivial⟩))
 refine WC.seq (WC.region ?_)
 refine WL.q (oq_move rfl) rfl rfl rfl ?_
 refine WL.qc (oq_call (vtInt32Value x) call130 rfl) rfl rfl rfl ?_
 refine WL.q (oq_build #[_, _, _] str170 ty170 rfl rfl) rfl rfl rfl ?_
 refine WL.alloc ty170 rfl rfl fun b1_3 hb1_3 => ?_
 refine WL.storeS #[_, _, _] ty170 rfl rfl rfl rfl (Nat.le_of_ble_eq_true rfl) rfl rfl ?_
 refine WL.nil (WE.then_normal (WC.sub (fr' := [(0, _), (1, _), (5, _)]) ?_ ⟨rfl, rfl, rfl, trivial⟩))
 refine WC.seq (WC.region ?_)
 refine WL.q (oq_loadS [_, _, _] agg170 ty170 rfl (.head _) (List.mem_singleton.2 rfl) rfl rfl) rfl rfl rfl ?_
 refine WL.q (oq_move rfl) rfl rfl rfl ?_
 refine WL.q (oq_move rfl) rfl rfl rfl ?_
 refine WL.q (oq_makeI conc118 rfl) rfl rfl rfl ?_
 refine WL.f1 ?_
 refine WL.callW1 (encScalar _ k r f Wt hW acc0 G hG 4 (.int .u16 0) (.slice none 0 0) ⟨118, .i32, 4, x⟩ (by simp [Num.ok, Num.kinds]) hal) call122 rfl rfl rfl fun v2_4 Hs2_4 hR2_4 => ?_
 obtain ⟨G2, rfl, rfl, hG2⟩ := hR2_4
 refine WL.to1 ?_
 refine WL.q (oq_assign rfl) rfl rfl rfl ?_
 refine WL.nil (WE.then_normal (WC.sub (fr' := [(4, _)]) ?_ ⟨rfl, trivial⟩))
 refine WC.ret ?_
 refine WE.f1 ?_
 refine WE.lose hb1_3 ?_
 refine WE.endW1 (.inl rfl) (res1 Tryz.results129 rfl) ?_
 exact ⟨_, rfl, rfl, hG2⟩
theorem encInt64Value (base : Nat) (k : TypeId) (r : Value) (f : FuncId) (Wt : List UInt8 → Hp → Prop) (hW : Wr base k r f Wt) (acc0 : List UInt8) (G : Hp) (hG : Wt acc0 G) (x : Int) (hal : acc0.length ≤ 80000000000000) : FnW Tryz.prog 133 [.int .i64 x, .iface k r] base [G] (Then Wt (acc0 ++ (5 :: be 8 x)) []) := by
 refine FnW.enter (n := 14) Tryz.func133 rfl rfl fun w0 R0 hbase => ?_
 subst hbase
 show WC _ _ _ _ _ _ _ ([G, R0])
 refine WC.sub (fr' := [(0, _), (1, _)]) ?_ ⟨rfl, rfl, trivial⟩
 refine WC.seq (WC.region ?_)
 refine WL.q (oq_assign rfl) rfl rfl rfl ?_
 refine WL.nil (WE.then_normal (WC.sub (fr' := [(0, _), (1, _)]) ?_ ⟨rfl, rfl, trivial⟩))
 refine WC.seq (WC.region ?_)
 refine WL.q (oq_move rfl) rfl rfl rfl ?_
 refine WL.qc (oq_call (vtInt64Value x) call134 rfl) rfl rfl rfl ?_
 refine WL.q (oq_build #[_, _, _] str170 ty170 rfl rfl) rfl rfl rfl ?_
 refine WL.alloc ty170 rfl rfl fun b1_3 hb1_3 => ?_
 refine WL.storeS #[_, _, _] ty170 rfl rfl rfl rfl (Nat.le_of_ble_eq_true rfl) rfl rfl ?_
 refine WL.nil (WE.then_normal (WC.sub (fr' := [(0, _), (1, _), (5, _)]) ?_ ⟨rfl, rfl, rfl, trivial⟩))
 refine WC.seq (WC.region ?_)
 refine WL.q (oq_loadS [_, _, _] agg170 ty170 rfl (.head _) (List.mem_singleton.2 rfl) rfl rfl) rfl rfl rfl ?_
 refine WL.q (oq_move rfl) rfl rfl rfl ?_
 refine WL.q (oq_move rfl) rfl rfl rfl ?_
 refine WL.q (oq_makeI conc119 rfl) rfl rfl rfl ?_
 refine WL.f1 ?_
 refine WL.callW1 (encScalar _ k r f Wt hW acc0 G hG 5 (.int .u16 0) (.slice none 0 0) ⟨119, .i64, 8, x⟩ (by simp [Num.ok, Num.kinds]) hal) call122 rfl rfl rfl fun v2_4 Hs2_4 hR2_4 => ?_
 obtain ⟨G2, rfl, rfl, hG2⟩ := hR2_4
 refine WL.to1 ?_
 refine WL.q (oq_assign rfl) rfl rfl rfl ?_
 refine WL.nil (WE.then_normal (WC.sub (fr' := [(4, _)]) ?_ ⟨rfl, trivial⟩))
 refine WC.ret ?_
 refine WE.f1 ?_
 refine WE.lose hb1_3 ?_
 refine WE.endW1 (.inl rfl) (res1 Tryz.results133 rfl) ?_
 exact ⟨_, rfl, rfl, hG2⟩
theorem vtBytesValue (s : Value) : Fn0 Tryz.prog 138 [s] (.int .u8 6) := by
 refine Fn0.enter (n := 3) Tryz.func138 rfl rfl fun w0 => ?_
 refine WC.sub (fr' := []) ?_ trivial
 refine WC.seq (WC.region ?_)
 refine WL.q (oq_assign rfl) rfl rfl rfl ?_
 refine WL.nil (WE.then_normal (WC.sub (fr' := []) ?_ trivial))
 refine WC.seq (WC.region ?_)
 refine WL.q (oq_assign rfl) rfl rfl rfl ?_
 refine WL.nil (WE.then_normal (WC.sub (fr' := [(2, _)]) ?_ ⟨rfl, trivial⟩))
 refine WC.ret ?_
 refine WE.end0 (.inl rfl) (res1 Tryz.results138 rfl) ?_
 rfl
theorem encBytesValue (base : Nat) (k : TypeId) (r : Value) (f : FuncId) (Wt : List UInt8 → Hp → Prop) (hW : Wr base k r f Wt) (acc0 : List UInt8) (G : Hp) (hG : Wt acc0 G) (s : Value) (Z : Hp) (data : List UInt8) (hr : RdS 1 s Z data.length (bytesV data)) (hdl : data.length ≤ 32767) (hal : acc0.length ≤ 80000000000000) : FnW Tryz.prog 137 [s, .iface k r] base [G, Z] (Then Wt (acc0 ++ (6 :: be 2 data.length ++ data)) [Z]) := by
 refine FnW.enter (n := 13) Tryz.func137 rfl rfl fun w0 R0 hbase => ?_
 subst hbase
 show WC _ _ _ _ _ _ _ ([G, Z, R0])
 refine WC.sub (fr' := [(0, _), (1, _)]) ?_ ⟨rfl, rfl, trivial⟩
 refine WC.seq (WC.region ?_)
 refine WL.q (oq_assign rfl) rfl rfl rfl ?_
 refine WL.nil (WE.then_normal (WC.sub (fr' := [(0, _), (1, _)]) ?_ ⟨rfl, rfl, trivial⟩))
 refine WC.seq (WC.region ?_)
 refine WL.q (oq_move rfl) rfl rfl rfl ?_
 refine WL.qc (oq_call (vtBytesValue s) call138 rfl) rfl rfl rfl ?_
 refine WL.q (oq_build #[_, _, _] str170 ty170 rfl rfl) rfl rfl rfl ?_
 refine WL.alloc ty170 rfl rfl fun b1_3 hb1_3 => ?_
 refine WL.storeS #[_, _, _] ty170 rfl rfl rfl rfl (Nat.le_of_ble_eq_true rfl) rfl rfl ?_
 refine WL.nil (WE.then_normal (WC.sub (fr' := [(0, _), (1, _), (5, _)]) ?_ ⟨rfl, rfl, rfl, trivial⟩))
 refine WC.seq (WC.region ?_)
 refine WL.q (oq_loadS [_, _, _] agg170 ty170 rfl (.head _) (List.mem_singleton.2 rfl) rfl rfl) rfl rfl rfl ?_
 refine WL.q (oq_move rfl) rfl rfl rfl ?_
 refine WL.q (oq_move rfl) rfl rfl rfl ?_
 refine WL.f2 ?_
 refine WL.f2 ?_
 refine WL.callW2 (encBytes _ k r f Wt hW acc0 G hG 6 (.int .u16 0) (.slice none 0 0) s Z data hr hdl hal) call139 rfl rfl rfl fun v2_3 Hs2_3 hR2_3 => ?_
 obtain ⟨G2, rfl, rfl, hG2⟩ := hR2_3
 refine WL.to2 ?_
 refine WL.q (oq_assign rfl) rfl rfl rfl ?_
 refine WL.nil (WE.then_normal (WC.sub (fr' := [(4, _)]) ?_ ⟨rfl, trivial⟩))
 refine WC.ret ?_
 refine WE.f2 ?_
 refine WE.lose hb1_3 ?_
 refine WE.endW2 (.inl rfl) (res1 Tryz.results137 rfl) ?_
 exact ⟨_, rfl, rfl, hG2⟩
theorem vtStringValue (s : Value) : Fn0 Tryz.prog 143 [s] (.int .u8 7) := by
 refine Fn0.enter (n := 3) Tryz.func143 rfl rfl fun w0 => ?_
 refine WC.sub (fr' := []) ?_ trivial
 refine WC.seq (WC.region ?_)
 refine WL.q (oq_assign rfl) rfl rfl rfl ?_
 refine WL.nil (WE.then_normal (WC.sub (fr' := []) ?_ trivial))
 refine WC.seq (WC.region ?_)
 refine WL.q (oq_assign rfl) rfl rfl rfl ?_
 refine WL.nil (WE.then_normal (WC.sub (fr' := [(2, _)]) ?_ ⟨rfl, trivial⟩))
 refine WC.ret ?_
 refine WE.end0 (.inl rfl) (res1 Tryz.results143 rfl) ?_
 rfl
theorem encStringValue (base bb : Nat) (acc0 : List UInt8) (G : Hp) (hG : BufG base bb acc0 G) (data : List UInt8) (hdl : data.length ≤ 32767) (hal : acc0.length ≤ 80000000000000) : FnW Tryz.prog 142 [S data, .iface 45 (Pt bb 0)] base [G] (Then (BufG base bb) (acc0 ++ (7 :: be 2 data.length ++ data)) []) := by
 refine FnW.enter (n := 13) Tryz.func142 rfl rfl fun w0 R0 hbase => ?_
 subst hbase
 show WC _ _ _ _ _ _ _ ([G, R0])
 refine WC.sub (fr' := [(0, _), (1, _)]) ?_ ⟨rfl, rfl, trivial⟩
 refine WC.seq (WC.region ?_)
 refine WL.q (oq_assign rfl) rfl rfl rfl ?_
 refine WL.nil (WE.then_normal (WC.sub (fr' := [(0, _), (1, _)]) ?_ ⟨rfl, rfl, trivial⟩))
 refine WC.seq (WC.region ?_)
 refine WL.q (oq_move rfl) rfl rfl rfl ?_
 refine WL.qc (oq_call (vtStringValue (S data)) call143 rfl) rfl rfl rfl ?_
 refine WL.q (oq_build #[_, _, _] str170 ty170 rfl rfl) rfl rfl rfl ?_
 refine WL.alloc ty170 rfl rfl fun b1_3 hb1_3 => ?_
 refine WL.storeS #[_, _, _] ty170 rfl rfl rfl rfl (Nat.le_of_ble_eq_true rfl) rfl rfl ?_
 refine WL.nil (WE.then_normal (WC.sub (fr' := [(0, _), (1, _), (5, _)]) ?_ ⟨rfl, rfl, rfl, trivial⟩))
 refine WC.seq (WC.region ?_)
 refine WL.q (oq_loadS [_, _, _] agg170 ty170 rfl (.head _) (List.mem_singleton.2 rfl) rfl rfl) rfl rfl rfl ?_
 refine WL.q (oq_move rfl) rfl rfl rfl ?_
 refine WL.q (oq_move rfl) rfl rfl rfl ?_
 refine WL.f1 ?_
 refine WL.callW1 (encString _ bb acc0 G hG 7 (.int .u16 0) (.slice none 0 0) data hdl hal) call144 rfl rfl rfl fun v2_3 Hs2_3 hR2_3 => ?_
 obtain ⟨G2, rfl, rfl, hG2⟩ := hR2_3
 refine WL.to1 ?_
 refine WL.q (oq_assign rfl) rfl rfl rfl ?_
 refine WL.nil (WE.then_normal (WC.sub (fr' := [(4, _)]) ?_ ⟨rfl, trivial⟩))
 refine WC.ret ?_
 refine WE.f1 ?_
 refine WE.lose hb1_3 ?_
 refine WE.endW1 (.inl rfl) (res1 Tryz.results142 rfl) ?_
 exact ⟨_, rfl, rfl, hG2⟩
theorem vtBoolValue (b : Bool) : Fn0 Tryz.prog 160 [.bool b] (.int .u8 ((if b then 0 else 1 : Nat) : Int)) := by
 refine Fn0.enter (n := 4) Tryz.func160 rfl rfl fun w0 => ?_
 refine WC.sub (fr' := [(0, _)]) ?_ ⟨rfl, trivial⟩
 refine WC.seq (WC.region ?_)
 refine WL.q (oq_assign rfl) rfl rfl rfl ?_
 refine WL.nil (WE.then_normal (WC.sub (fr' := [(0, _)]) ?_ ⟨rfl, trivial⟩))
 refine WC.seq (WC.seq (WC.region ?_))
 refine WL.q (oq_move rfl) rfl rfl rfl ?_
 refine WL.nil (WE.then_normal (WC.sub (fr' := [(3, _)]) ?_ ⟨rfl, trivial⟩))
 refine WC.cond rfl (fun q1 => ?_) (fun q1 => ?_)
 ·
  try simp only [Z1, Z2, Z3, Z4, Z5, Z6, Z7, Z8, Z9, Z0] at q1
  refine WC.seq (WC.region ?_)
  refine WL.q (oq_assign rfl) rfl rfl rfl ?_
  refine WL.nil (WE.then_normal (WC.sub (fr' := [(2, _)]) ?_ ⟨rfl, trivial⟩))
  refine WC.ret (WE.then_ret ?_)
  refine WE.end0 (.inl rfl) (res1 Tryz.results160 rfl) ?_
  rw [q1]; rfl
 ·
  try simp only [Z1, Z2, Z3, Z4, Z5, Z6, Z7, Z8, Z9, Z0] at q1
  refine WC.skip (WE.then_normal (WC.sub (fr' := []) ?_ trivial))
  refine WC.seq (WC.region ?_)
  refine WL.q (oq_assign rfl) rfl rfl rfl ?_
  refine WL.nil (WE.then_normal (WC.sub (fr' := [(2, _)]) ?_ ⟨rfl, trivial⟩))
  refine WC.ret ?_
  refine WE.end0 (.inl rfl) (res1 Tryz.results160 rfl) ?_
  rw [q1]; rfl
theorem encBoolValue (base : Nat) (k : TypeId) (r : Value) (f : FuncId) (Wt : List UInt8 → Hp → Prop) (hW : Wr base k r f Wt) (acc0 : List UInt8) (G : Hp) (hG : Wt acc0 G) (b : Bool) (hal : acc0.length ≤ 80000000000000) : FnW Tryz.prog 159 [.bool b, .iface k r] base [G] (Then Wt (acc0 ++ [(if b then 0 else 1 : UInt8)]) []) := by
 refine FnW.enter (n := 11) Tryz.func159 rfl rfl fun w0 R0 hbase => ?_
 subst hbase
 show WC _ _ _ _ _ _ _ ([G, R0])
 refine WC.sub (fr' := [(0, _), (1, _)]) ?_ ⟨rfl, rfl, trivial⟩
 refine WC.seq (WC.region ?_)
 refine WL.q (oq_assign rfl) rfl rfl rfl ?_
 refine WL.nil (WE.then_normal (WC.sub (fr' := [(0, _), (1, _)]) ?_ ⟨rfl, rfl, trivial⟩))
 refine WC.seq (WC.region ?_)
 refine WL.q (oq_move rfl) rfl rfl rfl ?_
 refine WL.q (oq_move rfl) rfl rfl rfl ?_
 refine WL.qc (oq_call (vtBoolValue b) call160 rfl) rfl rfl rfl ?_
 refine WL.q (oq_makeI conc113 rfl) rfl rfl rfl ?_
 refine WL.buildL Tryz.underlying111 ty20 rfl rfl (by decide) (by decide) rfl rfl rfl fun v1 A1 ho1 hne1 => ?_
 refine WL.f1 ?_
 refine WL.f1 ?_
 refine WL.callW2 (zzWrite _ k r f Wt hW acc0 G hG v1 A1 [⟨113, .u8, 1, ((if b then 0 else 1 : Nat) : Int)⟩] ho1.rd (ok1 (okT _)) (by simp) (by simp; omega)) call31 rfl rfl rfl fun v1_5 Hs1_5 hR1_5 => ?_
 obtain ⟨G2, rfl, rfl, hG2⟩ := hR1_5
 have e1 : bytesN [⟨113, .u8, 1, ((if b then 0 else 1 : Nat) : Int)⟩] = [(if b then 0 else 1 : UInt8)] := by cases b <;> decide
 rw [e1] at hG2
 refine WL.to2 ?_
 refine WL.q (oq_assign rfl) rfl rfl rfl ?_
 refine WL.nil (WE.then_normal (WC.sub (fr' := [(4, _)]) ?_ ⟨rfl, trivial⟩))
 refine WC.ret ?_
 refine WE.forget ho1.fresh ?_
 refine WE.endW1 (.inl rfl) (res1 Tryz.results159 rfl) ?_
 exact ⟨_, rfl, rfl, hG2⟩
theorem vtUUIDValue (l : List UInt8) (hl : l.length = 16) : Fn0 Tryz.prog 155 [.agg (bytesV l).toArray] (.int .u8 9) := by
 refine Fn0.enter (n := 3) Tryz.func155 rfl rfl fun w0 => ?_
 refine WC.sub (fr' := [(0, _)]) ?_ ⟨rfl, trivial⟩
 refine WC.seq (WC.region ?_)
 refine WL.box rfl rfl rfl fun b0_0 hb0_0 => ?_
 refine WL.q (oq_assign rfl) rfl rfl rfl ?_
 refine WL.nil (WE.then_normal (WC.sub (fr' := []) ?_ trivial))
 refine WC.seq (WC.region ?_)
 refine WL.q (oq_assign rfl) rfl rfl rfl ?_
 refine WL.nil (WE.then_normal (WC.sub (fr' := [(2, _)]) ?_ ⟨rfl, trivial⟩))
 refine WC.ret ?_
 refine WE.lose hb0_0 ?_
 refine WE.end0 (.inl rfl) (res1 Tryz.results155 rfl) ?_
 rfl
theorem encUUIDValue (base : Nat) (k : TypeId) (r : Value) (f : FuncId) (Wt : List UInt8 → Hp → Prop) (hW : Wr base k r f Wt) (acc0 : List UInt8) (G : Hp) (hG : Wt acc0 G) (l : List UInt8) (hl : l.length = 16) (hal : acc0.length ≤ 80000000000000) : FnW Tryz.prog 154 [.agg (bytesV l).toArray, .iface k r] base [G] (Then Wt (acc0 ++ (9 :: l)) []) := by
 refine FnW.enter (n := 13) Tryz.func154 rfl rfl fun w0 R0 hbase => ?_
 subst hbase
 show WC _ _ _ _ _ _ _ ([G, R0])
 refine WC.sub (fr' := [(0, _), (1, _)]) ?_ ⟨rfl, rfl, trivial⟩
 refine WC.seq (WC.region ?_)
 refine WL.box rfl rfl rfl fun ub hub => ?_
 refine WL.asB (l) rfl ?_
 refine WL.q (oq_assign rfl) rfl rfl rfl ?_
 refine WL.nil (WE.then_normal (WC.sub (fr' := [(1, _), (2, _)]) ?_ ⟨rfl, rfl, trivial⟩))
 refine WC.seq (WC.region ?_)
 refine WL.q (oq_loadArr agg127 ty127 (hl) rfl (.head _)) rfl rfl rfl ?_
 refine WL.qc (oq_call (vtUUIDValue l hl) call155 rfl) rfl rfl rfl ?_
 refine WL.q (oq_build #[_, _, _] str170 ty170 rfl rfl) rfl rfl rfl ?_
 refine WL.alloc ty170 rfl rfl fun b1_3 hb1_3 => ?_
 refine WL.storeS #[_, _, _] ty170 rfl rfl rfl rfl (Nat.le_of_ble_eq_true rfl) rfl rfl ?_
 refine WL.nil (WE.then_normal (WC.sub (fr' := [(1, _), (2, _), (5, _)]) ?_ ⟨rfl, rfl, rfl, trivial⟩))
 refine WC.seq ?_
 have hrd : RdS 1 (Sl ub 0 16 16) (Bf ub 127 l) l.length (bytesV l) := by
  have h1 := Sl.rd (b := ub) (off := 0) (n := 16) (c := 16) (e := 127) (l := l) (by omega) (by omega)
  rw [List.drop_zero, List.take_of_length_le (by omega)] at h1; rw [hl]; exact h1
 refine WC.tailM (pl := []) (ql := [_, _, _]) (tl := [_, _]) [] [0, 1, 2] 3 [4] (by kernel_rfl) (by kernel_rfl) (by kernel_rfl) (by kernel_rfl) (by kernel_rfl) (by kernel_rfl) (by decide) rfl rfl rfl (by decide) (by repeat (first | with_reducible exact QOk.body | with_reducible apply QOk.then | with_reducible apply QOk.block | exact QOk.body | apply QOk.then | apply QOk.block)) ?_
 refine WM.nil ?_
 refine WY.q (oq_loadS [_, _, _] agg170 ty170 rfl (.head _) (List.mem_singleton.2 rfl) rfl rfl) rfl rfl rfl ?_
 refine WY.q (oq_move rfl) rfl rfl rfl ?_
 refine WY.q (oq_sliceArr Tryz.underlying127 ty5 rfl rfl rfl (by omega) (by omega)) rfl rfl rfl ?_
 refine WY.nil ?_
 refine WL.f1 ?_
 refine WL.f2 ?_
 refine WL.callW2 (encFixed _ k r f Wt hW acc0 G hG 9 (.int .u16 0) (.slice none 0 0) _ (Bf ub 127 l) l hrd (by omega) hal) call156 rfl rfl rfl fun v2_3 Hs2_3 hR2_3 => ?_
 obtain ⟨G2, rfl, rfl, hG2⟩ := hR2_3
 refine WL.to2 ?_
 refine WL.q (oq_assign rfl) rfl rfl rfl ?_
 refine WL.nil (WE.then_normal (WC.sub (fr' := [(4, _)]) ?_ ⟨rfl, trivial⟩))
 refine WC.ret ?_
 refine WE.f1 ?_
 refine WE.lose hub ?_
 refine WE.f1 ?_
 refine WE.lose hb1_3 ?_
 refine WE.endW1 (.inl rfl) (res1 Tryz.results154 rfl) ?_
 exact ⟨_, rfl, rfl, hG2⟩
end EG
end Go.Proofs.YtpjeiimlglgklaaGreatDoor
/- Moments. -/
namespace Go.Proofs.YtpjeiimlglgklaaGreatDoor
open Go Go.RowKit V EA EB EC ED EE EF EG
set_option linter.unusedSimpArgs false
set_option linter.unusedVariables false
set_option maxRecDepth 10000
namespace EH
theorem call50 : Callable Tryz.prog 50 := ⟨_, Tryz.func50, rfl, by kernel_rfl⟩
theorem call55 : Callable Tryz.prog 55 := ⟨_, Tryz.func55, rfl, by kernel_rfl⟩
theorem call56 : Callable Tryz.prog 56 := ⟨_, Tryz.func56, rfl, by kernel_rfl⟩
theorem call69 : Callable Tryz.prog 69 := ⟨_, Tryz.func69, rfl, by kernel_rfl⟩
theorem call122 : Callable Tryz.prog 122 := ⟨_, Tryz.func122, rfl, by kernel_rfl⟩
theorem call148 : Callable Tryz.prog 148 := ⟨_, Tryz.func148, rfl, by kernel_rfl⟩
theorem call149 : Callable Tryz.prog 149 := ⟨_, Tryz.func149, rfl, by kernel_rfl⟩
theorem call150 : Callable Tryz.prog 150 := ⟨_, Tryz.func150, rfl, by kernel_rfl⟩
theorem flat2 : Flat Tryz.prog 2 := ⟨_, Tryz.underlying2, by simp⟩
theorem flat21 : Flat Tryz.prog 21 := ⟨_, Tryz.underlying21, by simp⟩
theorem ty2 : Ty Tryz.prog 2 (.int .i64 0) 1 8 := ty_of (by kernel_rfl)
theorem ty21 : Ty Tryz.prog 21 (.int .i32 0) 1 4 := ty_of (by kernel_rfl)
theorem ty123 : Ty Tryz.prog 123 (.agg #[(.int .i64 0), (.int .i32 0), (S []), (.int .i64 0)]) 4 40 := ty_of (by kernel_rfl)
theorem ty124 : Ty Tryz.prog 124 (.agg #[(.int .i64 0), (.int .i32 0), (S []), (.int .i64 0)]) 4 40 := ty_of (by kernel_rfl)
theorem ty170 : Ty Tryz.prog 170 (.agg #[(.int .u8 0), (.int .u16 0), (.slice none 0 0)]) 3 32 := ty_of (by kernel_rfl)
theorem conc2 : Conc Tryz.prog 2 := ⟨_, Tryz.underlying2, by simp⟩
theorem agg123 : Agg Tryz.prog 123 := agg_of Tryz.underlying123
theorem agg124 : Agg Tryz.prog 124 := agg_of Tryz.underlying124
theorem agg170 : Agg Tryz.prog 170 := agg_of Tryz.underlying170
theorem str124 : Str Tryz.prog 124 #[(0, 1), (1, 1), (2, 1), (3, 1)] := ⟨_, Tryz.underlying124, fun w => by kernel_rfl⟩
theorem str170 : Str Tryz.prog 170 #[(0, 1), (1, 1), (2, 1)] := ⟨_, Tryz.underlying170, fun w => by kernel_rfl⟩
theorem fld124_0 : Fld Tryz.prog 124 0 0 2 := fld_of Tryz.underlying124 rfl rfl rfl ty2 (by decide)
theorem fld124_1 : Fld Tryz.prog 124 1 1 21 := fld_of Tryz.underlying124 rfl rfl rfl ty21 (by decide)
abbrev tmV (s n : Int) : Value := .agg #[I s, .int .i32 n, S [85, 84, 67], I 0]
theorem tm_eq {s s' n n' : Int} (h : s = s') (h2 : n = n') : tmV s n = tmV s' n' := by rw [h, h2]
abbrev msV (ms : Int) : Value := tmV (ms / 1000 + 62135596800) (ms % 1000 * 1000000)
theorem tmod_b (x m : Int) (h : 0 < m) : x.tmod m = x - m * x.tdiv m := by rw [Int.tmod_def]
theorem sec (s n : Int) : Fn0 Tryz.prog 69 [tmV s n] (I s) := by
 refine Fn0.enter (n := 5) Tryz.func69 rfl rfl fun w0 => ?_
 refine WC.sub (fr' := [(0, _)]) ?_ ⟨rfl, trivial⟩
 refine WC.seq (WC.region ?_)
 refine WL.box rfl rfl rfl fun b0_0 hb0_0 => ?_
 refine WL.q (oq_assign rfl) rfl rfl rfl ?_
 refine WL.nil (WE.then_normal (WC.sub (fr' := [(1, _)]) ?_ ⟨rfl, trivial⟩))
 refine WC.seq (WC.region ?_)
 refine WL.q (oq_fieldAddr fld124_0 rfl) rfl rfl rfl ?_
 refine WL.q (oq_load flat2 rfl (.head _) (List.mem_singleton.2 rfl) rfl) rfl rfl rfl ?_
 refine WL.q (oq_assign rfl) rfl rfl rfl ?_
 refine WL.nil (WE.then_normal (WC.sub (fr' := [(2, _)]) ?_ ⟨rfl, trivial⟩))
 refine WC.ret ?_
 refine WE.lose hb0_0 ?_
 refine WE.end0 (.inl rfl) (res1 Tryz.results69 rfl) ?_
 rfl
theorem nsec (s n : Int) : Fn0 Tryz.prog 56 [tmV s n] (.int .i32 n) := by
 refine Fn0.enter (n := 5) Tryz.func56 rfl rfl fun w0 => ?_
 refine WC.sub (fr' := [(0, _)]) ?_ ⟨rfl, trivial⟩
 refine WC.seq (WC.region ?_)
 refine WL.box rfl rfl rfl fun b0_0 hb0_0 => ?_
 refine WL.q (oq_assign rfl) rfl rfl rfl ?_
 refine WL.nil (WE.then_normal (WC.sub (fr' := [(1, _)]) ?_ ⟨rfl, trivial⟩))
 refine WC.seq (WC.region ?_)
 refine WL.q (oq_fieldAddr fld124_1 rfl) rfl rfl rfl ?_
 refine WL.q (oq_load flat21 rfl (.head _) (List.mem_singleton.2 rfl) rfl) rfl rfl rfl ?_
 refine WL.q (oq_assign rfl) rfl rfl rfl ?_
 refine WL.nil (WE.then_normal (WC.sub (fr' := [(2, _)]) ?_ ⟨rfl, trivial⟩))
 refine WC.ret ?_
 refine WE.lose hb0_0 ?_
 refine WE.end0 (.inl rfl) (res1 Tryz.results56 rfl) ?_
 rfl
theorem unix (s n : Int) (h1 : -1000000000000 ≤ s) (h2 : s ≤ 1000000000000) (h3 : -9223372036854775808 ≤ n) (h4 : n ≤ 9223372036854775807) : Fn0 Tryz.prog 50 [I s, I n] (tmV (s + n / 1000000000 + 62135596800) (n % 1000000000)) := by
 refine Fn0.enter (n := 32) Tryz.func50 rfl rfl fun w0 => ?_
 refine WC.sub (fr' := [(0, _), (1, _)]) ?_ ⟨rfl, rfl, trivial⟩
 refine WC.seq (WC.region ?_)
 refine WL.alloc ty124 rfl rfl fun b0_0 hb0_0 => ?_
 refine WL.nil (WE.then_normal (WC.sub (fr' := [(0, _), (1, _), (4, _)]) ?_ ⟨rfl, rfl, rfl, trivial⟩))
 refine WC.seq (WC.seq (WC.region ?_))
 refine WL.q (oq_move rfl) rfl rfl rfl ?_
 refine WL.q (oq_lss rfl rfl) rfl rfl rfl ?_
 refine WL.q (oq_move rfl) rfl rfl rfl ?_
 refine WL.split 8 rfl (fun s1_2 => ?_) (fun s1_2 => ?_)
 ·
  try simp only [Z1, Z2, Z3, Z4, Z5, Z6, Z7, Z8, Z9, Z0] at s1_2
  refine WL.skip rfl rfl rfl ?_
  refine WL.skip rfl rfl rfl ?_
  refine WL.q (oq_pick_t rfl rfl) rfl rfl rfl ?_
  refine WL.nil (WE.then_normal (WC.sub (fr' := [(0, _), (1, _), (4, _), (11, _)]) ?_ ⟨rfl, rfl, rfl, rfl, trivial⟩))
  refine WC.cond_t rfl ?_
  refine WC.seq (WC.region ?_)
  refine WL.q (oq_move rfl) rfl rfl rfl ?_
  refine WL.q (oq_tquo rfl rfl (by omega) (by rw [i64_lo, i64_hi]; omega)) rfl rfl rfl ?_
  refine WL.q (oq_assign rfl) rfl rfl rfl ?_
  refine WL.nil (WE.then_normal (WC.sub (fr' := [(0, _), (1, _), (4, _), (5, _)]) ?_ ⟨rfl, rfl, rfl, rfl, trivial⟩))
  refine WC.seq ?_
  have hk := tdiv_b n 1000000000 (by decide)
  generalize n.tdiv 1000000000 = k at *
  refine WC.region ?_
  refine WL.q (oq_move rfl) rfl rfl rfl ?_
  refine WL.q (oq_move rfl) rfl rfl rfl ?_
  refine WL.q (oq_add rfl rfl (by rw [i64_lo, i64_hi]; (first | omega | (simp only [List.length_cons, List.length_nil, List.length_append, List.length_drop, List.length_take]; omega)))) rfl rfl rfl ?_
  refine WL.q (oq_assign rfl) rfl rfl rfl ?_
  refine WL.nil (WE.then_normal (WC.sub (fr' := [(0, _), (1, _), (4, _), (5, _)]) ?_ ⟨rfl, rfl, rfl, rfl, trivial⟩))
  refine WC.seq (WC.region ?_)
  refine WL.q (oq_move rfl) rfl rfl rfl ?_
  refine WL.q (oq_move rfl) rfl rfl rfl ?_
  refine WL.q (oq_mul rfl rfl (by rw [i64_lo, i64_hi]; (first | omega | (simp only [List.length_cons, List.length_nil, List.length_append, List.length_drop, List.length_take]; omega)))) rfl rfl rfl ?_
  refine WL.q (oq_sub rfl rfl (by rw [i64_lo, i64_hi]; (first | omega | (simp only [List.length_cons, List.length_nil, List.length_append, List.length_drop, List.length_take]; omega)))) rfl rfl rfl ?_
  refine WL.q (oq_assign rfl) rfl rfl rfl ?_
  refine WL.nil (WE.then_normal (WC.sub (fr' := [(0, _), (1, _), (4, _)]) ?_ ⟨rfl, rfl, rfl, trivial⟩))
  refine WC.seq (WC.region ?_)
  refine WL.q (oq_move rfl) rfl rfl rfl ?_
  refine WL.q (oq_lss rfl rfl) rfl rfl rfl ?_
  refine WL.nil (WE.then_normal (WC.sub (fr' := [(0, _), (1, _), (4, _), (22, _)]) ?_ ⟨rfl, rfl, rfl, rfl, trivial⟩))
  refine WC.cond rfl (fun q5 => ?_) (fun q5 => ?_)
  ·
   try simp only [Z1, Z2, Z3, Z4, Z5, Z6, Z7, Z8, Z9, Z0] at q5
   refine WC.seq (WC.region ?_)
   refine WL.q (oq_move rfl) rfl rfl rfl ?_
   refine WL.q (oq_add rfl rfl (by rw [i64_lo, i64_hi]; (first | omega | (simp only [List.length_cons, List.length_nil, List.length_append, List.length_drop, List.length_take]; omega)))) rfl rfl rfl ?_
   refine WL.q (oq_assign rfl) rfl rfl rfl ?_
   refine WL.nil (WE.then_normal (WC.sub (fr' := [(0, _), (1, _), (4, _)]) ?_ ⟨rfl, rfl, rfl, trivial⟩))
   refine WC.region ?_
   refine WL.q (oq_move rfl) rfl rfl rfl ?_
   refine WL.q (oq_sub rfl rfl (by rw [i64_lo, i64_hi]; (first | omega | (simp only [List.length_cons, List.length_nil, List.length_append, List.length_drop, List.length_take]; omega)))) rfl rfl rfl ?_
   refine WL.q (oq_assign rfl) rfl rfl rfl ?_
   refine WL.nil (WE.then_normal (WC.sub (fr' := [(0, _), (1, _), (4, _)]) ?_ ⟨rfl, rfl, rfl, trivial⟩))
   refine WC.seq (WC.region ?_)
   refine WL.q (oq_move rfl) rfl rfl rfl ?_
   refine WL.q (oq_add rfl rfl (by rw [i64_lo, i64_hi]; (first | omega | (simp only [List.length_cons, List.length_nil, List.length_append, List.length_drop, List.length_take]; omega)))) rfl rfl rfl ?_
   refine WL.q (oq_move rfl) rfl rfl rfl ?_
   refine WL.q (oq_conv Tryz.underlying2 Tryz.underlying21 rfl (by rw [i32_lo, i32_hi]; (first | omega | (simp only [List.length_cons, List.length_nil, List.length_append, List.length_drop, List.length_take]; omega)))) rfl rfl rfl ?_
   refine WL.q (oq_build #[_, _, _, _] str124 ty124 rfl rfl) rfl rfl rfl ?_
   refine WL.storeS #[_, _, _, _] ty124 rfl rfl rfl rfl (Nat.le_of_ble_eq_true rfl) rfl rfl ?_
   refine WL.nil (WE.then_normal (WC.sub (fr' := [(4, _)]) ?_ ⟨rfl, trivial⟩))
   refine WC.ret ?_
   refine WE.endD0 (.inl rfl) (rs1 Tryz.results50 (rv_cellS [_, _, _, _] agg124 ty124 rfl (.head _) (List.mem_singleton.2 rfl) rfl rfl)) (dr_lose hb0_0 dr_refl) ?_
   first | (exfalso; omega) | exact tm_eq (by omega) (by omega)
  ·
   try simp only [Z1, Z2, Z3, Z4, Z5, Z6, Z7, Z8, Z9, Z0] at q5
   refine WC.skip (WE.then_normal (WC.sub (fr' := [(0, _), (1, _), (4, _)]) ?_ ⟨rfl, rfl, rfl, trivial⟩))
   refine WC.seq (WC.region ?_)
   refine WL.q (oq_move rfl) rfl rfl rfl ?_
   refine WL.q (oq_add rfl rfl (by rw [i64_lo, i64_hi]; (first | omega | (simp only [List.length_cons, List.length_nil, List.length_append, List.length_drop, List.length_take]; omega)))) rfl rfl rfl ?_
   refine WL.q (oq_move rfl) rfl rfl rfl ?_
   refine WL.q (oq_conv Tryz.underlying2 Tryz.underlying21 rfl (by rw [i32_lo, i32_hi]; (first | omega | (simp only [List.length_cons, List.length_nil, List.length_append, List.length_drop, List.length_take]; omega)))) rfl rfl rfl ?_
   refine WL.q (oq_build #[_, _, _, _] str124 ty124 rfl rfl) rfl rfl rfl ?_
   refine WL.storeS #[_, _, _, _] ty124 rfl rfl rfl rfl (Nat.le_of_ble_eq_true rfl) rfl rfl ?_
   refine WL.nil (WE.then_normal (WC.sub (fr' := [(4, _)]) ?_ ⟨rfl, trivial⟩))
   refine WC.ret ?_
   refine WE.endD0 (.inl rfl) (rs1 Tryz.results50 (rv_cellS [_, _, _, _] agg124 ty124 rfl (.head _) (List.mem_singleton.2 rfl) rfl rfl)) (dr_lose hb0_0 dr_refl) ?_
   first | (exfalso; omega) | exact tm_eq (by omega) (by omega)
 ·
  try simp only [Z1, Z2, Z3, Z4, Z5, Z6, Z7, Z8, Z9, Z0] at s1_2
  refine WL.q (oq_move rfl) rfl rfl rfl ?_
  refine WL.q (oq_geq rfl rfl) rfl rfl rfl ?_
  refine WL.q (oq_pick_f rfl rfl) rfl rfl rfl ?_
  refine WL.nil (WE.then_normal (WC.sub (fr' := [(0, _), (1, _), (4, _), (11, _)]) ?_ ⟨rfl, rfl, rfl, rfl, trivial⟩))
  refine WC.cond rfl (fun q1 => ?_) (fun q1 => ?_)
  ·
   try simp only [Z1, Z2, Z3, Z4, Z5, Z6, Z7, Z8, Z9, Z0] at q1
   refine WC.seq (WC.region ?_)
   refine WL.q (oq_move rfl) rfl rfl rfl ?_
   refine WL.q (oq_tquo rfl rfl (by omega) (by rw [i64_lo, i64_hi]; omega)) rfl rfl rfl ?_
   refine WL.q (oq_assign rfl) rfl rfl rfl ?_
   refine WL.nil (WE.then_normal (WC.sub (fr' := [(0, _), (1, _), (4, _), (5, _)]) ?_ ⟨rfl, rfl, rfl, rfl, trivial⟩))
   refine WC.seq ?_
   have hk := tdiv_b n 1000000000 (by decide)
   generalize n.tdiv 1000000000 = k at *
   refine WC.region ?_
   refine WL.q (oq_move rfl) rfl rfl rfl ?_
   refine WL.q (oq_move rfl) rfl rfl rfl ?_
   refine WL.q (oq_add rfl rfl (by rw [i64_lo, i64_hi]; (first | omega | (simp only [List.length_cons, List.length_nil, List.length_append, List.length_drop, List.length_take]; omega)))) rfl rfl rfl ?_
   refine WL.q (oq_assign rfl) rfl rfl rfl ?_
   refine WL.nil (WE.then_normal (WC.sub (fr' := [(0, _), (1, _), (4, _), (5, _)]) ?_ ⟨rfl, rfl, rfl, rfl, trivial⟩))
   refine WC.seq (WC.region ?_)
   refine WL.q (oq_move rfl) rfl rfl rfl ?_
   refine WL.q (oq_move rfl) rfl rfl rfl ?_
   refine WL.q (oq_mul rfl rfl (by rw [i64_lo, i64_hi]; (first | omega | (simp only [List.length_cons, List.length_nil, List.length_append, List.length_drop, List.length_take]; omega)))) rfl rfl rfl ?_
   refine WL.q (oq_sub rfl rfl (by rw [i64_lo, i64_hi]; (first | omega | (simp only [List.length_cons, List.length_nil, List.length_append, List.length_drop, List.length_take]; omega)))) rfl rfl rfl ?_
   refine WL.q (oq_assign rfl) rfl rfl rfl ?_
   refine WL.nil (WE.then_normal (WC.sub (fr' := [(0, _), (1, _), (4, _)]) ?_ ⟨rfl, rfl, rfl, trivial⟩))
   refine WC.seq (WC.region ?_)
   refine WL.q (oq_move rfl) rfl rfl rfl ?_
   refine WL.q (oq_lss rfl rfl) rfl rfl rfl ?_
   refine WL.nil (WE.then_normal (WC.sub (fr' := [(0, _), (1, _), (4, _), (22, _)]) ?_ ⟨rfl, rfl, rfl, rfl, trivial⟩))
   refine WC.cond rfl (fun q5 => ?_) (fun q5 => ?_)
   ·
    try simp only [Z1, Z2, Z3, Z4, Z5, Z6, Z7, Z8, Z9, Z0] at q5
    refine WC.seq (WC.region ?_)
    refine WL.q (oq_move rfl) rfl rfl rfl ?_
    refine WL.q (oq_add rfl rfl (by rw [i64_lo, i64_hi]; (first | omega | (simp only [List.length_cons, List.length_nil, List.length_append, List.length_drop, List.length_take]; omega)))) rfl rfl rfl ?_
    refine WL.q (oq_assign rfl) rfl rfl rfl ?_
    refine WL.nil (WE.then_normal (WC.sub (fr' := [(0, _), (1, _), (4, _)]) ?_ ⟨rfl, rfl, rfl, trivial⟩))
    refine WC.region ?_
    refine WL.q (oq_move rfl) rfl rfl rfl ?_
    refine WL.q (oq_sub rfl rfl (by rw [i64_lo, i64_hi]; (first | omega | (simp only [List.length_cons, List.length_nil, List.length_append, List.length_drop, List.length_take]; omega)))) rfl rfl rfl ?_
    refine WL.q (oq_assign rfl) rfl rfl rfl ?_
    refine WL.nil (WE.then_normal (WC.sub (fr' := [(0, _), (1, _), (4, _)]) ?_ ⟨rfl, rfl, rfl, trivial⟩))
    refine WC.seq (WC.region ?_)
    refine WL.q (oq_move rfl) rfl rfl rfl ?_
    refine WL.q (oq_add rfl rfl (by rw [i64_lo, i64_hi]; (first | omega | (simp only [List.length_cons, List.length_nil, List.length_append, List.length_drop, List.length_take]; omega)))) rfl rfl rfl ?_
    refine WL.q (oq_move rfl) rfl rfl rfl ?_
    refine WL.q (oq_conv Tryz.underlying2 Tryz.underlying21 rfl (by rw [i32_lo, i32_hi]; (first | omega | (simp only [List.length_cons, List.length_nil, List.length_append, List.length_drop, List.length_take]; omega)))) rfl rfl rfl ?_
    refine WL.q (oq_build #[_, _, _, _] str124 ty124 rfl rfl) rfl rfl rfl ?_
    refine WL.storeS #[_, _, _, _] ty124 rfl rfl rfl rfl (Nat.le_of_ble_eq_true rfl) rfl rfl ?_
    refine WL.nil (WE.then_normal (WC.sub (fr' := [(4, _)]) ?_ ⟨rfl, trivial⟩))
    refine WC.ret ?_
    refine WE.endD0 (.inl rfl) (rs1 Tryz.results50 (rv_cellS [_, _, _, _] agg124 ty124 rfl (.head _) (List.mem_singleton.2 rfl) rfl rfl)) (dr_lose hb0_0 dr_refl) ?_
    first | (exfalso; omega) | exact tm_eq (by omega) (by omega)
   ·
    try simp only [Z1, Z2, Z3, Z4, Z5, Z6, Z7, Z8, Z9, Z0] at q5
    refine WC.skip (WE.then_normal (WC.sub (fr' := [(0, _), (1, _), (4, _)]) ?_ ⟨rfl, rfl, rfl, trivial⟩))
    refine WC.seq (WC.region ?_)
    refine WL.q (oq_move rfl) rfl rfl rfl ?_
    refine WL.q (oq_add rfl rfl (by rw [i64_lo, i64_hi]; (first | omega | (simp only [List.length_cons, List.length_nil, List.length_append, List.length_drop, List.length_take]; omega)))) rfl rfl rfl ?_
    refine WL.q (oq_move rfl) rfl rfl rfl ?_
    refine WL.q (oq_conv Tryz.underlying2 Tryz.underlying21 rfl (by rw [i32_lo, i32_hi]; (first | omega | (simp only [List.length_cons, List.length_nil, List.length_append, List.length_drop, List.length_take]; omega)))) rfl rfl rfl ?_
    refine WL.q (oq_build #[_, _, _, _] str124 ty124 rfl rfl) rfl rfl rfl ?_
    refine WL.storeS #[_, _, _, _] ty124 rfl rfl rfl rfl (Nat.le_of_ble_eq_true rfl) rfl rfl ?_
    refine WL.nil (WE.then_normal (WC.sub (fr' := [(4, _)]) ?_ ⟨rfl, trivial⟩))
    refine WC.ret ?_
    refine WE.endD0 (.inl rfl) (rs1 Tryz.results50 (rv_cellS [_, _, _, _] agg124 ty124 rfl (.head _) (List.mem_singleton.2 rfl) rfl rfl)) (dr_lose hb0_0 dr_refl) ?_
    first | (exfalso; omega) | exact tm_eq (by omega) (by omega)
  ·
   try simp only [Z1, Z2, Z3, Z4, Z5, Z6, Z7, Z8, Z9, Z0] at q1
   refine WC.skip (WE.then_normal (WC.sub (fr' := [(0, _), (1, _), (4, _)]) ?_ ⟨rfl, rfl, rfl, trivial⟩))
   refine WC.seq (WC.region ?_)
   refine WL.q (oq_move rfl) rfl rfl rfl ?_
   refine WL.q (oq_add rfl rfl (by rw [i64_lo, i64_hi]; (first | omega | (simp only [List.length_cons, List.length_nil, List.length_append, List.length_drop, List.length_take]; omega)))) rfl rfl rfl ?_
   refine WL.q (oq_move rfl) rfl rfl rfl ?_
   refine WL.q (oq_conv Tryz.underlying2 Tryz.underlying21 rfl (by rw [i32_lo, i32_hi]; (first | omega | (simp only [List.length_cons, List.length_nil, List.length_append, List.length_drop, List.length_take]; omega)))) rfl rfl rfl ?_
   refine WL.q (oq_build #[_, _, _, _] str124 ty124 rfl rfl) rfl rfl rfl ?_
   refine WL.storeS #[_, _, _, _] ty124 rfl rfl rfl rfl (Nat.le_of_ble_eq_true rfl) rfl rfl ?_
   refine WL.nil (WE.then_normal (WC.sub (fr' := [(4, _)]) ?_ ⟨rfl, trivial⟩))
   refine WC.ret ?_
   refine WE.endD0 (.inl rfl) (rs1 Tryz.results50 (rv_cellS [_, _, _, _] agg124 ty124 rfl (.head _) (List.mem_singleton.2 rfl) rfl rfl)) (dr_lose hb0_0 dr_refl) ?_
   first | (exfalso; omega) | exact tm_eq (by omega) (by omega)
theorem unixMilli (ms : Int) (h1 : -9200000000000 ≤ ms) (h2 : ms ≤ 9200000000000) : Fn0 Tryz.prog 39 [I ms] (msV ms) := by
 have hk := tdiv_b ms 1000 (by decide)
 have hm := tmod_b ms 1000 (by decide)
 refine Fn0.enter (n := 9) Tryz.func39 rfl rfl fun w0 => ?_
 refine WC.sub (fr' := [(0, _)]) ?_ ⟨rfl, trivial⟩
 refine WC.seq (WC.region ?_)
 refine WL.alloc ty124 rfl rfl fun b0_0 hb0_0 => ?_
 refine WL.nil (WE.then_normal (WC.sub (fr' := [(0, _), (2, _)]) ?_ ⟨rfl, rfl, trivial⟩))
 refine WC.seq (WC.region ?_)
 refine WL.q (oq_move rfl) rfl rfl rfl ?_
 refine WL.q (oq_tquo rfl rfl (by omega) (by rw [i64_lo, i64_hi]; omega)) rfl rfl rfl ?_
 refine WL.q (oq_move rfl) rfl rfl rfl ?_
 refine WL.q (oq_trem rfl rfl (by omega)) rfl rfl rfl ?_
 refine WL.q (oq_mul rfl rfl (by rw [i64_lo, i64_hi]; (first | omega | (simp only [List.length_cons, List.length_nil, List.length_append, List.length_drop, List.length_take]; omega)))) rfl rfl rfl ?_
 refine WL.qc (oq_call (unix (ms.tdiv 1000) (ms.tmod 1000 * 1000000) (by omega) (by omega) (by omega) (by omega)) call50 rfl) rfl rfl rfl ?_
 refine WL.storeS #[_, _, _, _] ty124 rfl rfl rfl rfl (Nat.le_of_ble_eq_true rfl) rfl rfl ?_
 refine WL.nil (WE.then_normal (WC.sub (fr' := [(2, _)]) ?_ ⟨rfl, trivial⟩))
 refine WC.ret ?_
 refine WE.endD0 (.inl rfl) (rs1 Tryz.results39 (rv_cellS [_, _, _, _] agg124 ty124 rfl (.head _) (List.mem_singleton.2 rfl) rfl rfl)) (dr_lose hb0_0 dr_refl) ?_
 exact tm_eq (by omega) (by omega)
theorem unixSec (s n : Int) (h : 0 ≤ s ∧ s ≤ 1000000000000) : Fn0 Tryz.prog 55 [tmV s n] (I (s + -62135596800)) := by
 refine Fn0.enter (n := 6) Tryz.func55 rfl rfl fun w0 => ?_
 refine WC.sub (fr' := [(0, _)]) ?_ ⟨rfl, trivial⟩
 refine WC.seq (WC.region ?_)
 refine WL.box rfl rfl rfl fun b0_0 hb0_0 => ?_
 refine WL.q (oq_assign rfl) rfl rfl rfl ?_
 refine WL.nil (WE.then_normal (WC.sub (fr' := [(1, _)]) ?_ ⟨rfl, trivial⟩))
 refine WC.seq (WC.region ?_)
 refine WL.q (oq_loadS [_, _, _, _] agg124 ty124 rfl (.head _) (List.mem_singleton.2 rfl) rfl rfl) rfl rfl rfl ?_
 refine WL.qc (oq_call (sec _ _) call69 rfl) rfl rfl rfl ?_
 refine WL.q (oq_add rfl rfl (by rw [i64_lo, i64_hi]; (first | omega | (simp only [List.length_cons, List.length_nil, List.length_append, List.length_drop, List.length_take]; omega)))) rfl rfl rfl ?_
 refine WL.q (oq_assign rfl) rfl rfl rfl ?_
 refine WL.nil (WE.then_normal (WC.sub (fr' := [(2, _)]) ?_ ⟨rfl, trivial⟩))
 refine WC.ret ?_
 refine WE.lose hb0_0 ?_
 refine WE.end0 (.inl rfl) (res1 Tryz.results55 rfl) ?_
 rfl
theorem unixNano (ms : Int) (h1 : -9200000000000 ≤ ms) (h2 : ms ≤ 9200000000000) : Fn0 Tryz.prog 150 [msV ms] (I (ms * 1000000)) := by
 refine Fn0.enter (n := 10) Tryz.func150 rfl rfl fun w0 => ?_
 refine WC.sub (fr' := [(0, _)]) ?_ ⟨rfl, trivial⟩
 refine WC.seq (WC.region ?_)
 refine WL.box rfl rfl rfl fun b0_0 hb0_0 => ?_
 refine WL.q (oq_assign rfl) rfl rfl rfl ?_
 refine WL.nil (WE.then_normal (WC.sub (fr' := [(1, _)]) ?_ ⟨rfl, trivial⟩))
 refine WC.seq (WC.quiet (by kernel_rfl) (by kernel_rfl) ?_)
 refine WQ.q (oq_loadS [_, _, _, _] agg124 ty124 rfl (.head _) (List.mem_singleton.2 rfl) rfl rfl) rfl rfl rfl ?_
 refine WQ.qc (oq_call (unixSec _ _ (by omega)) call55 rfl) rfl rfl rfl ?_
 refine WQ.q (oq_mul rfl rfl (by rw [i64_lo, i64_hi]; (first | omega | (simp only [List.length_cons, List.length_nil, List.length_append, List.length_drop, List.length_take]; omega)))) rfl rfl rfl ?_
 refine WQ.q (oq_loadS [_, _, _, _] agg124 ty124 rfl (.head _) (List.mem_singleton.2 rfl) rfl rfl) rfl rfl rfl ?_
 refine WQ.qc (oq_call (nsec _ _) call56 rfl) rfl rfl rfl ?_
 refine WQ.q (oq_conv Tryz.underlying21 Tryz.underlying2 rfl (by rw [i64_lo, i64_hi]; (first | omega | (simp only [List.length_cons, List.length_nil, List.length_append, List.length_drop, List.length_take]; omega)))) rfl rfl rfl ?_
 refine WQ.q (oq_add rfl rfl (by rw [i64_lo, i64_hi]; (first | omega | (simp only [List.length_cons, List.length_nil, List.length_append, List.length_drop, List.length_take]; omega)))) rfl rfl rfl ?_
 refine WQ.q (oq_assign rfl) rfl rfl rfl ?_
 refine WQ.nil (WE.then_normal (WC.sub (fr' := [(2, _)]) ?_ ⟨rfl, trivial⟩))
 refine WC.ret ?_
 refine WE.lose hb0_0 ?_
 refine WE.end0 (.inl rfl) (res1 Tryz.results150 rfl) ?_
 congr 1; omega
theorem epochMilli (ms : Int) (h1 : -9200000000000 ≤ ms) (h2 : ms ≤ 9200000000000) : Fn0 Tryz.prog 149 [msV ms] (I ms) := by
 refine Fn0.enter (n := 10) Tryz.func149 rfl rfl fun w0 => ?_
 refine WC.sub (fr' := [(0, _)]) ?_ ⟨rfl, trivial⟩
 refine WC.seq (WC.region ?_)
 refine WL.box rfl rfl rfl fun b0_0 hb0_0 => ?_
 refine WL.q (oq_assign rfl) rfl rfl rfl ?_
 refine WL.nil (WE.then_normal (WC.sub (fr' := [(1, _)]) ?_ ⟨rfl, trivial⟩))
 refine WC.seq (WC.region ?_)
 refine WL.q (oq_loadS [_, _, _, _] agg123 ty123 rfl (.head _) (List.mem_singleton.2 rfl) rfl rfl) rfl rfl rfl ?_
 refine WL.qc (oq_call (unixNano ms h1 h2) call150 rfl) rfl rfl rfl ?_
 refine WL.q (oq_assign rfl) rfl rfl rfl ?_
 refine WL.nil (WE.then_normal (WC.sub (fr' := [(3, _)]) ?_ ⟨rfl, trivial⟩))
 refine WC.seq (WC.region ?_)
 refine WL.q (oq_move rfl) rfl rfl rfl ?_
 refine WL.q (oq_tquo rfl rfl (by omega) (by rw [i64_lo, i64_hi]; omega)) rfl rfl rfl ?_
 refine WL.q (oq_assign rfl) rfl rfl rfl ?_
 refine WL.nil (WE.then_normal (WC.sub (fr' := [(4, _)]) ?_ ⟨rfl, trivial⟩))
 refine WC.seq (WC.region ?_)
 refine WL.q (oq_move rfl) rfl rfl rfl ?_
 refine WL.q (oq_assign rfl) rfl rfl rfl ?_
 refine WL.nil (WE.then_normal (WC.sub (fr' := [(2, _)]) ?_ ⟨rfl, trivial⟩))
 refine WC.ret ?_
 refine WE.lose hb0_0 ?_
 refine WE.end0 (.inl rfl) (res1 Tryz.results149 rfl) ?_
 rw [Int.mul_tdiv_cancel _ (by decide)]
theorem vtTimestampValue (s n : Int) : Fn0 Tryz.prog 148 [tmV s n] (.int .u8 8) := by
 refine Fn0.enter (n := 3) Tryz.func148 rfl rfl fun w0 => ?_
 refine WC.sub (fr' := [(0, _)]) ?_ ⟨rfl, trivial⟩
 refine WC.seq (WC.region ?_)
 refine WL.box rfl rfl rfl fun b0_0 hb0_0 => ?_
 refine WL.q (oq_assign rfl) rfl rfl rfl ?_
 refine WL.nil (WE.then_normal (WC.sub (fr' := []) ?_ trivial))
 refine WC.seq (WC.region ?_)
 refine WL.q (oq_assign rfl) rfl rfl rfl ?_
 refine WL.nil (WE.then_normal (WC.sub (fr' := [(2, _)]) ?_ ⟨rfl, trivial⟩))
 refine WC.ret ?_
 refine WE.lose hb0_0 ?_
 refine WE.end0 (.inl rfl) (res1 Tryz.results148 rfl) ?_
 rfl
theorem encTimestampValue (base : Nat) (k : TypeId) (r : Value) (f : FuncId) (Wt : List UInt8 → Hp → Prop) (hW : Wr base k r f Wt) (acc0 : List UInt8) (G : Hp) (hG : Wt acc0 G) (ms : Int) (h1 : -9200000000000 ≤ ms) (h2 : ms ≤ 9200000000000) (hal : acc0.length ≤ 80000000000000) : FnW Tryz.prog 147 [msV ms, .iface k r] base [G] (Then Wt (acc0 ++ (8 :: be 8 ms)) []) := by
 refine FnW.enter (n := 17) Tryz.func147 rfl rfl fun w0 R0 hbase => ?_
 subst hbase
 show WC _ _ _ _ _ _ _ ([G, R0])
 refine WC.sub (fr' := [(0, _), (1, _)]) ?_ ⟨rfl, rfl, trivial⟩
 refine WC.seq (WC.region ?_)
 refine WL.box rfl rfl rfl fun b0_0 hb0_0 => ?_
 refine WL.q (oq_assign rfl) rfl rfl rfl ?_
 refine WL.nil (WE.then_normal (WC.sub (fr' := [(1, _), (2, _)]) ?_ ⟨rfl, rfl, trivial⟩))
 refine WC.seq (WC.region ?_)
 refine WL.q (oq_loadS [_, _, _, _] agg123 ty123 rfl (.head _) (List.mem_singleton.2 rfl) rfl rfl) rfl rfl rfl ?_
 refine WL.qc (oq_call (vtTimestampValue _ _) call148 rfl) rfl rfl rfl ?_
 refine WL.q (oq_build #[_, _, _] str170 ty170 rfl rfl) rfl rfl rfl ?_
 refine WL.alloc ty170 rfl rfl fun b1_3 hb1_3 => ?_
 refine WL.storeS #[_, _, _] ty170 rfl rfl rfl rfl (Nat.le_of_ble_eq_true rfl) rfl rfl ?_
 refine WL.nil (WE.then_normal (WC.sub (fr' := [(1, _), (2, _), (5, _)]) ?_ ⟨rfl, rfl, rfl, trivial⟩))
 refine WC.seq (WC.region ?_)
 refine WL.q (oq_loadS [_, _, _, _] agg123 ty123 rfl (.tail _ (.head _)) (List.mem_singleton.2 rfl) rfl rfl) rfl rfl rfl ?_
 refine WL.qc (oq_call (epochMilli ms h1 h2) call149 rfl) rfl rfl rfl ?_
 refine WL.q (oq_assign rfl) rfl rfl rfl ?_
 refine WL.nil (WE.then_normal (WC.sub (fr' := [(1, _), (5, _), (6, _)]) ?_ ⟨rfl, rfl, rfl, trivial⟩))
 refine WC.seq (WC.region ?_)
 refine WL.q (oq_loadS [_, _, _] agg170 ty170 rfl (.head _) (List.mem_singleton.2 rfl) rfl rfl) rfl rfl rfl ?_
 refine WL.q (oq_move rfl) rfl rfl rfl ?_
 refine WL.q (oq_move rfl) rfl rfl rfl ?_
 refine WL.q (oq_makeI conc2 rfl) rfl rfl rfl ?_
 refine WL.f2 ?_
 refine WL.callW1 (encScalar _ k r f Wt hW acc0 G hG 8 (.int .u16 0) (.slice none 0 0) ⟨2, .i64, 8, ms⟩ (by simp [Num.ok, Num.kinds]) hal) call122 rfl rfl rfl fun v3_4 Hs3_4 hR3_4 => ?_
 obtain ⟨G2, rfl, rfl, hG2⟩ := hR3_4
 refine WL.to1 ?_
 refine WL.q (oq_assign rfl) rfl rfl rfl ?_
 refine WL.nil (WE.then_normal (WC.sub (fr' := [(4, _)]) ?_ ⟨rfl, trivial⟩))
 refine WC.ret ?_
 refine WE.f1 ?_
 refine WE.lose hb1_3 ?_
 refine WE.f1 ?_
 refine WE.lose hb0_0 ?_
 refine WE.endW1 (.inl rfl) (res1 Tryz.results147 rfl) ?_
 exact ⟨_, rfl, rfl, hG2⟩
end EH
end Go.Proofs.YtpjeiimlglgklaaGreatDoor
/- Values of headers. -/
namespace Go.Proofs.YtpjeiimlglgklaaGreatDoor
open Go Go.RowKit V EA EB EC ED EE EF EG EH
set_option linter.unusedSimpArgs false
set_option linter.unusedVariables false
set_option maxRecDepth 10000
namespace EI
theorem call39 : Callable Tryz.prog 39 := ⟨_, Tryz.func39, rfl, by kernel_rfl⟩
theorem call138 : Callable Tryz.prog 138 := ⟨_, Tryz.func138, rfl, by kernel_rfl⟩
theorem call139 : Callable Tryz.prog 139 := ⟨_, Tryz.func139, rfl, by kernel_rfl⟩
theorem call143 : Callable Tryz.prog 143 := ⟨_, Tryz.func143, rfl, by kernel_rfl⟩
theorem call144 : Callable Tryz.prog 144 := ⟨_, Tryz.func144, rfl, by kernel_rfl⟩
theorem flat2 : Flat Tryz.prog 2 := ⟨_, Tryz.underlying2, by simp⟩
theorem flat3 : Flat Tryz.prog 3 := ⟨_, Tryz.underlying3, by simp⟩
theorem flat9 : Flat Tryz.prog 9 := ⟨_, Tryz.underlying9, by simp⟩
theorem ty2 : Ty Tryz.prog 2 (.int .i64 0) 1 8 := ty_of (by kernel_rfl)
theorem ty3 : Ty Tryz.prog 3 (.int .i64 0) 1 8 := ty_of (by kernel_rfl)
theorem ty5 : Ty Tryz.prog 5 (.int .u8 0) 1 1 := ty_of (by kernel_rfl)
theorem ty9 : Ty Tryz.prog 9 (S []) 1 16 := ty_of (by kernel_rfl)
theorem ty67 : Ty Tryz.prog 67 (.agg #[(S []), (.int .i64 0), (.int .i64 0), .nilIface]) 4 48 := ty_of (by kernel_rfl)
theorem ty127 : Ty Tryz.prog 127 (.agg #[(.int .u8 0), (.int .u8 0), (.int .u8 0), (.int .u8 0), (.int .u8 0), (.int .u8 0), (.int .u8 0), (.int .u8 0), (.int .u8 0), (.int .u8 0), (.int .u8 0), (.int .u8 0), (.int .u8 0), (.int .u8 0), (.int .u8 0), (.int .u8 0)]) 16 16 := ty_of (by kernel_rfl)
theorem ty170 : Ty Tryz.prog 170 (.agg #[(.int .u8 0), (.int .u16 0), (.slice none 0 0)]) 3 32 := ty_of (by kernel_rfl)
theorem conc9 : Conc Tryz.prog 9 := ⟨_, Tryz.underlying9, by simp⟩
theorem conc25 : Conc Tryz.prog 25 := ⟨_, Tryz.underlying25, by simp⟩
theorem conc67 : Conc Tryz.prog 67 := ⟨_, Tryz.underlying67, by simp⟩
theorem conc114 : Conc Tryz.prog 114 := ⟨_, Tryz.underlying114, by simp⟩
theorem conc117 : Conc Tryz.prog 117 := ⟨_, Tryz.underlying117, by simp⟩
theorem conc118 : Conc Tryz.prog 118 := ⟨_, Tryz.underlying118, by simp⟩
theorem conc119 : Conc Tryz.prog 119 := ⟨_, Tryz.underlying119, by simp⟩
theorem conc120 : Conc Tryz.prog 120 := ⟨_, Tryz.underlying120, by simp⟩
theorem conc121 : Conc Tryz.prog 121 := ⟨_, Tryz.underlying121, by simp⟩
theorem conc123 : Conc Tryz.prog 123 := ⟨_, Tryz.underlying123, by simp⟩
theorem conc127 : Conc Tryz.prog 127 := ⟨_, Tryz.underlying127, by simp⟩
theorem conc128 : Conc Tryz.prog 128 := ⟨_, Tryz.underlying128, by simp⟩
theorem agg127 : Agg Tryz.prog 127 := agg_arr Tryz.underlying127
theorem agg170 : Agg Tryz.prog 170 := agg_of Tryz.underlying170
theorem str67 : Str Tryz.prog 67 #[(0, 1), (1, 1), (2, 1), (3, 1)] := ⟨_, Tryz.underlying67, fun w => by kernel_rfl⟩
theorem str170 : Str Tryz.prog 170 #[(0, 1), (1, 1), (2, 1)] := ⟨_, Tryz.underlying170, fun w => by kernel_rfl⟩
theorem fld53_0 : Fld Tryz.prog 53 0 0 3 := fld_of Tryz.underlying53 rfl rfl rfl ty3 (by decide)
theorem fld53_1 : Fld Tryz.prog 53 1 1 3 := fld_of Tryz.underlying53 rfl rfl rfl ty3 (by decide)
theorem fld53_2 : Fld Tryz.prog 53 2 2 2 := fld_of Tryz.underlying53 rfl rfl rfl ty2 (by decide)
theorem fld53_3 : Fld Tryz.prog 53 3 3 9 := fld_of Tryz.underlying53 rfl rfl rfl ty9 (by decide)
theorem encBytesX (base : Nat) (t : UInt8) (l1 l2 k : Value) (s : Value) (Z G : Hp) (data : List UInt8) (hr : RdS 1 s Z data.length (bytesV data)) (hdl : 32767 < data.length) (hl : data.length ≤ 4000000000) : FnW Tryz.prog 139 [.agg #[.int .u8 (t.toNat : Int), l1, l2], k, s] base [G, Z] (fun w Hs => ∃ e, w = .iface 67 e ∧ Hs = [G, Z]) := by
 refine FnW.enter (n := 40) Tryz.func139 rfl rfl fun w0 R0 hbase => ?_
 subst hbase
 show WC _ _ _ _ _ _ _ ([G, Z, R0])
 refine WC.sub (fr' := [(0, _), (1, _), (2, _)]) ?_ ⟨rfl, rfl, rfl, trivial⟩
 refine WC.seq (WC.region ?_)
 refine WL.box rfl rfl rfl fun b0_0 hb0_0 => ?_
 refine WL.q (oq_assign rfl) rfl rfl rfl ?_
 refine WL.nil (WE.then_normal (WC.sub (fr' := [(1, _), (2, _), (3, _)]) ?_ ⟨rfl, rfl, rfl, trivial⟩))
 refine WC.seq (WC.seq (WC.region ?_))
 refine WL.q (oq_move rfl) rfl rfl rfl ?_
 refine WL.q (oq_len_rd hr Tryz.underlying25 rfl) rfl rfl rfl ?_
 refine WL.q (oq_gtr rfl rfl) rfl rfl rfl ?_
 refine WL.nil (WE.then_normal (WC.sub (fr' := [(1, _), (2, _), (3, _), (10, _)]) ?_ ⟨rfl, rfl, rfl, rfl, trivial⟩))
 refine WC.cond rfl (fun q1 => ?_) (fun q1 => ?_)
 ·
  try simp only [Z1, Z2, Z3, Z4, Z5, Z6, Z7, Z8, Z9, Z0] at q1
  refine WC.seq (WC.region ?_)
  refine WL.q (oq_move rfl) rfl rfl rfl ?_
  refine WL.q (oq_len_rd hr Tryz.underlying25 rfl) rfl rfl rfl ?_
  refine WL.q (oq_move rfl) rfl rfl rfl ?_
  refine WL.q (oq_makeI conc25 rfl) rfl rfl rfl ?_
  refine WL.q (oq_build #[_, _, _, _] str67 ty67 rfl rfl) rfl rfl rfl ?_
  refine WL.q (oq_makeI conc67 rfl) rfl rfl rfl ?_
  refine WL.q (oq_assign rfl) rfl rfl rfl ?_
  refine WL.nil (WE.then_normal (WC.sub (fr' := [(6, _)]) ?_ ⟨rfl, trivial⟩))
  refine WC.ret (WE.then_ret ?_)
  refine WE.lose hb0_0 ?_
  refine WE.endW2 (.inl rfl) (res1 Tryz.results139 rfl) ?_
  exact ⟨_, rfl, rfl⟩
 ·
  try simp only [Z1, Z2, Z3, Z4, Z5, Z6, Z7, Z8, Z9, Z0] at q1
  first | contradiction | (exfalso; omega) | (exfalso; simp_all; done)
theorem encStringX (base : Nat) (t : UInt8) (l1 l2 k : Value) (G : Hp) (data : List UInt8) (hdl : 32767 < data.length) (hl : data.length ≤ 4000000000) : FnW Tryz.prog 144 [.agg #[.int .u8 (t.toNat : Int), l1, l2], k, S data] base [G] (fun w Hs => ∃ e, w = .iface 67 e ∧ Hs = [G]) := by
 refine FnW.enter (n := 55) Tryz.func144 rfl rfl fun w0 R0 hbase => ?_
 subst hbase
 show WC _ _ _ _ _ _ _ ([G, R0])
 refine WC.sub (fr' := [(0, _), (1, _), (2, _)]) ?_ ⟨rfl, rfl, rfl, trivial⟩
 refine WC.seq (WC.region ?_)
 refine WL.box rfl rfl rfl fun b0_0 hb0_0 => ?_
 refine WL.q (oq_assign rfl) rfl rfl rfl ?_
 refine WL.nil (WE.then_normal (WC.sub (fr' := [(1, _), (2, _), (3, _)]) ?_ ⟨rfl, rfl, rfl, trivial⟩))
 refine WC.seq (WC.seq (WC.region ?_))
 refine WL.q (oq_move rfl) rfl rfl rfl ?_
 refine WL.q (oq_len_s Tryz.underlying9 rfl) rfl rfl rfl ?_
 refine WL.q (oq_gtr rfl rfl) rfl rfl rfl ?_
 refine WL.nil (WE.then_normal (WC.sub (fr' := [(1, _), (2, _), (3, _), (12, _)]) ?_ ⟨rfl, rfl, rfl, rfl, trivial⟩))
 refine WC.cond rfl (fun q1 => ?_) (fun q1 => ?_)
 ·
  try simp only [Z1, Z2, Z3, Z4, Z5, Z6, Z7, Z8, Z9, Z0] at q1
  refine WC.seq (WC.region ?_)
  refine WL.q (oq_move rfl) rfl rfl rfl ?_
  refine WL.q (oq_len_s Tryz.underlying9 rfl) rfl rfl rfl ?_
  refine WL.q (oq_move rfl) rfl rfl rfl ?_
  refine WL.q (oq_makeI conc9 rfl) rfl rfl rfl ?_
  refine WL.q (oq_build #[_, _, _, _] str67 ty67 rfl rfl) rfl rfl rfl ?_
  refine WL.q (oq_makeI conc67 rfl) rfl rfl rfl ?_
  refine WL.q (oq_assign rfl) rfl rfl rfl ?_
  refine WL.nil (WE.then_normal (WC.sub (fr' := [(6, _)]) ?_ ⟨rfl, trivial⟩))
  refine WC.ret (WE.then_ret ?_)
  refine WE.lose hb0_0 ?_
  refine WE.endW1 (.inl rfl) (res1 Tryz.results144 rfl) ?_
  exact ⟨_, rfl, rfl⟩
 ·
  try simp only [Z1, Z2, Z3, Z4, Z5, Z6, Z7, Z8, Z9, Z0] at q1
  first | contradiction | (exfalso; omega) | (exfalso; simp_all; done)
theorem encBytesValueX (base : Nat) (k : Value) (s : Value) (Z G : Hp) (data : List UInt8) (hr : RdS 1 s Z data.length (bytesV data)) (hdl : 32767 < data.length) (hl : data.length ≤ 4000000000) : FnW Tryz.prog 137 [s, k] base [G, Z] (fun w Hs => ∃ e, w = .iface 67 e ∧ Hs = [G, Z]) := by
 refine FnW.enter (n := 13) Tryz.func137 rfl rfl fun w0 R0 hbase => ?_
 subst hbase
 show WC _ _ _ _ _ _ _ ([G, Z, R0])
 refine WC.sub (fr' := [(0, _), (1, _)]) ?_ ⟨rfl, rfl, trivial⟩
 refine WC.seq (WC.region ?_)
 refine WL.q (oq_assign rfl) rfl rfl rfl ?_
 refine WL.nil (WE.then_normal (WC.sub (fr' := [(0, _), (1, _)]) ?_ ⟨rfl, rfl, trivial⟩))
 refine WC.seq (WC.region ?_)
 refine WL.q (oq_move rfl) rfl rfl rfl ?_
 refine WL.qc (oq_call (vtBytesValue s) call138 rfl) rfl rfl rfl ?_
 refine WL.q (oq_build #[_, _, _] str170 ty170 rfl rfl) rfl rfl rfl ?_
 refine WL.alloc ty170 rfl rfl fun b1_3 hb1_3 => ?_
 refine WL.storeS #[_, _, _] ty170 rfl rfl rfl rfl (Nat.le_of_ble_eq_true rfl) rfl rfl ?_
 refine WL.nil (WE.then_normal (WC.sub (fr' := [(0, _), (1, _), (5, _)]) ?_ ⟨rfl, rfl, rfl, trivial⟩))
 refine WC.seq (WC.region ?_)
 refine WL.q (oq_loadS [_, _, _] agg170 ty170 rfl (.head _) (List.mem_singleton.2 rfl) rfl rfl) rfl rfl rfl ?_
 refine WL.q (oq_move rfl) rfl rfl rfl ?_
 refine WL.q (oq_move rfl) rfl rfl rfl ?_
 refine WL.f2 ?_
 refine WL.f2 ?_
 refine WL.callW2 (encBytesX _ 6 (.int .u16 0) (.slice none 0 0) k s Z G data hr hdl hl) call139 rfl rfl rfl fun v2_3 Hs2_3 hR2_3 => ?_
 obtain ⟨e, rfl, rfl⟩ := hR2_3
 refine WL.to2 ?_
 refine WL.q (oq_assign rfl) rfl rfl rfl ?_
 refine WL.nil (WE.then_normal (WC.sub (fr' := [(4, _)]) ?_ ⟨rfl, trivial⟩))
 refine WC.ret ?_
 refine WE.f2 ?_
 refine WE.lose hb1_3 ?_
 refine WE.endW2 (.inl rfl) (res1 Tryz.results137 rfl) ?_
 exact ⟨_, rfl, rfl⟩
theorem encStringValueX (base : Nat) (k : Value) (G : Hp) (data : List UInt8) (hdl : 32767 < data.length) (hl : data.length ≤ 4000000000) : FnW Tryz.prog 142 [S data, k] base [G] (fun w Hs => ∃ e, w = .iface 67 e ∧ Hs = [G]) := by
 refine FnW.enter (n := 13) Tryz.func142 rfl rfl fun w0 R0 hbase => ?_
 subst hbase
 show WC _ _ _ _ _ _ _ ([G, R0])
 refine WC.sub (fr' := [(0, _), (1, _)]) ?_ ⟨rfl, rfl, trivial⟩
 refine WC.seq (WC.region ?_)
 refine WL.q (oq_assign rfl) rfl rfl rfl ?_
 refine WL.nil (WE.then_normal (WC.sub (fr' := [(0, _), (1, _)]) ?_ ⟨rfl, rfl, trivial⟩))
 refine WC.seq (WC.region ?_)
 refine WL.q (oq_move rfl) rfl rfl rfl ?_
 refine WL.qc (oq_call (vtStringValue (S data)) call143 rfl) rfl rfl rfl ?_
 refine WL.q (oq_build #[_, _, _] str170 ty170 rfl rfl) rfl rfl rfl ?_
 refine WL.alloc ty170 rfl rfl fun b1_3 hb1_3 => ?_
 refine WL.storeS #[_, _, _] ty170 rfl rfl rfl rfl (Nat.le_of_ble_eq_true rfl) rfl rfl ?_
 refine WL.nil (WE.then_normal (WC.sub (fr' := [(0, _), (1, _), (5, _)]) ?_ ⟨rfl, rfl, rfl, trivial⟩))
 refine WC.seq (WC.region ?_)
 refine WL.q (oq_loadS [_, _, _] agg170 ty170 rfl (.head _) (List.mem_singleton.2 rfl) rfl rfl) rfl rfl rfl ?_
 refine WL.q (oq_move rfl) rfl rfl rfl ?_
 refine WL.q (oq_move rfl) rfl rfl rfl ?_
 refine WL.f1 ?_
 refine WL.callW1 (encStringX _ 7 (.int .u16 0) (.slice none 0 0) k G data hdl hl) call144 rfl rfl rfl fun v2_3 Hs2_3 hR2_3 => ?_
 obtain ⟨e, rfl, rfl⟩ := hR2_3
 refine WL.to1 ?_
 refine WL.q (oq_assign rfl) rfl rfl rfl ?_
 refine WL.nil (WE.then_normal (WC.sub (fr' := [(4, _)]) ?_ ⟨rfl, trivial⟩))
 refine WC.ret ?_
 refine WE.f1 ?_
 refine WE.lose hb1_3 ?_
 refine WE.endW1 (.inl rfl) (res1 Tryz.results142 rfl) ?_
 exact ⟨_, rfl, rfl⟩
structure HV where
 name : List UInt8
 kind : Int
 width : Int
 int : Int
 text : List UInt8
def HV.row (h : HV) : List Value := [S h.name, I h.kind, I h.width, I h.int, S h.text]
def fineV (h : HV) : Prop := 0 ≤ h.kind ∧ h.kind ≤ 5 ∧ (h.kind = 1 → (h.width = 8 ∧ -128 ≤ h.int ∧ h.int ≤ 127) ∨ (h.width = 16 ∧ -32768 ≤ h.int ∧ h.int ≤ 32767) ∨ (h.width = 32 ∧ -2147483648 ≤ h.int ∧ h.int ≤ 2147483647) ∨ h.width = 64) ∧ (h.kind = 5 → h.text.length = 16) ∧ (h.kind = 4 → -9200000000000 ≤ h.int ∧ h.int ≤ 9200000000000)
def badT (h : HV) : Bool := (h.kind == 2 || h.kind == 3) && decide (32767 < h.text.length)
def tagW (w : Int) : UInt8 := if w = 8 then 2 else if w = 16 then 3 else if w = 32 then 4 else 5
def enc (h : HV) : List UInt8 :=
 if h.kind = 1 then tagW h.width :: be (h.width / 8).toNat h.int
 else if h.kind = 2 then 6 :: be 2 h.text.length ++ h.text
 else if h.kind = 3 then 7 :: be 2 h.text.length ++ h.text
 else if h.kind = 4 then 8 :: be 8 h.int
 else if h.kind = 5 then 9 :: h.text
 else [if h.int = 0 then 1 else 0]
abbrev encName : String := "given.example/pub-tinwright/pub/smithy/eventstream.encode"
def EncR (base bb : Nat) (h : HV) (acc : List UInt8) (N : Hp) (w : Value) (Hs : List Hp) : Prop :=
 if badT h then ∃ e G', w = .iface 67 e ∧ Hs = [G', N] ∧ BufG base bb acc G' else ∃ G', w = .nilIface ∧ Hs = [G', N] ∧ BufG base bb (acc ++ enc h) G'
def VOk (h : HV) (v : Value) (N : Hp) : Prop :=
 ∃ k r f, v = .iface k r ∧ Inv1 Tryz.prog k encName f ∧ ∀ base bb acc G, BufG base bb acc G → acc.length ≤ 80000000000000 → FnW Tryz.prog f [r, (.iface 45 (Pt bb 0))] base [G, N] (EncR base bb h acc N)
theorem VOk.wide {h : HV} {v : Value} {N Z D : Hp} (hv : VOk h v N) (p : Z.Perm (N ++ D)) : VOk h v Z := by
 obtain ⟨k, r, f, rfl, hi, hf⟩ := hv
 refine ⟨k, r, f, rfl, hi, fun base bb acc G hG hl w0 R0 w hbase hw => ?_⟩
 have p1 : (([G, Z] : List Hp) ++ [R0]).flatten.Perm (([G, N] : List Hp) ++ [D ++ R0]).flatten := by
  simp only [List.cons_append, List.nil_append, List.flatten_cons, List.flatten_nil, List.append_nil, List.append_assoc]
  refine List.Perm.append_left _ ?_
  rw [← List.append_assoc]
  exact p.append_right _
 refine (hf base bb acc G hG hl w0 (D ++ R0) w hbase (hw.perm p1)).mono ?_
 rintro e w' ⟨u, Hs, he, hR, hst⟩
 have back : ∀ G' : Hp, (([G', N] : List Hp) ++ [D ++ R0]).flatten.Perm (([G', Z] : List Hp) ++ [R0]).flatten := fun G' => by
  simp only [List.cons_append, List.nil_append, List.flatten_cons, List.flatten_nil, List.append_nil, List.append_assoc]
  refine List.Perm.append_left _ ?_
  rw [← List.append_assoc]
  exact (p.append_right _).symm
 unfold EncR at hR ⊢
 split at hR
 ·obtain ⟨e1, G', rfl, rfl, hG1⟩ := hR
  exact ⟨_, [G', Z], he, by rename_i hb; rw [if_pos hb]; exact ⟨e1, G', rfl, rfl, hG1⟩, hst.perm (back G')⟩
 ·obtain ⟨G', rfl, rfl, hG'⟩ := hR
  exact ⟨_, [G', Z], he, by rename_i hb; rw [if_neg hb]; exact ⟨G', rfl, rfl, hG'⟩, hst.perm (back G')⟩
theorem vok0 {h : HV} {k : TypeId} {r : Value} {f : FuncId} (hi : Inv1 Tryz.prog k encName f) (hb : badT h = false) (hf : ∀ base bb acc G, BufG base bb acc G → acc.length ≤ 80000000000000 → FnW Tryz.prog f [r, (.iface 45 (Pt bb 0))] base [G] (Then (BufG base bb) (acc ++ enc h) [])) : VOk h (.iface k r) [] := by
 refine ⟨k, r, f, rfl, hi, fun base bb acc G hG hl w0 R0 w hbase hw => ?_⟩
 refine (hf base bb acc G hG hl w0 R0 w hbase (by simpa using hw)).mono ?_
 rintro e w' ⟨u, Hs, he, ⟨G', rfl, rfl, hG'⟩, hst⟩
 exact ⟨_, [G', []], he, by unfold EncR; rw [hb]; exact ⟨G', rfl, rfl, hG'⟩, by simpa using hst⟩
theorem vokX {h : HV} {k : TypeId} {r : Value} {f : FuncId} (hi : Inv1 Tryz.prog k encName f) (hb : badT h = true) (hf : ∀ base bb G, FnW Tryz.prog f [r, (.iface 45 (Pt bb 0))] base [G] (fun w Hs => ∃ e, w = .iface 67 e ∧ Hs = [G])) : VOk h (.iface k r) [] := by
 refine ⟨k, r, f, rfl, hi, fun base bb acc G hG hl w0 R0 w hbase hw => ?_⟩
 refine (hf base bb G w0 R0 w hbase (by simpa using hw)).mono ?_
 rintro e w' ⟨u, Hs, he, ⟨e1, rfl, rfl⟩, hst⟩
 exact ⟨_, [G, []], he, by unfold EncR; rw [hb]; exact ⟨e1, G, rfl, rfl, hG⟩, by simpa using hst⟩
theorem invInt8Value : Inv1 Tryz.prog 114 encName 120 := fun x a w => by kernel_rfl
theorem invInt16Value : Inv1 Tryz.prog 117 encName 125 := fun x a w => by kernel_rfl
theorem invInt32Value : Inv1 Tryz.prog 118 encName 129 := fun x a w => by kernel_rfl
theorem invInt64Value : Inv1 Tryz.prog 119 encName 133 := fun x a w => by kernel_rfl
theorem invBytesValue : Inv1 Tryz.prog 120 encName 137 := fun x a w => by kernel_rfl
theorem invStringValue : Inv1 Tryz.prog 121 encName 142 := fun x a w => by kernel_rfl
theorem invTimestampValue : Inv1 Tryz.prog 123 encName 147 := fun x a w => by kernel_rfl
theorem invUUIDValue : Inv1 Tryz.prog 127 encName 154 := fun x a w => by kernel_rfl
theorem invBoolValue : Inv1 Tryz.prog 128 encName 159 := fun x a w => by kernel_rfl
theorem enc_1 {h : HV} (hk : h.kind = 1) : enc h = tagW h.width :: be (h.width / 8).toNat h.int := by unfold enc; rw [if_pos hk]
theorem bad_no {h : HV} (h2 : h.kind ≠ 2) (h3 : h.kind ≠ 3) : badT h = false := by unfold badT; simp [h2, h3]
theorem vokInt8Value {h : HV} (hk : h.kind = 1) (hw : h.width = 8) : VOk h (.iface 114 (.int .i8 h.int)) [] := by
 refine vok0 invInt8Value (bad_no (by omega) (by omega)) fun base bb acc G hG hal => ?_
 have he : enc h = 2 :: be 1 h.int := by rw [enc_1 hk, hw]; rfl
 rw [he]
 exact encInt8Value base _ _ _ _ (bufWr base bb) acc G hG h.int (by omega)
theorem vokInt16Value {h : HV} (hk : h.kind = 1) (hw : h.width = 16) : VOk h (.iface 117 (.int .i16 h.int)) [] := by
 refine vok0 invInt16Value (bad_no (by omega) (by omega)) fun base bb acc G hG hal => ?_
 have he : enc h = 3 :: be 2 h.int := by rw [enc_1 hk, hw]; rfl
 rw [he]
 exact encInt16Value base _ _ _ _ (bufWr base bb) acc G hG h.int (by omega)
theorem vokInt32Value {h : HV} (hk : h.kind = 1) (hw : h.width = 32) : VOk h (.iface 118 (.int .i32 h.int)) [] := by
 refine vok0 invInt32Value (bad_no (by omega) (by omega)) fun base bb acc G hG hal => ?_
 have he : enc h = 4 :: be 4 h.int := by rw [enc_1 hk, hw]; rfl
 rw [he]
 exact encInt32Value base _ _ _ _ (bufWr base bb) acc G hG h.int (by omega)
theorem vokInt64Value {h : HV} (hk : h.kind = 1) (hw : h.width = 64) : VOk h (.iface 119 (.int .i64 h.int)) [] := by
 refine vok0 invInt64Value (bad_no (by omega) (by omega)) fun base bb acc G hG hal => ?_
 have he : enc h = 5 :: be 8 h.int := by rw [enc_1 hk, hw]; rfl
 rw [he]
 exact encInt64Value base _ _ _ _ (bufWr base bb) acc G hG h.int (by omega)
theorem vokBytes {h : HV} {s : Value} {N : Hp} (hk : h.kind = 2) (hr : RdS 1 s N h.text.length (bytesV h.text)) (hl : h.text.length ≤ 4000000000) : VOk h (.iface 120 s) N := by
 refine ⟨_, _, _, rfl, invBytesValue, fun base bb acc G hG hal => ?_⟩
 by_cases hb : 32767 < h.text.length
 ·refine (encBytesValueX base _ s N G h.text hr hb hl).mono ?_
  rintro w Hs ⟨e, rfl, rfl⟩
  have hbd : badT h = true := by unfold badT; simp [hk, hb]
  unfold EncR; rw [hbd]
  exact ⟨e, G, rfl, rfl, hG⟩
 ·refine (encBytesValue base _ _ _ _ (bufWr base bb) acc G hG s N h.text hr (by omega) hal).mono ?_
  rintro w Hs ⟨G', rfl, rfl, hG'⟩
  have he : enc h = 6 :: be 2 h.text.length ++ h.text := by unfold enc; rw [if_neg (by omega), if_pos hk]
  have hbd : badT h = false := by unfold badT; simp [hb]
  unfold EncR; rw [hbd]
  exact ⟨G', rfl, rfl, by rw [he]; exact hG'⟩
theorem vokString {h : HV} (hk : h.kind = 3) (hl : h.text.length ≤ 4000000000) : VOk h (.iface 121 (S h.text)) [] := by
 by_cases hb : 32767 < h.text.length
 ·exact vokX invStringValue (by unfold badT; simp [hk, hb]) fun base bb G => encStringValueX base _ G h.text hb hl
 ·refine vok0 invStringValue (by unfold badT; simp [hb]) fun base bb acc G hG hal => ?_
  have he : enc h = 7 :: be 2 h.text.length ++ h.text := by unfold enc; rw [if_neg (by omega), if_neg (by omega), if_pos hk]
  rw [he]
  exact encStringValue base bb acc G hG h.text (by omega) hal
theorem vokTime {h : HV} (hk : h.kind = 4) (h1 : -9200000000000 ≤ h.int) (h2 : h.int ≤ 9200000000000) : VOk h (.iface 123 (msV h.int)) [] := by
 refine vok0 invTimestampValue (bad_no (by omega) (by omega)) fun base bb acc G hG hal => ?_
 have he : enc h = 8 :: be 8 h.int := by unfold enc; rw [if_neg (by omega), if_neg (by omega), if_neg (by omega), if_pos hk]
 rw [he]
 exact encTimestampValue base _ _ _ _ (bufWr base bb) acc G hG h.int h1 h2 (by omega)
theorem vokUUID {h : HV} (hk : h.kind = 5) (hl : h.text.length = 16) : VOk h (.iface 127 (.agg (bytesV h.text).toArray)) [] := by
 refine vok0 invUUIDValue (bad_no (by omega) (by omega)) fun base bb acc G hG hal => ?_
 have he : enc h = 9 :: h.text := by unfold enc; rw [if_neg (by omega), if_neg (by omega), if_neg (by omega), if_neg (by omega), if_pos hk]
 rw [he]
 exact encUUIDValue base _ _ _ _ (bufWr base bb) acc G hG h.text hl hal
theorem vokBool {h : HV} (hk : h.kind = 0) : VOk h (.iface 128 (.bool (decide (¬ h.int = 0)))) [] := by
 refine vok0 invBoolValue (bad_no (by omega) (by omega)) fun base bb acc G hG hal => ?_
 have he : enc h = [if (decide (¬ h.int = 0)) then 0 else 1] := by
  unfold enc; rw [if_neg (by omega), if_neg (by omega), if_neg (by omega), if_neg (by omega), if_neg (by omega)]
  by_cases h0 : h.int = 0 <;> simp [h0]
 rw [he]
 exact encBoolValue base _ _ _ _ (bufWr base bb) acc G hG _ (by omega)
theorem valueFor (h : HV) (hf : fineV h) (hl : h.text.length ≤ 4000000000) : FnA Tryz.prog 32 [.agg #[I h.kind, I h.width, I h.int, S h.text]] [] (fun v N => VOk h v N) := by
 obtain ⟨hk0, hk5, hwd, hun, htm⟩ := hf
 refine FnA.enter0 (n := 60) Tryz.func32 rfl rfl fun w0 => ?_
 refine WC.sub (fr' := [(0, _)]) ?_ ⟨rfl, trivial⟩
 refine WC.seq (WC.region ?_)
 refine WL.box rfl rfl rfl fun b0_0 hb0_0 => ?_
 refine WL.q (oq_assign rfl) rfl rfl rfl ?_
 refine WL.nil (WE.then_normal (WC.sub (fr' := [(1, _)]) ?_ ⟨rfl, trivial⟩))
 refine WC.seq (WC.seq (WC.region ?_))
 refine WL.q (oq_fieldAddr fld53_0 rfl) rfl rfl rfl ?_
 refine WL.q (oq_load flat3 rfl (.head _) (List.mem_singleton.2 rfl) rfl) rfl rfl rfl ?_
 refine WL.nil (WE.then_normal (WC.sub (fr' := [(1, _), (5, _)]) ?_ ⟨rfl, rfl, trivial⟩))
 refine WC.block (WC.seq (WC.region ?_))
 refine WL.q (oq_eql rfl rfl) rfl rfl rfl ?_
 refine WL.q (oq_assign rfl) rfl rfl rfl ?_
 refine WL.nil (WE.then_normal (WC.sub (fr' := [(1, _), (5, _), (6, _)]) ?_ ⟨rfl, rfl, rfl, trivial⟩))
 refine WC.cond rfl (fun q2 => ?_) (fun q2 => ?_)
 ·
  try simp only [Z1, Z2, Z3, Z4, Z5, Z6, Z7, Z8, Z9, Z0] at q2
  refine WC.seq (WC.seq (WC.region ?_))
  refine WL.q (oq_fieldAddr fld53_1 rfl) rfl rfl rfl ?_
  refine WL.q (oq_load flat3 rfl (.head _) (List.mem_singleton.2 rfl) rfl) rfl rfl rfl ?_
  refine WL.nil (WE.then_normal (WC.sub (fr' := [(1, _), (9, _)]) ?_ ⟨rfl, rfl, trivial⟩))
  refine WC.block (WC.seq (WC.region ?_))
  refine WL.q (oq_eql rfl rfl) rfl rfl rfl ?_
  refine WL.q (oq_assign rfl) rfl rfl rfl ?_
  refine WL.nil (WE.then_normal (WC.sub (fr' := [(1, _), (9, _), (10, _)]) ?_ ⟨rfl, rfl, rfl, trivial⟩))
  refine WC.cond rfl (fun q4 => ?_) (fun q4 => ?_)
  ·
   try simp only [Z1, Z2, Z3, Z4, Z5, Z6, Z7, Z8, Z9, Z0] at q4
   refine WC.seq ?_
   have hw8 := hwd q2
   refine WC.region ?_
   refine WL.q (oq_fieldAddr fld53_2 rfl) rfl rfl rfl ?_
   refine WL.q (oq_load flat2 rfl (.head _) (List.mem_singleton.2 rfl) rfl) rfl rfl rfl ?_
   refine WL.q (oq_conv Tryz.underlying2 Tryz.underlying114 rfl (by rw [i8_lo, i8_hi]; (first | omega | (simp only [List.length_cons, List.length_nil, List.length_append, List.length_drop, List.length_take]; omega)))) rfl rfl rfl ?_
   refine WL.q (oq_makeI conc114 rfl) rfl rfl rfl ?_
   refine WL.q (oq_assign rfl) rfl rfl rfl ?_
   refine WL.nil (WE.then_normal (WC.sub (fr' := [(2, _)]) ?_ ⟨rfl, trivial⟩))
   refine WC.ret (WE.block_ret (WE.then_ret (WE.block_ret (WE.then_ret ?_))))
   refine WE.lose hb0_0 ?_
   refine WE.add0 ?_
   refine WE.endA0 (.inl rfl) (res1 Tryz.results32 rfl) ?_ fresh0
   exact vokInt8Value q2 q4
  ·
   try simp only [Z1, Z2, Z3, Z4, Z5, Z6, Z7, Z8, Z9, Z0] at q4
   refine WC.seq (WC.region ?_)
   refine WL.q (oq_eql rfl rfl) rfl rfl rfl ?_
   refine WL.q (oq_assign rfl) rfl rfl rfl ?_
   refine WL.nil (WE.then_normal (WC.sub (fr' := [(1, _), (9, _), (16, _)]) ?_ ⟨rfl, rfl, rfl, trivial⟩))
   refine WC.cond rfl (fun q6 => ?_) (fun q6 => ?_)
   ·
    try simp only [Z1, Z2, Z3, Z4, Z5, Z6, Z7, Z8, Z9, Z0] at q6
    refine WC.seq ?_
    have hw8 := hwd q2
    refine WC.region ?_
    refine WL.q (oq_fieldAddr fld53_2 rfl) rfl rfl rfl ?_
    refine WL.q (oq_load flat2 rfl (.head _) (List.mem_singleton.2 rfl) rfl) rfl rfl rfl ?_
    refine WL.q (oq_conv Tryz.underlying2 Tryz.underlying117 rfl (by rw [i16_lo, i16_hi]; (first | omega | (simp only [List.length_cons, List.length_nil, List.length_append, List.length_drop, List.length_take]; omega)))) rfl rfl rfl ?_
    refine WL.q (oq_makeI conc117 rfl) rfl rfl rfl ?_
    refine WL.q (oq_assign rfl) rfl rfl rfl ?_
    refine WL.nil (WE.then_normal (WC.sub (fr' := [(2, _)]) ?_ ⟨rfl, trivial⟩))
    refine WC.ret (WE.block_ret (WE.then_ret (WE.block_ret (WE.then_ret ?_))))
    refine WE.lose hb0_0 ?_
    refine WE.add0 ?_
    refine WE.endA0 (.inl rfl) (res1 Tryz.results32 rfl) ?_ fresh0
    exact vokInt16Value q2 q6
   ·
    try simp only [Z1, Z2, Z3, Z4, Z5, Z6, Z7, Z8, Z9, Z0] at q6
    refine WC.seq (WC.region ?_)
    refine WL.q (oq_eql rfl rfl) rfl rfl rfl ?_
    refine WL.q (oq_assign rfl) rfl rfl rfl ?_
    refine WL.nil (WE.then_normal (WC.sub (fr' := [(1, _), (22, _)]) ?_ ⟨rfl, rfl, trivial⟩))
    refine WC.cond rfl (fun q8 => ?_) (fun q8 => ?_)
    ·
     try simp only [Z1, Z2, Z3, Z4, Z5, Z6, Z7, Z8, Z9, Z0] at q8
     refine WC.seq ?_
     have hw8 := hwd q2
     refine WC.region ?_
     refine WL.q (oq_fieldAddr fld53_2 rfl) rfl rfl rfl ?_
     refine WL.q (oq_load flat2 rfl (.head _) (List.mem_singleton.2 rfl) rfl) rfl rfl rfl ?_
     refine WL.q (oq_conv Tryz.underlying2 Tryz.underlying118 rfl (by rw [i32_lo, i32_hi]; (first | omega | (simp only [List.length_cons, List.length_nil, List.length_append, List.length_drop, List.length_take]; omega)))) rfl rfl rfl ?_
     refine WL.q (oq_makeI conc118 rfl) rfl rfl rfl ?_
     refine WL.q (oq_assign rfl) rfl rfl rfl ?_
     refine WL.nil (WE.then_normal (WC.sub (fr' := [(2, _)]) ?_ ⟨rfl, trivial⟩))
     refine WC.ret (WE.block_ret (WE.then_ret (WE.block_ret (WE.then_ret ?_))))
     refine WE.lose hb0_0 ?_
     refine WE.add0 ?_
     refine WE.endA0 (.inl rfl) (res1 Tryz.results32 rfl) ?_ fresh0
     exact vokInt32Value q2 q8
    ·
     try simp only [Z1, Z2, Z3, Z4, Z5, Z6, Z7, Z8, Z9, Z0] at q8
     refine WC.skip (WE.block_normal (WE.then_normal (WC.sub (fr' := [(1, _)]) ?_ ⟨rfl, trivial⟩)))
     refine WC.seq ?_
     have hw8 := hwd q2
     refine WC.region ?_
     refine WL.q (oq_fieldAddr fld53_2 rfl) rfl rfl rfl ?_
     refine WL.q (oq_load flat2 rfl (.head _) (List.mem_singleton.2 rfl) rfl) rfl rfl rfl ?_
     refine WL.q (oq_makeI conc119 rfl) rfl rfl rfl ?_
     refine WL.q (oq_assign rfl) rfl rfl rfl ?_
     refine WL.nil (WE.then_normal (WC.sub (fr' := [(2, _)]) ?_ ⟨rfl, trivial⟩))
     refine WC.ret (WE.block_ret (WE.then_ret ?_))
     refine WE.lose hb0_0 ?_
     refine WE.add0 ?_
     refine WE.endA0 (.inl rfl) (res1 Tryz.results32 rfl) ?_ fresh0
     exact vokInt64Value q2 (by omega)
 ·
  try simp only [Z1, Z2, Z3, Z4, Z5, Z6, Z7, Z8, Z9, Z0] at q2
  refine WC.seq (WC.region ?_)
  refine WL.q (oq_eql rfl rfl) rfl rfl rfl ?_
  refine WL.q (oq_assign rfl) rfl rfl rfl ?_
  refine WL.nil (WE.then_normal (WC.sub (fr' := [(1, _), (5, _), (31, _)]) ?_ ⟨rfl, rfl, rfl, trivial⟩))
  refine WC.cond rfl (fun q11 => ?_) (fun q11 => ?_)
  ·
   try simp only [Z1, Z2, Z3, Z4, Z5, Z6, Z7, Z8, Z9, Z0] at q11
   refine WC.seq (WC.region ?_)
   refine WL.q (oq_fieldAddr fld53_3 rfl) rfl rfl rfl ?_
   refine WL.q (oq_load flat9 rfl (.head _) (List.mem_singleton.2 rfl) rfl) rfl rfl rfl ?_
   refine WL.toBytes Tryz.underlying9 Tryz.underlying120 Tryz.underlying5 rfl (by unfold maxLen; (first | omega | (simp only [List.length_cons, List.length_nil, List.length_append, List.length_drop, List.length_take]; omega))) rfl rfl fun v12_2 A12_2 hr12_2 hA12_2 => ?_
   refine WL.q (oq_makeI conc120 rfl) rfl rfl rfl ?_
   refine WL.q (oq_assign rfl) rfl rfl rfl ?_
   refine WL.nil (WE.then_normal (WC.sub (fr' := [(2, _)]) ?_ ⟨rfl, trivial⟩))
   refine WC.ret (WE.block_ret (WE.then_ret ?_))
   refine WE.f1 ?_
   refine WE.lose hb0_0 ?_
   refine WE.endA0 (.inl rfl) (res1 Tryz.results32 rfl) ?_ (hA12_2)
   exact vokBytes q11 hr12_2 hl
  ·
   try simp only [Z1, Z2, Z3, Z4, Z5, Z6, Z7, Z8, Z9, Z0] at q11
   refine WC.seq (WC.region ?_)
   refine WL.q (oq_eql rfl rfl) rfl rfl rfl ?_
   refine WL.q (oq_assign rfl) rfl rfl rfl ?_
   refine WL.nil (WE.then_normal (WC.sub (fr' := [(1, _), (5, _), (37, _)]) ?_ ⟨rfl, rfl, rfl, trivial⟩))
   refine WC.cond rfl (fun q13 => ?_) (fun q13 => ?_)
   ·
    try simp only [Z1, Z2, Z3, Z4, Z5, Z6, Z7, Z8, Z9, Z0] at q13
    refine WC.seq (WC.region ?_)
    refine WL.q (oq_fieldAddr fld53_3 rfl) rfl rfl rfl ?_
    refine WL.q (oq_load flat9 rfl (.head _) (List.mem_singleton.2 rfl) rfl) rfl rfl rfl ?_
    refine WL.q (oq_makeI conc121 rfl) rfl rfl rfl ?_
    refine WL.q (oq_assign rfl) rfl rfl rfl ?_
    refine WL.nil (WE.then_normal (WC.sub (fr' := [(2, _)]) ?_ ⟨rfl, trivial⟩))
    refine WC.ret (WE.block_ret (WE.then_ret ?_))
    refine WE.lose hb0_0 ?_
    refine WE.add0 ?_
    refine WE.endA0 (.inl rfl) (res1 Tryz.results32 rfl) ?_ fresh0
    exact vokString q13 hl
   ·
    try simp only [Z1, Z2, Z3, Z4, Z5, Z6, Z7, Z8, Z9, Z0] at q13
    refine WC.seq (WC.region ?_)
    refine WL.q (oq_eql rfl rfl) rfl rfl rfl ?_
    refine WL.q (oq_assign rfl) rfl rfl rfl ?_
    refine WL.nil (WE.then_normal (WC.sub (fr' := [(1, _), (5, _), (42, _)]) ?_ ⟨rfl, rfl, rfl, trivial⟩))
    refine WC.cond rfl (fun q15 => ?_) (fun q15 => ?_)
    ·
     try simp only [Z1, Z2, Z3, Z4, Z5, Z6, Z7, Z8, Z9, Z0] at q15
     refine WC.seq ?_
     have htm2 := htm q15
     refine WC.region ?_
     refine WL.q (oq_fieldAddr fld53_2 rfl) rfl rfl rfl ?_
     refine WL.q (oq_load flat2 rfl (.head _) (List.mem_singleton.2 rfl) rfl) rfl rfl rfl ?_
     refine WL.qc (oq_call (unixMilli h.int htm2.1 htm2.2) call39 rfl) rfl rfl rfl ?_
     refine WL.q (oq_makeI conc123 rfl) rfl rfl rfl ?_
     refine WL.q (oq_assign rfl) rfl rfl rfl ?_
     refine WL.nil (WE.then_normal (WC.sub (fr' := [(2, _)]) ?_ ⟨rfl, trivial⟩))
     refine WC.ret (WE.block_ret (WE.then_ret ?_))
     refine WE.lose hb0_0 ?_
     refine WE.add0 ?_
     refine WE.endA0 (.inl rfl) (res1 Tryz.results32 rfl) ?_ fresh0
     exact vokTime q15 htm2.1 htm2.2
    ·
     try simp only [Z1, Z2, Z3, Z4, Z5, Z6, Z7, Z8, Z9, Z0] at q15
     refine WC.seq (WC.region ?_)
     refine WL.q (oq_eql rfl rfl) rfl rfl rfl ?_
     refine WL.q (oq_assign rfl) rfl rfl rfl ?_
     refine WL.nil (WE.then_normal (WC.sub (fr' := [(1, _), (48, _)]) ?_ ⟨rfl, rfl, trivial⟩))
     refine WC.cond rfl (fun q17 => ?_) (fun q17 => ?_)
     ·
      try simp only [Z1, Z2, Z3, Z4, Z5, Z6, Z7, Z8, Z9, Z0] at q17
      refine WC.seq ?_
      have hul := hun q17
      refine WC.region ?_
      refine WL.alloc ty127 rfl rfl fun ub hub => ?_
      refine WL.asB (List.replicate 16 0) rfl ?_
      refine WL.nil (WE.then_normal (WC.sub (fr' := [(1, _), (3, _)]) ?_ ⟨rfl, rfl, trivial⟩))
      refine WC.seq ?_
      refine WC.tailM (pl := []) (ql := [_, _, _]) (tl := [_]) [] [0, 1, 2] 3 [] (by kernel_rfl) (by kernel_rfl) (by kernel_rfl) (by kernel_rfl) (by kernel_rfl) (by kernel_rfl) (by decide) rfl rfl rfl (by decide) (by repeat (first | with_reducible exact QOk.body | with_reducible apply QOk.then | with_reducible apply QOk.block | exact QOk.body | apply QOk.then | apply QOk.block)) ?_
      refine WM.nil ?_
      refine WY.q (oq_sliceArr Tryz.underlying127 ty5 rfl rfl rfl (by (first | (simp only [List.length_replicate]; omega) | omega)) (by (first | (simp only [List.length_replicate]; omega) | omega))) rfl rfl rfl ?_
      refine WY.q (oq_fieldAddr fld53_3 rfl) rfl rfl rfl ?_
      refine WY.q (oq_load flat9 rfl (.tail _ (.head _)) (List.mem_singleton.2 rfl) rfl) rfl rfl rfl ?_
      refine WY.nil ?_
      refine WL.copyBS Tryz.underlying25 ty5 rfl rfl (by (first | (simp only [List.length_replicate]; omega) | omega)) rfl rfl ?_
      refine WL.nil (WE.then_normal (WC.sub (fr' := [(3, _)]) ?_ ⟨rfl, trivial⟩))
      refine WC.seq ?_
      have hcp : List.take (0 + 0) (List.replicate 16 0) ++ List.take (min h.text.length (16 - 0)) h.text ++ List.drop (0 + 0 + min h.text.length (16 - 0)) (List.replicate 16 0) = h.text := by
       rw [hul, List.take_of_length_le (l := h.text) (by omega)]; simp
      rw [hcp]
      refine WC.region ?_
      refine WL.q (oq_loadArr agg127 ty127 (hul) rfl (.head _)) rfl rfl rfl ?_
      refine WL.q (oq_makeI conc127 rfl) rfl rfl rfl ?_
      refine WL.q (oq_assign rfl) rfl rfl rfl ?_
      refine WL.nil (WE.then_normal (WC.sub (fr' := [(2, _)]) ?_ ⟨rfl, trivial⟩))
      refine WC.ret (WE.block_ret (WE.then_ret ?_))
      refine WE.lose hub ?_
      refine WE.lose hb0_0 ?_
      refine WE.add0 ?_
      refine WE.endA0 (.inl rfl) (res1 Tryz.results32 rfl) ?_ fresh0
      exact vokUUID q17 hul
     ·
      try simp only [Z1, Z2, Z3, Z4, Z5, Z6, Z7, Z8, Z9, Z0] at q17
      refine WC.skip (WE.block_normal (WE.then_normal (WC.sub (fr' := [(1, _)]) ?_ ⟨rfl, trivial⟩)))
      refine WC.seq (WC.region ?_)
      refine WL.q (oq_fieldAddr fld53_2 rfl) rfl rfl rfl ?_
      refine WL.q (oq_load flat2 rfl (.head _) (List.mem_singleton.2 rfl) rfl) rfl rfl rfl ?_
      refine WL.q (oq_neq rfl rfl) rfl rfl rfl ?_
      refine WL.q (oq_makeI conc128 rfl) rfl rfl rfl ?_
      refine WL.q (oq_assign rfl) rfl rfl rfl ?_
      refine WL.nil (WE.then_normal (WC.sub (fr' := [(2, _)]) ?_ ⟨rfl, trivial⟩))
      refine WC.ret ?_
      refine WE.lose hb0_0 ?_
      refine WE.add0 ?_
      refine WE.endA0 (.inl rfl) (res1 Tryz.results32 rfl) ?_ fresh0
      exact vokBool (by omega)
end EI
end Go.Proofs.YtpjeiimlglgklaaGreatDoor
/- Lists of headers. -/
namespace Go.Proofs.YtpjeiimlglgklaaGreatDoor
open Go Go.RowKit V EA EB EC ED EE EF EG EH EI
set_option linter.unusedSimpArgs false
set_option linter.unusedVariables false
set_option maxRecDepth 10000
namespace EJ
theorem call32 : Callable Tryz.prog 32 := ⟨_, Tryz.func32, rfl, by kernel_rfl⟩
theorem call36 : Callable Tryz.prog 36 := ⟨_, Tryz.func36, rfl, by kernel_rfl⟩
theorem flat5 : Flat Tryz.prog 5 := ⟨_, Tryz.underlying5, by simp⟩
theorem flat9 : Flat Tryz.prog 9 := ⟨_, Tryz.underlying9, by simp⟩
theorem flat87 : Flat Tryz.prog 87 := ⟨_, Tryz.underlying87, by simp⟩
theorem ty5 : Ty Tryz.prog 5 (.int .u8 0) 1 1 := ty_of (by kernel_rfl)
theorem ty9 : Ty Tryz.prog 9 (S []) 1 16 := ty_of (by kernel_rfl)
theorem ty53 : Ty Tryz.prog 53 (.agg #[(.int .i64 0), (.int .i64 0), (.int .i64 0), (S [])]) 4 40 := ty_of (by kernel_rfl)
theorem ty55 : Ty Tryz.prog 55 (.agg #[(S []), (.int .i64 0), (.int .i64 0), (.int .i64 0), (S [])]) 5 56 := ty_of (by kernel_rfl)
theorem ty67 : Ty Tryz.prog 67 (.agg #[(S []), (.int .i64 0), (.int .i64 0), .nilIface]) 4 48 := ty_of (by kernel_rfl)
theorem ty87 : Ty Tryz.prog 87 .nilIface 1 16 := ty_of (by kernel_rfl)
theorem ty90 : Ty Tryz.prog 90 (.agg #[(S []), .nilIface]) 2 32 := ty_of (by kernel_rfl)
theorem ty98 : Ty Tryz.prog 98 (.agg #[(.int .u8 0), (.int .u8 0), (.int .u8 0), (.int .u8 0), (.int .u8 0), (.int .u8 0), (.int .u8 0), (.int .u8 0), (.int .u8 0), (.int .u8 0), (.int .u8 0), (.int .u8 0), (.int .u8 0), (.int .u8 0), (.int .u8 0), (.int .u8 0), (.int .u8 0), (.int .u8 0), (.int .u8 0), (.int .u8 0), (.int .u8 0), (.int .u8 0), (.int .u8 0), (.int .u8 0), (.int .u8 0), (.int .u8 0), (.int .u8 0), (.int .u8 0), (.int .u8 0), (.int .u8 0), (.int .u8 0), (.int .u8 0), (.int .u8 0), (.int .u8 0), (.int .u8 0), (.int .u8 0), (.int .u8 0), (.int .u8 0), (.int .u8 0), (.int .u8 0), (.int .u8 0), (.int .u8 0), (.int .u8 0), (.int .u8 0), (.int .u8 0), (.int .u8 0), (.int .u8 0), (.int .u8 0), (.int .u8 0), (.int .u8 0), (.int .u8 0), (.int .u8 0), (.int .u8 0), (.int .u8 0), (.int .u8 0), (.int .u8 0), (.int .u8 0), (.int .u8 0), (.int .u8 0), (.int .u8 0), (.int .u8 0), (.int .u8 0), (.int .u8 0), (.int .u8 0), (.int .u8 0), (.int .u8 0), (.int .u8 0), (.int .u8 0), (.int .u8 0), (.int .u8 0), (.int .u8 0), (.int .u8 0), (.int .u8 0), (.int .u8 0), (.int .u8 0), (.int .u8 0), (.int .u8 0), (.int .u8 0), (.int .u8 0), (.int .u8 0), (.int .u8 0), (.int .u8 0), (.int .u8 0), (.int .u8 0), (.int .u8 0), (.int .u8 0), (.int .u8 0), (.int .u8 0), (.int .u8 0), (.int .u8 0), (.int .u8 0), (.int .u8 0), (.int .u8 0), (.int .u8 0), (.int .u8 0), (.int .u8 0), (.int .u8 0), (.int .u8 0), (.int .u8 0), (.int .u8 0), (.int .u8 0), (.int .u8 0), (.int .u8 0), (.int .u8 0), (.int .u8 0), (.int .u8 0), (.int .u8 0), (.int .u8 0), (.int .u8 0), (.int .u8 0), (.int .u8 0), (.int .u8 0), (.int .u8 0), (.int .u8 0), (.int .u8 0), (.int .u8 0), (.int .u8 0), (.int .u8 0), (.int .u8 0), (.int .u8 0), (.int .u8 0), (.int .u8 0), (.int .u8 0), (.int .u8 0), (.int .u8 0), (.int .u8 0), (.int .u8 0), (.int .u8 0), (.int .u8 0), (.int .u8 0), (.int .u8 0), (.int .u8 0), (.int .u8 0), (.int .u8 0), (.int .u8 0), (.int .u8 0), (.int .u8 0), (.int .u8 0), (.int .u8 0), (.int .u8 0), (.int .u8 0), (.int .u8 0), (.int .u8 0), (.int .u8 0), (.int .u8 0), (.int .u8 0), (.int .u8 0), (.int .u8 0), (.int .u8 0), (.int .u8 0), (.int .u8 0), (.int .u8 0), (.int .u8 0), (.int .u8 0), (.int .u8 0), (.int .u8 0), (.int .u8 0), (.int .u8 0), (.int .u8 0), (.int .u8 0), (.int .u8 0), (.int .u8 0), (.int .u8 0), (.int .u8 0), (.int .u8 0), (.int .u8 0), (.int .u8 0), (.int .u8 0), (.int .u8 0), (.int .u8 0), (.int .u8 0), (.int .u8 0), (.int .u8 0), (.int .u8 0), (.int .u8 0), (.int .u8 0), (.int .u8 0), (.int .u8 0), (.int .u8 0), (.int .u8 0), (.int .u8 0), (.int .u8 0), (.int .u8 0), (.int .u8 0), (.int .u8 0), (.int .u8 0), (.int .u8 0), (.int .u8 0), (.int .u8 0), (.int .u8 0), (.int .u8 0), (.int .u8 0), (.int .u8 0), (.int .u8 0), (.int .u8 0), (.int .u8 0), (.int .u8 0), (.int .u8 0), (.int .u8 0), (.int .u8 0), (.int .u8 0), (.int .u8 0), (.int .u8 0), (.int .u8 0), (.int .u8 0), (.int .u8 0), (.int .u8 0), (.int .u8 0), (.int .u8 0), (.int .u8 0), (.int .u8 0), (.int .u8 0), (.int .u8 0), (.int .u8 0), (.int .u8 0), (.int .u8 0), (.int .u8 0), (.int .u8 0), (.int .u8 0), (.int .u8 0), (.int .u8 0), (.int .u8 0), (.int .u8 0), (.int .u8 0), (.int .u8 0), (.int .u8 0), (.int .u8 0), (.int .u8 0), (.int .u8 0), (.int .u8 0), (.int .u8 0), (.int .u8 0), (.int .u8 0), (.int .u8 0), (.int .u8 0), (.int .u8 0), (.int .u8 0), (.int .u8 0), (.int .u8 0), (.int .u8 0), (.int .u8 0), (.int .u8 0), (.int .u8 0), (.int .u8 0), (.int .u8 0), (.int .u8 0), (.int .u8 0), (.int .u8 0), (.int .u8 0), (.int .u8 0), (.int .u8 0), (.int .u8 0), (.int .u8 0), (.int .u8 0), (.int .u8 0)]) 255 255 := ty_of (by kernel_rfl)
theorem ty100 : Ty Tryz.prog 100 (.agg #[(.int .u8 0), (.int .u8 0), (.int .u8 0), (.int .u8 0), (.int .u8 0), (.int .u8 0), (.int .u8 0), (.int .u8 0), (.int .u8 0), (.int .u8 0), (.int .u8 0), (.int .u8 0), (.int .u8 0), (.int .u8 0), (.int .u8 0), (.int .u8 0), (.int .u8 0), (.int .u8 0), (.int .u8 0), (.int .u8 0), (.int .u8 0), (.int .u8 0), (.int .u8 0), (.int .u8 0), (.int .u8 0), (.int .u8 0), (.int .u8 0), (.int .u8 0), (.int .u8 0), (.int .u8 0), (.int .u8 0), (.int .u8 0), (.int .u8 0), (.int .u8 0), (.int .u8 0), (.int .u8 0), (.int .u8 0), (.int .u8 0), (.int .u8 0), (.int .u8 0), (.int .u8 0), (.int .u8 0), (.int .u8 0), (.int .u8 0), (.int .u8 0), (.int .u8 0), (.int .u8 0), (.int .u8 0), (.int .u8 0), (.int .u8 0), (.int .u8 0), (.int .u8 0), (.int .u8 0), (.int .u8 0), (.int .u8 0), (.int .u8 0), (.int .u8 0), (.int .u8 0), (.int .u8 0), (.int .u8 0), (.int .u8 0), (.int .u8 0), (.int .u8 0), (.int .u8 0), (.int .u8 0), (.int .u8 0), (.int .u8 0), (.int .u8 0), (.int .u8 0), (.int .u8 0), (.int .u8 0), (.int .u8 0), (.int .u8 0), (.int .u8 0), (.int .u8 0), (.int .u8 0), (.int .u8 0), (.int .u8 0), (.int .u8 0), (.int .u8 0), (.int .u8 0), (.int .u8 0), (.int .u8 0), (.int .u8 0), (.int .u8 0), (.int .u8 0), (.int .u8 0), (.int .u8 0), (.int .u8 0), (.int .u8 0), (.int .u8 0), (.int .u8 0), (.int .u8 0), (.int .u8 0), (.int .u8 0), (.int .u8 0), (.int .u8 0), (.int .u8 0), (.int .u8 0), (.int .u8 0), (.int .u8 0), (.int .u8 0), (.int .u8 0), (.int .u8 0), (.int .u8 0), (.int .u8 0), (.int .u8 0), (.int .u8 0), (.int .u8 0), (.int .u8 0), (.int .u8 0), (.int .u8 0), (.int .u8 0), (.int .u8 0), (.int .u8 0), (.int .u8 0), (.int .u8 0), (.int .u8 0), (.int .u8 0), (.int .u8 0), (.int .u8 0), (.int .u8 0), (.int .u8 0), (.int .u8 0), (.int .u8 0), (.int .u8 0), (.int .u8 0), (.int .u8 0), (.int .u8 0), (.int .u8 0), (.int .u8 0), (.int .u8 0), (.int .u8 0), (.int .u8 0), (.int .u8 0), (.int .u8 0), (.int .u8 0), (.int .u8 0), (.int .u8 0), (.int .u8 0), (.int .u8 0), (.int .u8 0), (.int .u8 0), (.int .u8 0), (.int .u8 0), (.int .u8 0), (.int .u8 0), (.int .u8 0), (.int .u8 0), (.int .u8 0), (.int .u8 0), (.int .u8 0), (.int .u8 0), (.int .u8 0), (.int .u8 0), (.int .u8 0), (.int .u8 0), (.int .u8 0), (.int .u8 0), (.int .u8 0), (.int .u8 0), (.int .u8 0), (.int .u8 0), (.int .u8 0), (.int .u8 0), (.int .u8 0), (.int .u8 0), (.int .u8 0), (.int .u8 0), (.int .u8 0), (.int .u8 0), (.int .u8 0), (.int .u8 0), (.int .u8 0), (.int .u8 0), (.int .u8 0), (.int .u8 0), (.int .u8 0), (.int .u8 0), (.int .u8 0), (.int .u8 0), (.int .u8 0), (.int .u8 0), (.int .u8 0), (.int .u8 0), (.int .u8 0), (.int .u8 0), (.int .u8 0), (.int .u8 0), (.int .u8 0), (.int .u8 0), (.int .u8 0), (.int .u8 0), (.int .u8 0), (.int .u8 0), (.int .u8 0), (.int .u8 0), (.int .u8 0), (.int .u8 0), (.int .u8 0), (.int .u8 0), (.int .u8 0), (.int .u8 0), (.int .u8 0), (.int .u8 0), (.int .u8 0), (.int .u8 0), (.int .u8 0), (.int .u8 0), (.int .u8 0), (.int .u8 0), (.int .u8 0), (.int .u8 0), (.int .u8 0), (.int .u8 0), (.int .u8 0), (.int .u8 0), (.int .u8 0), (.int .u8 0), (.int .u8 0), (.int .u8 0), (.int .u8 0), (.int .u8 0), (.int .u8 0), (.int .u8 0), (.int .u8 0), (.int .u8 0), (.int .u8 0), (.int .u8 0), (.int .u8 0), (.int .u8 0), (.int .u8 0), (.int .u8 0), (.int .u8 0), (.int .u8 0), (.int .u8 0), (.int .u8 0), (.int .u8 0), (.int .u8 0), (.int .u8 0), (.int .u8 0), (.int .u8 0), (.int .u8 0), (.int .u8 0), (.int .u8 0), (.int .u8 0), (.int .u8 0), (.int .u8 0), (.int .u8 0), (.int .u8 0), (.int .u8 0), (.int .u8 0), (.int .u8 0), (.int .u8 0), (.int .u8 0), (.int .u8 0)]) 256 256 := ty_of (by kernel_rfl)
theorem conc9 : Conc Tryz.prog 9 := ⟨_, Tryz.underlying9, by simp⟩
theorem conc67 : Conc Tryz.prog 67 := ⟨_, Tryz.underlying67, by simp⟩
theorem agg53 : Agg Tryz.prog 53 := agg_of Tryz.underlying53
theorem agg55 : Agg Tryz.prog 55 := agg_of Tryz.underlying55
theorem agg90 : Agg Tryz.prog 90 := agg_of Tryz.underlying90
theorem agg100 : Agg Tryz.prog 100 := agg_of Tryz.underlying100
theorem str67 : Str Tryz.prog 67 #[(0, 1), (1, 1), (2, 1), (3, 1)] := ⟨_, Tryz.underlying67, fun w => by kernel_rfl⟩
theorem str90 : Str Tryz.prog 90 #[(0, 1), (1, 1)] := ⟨_, Tryz.underlying90, fun w => by kernel_rfl⟩
theorem str100 : Str Tryz.prog 100 #[(0, 1), (1, 255)] := ⟨_, Tryz.underlying100, fun w => by kernel_rfl⟩
theorem fld55_0 : Fld Tryz.prog 55 0 0 9 := fld_of Tryz.underlying55 rfl rfl rfl ty9 (by decide)
theorem fld55_1 : Fld Tryz.prog 55 1 1 53 := fld_of Tryz.underlying55 rfl rfl rfl ty53 (by decide)
theorem fld90_0 : Fld Tryz.prog 90 0 0 9 := fld_of Tryz.underlying90 rfl rfl rfl ty9 (by decide)
theorem fld90_1 : Fld Tryz.prog 90 1 1 87 := fld_of Tryz.underlying90 rfl rfl rfl ty87 (by decide)
theorem fld100_0 : Fld Tryz.prog 100 0 0 5 := fld_of Tryz.underlying100 rfl rfl rfl ty5 (by decide)
theorem fld100_1 : Fld Tryz.prog 100 1 1 98 := fld_of Tryz.underlying100 rfl rfl rfl ty98 (by decide)
abbrev HV0 : HV := ⟨[], 0, 0, 0, []⟩
structure PV where
 name : List UInt8
 k : TypeId
 r : Value
def PV.row (p : PV) : List Value := [S p.name, .iface p.k p.r]
abbrev PV0 : PV := ⟨[], 0, .nilIface⟩
def Pair (l : List HV) (ps : List PV) (Z : Hp) : Prop := ps.length = l.length ∧ ∀ i, i < l.length → (ps.getD i PV0).name = (l.getD i HV0).name ∧ VOk (l.getD i HV0) (.iface (ps.getD i PV0).k (ps.getD i PV0).r) Z
theorem Pair.nil : Pair [] [] [] := ⟨rfl, fun i h => nomatch h⟩
theorem Pair.snoc {l : List HV} {i : Nat} {ps : List PV} {Z N : Hp} {k : TypeId} {r : Value} (h : Pair (l.take i) ps Z) (hi : i < l.length) (hv : VOk (l.getD i HV0) (.iface k r) N) : Pair (l.take (i + 1)) (ps ++ [⟨(l.getD i HV0).name, k, r⟩]) (N ++ Z) := by
 have hl : ps.length = i := by rw [h.1, List.length_take]; omega
 refine ⟨by simp [h.1]; omega, fun j hj => ?_⟩
 rw [List.length_take] at hj
 have ht : ∀ m, j < m → (l.take m).getD j HV0 = l.getD j HV0 := fun m hm => by simp [List.getD_eq_getElem?_getD, List.getElem?_take, hm]
 rcases Nat.lt_or_ge j i with hji | hji
 ·have h2 := h.2 j (by rw [List.length_take]; omega)
  rw [ht _ hji] at h2
  rw [ht _ (by omega)]
  have he : (ps ++ [(⟨(l.getD i HV0).name, k, r⟩ : PV)]).getD j PV0 = ps.getD j PV0 := by
   simp [List.getD_eq_getElem?_getD, List.getElem?_append, hl, hji]
  rw [he]
  exact ⟨h2.1, h2.2.wide (List.perm_append_comm)⟩
 ·obtain rfl : j = i := by omega
  rw [ht _ (by omega)]
  have he : (ps ++ [(⟨(l.getD j HV0).name, k, r⟩ : PV)]).getD j PV0 = ⟨(l.getD j HV0).name, k, r⟩ := by
   simp [List.getD_eq_getElem?_getD, List.getElem?_append, hl]
  rw [he]
  exact ⟨rfl, hv.wide (List.Perm.refl _)⟩
theorem recsPV_snoc (ps : List PV) (p : PV) : recsV PV.row ps ++ [S p.name, .iface p.k p.r] = recsV PV.row (ps ++ [p]) := by
 unfold recsV; rw [List.flatMap_append]; simp [PV.row]
theorem onePV (n : List UInt8) (k : TypeId) (r : Value) : ∀ u ∈ [S n, Value.iface k r], u.oneCell' = true := fun u hu => by
 rcases List.mem_cons.1 hu with rfl | hu
 ·rfl
 ·rw [List.mem_singleton] at hu; subst hu; rfl
def okH (l : List HV) : Prop := ∀ i, i < l.length → fineV (l.getD i HV0) ∧ (l.getD i HV0).text.length ≤ 4000000000
def HsOk (l : List HV) (v : Value) (N : Hp) : Prop := ∃ ps M Z, N = M ++ Z ∧ RdS 2 v M ps.length (recsV PV.row ps) ∧ Pair l ps Z
theorem headersFor (v : Value) (L : Hp) (l : List HV) (hr : RdS 5 v L l.length (recsV HV.row l)) (hok : okH l) (hn : l.length ≤ 2147483647) : FnA Tryz.prog 15 [v] L (HsOk l) := by
 refine FnA.enter (n := 23) Tryz.func15 rfl rfl fun w0 => ?_
 refine WC.sub (fr' := [(0, _)]) ?_ ⟨rfl, trivial⟩
 refine WC.seq (WC.region ?_)
 refine WL.q (oq_assign rfl) rfl rfl rfl ?_
 refine WL.nil (WE.then_normal (WC.sub (fr' := [(0, _)]) ?_ ⟨rfl, trivial⟩))
 refine WC.seq ?_
 refine WC.add0 ?_
 refine WC.add0 ?_
 refine WC.region ?_
 refine WL.q (oq_assign rfl) rfl rfl rfl ?_
 refine WL.nil (WE.then_normal (WC.sub (fr' := [(0, _), (3, _)]) ?_ ⟨rfl, rfl, trivial⟩))
 refine WC.seq (WC.seq (WC.region ?_))
 refine WL.q (oq_move rfl) rfl rfl rfl ?_
 refine WL.q (oq_len_rd hr Tryz.underlying28 rfl) rfl rfl rfl ?_
 refine WL.q (oq_move rfl) rfl rfl rfl ?_
 refine WL.nil (WE.then_normal (WC.sub (fr' := [(3, _), (6, _), (7, _), (8, _)]) ?_ ⟨rfl, rfl, rfl, rfl, trivial⟩))
 refine WC.block ?_
 refine WC.f2 ?_
 refine WC.f1 ?_
 refine WC.f2 ?_
 refine WC.loop (ι := Nat × Value × Hp × Hp × (List PV)) (fun i_ => (fun (i : Nat) (u : Value) (B : Hp) (Z : Hp) (ps : List PV) => [(3, u), (6, v), (7, I (l.length : Int)), (8, I (i : Int))]) i_.1 i_.2.1 i_.2.2.1 i_.2.2.2.1 i_.2.2.2.2) (fun i_ => (fun (i : Nat) (u : Value) (B : Hp) (Z : Hp) (ps : List PV) => [B, Z, L]) i_.1 i_.2.1 i_.2.2.1 i_.2.2.2.1 i_.2.2.2.2) (fun i_ => (fun (i : Nat) (u : Value) (B : Hp) (Z : Hp) (ps : List PV) => i ≤ l.length ∧ (∀ b o, (b, o) ∈ Z → w0.heap.size ≤ b) ∧ OwS w0.heap.size 90 2 u B ps.length (recsV PV.row ps) ∧ Pair (l.take i) ps Z) i_.1 i_.2.1 i_.2.2.1 i_.2.2.2.1 i_.2.2.2.2) (fun i_ => (fun (i : Nat) (u : Value) (B : Hp) (Z : Hp) (ps : List PV) => l.length - i) i_.1 i_.2.1 i_.2.2.1 i_.2.2.2.1 i_.2.2.2.2) ((0, _, _, [], [])) ?_ ⟨rfl, rfl, rfl, rfl, trivial⟩ (List.Perm.refl _) ?_
 ·try dsimp only
  exact ⟨by omega, (fun _ _ h => nomatch h), OwS.nil _ _ _, by simpa using Pair.nil⟩
 ·rintro ⟨i, u, B, Z, ps⟩ hp
  try dsimp only at hp
  obtain ⟨hi, hZ, ho, hp⟩ := hp
  show WC _ _ _ _ _ _ ([(3, u), (6, v), (7, I (l.length : Int)), (8, I (i : Int))]) ([B, Z, L])
  refine WC.seq (WC.region ?_)
  refine WL.q (oq_lss rfl rfl) rfl rfl rfl ?_
  refine WL.nil (WE.then_normal (WC.sub (fr' := [(3, _), (6, _), (7, _), (8, _), (9, _)]) ?_ ⟨rfl, rfl, rfl, rfl, rfl, trivial⟩))
  refine WC.seq ?_
  refine WC.cond rfl (fun q3 => ?_) (fun q3 => ?_)
  ·
   try simp only [Z1, Z2, Z3, Z4, Z5, Z6, Z7, Z8, Z9, Z0] at q3
   refine WC.skip (WE.then_normal (WC.sub (fr' := [(3, _), (6, _), (7, _), (8, _)]) ?_ ⟨rfl, rfl, rfl, rfl, trivial⟩))
   refine WC.seq (WC.block (WC.seq ?_))
   have hlt : i < l.length := by omega
   have hpl : ps.length = i := by rw [hp.1, List.length_take]; omega
   refine WC.region ?_
   refine WL.q (oq_ixaddr hr Tryz.underlying28 ty55 rfl rfl (by (first | omega | (simp only [List.length_cons, List.length_nil, List.length_append, List.length_drop, List.length_take]; omega)))) rfl rfl rfl ?_
   refine WL.q (oq_loadEl (f := HV.row) HV0 [_, _, _, _, _] (fun _ => rfl) agg55 ty55 hr (.tail _ (.tail _ (.head _))) rfl (by (first | omega | (simp only [List.length_cons, List.length_nil, List.length_append, List.length_drop, List.length_take]; omega))) (by first | exact Int.toNat_natCast _ | exact rfl) rfl) rfl rfl rfl ?_
   refine WL.alloc ty55 rfl rfl fun o5 ho5 => ?_
   refine WL.storeS #[_, _, _, _, _] ty55 rfl rfl rfl rfl (Nat.le_of_ble_eq_true rfl) rfl rfl ?_
   refine WL.nil (WE.then_normal (WC.sub (fr' := [(3, _), (5, _), (6, _), (7, _), (8, _)]) ?_ ⟨rfl, rfl, rfl, rfl, rfl, trivial⟩))
   refine WC.gate 7 ([(o5, .cells #[S (l.getD i HV0).name, I (l.getD i HV0).kind, I (l.getD i HV0).width, I (l.getD i HV0).int, S (l.getD i HV0).text] 55 (0, 0))]) (by kernel_rfl) ?_
   refine WG.p 0 rfl (.inr (.head _)) (fun w0 => oq_move rfl) rfl rfl rfl ?_
   refine WG.q 1 [6, 2] rfl (.head _) (fun w0 => oq_fieldAddr fld55_0 rfl) rfl rfl rfl ?_
   refine WG.q 2 [6] rfl (.head _) (fun w0 => oq_load flat9 rfl (.head _) (List.mem_singleton.2 rfl) rfl) rfl rfl rfl ?_
   refine WG.q 3 [6, 5, 4] rfl (.head _) (fun w0 => oq_fieldAddr fld55_1 rfl) rfl rfl rfl ?_
   refine WG.q 4 [6, 5] rfl (.head _) (fun w0 => oq_loadS [_, _, _, _] agg53 ty53 rfl (.head _) (List.mem_singleton.2 rfl) rfl rfl) rfl rfl rfl ?_
   refine WG.step (i := 5) (by kernel_rfl) rfl ?_
   refine WL.callA0 (valueFor (l.getD i HV0) (hok i hlt).1 (hok i hlt).2) call32 rfl rfl rfl fun v5_5 N5_5 hR5_5 hN5_5 => ?_
   obtain ⟨k5, r5, f5, rfl, hi5, hf5⟩ := hR5_5
   have hvo : VOk (l.getD i HV0) (.iface k5 r5) N5_5 := ⟨k5, r5, f5, rfl, hi5, hf5⟩
   refine WL.nil ?_
   refine WE.toG (.tail _ (.head _)) ?_
   refine WG.q 6 [] rfl (.tail _ (.head _)) (fun w0 => oq_build #[_, _] str90 ty90 rfl rfl) rfl rfl rfl ?_
   refine WG.step (i := 7) (by kernel_rfl) rfl ?_
   refine WL.buildSS (#[S (l.getD i HV0).name, .iface k5 r5]) Tryz.underlying47 ty90 rfl (by decide) (by decide) (by kernel_rfl) (by kernel_rfl) rfl rfl fun v5_7 A5_7 ho5_7 hne5_7 => ?_
   refine WL.nil ?_
   refine WE.toG0 (by kernel_rfl) ?_
   refine WG.step (i := 8) (by kernel_rfl) rfl ?_
   refine WL.f3 ?_
   refine WL.appendS ho Tryz.underlying47 ty90 rfl (by decide) rfl rfl ho5_7.rd (.head _) (onePV _ _ _) (by unfold maxLen; omega) (by omega) rfl rfl fun v5b A5b ho5b hne5b => ?_
   refine WL.nil ?_
   refine WE.toG0 (by kernel_rfl) ?_
   refine WG.p 9 rfl (.inl (by kernel_rfl)) (fun w0 => oq_assign rfl) rfl rfl rfl ?_
   refine WG.done (by kernel_rfl) ?_
   refine WE.block_normal (WE.then_normal (WC.sub (fr' := [(3, _), (6, _), (7, _), (8, _)]) ?_ ⟨rfl, rfl, rfl, rfl, trivial⟩))
   refine WC.f4 ?_
   refine WC.f3 ?_
   refine WC.cat ?_
   refine WC.region ?_
   refine WL.q (oq_add rfl rfl (by rw [i64_lo, i64_hi]; (first | omega | (simp only [List.length_cons, List.length_nil, List.length_append, List.length_drop, List.length_take]; omega)))) rfl rfl rfl ?_
   refine WL.q (oq_move rfl) rfl rfl rfl ?_
   refine WL.nil ?_
   refine WE.f2 ?_
   refine WE.forget ho5_7.fresh ?_
   refine WE.f2 ?_
   refine WE.lose ho5 ?_
   refine WE.f2 ?_
   refine WE.f1 ?_
   refine WE.f2 ?_
   refine WE.again (i + 1, _, _, _, ps ++ [⟨(l.getD i HV0).name, k5, r5⟩]) ?_ ?_ ⟨rfl, rfl, rfl, rfl, trivial⟩ (List.Perm.refl _)
   ·try dsimp only
    exact ⟨by omega, fresh_cat hN5_5 hZ, by have h2 := ho5b; rw [recsPV_snoc ps ⟨_, _, _⟩] at h2; simpa using h2, hp.snoc hlt hvo⟩
   ·(try dsimp only); omega
  ·
   try simp only [Z1, Z2, Z3, Z4, Z5, Z6, Z7, Z8, Z9, Z0] at q3
   refine WC.exit (WE.then_exit (WE.then_exit (WE.block_same (WE.then_normal (WC.sub (fr' := [(3, _)]) ?_ ⟨rfl, trivial⟩)))))
   refine WC.seq ?_
   obtain rfl : i = l.length := by omega
   rw [List.take_length] at hp
   refine WC.region ?_
   refine WL.q (oq_move rfl) rfl rfl rfl ?_
   refine WL.q (oq_assign rfl) rfl rfl rfl ?_
   refine WL.nil (WE.then_normal (WC.sub (fr' := [(2, _)]) ?_ ⟨rfl, trivial⟩))
   refine WC.ret ?_
   refine WE.cat ?_
   refine WE.endA (.inl rfl) (res1 Tryz.results15 rfl) ?_ (fresh_cat (ho.fresh) (hZ))
   exact ⟨ps, _, _, rfl, ho.rd, hp⟩
def hdr (h : HV) : List UInt8 := UInt8.ofNat h.name.length :: (h.name ++ enc h)
def hdrs (l : List HV) : List UInt8 := l.flatMap hdr
def badH (h : HV) : Bool := decide (255 < h.name.length) || badT h
def szH (h : HV) : Nat := h.name.length + h.text.length + 12
def szL (l : List HV) : Nat := (l.map szH).sum
theorem enc_len {h : HV} (hf : fineV h) : (enc h).length ≤ h.text.length + 11 := by
 obtain ⟨_, _, h1, _, _⟩ := hf
 unfold enc
 split
 ·rename_i hk
  have := h1 hk
  rw [List.length_cons, be_len]; omega
 ·split
  ·simp [be_len]; omega
  ·split
   ·simp [be_len]; omega
   ·split
    ·simp [be_len]
    ·split <;> simp
theorem hdr_len {h : HV} (hf : fineV h) : (hdr h).length ≤ szH h := by
 have := enc_len hf
 unfold hdr szH; simp; omega
theorem take_snoc {l : List HV} {i : Nat} (hi : i < l.length) : l.take (i + 1) = l.take i ++ [l.getD i HV0] := by
 rw [List.take_add_one, List.getD_eq_getElem?_getD, List.getElem?_eq_getElem hi]; rfl
theorem hdrs_snoc {l : List HV} {i : Nat} (hi : i < l.length) : hdrs (l.take (i + 1)) = hdrs (l.take i) ++ hdr (l.getD i HV0) := by
 rw [take_snoc hi]; simp [hdrs]
theorem szL_snoc {l : List HV} {i : Nat} (hi : i < l.length) : szL (l.take (i + 1)) = szL (l.take i) + szH (l.getD i HV0) := by
 rw [take_snoc hi]; simp [szL]
theorem hdrs_len {l : List HV} (hok : okH l) : ∀ i, i ≤ l.length → (hdrs (l.take i)).length ≤ szL (l.take i)
 | 0, _ => by simp [hdrs]
 | i + 1, h => by
  rw [hdrs_snoc (by omega), szL_snoc (by omega), List.length_append]
  have h1 := hdrs_len hok i (by omega)
  have h2 := hdr_len (hok i (by omega)).1
  omega
def okW (h : HV) : Prop := (h.kind = 1 → h.width ≤ 64) ∧ (h.kind = 5 → h.text.length = 16) ∧ h.text.length ≤ 4000000000
def okE (l : List HV) : Prop := ∀ i, i < l.length → okW (l.getD i HV0)
theorem okE_of {l : List HV} (h : okH l) : okE l := fun i hi => by
 obtain ⟨⟨_, _, h1, h5, _⟩, ht⟩ := h i hi
 exact ⟨fun hk => by have := h1 hk; omega, h5, ht⟩
theorem hdr_len2 {h : HV} (hf : okW h) (hb : badH h = false) : (hdr h).length ≤ 33100 := by
 obtain ⟨h1, h5, _⟩ := hf
 unfold badH badT at hb
 rw [Bool.or_eq_false_iff, decide_eq_false_iff_not] at hb
 have hbt := hb.2
 unfold hdr enc
 simp only [List.length_cons, List.length_append]
 split
 ·rename_i hk
  have := h1 hk
  rw [List.length_cons, be_len]; omega
 ·split
  ·rename_i hk
   have : ¬ 32767 < h.text.length := by simpa [hk] using hbt
   simp [be_len]; omega
  ·split
   ·rename_i hk
    have : ¬ 32767 < h.text.length := by simpa [hk] using hbt
    simp [be_len]; omega
   ·split
    ·simp [be_len]; omega
    ·split
     ·rename_i hk
      have := h5 hk
      simp; omega
     ·simp; omega
theorem hdrs_len2 {l : List HV} (hok : okE l) : ∀ i, i ≤ l.length → (l.take i).any badH = false → (hdrs (l.take i)).length ≤ 33100 * i
 | 0, _, _ => by simp [hdrs]
 | i + 1, h, hb => by
  rw [take_snoc (by omega), List.any_append, Bool.or_eq_false_iff] at hb
  rw [hdrs_snoc (by omega), List.length_append]
  have h1 := hdrs_len2 hok i (by omega) hb.1
  have h2 := hdr_len2 (hok i (by omega)) (by simpa using hb.2)
  omega
theorem cp_name (nm : List UInt8) (b0 : UInt8) (hn8 : b0.toNat = nm.length) : List.take (0 + 1 + 0) (b0 :: List.replicate 255 0) ++ List.take (min nm.length (b0.toNat - 0)) nm ++ List.drop (0 + 1 + 0 + min nm.length (b0.toNat - 0)) (b0 :: List.replicate 255 0) = b0 :: (nm ++ List.replicate (255 - nm.length) 0) := by
 rw [hn8, Nat.sub_zero, Nat.min_self, List.take_length, show 0 + 1 + 0 + nm.length = nm.length + 1 by omega, List.drop_succ_cons, List.drop_replicate]; rfl
theorem nm_len (nm : List UInt8) (h : nm.length ≤ 255) : (nm ++ List.replicate (255 - nm.length) (0 : UInt8)).length = 255 := by rw [List.length_append, List.length_replicate]; omega
theorem nm_len2 (b0 : UInt8) (nm : List UInt8) (h : nm.length ≤ 255) : (b0 :: (nm ++ List.replicate (255 - nm.length) (0 : UInt8))).length = 256 := by rw [List.length_cons, nm_len nm h]
def HdR (base bb : Nat) (l : List HV) (acc : List UInt8) (M Z : Hp) (w : Value) (Hs : List Hp) : Prop :=
 ∃ G' acc', Hs = [G', M, Z] ∧ BufG base bb acc' G' ∧ if l.any badH then ∃ k e, w = .iface k e else w = .nilIface ∧ acc' = acc ++ hdrs l
theorem any_take {l : List HV} {i : Nat} (hi : i < l.length) (hb : badH (l.getD i HV0) = true) : l.any badH = true := by
 rw [List.any_eq_true]
 refine ⟨l.getD i HV0, ?_, hb⟩
 rw [List.getD_eq_getElem?_getD, List.getElem?_eq_getElem hi]; exact List.getElem_mem hi
theorem any_snoc {l : List HV} {i : Nat} (hi : i < l.length) (h : (l.take i).any badH = false) (hb : badH (l.getD i HV0) = false) : (l.take (i + 1)).any badH = false := by
 rw [take_snoc hi, List.any_append, h, List.any_cons, hb]; rfl
theorem encR_split {base bb : Nat} {h : HV} {acc : List UInt8} {N : Hp} {w : Value} {Hs : List Hp} (hE : EncR base bb h acc N w Hs) : ∃ G', Hs = [G', N] ∧ (w = .nilIface ∨ ∃ k u, w = .iface k u) ∧ (nilI w = true → badT h = false ∧ BufG base bb (acc ++ enc h) G') ∧ (nilI w = false → badT h = true ∧ (∃ k e, w = .iface k e) ∧ BufG base bb acc G') := by
 unfold EncR at hE
 cases hb : badT h with
 | true => rw [hb] at hE; obtain ⟨e, G', rfl, rfl, hG⟩ := hE; exact ⟨G', rfl, (.inr ⟨_, _, rfl⟩), (fun h => nomatch h), (fun _ => ⟨rfl, ⟨_, _, rfl⟩, hG⟩)⟩
 | false => rw [hb] at hE; obtain ⟨G', rfl, rfl, hG⟩ := hE; exact ⟨G', rfl, (.inl rfl), (fun _ => ⟨rfl, hG⟩), (fun h => nomatch h)⟩
theorem encHeaders (base bb : Nat) (acc : List UInt8) (G : Hp) (hG : BufG base bb acc G) (v : Value) (M Z : Hp) (l : List HV) (ps : List PV) (hr : RdS 2 v M ps.length (recsV PV.row ps)) (hp : Pair l ps Z) (hok : okE l) (hn : l.length ≤ 2147483647) (hsz : acc.length + 33100 * l.length ≤ 72000000000000) : FnW Tryz.prog 25 [.iface 45 (Pt bb 0), v] base [G, M, Z] (HdR base bb l acc M Z) := by
 have hpl := hp.1
 refine FnW.enter (n := 54) Tryz.func25 rfl rfl fun w0 R0 hbase => ?_
 subst hbase
 show WC _ _ _ _ _ _ _ ([G, M, Z, R0])
 refine WC.sub (fr' := [(0, _), (1, _)]) ?_ ⟨rfl, rfl, trivial⟩
 refine WC.seq (WC.region ?_)
 refine WL.q (oq_assign rfl) rfl rfl rfl ?_
 refine WL.nil (WE.then_normal (WC.sub (fr' := [(0, _), (1, _)]) ?_ ⟨rfl, rfl, trivial⟩))
 refine WC.seq (WC.seq (WC.region ?_))
 refine WL.q (oq_move rfl) rfl rfl rfl ?_
 refine WL.q (oq_len_rd hr Tryz.underlying47 rfl) rfl rfl rfl ?_
 refine WL.q (oq_move rfl) rfl rfl rfl ?_
 refine WL.nil (WE.then_normal (WC.sub (fr' := [(0, _), (10, _), (11, _), (12, _)]) ?_ ⟨rfl, rfl, rfl, rfl, trivial⟩))
 refine WC.block ?_
 refine WC.loop (ι := Nat × Hp) (fun i_ => (fun (i : Nat) (X : Hp) => [(0, .iface 45 (Pt bb 0)), (10, v), (11, I (ps.length : Int)), (12, I (i : Int))]) i_.1 i_.2) (fun i_ => (fun (i : Nat) (X : Hp) => [X, M, Z, R0]) i_.1 i_.2) (fun i_ => (fun (i : Nat) (X : Hp) => i ≤ l.length ∧ (l.take i).any badH = false ∧ BufG w0.heap.size bb (acc ++ hdrs (l.take i)) X) i_.1 i_.2) (fun i_ => (fun (i : Nat) (X : Hp) => l.length - i) i_.1 i_.2) ((0, G)) ?_ ⟨rfl, rfl, rfl, rfl, trivial⟩ (List.Perm.refl _) ?_
 ·try dsimp only
  exact ⟨by omega, rfl, by simpa [hdrs] using hG⟩
 ·rintro ⟨i, X⟩ hp
  try dsimp only at hp
  obtain ⟨hi, hno, hX⟩ := hp
  show WC _ _ _ _ _ _ ([(0, .iface 45 (Pt bb 0)), (10, v), (11, I (ps.length : Int)), (12, I (i : Int))]) ([X, M, Z, R0])
  refine WC.seq (WC.region ?_)
  refine WL.q (oq_lss rfl rfl) rfl rfl rfl ?_
  refine WL.nil (WE.then_normal (WC.sub (fr' := [(0, _), (10, _), (11, _), (12, _), (13, _)]) ?_ ⟨rfl, rfl, rfl, rfl, rfl, trivial⟩))
  refine WC.seq ?_
  refine WC.cond rfl (fun q2 => ?_) (fun q2 => ?_)
  ·
   try simp only [Z1, Z2, Z3, Z4, Z5, Z6, Z7, Z8, Z9, Z0] at q2
   refine WC.skip (WE.then_normal (WC.sub (fr' := [(0, _), (10, _), (11, _), (12, _)]) ?_ ⟨rfl, rfl, rfl, rfl, trivial⟩))
   refine WC.seq (WC.block (WC.seq ?_))
   have hlt : i < l.length := by omega
   obtain ⟨hpn, hvo⟩ := hp.2 i hlt
   have hll := hdrs_len2 hok i hi hno
   have hnn : (l.getD i HV0).name.length = (ps.getD i PV0).name.length := by rw [hpn]
   have htx := (hok i hlt).2.2
   refine WC.region ?_
   refine WL.q (oq_ixaddr hr Tryz.underlying47 ty90 rfl rfl (by (first | omega | (simp only [List.length_cons, List.length_nil, List.length_append, List.length_drop, List.length_take]; omega)))) rfl rfl rfl ?_
   refine WL.q (oq_loadEl (f := PV.row) PV0 [_, _] (fun _ => rfl) agg90 ty90 hr (.tail _ (.head _)) rfl (by (first | omega | (simp only [List.length_cons, List.length_nil, List.length_append, List.length_drop, List.length_take]; omega))) (by first | exact Int.toNat_natCast _ | exact rfl) rfl) rfl rfl rfl ?_
   refine WL.alloc ty90 rfl rfl fun o6 ho6 => ?_
   refine WL.storeS #[_, _] ty90 rfl rfl rfl rfl (Nat.le_of_ble_eq_true rfl) rfl rfl ?_
   refine WL.nil (WE.then_normal (WC.sub (fr' := [(0, _), (6, _), (10, _), (11, _), (12, _)]) ?_ ⟨rfl, rfl, rfl, rfl, rfl, trivial⟩))
   refine WC.seq (WC.seq (WC.region ?_))
   refine WL.q (oq_fieldAddr fld90_0 rfl) rfl rfl rfl ?_
   refine WL.q (oq_load flat9 rfl (.head _) (List.mem_singleton.2 rfl) rfl) rfl rfl rfl ?_
   refine WL.q (oq_len_s Tryz.underlying9 rfl) rfl rfl rfl ?_
   refine WL.q (oq_gtr rfl rfl) rfl rfl rfl ?_
   refine WL.nil (WE.then_normal (WC.sub (fr' := [(0, _), (6, _), (10, _), (11, _), (12, _), (19, _)]) ?_ ⟨rfl, rfl, rfl, rfl, rfl, rfl, trivial⟩))
   refine WC.cond rfl (fun q4 => ?_) (fun q4 => ?_)
   ·
    try simp only [Z1, Z2, Z3, Z4, Z5, Z6, Z7, Z8, Z9, Z0] at q4
    refine WC.seq (WC.region ?_)
    refine WL.q (oq_fieldAddr fld90_0 rfl) rfl rfl rfl ?_
    refine WL.q (oq_load flat9 rfl (.head _) (List.mem_singleton.2 rfl) rfl) rfl rfl rfl ?_
    refine WL.q (oq_len_s Tryz.underlying9 rfl) rfl rfl rfl ?_
    refine WL.q (oq_fieldAddr fld90_0 rfl) rfl rfl rfl ?_
    refine WL.q (oq_load flat9 rfl (.head _) (List.mem_singleton.2 rfl) rfl) rfl rfl rfl ?_
    refine WL.q (oq_makeI conc9 rfl) rfl rfl rfl ?_
    refine WL.q (oq_build #[_, _, _, _] str67 ty67 rfl rfl) rfl rfl rfl ?_
    refine WL.q (oq_makeI conc67 rfl) rfl rfl rfl ?_
    refine WL.q (oq_assign rfl) rfl rfl rfl ?_
    refine WL.nil (WE.then_normal (WC.sub (fr' := [(4, _)]) ?_ ⟨rfl, trivial⟩))
    refine WC.ret (WE.then_ret (WE.block_ret (WE.then_ret (WE.then_ret (WE.block_ret (WE.then_ret ?_))))))
    refine WE.lose ho6 ?_
    refine WE.endW3 (.inl rfl) (res1 Tryz.results25 rfl) ?_
    exact ⟨_, _, rfl, hX, by rw [if_pos (any_take hlt (by unfold badH; rw [← hpn, decide_eq_true (by omega)]; rfl))]; exact ⟨_, _, rfl⟩⟩
   ·
    try simp only [Z1, Z2, Z3, Z4, Z5, Z6, Z7, Z8, Z9, Z0] at q4
    refine WC.skip (WE.then_normal (WC.sub (fr' := [(0, _), (6, _), (10, _), (11, _), (12, _)]) ?_ ⟨rfl, rfl, rfl, rfl, rfl, trivial⟩))
    refine WC.seq (WC.region ?_)
    refine WL.q (oq_fieldAddr fld90_0 rfl) rfl rfl rfl ?_
    refine WL.q (oq_load flat9 rfl (.head _) (List.mem_singleton.2 rfl) rfl) rfl rfl rfl ?_
    refine WL.q (oq_len_s Tryz.underlying9 rfl) rfl rfl rfl ?_
    refine WL.q ((oq_conv Tryz.underlying3 Tryz.underlying5 rfl (by rw [u8_lo, u8_hi]; omega)).to (v' := .int .u8 ((UInt8.ofNat (ps.getD i PV0).name.length).toNat : Int)) (by rw [UInt8.toNat_ofNat']; congr 1; omega)) rfl rfl rfl ?_
    refine WL.q (oq_build ((bytesV (UInt8.ofNat (ps.getD i PV0).name.length :: List.replicate 255 0)).toArray) str100 ty100 rfl (by kernel_rfl)) rfl rfl rfl ?_
    refine WL.alloc ty100 rfl rfl fun o7 ho7 => ?_
    refine WL.storeS ((bytesV (UInt8.ofNat (ps.getD i PV0).name.length :: List.replicate 255 0)).toArray) ty100 rfl rfl (by kernel_rfl) (by kernel_rfl) (Nat.le_of_ble_eq_true rfl) (by kernel_rfl) rfl ?_
    refine WL.nil (WE.then_normal (WC.sub (fr' := [(0, _), (6, _), (7, _), (10, _), (11, _), (12, _)]) ?_ ⟨rfl, rfl, rfl, rfl, rfl, rfl, trivial⟩))
    refine WC.seq ?_
    have hn8 : (UInt8.ofNat (ps.getD i PV0).name.length).toNat = (ps.getD i PV0).name.length := by rw [UInt8.toNat_ofNat']; omega
    refine WC.tailM (pl := []) (ql := [_, _, _, _, _, _]) (tl := [_]) [] [0, 1, 2, 3, 4, 5] 6 [] (by kernel_rfl) (by kernel_rfl) (by kernel_rfl) (by kernel_rfl) (by kernel_rfl) (by kernel_rfl) (by decide) rfl rfl rfl (by decide) (by repeat (first | with_reducible exact QOk.body | with_reducible apply QOk.then | with_reducible apply QOk.block | exact QOk.body | apply QOk.then | apply QOk.block)) ?_
    refine WM.nil ?_
    refine WY.q (oq_fieldAddr fld100_1 rfl) rfl rfl rfl ?_
    refine WY.q (oq_fieldAddr fld100_0 rfl) rfl rfl rfl ?_
    refine WY.q (oq_load flat5 rfl (.head _) (List.mem_singleton.2 rfl) rfl) rfl rfl rfl ?_
    refine WY.q (oq_sliceArr (j := (UInt8.ofNat (ps.getD i PV0).name.length).toNat) Tryz.underlying98 ty5 rfl rfl ⟨_, rfl⟩ (by (first | omega | (simp only [List.length_cons, List.length_replicate]; omega))) (by (first | omega | (simp only [List.length_cons, List.length_replicate]; omega)))) rfl rfl rfl ?_
    refine WY.q (oq_fieldAddr fld90_0 rfl) rfl rfl rfl ?_
    refine WY.q (oq_load flat9 rfl (.tail _ (.head _)) (List.mem_singleton.2 rfl) rfl) rfl rfl rfl ?_
    refine WY.nil ?_
    refine WL.copyBS Tryz.underlying25 ty5 rfl rfl (by (first | omega | (simp only [List.length_cons, List.length_replicate]; omega))) rfl rfl ?_
    refine WL.nil (WE.then_normal (WC.sub (fr' := [(0, _), (6, _), (7, _), (10, _), (11, _), (12, _)]) ?_ ⟨rfl, rfl, rfl, rfl, rfl, rfl, trivial⟩))
    refine WC.seq (WC.seq ?_)
    rw [cp_name (ps.getD i PV0).name (UInt8.ofNat (ps.getD i PV0).name.length) hn8]
    refine WC.region ?_
    refine WL.q (oq_loadArr agg100 ty100 ((nm_len2 _ _ (by omega))) rfl (.head _)) rfl rfl rfl ?_
    refine WL.q (oq_move rfl) rfl rfl rfl ?_
    refine WL.f2 ?_
    refine WL.callW1 (nameEnc _ _ _ _ _ (bufWr _ bb) _ X hX (UInt8.ofNat (ps.getD i PV0).name.length) ((ps.getD i PV0).name ++ List.replicate (255 - (ps.getD i PV0).name.length) 0) (nm_len _ (by omega)) (by rw [List.length_append]; omega)) call36 rfl rfl rfl fun v8_2 Hs8_2 hR8_2 => ?_
    obtain ⟨X2, rfl, rfl, hX2⟩ := hR8_2
    refine WL.to1 ?_
    refine WL.q (oq_assign rfl) rfl rfl rfl ?_
    refine WL.nil (WE.then_normal (WC.sub (fr' := [(0, _), (6, _), (8, _), (10, _), (11, _), (12, _)]) ?_ ⟨rfl, rfl, rfl, rfl, rfl, rfl, trivial⟩))
    refine WC.seq (WC.region ?_)
    refine WL.q (oq_move rfl) rfl rfl rfl ?_
    refine WL.q (oq_ineq Tryz.underlying41 rfl (.inl rfl)) rfl rfl rfl ?_
    refine WL.nil (WE.then_normal (WC.sub (fr' := [(0, _), (6, _), (8, _), (10, _), (11, _), (12, _), (44, _)]) ?_ ⟨rfl, rfl, rfl, rfl, rfl, rfl, rfl, trivial⟩))
    refine WC.cond rfl (fun q9 => ?_) (fun q9 => ?_)
    ·
     try simp only [Z1, Z2, Z3, Z4, Z5, Z6, Z7, Z8, Z9, Z0] at q9
     first | contradiction | (exfalso; omega) | (exfalso; simp_all; done)
    ·
     try simp only [Z1, Z2, Z3, Z4, Z5, Z6, Z7, Z8, Z9, Z0] at q9
     refine WC.skip (WE.then_normal (WC.sub (fr' := [(0, _), (6, _), (10, _), (11, _), (12, _)]) ?_ ⟨rfl, rfl, rfl, rfl, rfl, trivial⟩))
     refine WC.seq (WC.region ?_)
     refine WL.q (oq_fieldAddr fld90_1 rfl) rfl rfl rfl ?_
     refine WL.q (oq_load flat87 rfl (.tail _ (.tail _ (.head _))) (List.mem_singleton.2 rfl) rfl) rfl rfl rfl ?_
     refine WL.q (oq_move rfl) rfl rfl rfl ?_
     have hX3 : BufG w0.heap.size bb (acc ++ hdrs (l.take i) ++ (UInt8.ofNat (ps.getD i PV0).name.length :: (ps.getD i PV0).name)) X2 := by
      have e1 : (UInt8.ofNat (ps.getD i PV0).name.length).toNat = (ps.getD i PV0).name.length := by rw [UInt8.toNat_ofNat']; omega
      rw [e1, List.take_left' rfl] at hX2; exact hX2
     obtain ⟨_, _, f5, hkr, hi5, hf5⟩ := hvo
     injection hkr with hk1 hk2
     subst hk1 hk2
     refine WL.f4 ?_
     refine WL.f1 ?_
     refine WL.callWE (fun a w hf => ent_inv1 hi5 rfl rfl hf w) (hf5 _ bb _ X2 hX3 (by simp only [List.length_append, List.length_cons, hpn]; omega)) rfl rfl rfl rfl fun v11_3 Hs11_3 hR11_3 => ?_
     obtain ⟨X4, rfl, hei, he0, he1⟩ := encR_split hR11_3
     refine WL.app2 ?_
     refine WL.q (oq_assign rfl) rfl rfl rfl ?_
     refine WL.nil (WE.then_normal (WC.sub (fr' := [(0, _), (9, _), (10, _), (11, _), (12, _)]) ?_ ⟨rfl, rfl, rfl, rfl, rfl, trivial⟩))
     refine WC.seq (WC.region ?_)
     refine WL.q (oq_move rfl) rfl rfl rfl ?_
     refine WL.q (oq_ineq Tryz.underlying41 rfl (hei)) rfl rfl rfl ?_
     refine WL.nil (WE.then_normal (WC.sub (fr' := [(0, _), (9, _), (10, _), (11, _), (12, _), (51, _)]) ?_ ⟨rfl, rfl, rfl, rfl, rfl, rfl, trivial⟩))
     refine WC.cond rfl (fun q12 => ?_) (fun q12 => ?_)
     ·
      try simp only [Z1, Z2, Z3, Z4, Z5, Z6, Z7, Z8, Z9, Z0] at q12
      refine WC.seq (WC.region ?_)
      refine WL.q (oq_move rfl) rfl rfl rfl ?_
      refine WL.q (oq_assign rfl) rfl rfl rfl ?_
      refine WL.nil (WE.then_normal (WC.sub (fr' := [(4, _)]) ?_ ⟨rfl, trivial⟩))
      refine WC.ret (WE.block_ret (WE.then_ret (WE.then_ret (WE.block_ret (WE.then_ret ?_)))))
      refine WE.f2 ?_
      refine WE.lose ho7 ?_
      refine WE.f2 ?_
      refine WE.lose ho6 ?_
      refine WE.f3 ?_
      refine WE.f2 ?_
      refine WE.f3 ?_
      refine WE.f3 ?_
      refine WE.endW3 (.inl rfl) (res1 Tryz.results25 rfl) ?_
      obtain ⟨hb, ⟨k9, e9, rfl⟩, hG9⟩ := he1 (by simpa using q12)
      exact ⟨_, _, rfl, hG9, by rw [if_pos (any_take hlt (by unfold badH; rw [hb, Bool.or_true]))]; exact ⟨_, _, rfl⟩⟩
     ·
      try simp only [Z1, Z2, Z3, Z4, Z5, Z6, Z7, Z8, Z9, Z0] at q12
      refine WC.skip (WE.block_normal (WE.then_normal (WC.sub (fr' := [(0, _), (10, _), (11, _), (12, _)]) ?_ ⟨rfl, rfl, rfl, rfl, trivial⟩)))
      refine WC.region ?_
      refine WL.q (oq_add rfl rfl (by rw [i64_lo, i64_hi]; (first | omega | (simp only [List.length_cons, List.length_nil, List.length_append, List.length_drop, List.length_take]; omega)))) rfl rfl rfl ?_
      refine WL.q (oq_move rfl) rfl rfl rfl ?_
      refine WL.nil ?_
      refine WE.f2 ?_
      refine WE.lose ho7 ?_
      refine WE.f2 ?_
      refine WE.lose ho6 ?_
      refine WE.f3 ?_
      refine WE.f2 ?_
      refine WE.f3 ?_
      refine WE.f3 ?_
      refine WE.again (i + 1, X4) ?_ ?_ ⟨rfl, rfl, rfl, rfl, trivial⟩ (List.Perm.refl _)
      ·try dsimp only
       have hz := he0 (by simpa using q12)
       refine ⟨by omega, any_snoc hlt hno (by unfold badH; rw [hz.1, ← hpn, decide_eq_false (by omega)]; rfl), ?_⟩
       have hz2 := hz.2
       rw [hpn] at hz2
       rw [hdrs_snoc hlt, ← List.append_assoc]
       simpa [hdr] using hz2
      ·(try dsimp only); omega
  ·
   try simp only [Z1, Z2, Z3, Z4, Z5, Z6, Z7, Z8, Z9, Z0] at q2
   refine WC.exit (WE.then_exit (WE.then_exit (WE.block_same (WE.then_normal (WC.sub (fr' := []) ?_ trivial)))))
   refine WC.seq ?_
   obtain rfl : i = l.length := by omega
   rw [List.take_length] at hX hno
   refine WC.region ?_
   refine WL.q (oq_assign rfl) rfl rfl rfl ?_
   refine WL.nil (WE.then_normal (WC.sub (fr' := [(4, _)]) ?_ ⟨rfl, trivial⟩))
   refine WC.ret ?_
   refine WE.endW3 (.inl rfl) (res1 Tryz.results25 rfl) ?_
   exact ⟨_, _, rfl, hX, by rw [hno, if_neg (by simp)]; exact ⟨rfl, rfl⟩⟩
end EJ
end Go.Proofs.YtpjeiimlglgklaaGreatDoor
/- Preludes, many writers, encoders. -/
namespace Go.Proofs.YtpjeiimlglgklaaGreatDoor
open Go Go.RowKit V EA EB EC ED EE EF EG EH EI EJ
set_option linter.unusedSimpArgs false
set_option linter.unusedVariables false
set_option maxRecDepth 10000
namespace EK
theorem call23 : Callable Tryz.prog 23 := ⟨_, Tryz.func23, rfl, by kernel_rfl⟩
theorem call30 : Callable Tryz.prog 30 := ⟨_, Tryz.func30, rfl, by kernel_rfl⟩
theorem call31 : Callable Tryz.prog 31 := ⟨_, Tryz.func31, rfl, by kernel_rfl⟩
theorem call37 : Callable Tryz.prog 37 := ⟨_, Tryz.func37, rfl, by kernel_rfl⟩
theorem flat72 : Flat Tryz.prog 72 := ⟨_, Tryz.underlying72, by simp⟩
theorem flat75 : Flat Tryz.prog 75 := ⟨_, Tryz.underlying75, by simp⟩
theorem ty20 : Ty Tryz.prog 20 .nilIface 1 16 := ty_of (by kernel_rfl)
theorem ty70 : Ty Tryz.prog 70 (.agg #[(.pointer none), (.pointer none)]) 2 16 := ty_of (by kernel_rfl)
theorem ty72 : Ty Tryz.prog 72 .nilIface 1 16 := ty_of (by kernel_rfl)
theorem ty75 : Ty Tryz.prog 75 (.int .u32 0) 1 4 := ty_of (by kernel_rfl)
theorem ty103 : Ty Tryz.prog 103 (.pointer none) 1 8 := ty_of (by kernel_rfl)
theorem ty106 : Ty Tryz.prog 106 (.agg #[(.slice none 0 0)]) 1 24 := ty_of (by kernel_rfl)
theorem ty108 : Ty Tryz.prog 108 (.agg #[(.int .u32 0), (.int .u32 0), (.int .u32 0)]) 3 12 := ty_of (by kernel_rfl)
theorem conc75 : Conc Tryz.prog 75 := ⟨_, Tryz.underlying75, by simp⟩
theorem conc103 : Conc Tryz.prog 103 := ⟨_, Tryz.underlying103, by simp⟩
theorem agg108 : Agg Tryz.prog 108 := agg_of Tryz.underlying108
theorem str70 : Str Tryz.prog 70 #[(0, 1), (1, 1)] := ⟨_, Tryz.underlying70, fun w => by kernel_rfl⟩
theorem str106 : Str Tryz.prog 106 #[(0, 1)] := ⟨_, Tryz.underlying106, fun w => by kernel_rfl⟩
theorem str108 : Str Tryz.prog 108 #[(0, 1), (1, 1), (2, 1)] := ⟨_, Tryz.underlying108, fun w => by kernel_rfl⟩
theorem fld108_0 : Fld Tryz.prog 108 0 0 75 := fld_of Tryz.underlying108 rfl rfl rfl ty75 (by decide)
theorem fld108_1 : Fld Tryz.prog 108 1 1 75 := fld_of Tryz.underlying108 rfl rfl rfl ty75 (by decide)
theorem fld108_2 : Fld Tryz.prog 108 2 2 75 := fld_of Tryz.underlying108 rfl rfl rfl ty75 (by decide)
theorem bytesN_1 (d : Num) : bytesN [d] = be d.w d.x := by simp [bytesN]
theorem bytesN_2 (d e : Num) : bytesN [d, e] = be d.w d.x ++ be e.w e.x := by simp [bytesN]
theorem okU (x : Int) : Num.ok ⟨75, .u32, 4, x⟩ := by simp [Num.ok, Num.kinds]
def pre8 (hl pl : Nat) : List UInt8 := be 4 (16 + (hl : Int) + (pl : Int)) ++ be 4 (hl : Int)
def crcB (l : List UInt8) : List UInt8 := be 4 ((crc l).toNat : Int)
abbrev wval (x : TypeId × Value) : Value := .iface x.1 x.2
theorem validLens (n : Nat) (h0 : 0 < n) (a b : Value) : Fn0 Tryz.prog 37 [.agg #[.int .u32 (n : Int), a, b]] (.nilIface) := by
 refine Fn0.enter (n := 11) Tryz.func37 rfl rfl fun w0 => ?_
 refine WC.sub (fr' := [(0, _)]) ?_ ⟨rfl, trivial⟩
 refine WC.seq (WC.region ?_)
 refine WL.box rfl rfl rfl fun b0_0 hb0_0 => ?_
 refine WL.q (oq_assign rfl) rfl rfl rfl ?_
 refine WL.nil (WE.then_normal (WC.sub (fr' := [(1, _)]) ?_ ⟨rfl, trivial⟩))
 refine WC.seq (WC.seq (WC.region ?_))
 refine WL.q (oq_fieldAddr fld108_0 rfl) rfl rfl rfl ?_
 refine WL.q (oq_load flat75 rfl (.head _) (List.mem_singleton.2 rfl) rfl) rfl rfl rfl ?_
 refine WL.q (oq_eql rfl rfl) rfl rfl rfl ?_
 refine WL.nil (WE.then_normal (WC.sub (fr' := [(1, _), (5, _)]) ?_ ⟨rfl, rfl, trivial⟩))
 refine WC.cond rfl (fun q1 => ?_) (fun q1 => ?_)
 ·
  try simp only [Z1, Z2, Z3, Z4, Z5, Z6, Z7, Z8, Z9, Z0] at q1
  first | contradiction | (exfalso; omega) | (exfalso; simp_all; done)
 ·
  try simp only [Z1, Z2, Z3, Z4, Z5, Z6, Z7, Z8, Z9, Z0] at q1
  refine WC.skip (WE.then_normal (WC.sub (fr' := []) ?_ trivial))
  refine WC.seq (WC.region ?_)
  refine WL.q (oq_assign rfl) rfl rfl rfl ?_
  refine WL.nil (WE.then_normal (WC.sub (fr' := [(2, _)]) ?_ ⟨rfl, trivial⟩))
  refine WC.ret ?_
  refine WE.lose hb0_0 ?_
  refine WE.end0 (.inl rfl) (res1 Tryz.results37 rfl) ?_
  rfl
theorem encPrelude (base hb : Nat) (k : TypeId) (r : Value) (f : FuncId) (Wt : List UInt8 → Hp → Prop) (hW : Wr base k r f Wt) (acc0 : List UInt8) (G : Hp) (hG : Wt acc0 G) (hS : ∀ acc G, Wt acc G → FnR Tryz.prog 30 [Pt hb 0] G (U32 (crc acc))) (hl pl : Nat) (hhl : hl ≤ 1000000) (hpl : pl ≤ 1000000) (hal : acc0.length ≤ 200000) : FnW Tryz.prog 28 [.iface k r, Pt hb 0, .int .u32 (hl : Int), .int .u32 (pl : Int)] base [G] (Then Wt (acc0 ++ (pre8 hl pl ++ crcB (acc0 ++ pre8 hl pl))) []) := by
 refine FnW.enter (n := 47) Tryz.func28 rfl rfl fun w0 R0 hbase => ?_
 subst hbase
 show WC _ _ _ _ _ _ _ ([G, R0])
 refine WC.sub (fr' := [(0, _), (1, _), (2, _), (3, _)]) ?_ ⟨rfl, rfl, rfl, rfl, trivial⟩
 refine WC.seq (WC.region ?_)
 refine WL.q (oq_assign rfl) rfl rfl rfl ?_
 refine WL.nil (WE.then_normal (WC.sub (fr' := [(0, _), (1, _), (2, _), (3, _)]) ?_ ⟨rfl, rfl, rfl, rfl, trivial⟩))
 refine WC.seq (WC.region ?_)
 refine WL.q (oq_move rfl) rfl rfl rfl ?_
 refine WL.q (oq_add rfl rfl (by rw [u32_lo, u32_hi]; (first | omega | (simp only [List.length_cons, List.length_nil, List.length_append, List.length_drop, List.length_take]; omega)))) rfl rfl rfl ?_
 refine WL.q (oq_move rfl) rfl rfl rfl ?_
 refine WL.q (oq_add rfl rfl (by rw [u32_lo, u32_hi]; (first | omega | (simp only [List.length_cons, List.length_nil, List.length_append, List.length_drop, List.length_take]; omega)))) rfl rfl rfl ?_
 refine WL.q (oq_move rfl) rfl rfl rfl ?_
 refine WL.q (oq_build #[_, _, _] str108 ty108 rfl rfl) rfl rfl rfl ?_
 refine WL.alloc ty108 rfl rfl fun pb hpb => ?_
 refine WL.storeS #[_, _, _] ty108 rfl rfl rfl rfl (Nat.le_of_ble_eq_true rfl) rfl rfl ?_
 refine WL.nil (WE.then_normal (WC.sub (fr' := [(0, _), (1, _), (9, _)]) ?_ ⟨rfl, rfl, rfl, trivial⟩))
 refine WC.seq (WC.seq (WC.region ?_))
 refine WL.q (oq_loadS [_, _, _] agg108 ty108 rfl (.head _) (List.mem_singleton.2 rfl) rfl rfl) rfl rfl rfl ?_
 refine WL.qc (oq_call (validLens (16 + hl + pl) (by omega) _ _) call37 rfl) rfl rfl rfl ?_
 refine WL.q (oq_assign rfl) rfl rfl rfl ?_
 refine WL.nil (WE.then_normal (WC.sub (fr' := [(0, _), (1, _), (9, _), (10, _)]) ?_ ⟨rfl, rfl, rfl, rfl, trivial⟩))
 refine WC.seq (WC.region ?_)
 refine WL.q (oq_move rfl) rfl rfl rfl ?_
 refine WL.q (oq_ineq Tryz.underlying41 rfl (.inl rfl)) rfl rfl rfl ?_
 refine WL.nil (WE.then_normal (WC.sub (fr' := [(0, _), (1, _), (9, _), (10, _), (21, _)]) ?_ ⟨rfl, rfl, rfl, rfl, rfl, trivial⟩))
 refine WC.cond rfl (fun q3 => ?_) (fun q3 => ?_)
 ·
  try simp only [Z1, Z2, Z3, Z4, Z5, Z6, Z7, Z8, Z9, Z0] at q3
  first | contradiction | (exfalso; omega) | (exfalso; simp_all; done)
 ·
  try simp only [Z1, Z2, Z3, Z4, Z5, Z6, Z7, Z8, Z9, Z0] at q3
  refine WC.skip (WE.then_normal (WC.sub (fr' := [(0, _), (1, _), (9, _)]) ?_ ⟨rfl, rfl, rfl, trivial⟩))
  refine WC.seq (WC.region ?_)
  refine WL.q (oq_move rfl) rfl rfl rfl ?_
  refine WL.q (oq_fieldAddr fld108_0 rfl) rfl rfl rfl ?_
  refine WL.q (oq_load flat75 rfl (.head _) (List.mem_singleton.2 rfl) rfl) rfl rfl rfl ?_
  refine WL.q (oq_makeI conc75 rfl) rfl rfl rfl ?_
  refine WL.q (oq_fieldAddr fld108_1 rfl) rfl rfl rfl ?_
  refine WL.q (oq_load flat75 rfl (.head _) (List.mem_singleton.2 rfl) rfl) rfl rfl rfl ?_
  refine WL.q (oq_makeI conc75 rfl) rfl rfl rfl ?_
  refine WL.buildL Tryz.underlying111 ty20 rfl rfl (by decide) (by decide) rfl rfl rfl fun v5 A5 ho5 hne5 => ?_
  refine WL.f2 ?_
  refine WL.f1 ?_
  refine WL.callW2 (zzWrite _ k r f Wt hW acc0 G hG v5 A5 [⟨75, .u32, 4, 16 + (hl : Int) + (pl : Int)⟩, ⟨75, .u32, 4, (hl : Int)⟩] ho5.rd (ok2 (okU _) (okU _)) (by simp) (by simp; omega)) call31 rfl rfl rfl fun v5_8 Hs5_8 hR5_8 => ?_
  obtain ⟨G2, rfl, rfl, hG2⟩ := hR5_8
  rw [bytesN_2] at hG2
  have hG2 : Wt (acc0 ++ pre8 hl pl) G2 := hG2
  have h8 : (pre8 hl pl).length = 8 := by unfold pre8; rw [List.length_append, be_len, be_len]
  refine WL.to2 ?_
  refine WL.q (oq_assign rfl) rfl rfl rfl ?_
  refine WL.nil (WE.then_normal (WC.sub (fr' := [(0, _), (1, _), (9, _), (11, _)]) ?_ ⟨rfl, rfl, rfl, rfl, trivial⟩))
  refine WC.seq (WC.seq (WC.region ?_))
  refine WL.q (oq_move rfl) rfl rfl rfl ?_
  refine WL.q (oq_ineq Tryz.underlying41 rfl (.inl rfl)) rfl rfl rfl ?_
  refine WL.nil (WE.then_normal (WC.sub (fr' := [(0, _), (1, _), (9, _), (11, _), (33, _)]) ?_ ⟨rfl, rfl, rfl, rfl, rfl, trivial⟩))
  refine WC.cond rfl (fun q6 => ?_) (fun q6 => ?_)
  ·
   try simp only [Z1, Z2, Z3, Z4, Z5, Z6, Z7, Z8, Z9, Z0] at q6
   first | contradiction | (exfalso; omega) | (exfalso; simp_all; done)
  ·
   try simp only [Z1, Z2, Z3, Z4, Z5, Z6, Z7, Z8, Z9, Z0] at q6
   refine WC.skip (WE.then_normal (WC.sub (fr' := [(0, _), (1, _), (9, _)]) ?_ ⟨rfl, rfl, rfl, trivial⟩))
   refine WC.seq (WC.region ?_)
   refine WL.q (oq_move rfl) rfl rfl rfl ?_
   refine WL.qc (oq_callRm (hS _ G2 hG2) (.tail _ (.head _)) call30 rfl) rfl rfl rfl ?_
   refine WL.q (oq_fieldAddr fld108_2 rfl) rfl rfl rfl ?_
   refine WL.f2 ?_
   refine WL.store1 #[_, _, _] ty75 rfl rfl (by first | rfl | exact OwS.one one_) (Nat.lt_of_lt_of_le (Nat.lt_succ_self _) (Nat.le_of_ble_eq_true rfl)) rfl rfl ?_
   refine WL.nil (WE.then_normal (WC.sub (fr' := [(0, _), (9, _)]) ?_ ⟨rfl, rfl, trivial⟩))
   refine WC.seq (WC.region ?_)
   refine WL.q (oq_move rfl) rfl rfl rfl ?_
   refine WL.q (oq_fieldAddr fld108_2 rfl) rfl rfl rfl ?_
   refine WL.q (oq_load flat75 rfl (.head _) (List.mem_singleton.2 rfl) rfl) rfl rfl rfl ?_
   refine WL.q (oq_makeI conc75 rfl) rfl rfl rfl ?_
   refine WL.buildL Tryz.underlying111 ty20 rfl rfl (by decide) (by decide) rfl rfl rfl fun v9 A9 ho9 hne9 => ?_
   refine WL.f3 ?_
   refine WL.f1 ?_
   refine WL.callW2 (zzWrite _ k r f Wt hW _ G2 hG2 v9 A9 [⟨75, .u32, 4, ((crc (acc0 ++ pre8 hl pl)).toNat : Int)⟩] ho9.rd (ok1 (okU _)) (by simp) (by rw [List.length_append]; simp; omega)) call31 rfl rfl rfl fun v9_5 Hs9_5 hR9_5 => ?_
   obtain ⟨G3, rfl, rfl, hG3⟩ := hR9_5
   rw [bytesN_1, List.append_assoc] at hG3
   refine WL.to2 ?_
   refine WL.q (oq_assign rfl) rfl rfl rfl ?_
   refine WL.nil (WE.then_normal (WC.sub (fr' := [(11, _)]) ?_ ⟨rfl, trivial⟩))
   refine WC.seq (WC.seq (WC.region ?_))
   refine WL.q (oq_move rfl) rfl rfl rfl ?_
   refine WL.q (oq_ineq Tryz.underlying41 rfl (.inl rfl)) rfl rfl rfl ?_
   refine WL.nil (WE.then_normal (WC.sub (fr' := [(11, _), (45, _)]) ?_ ⟨rfl, rfl, trivial⟩))
   refine WC.cond rfl (fun q10 => ?_) (fun q10 => ?_)
   ·
    try simp only [Z1, Z2, Z3, Z4, Z5, Z6, Z7, Z8, Z9, Z0] at q10
    first | contradiction | (exfalso; omega) | (exfalso; simp_all; done)
   ·
    try simp only [Z1, Z2, Z3, Z4, Z5, Z6, Z7, Z8, Z9, Z0] at q10
    refine WC.skip (WE.then_normal (WC.sub (fr' := []) ?_ trivial))
    refine WC.seq (WC.region ?_)
    refine WL.q (oq_assign rfl) rfl rfl rfl ?_
    refine WL.nil (WE.then_normal (WC.sub (fr' := [(8, _)]) ?_ ⟨rfl, trivial⟩))
    refine WC.ret ?_
    refine WE.forget ho9.fresh ?_
    refine WE.f1 ?_
    refine WE.lose hpb ?_
    refine WE.f1 ?_
    refine WE.forget ho5.fresh ?_
    refine WE.endW1 (.inl rfl) (res1 Tryz.results28 rfl) ?_
    exact ⟨_, rfl, rfl, hG3⟩
theorem multiWriter (v : Value) (L : Hp) (ws : List (TypeId × Value)) (hr : RdS 1 v L ws.length (ws.map wval)) (hn : ws.length ≤ 100) (hk : ∀ x ∈ ws, x.1 ≠ 103) : FnA Tryz.prog 26 [v] L (fun w N => ∃ mb u Ws, w = .iface 103 (Pt mb 0) ∧ N = [(mb, .cells #[u] 106 (0, 0))] ++ Ws ∧ RdS 1 u Ws ws.length (ws.map wval)) := by
 refine FnA.enter (n := 38) Tryz.func26 rfl rfl fun w0 => ?_
 refine WC.sub (fr' := [(0, _)]) ?_ ⟨rfl, trivial⟩
 refine WC.seq (WC.region ?_)
 refine WL.q (oq_assign rfl) rfl rfl rfl ?_
 refine WL.nil (WE.then_normal (WC.sub (fr' := [(0, _)]) ?_ ⟨rfl, trivial⟩))
 refine WC.seq (WC.region ?_)
 refine WL.q (oq_move rfl) rfl rfl rfl ?_
 refine WL.q (oq_len_rd hr Tryz.underlying102 rfl) rfl rfl rfl ?_
 refine WL.make0 Tryz.underlying102 ty72 rfl rfl (by omega) (by unfold maxLen; omega) rfl rfl fun v1_2 A1_2 ho1_2 hne1_2 => ?_
 refine WL.q (oq_assign rfl) rfl rfl rfl ?_
 refine WL.nil (WE.then_normal (WC.sub (fr' := [(0, _), (3, _)]) ?_ ⟨rfl, rfl, trivial⟩))
 refine WC.seq (WC.seq (WC.region ?_))
 refine WL.q (oq_move rfl) rfl rfl rfl ?_
 refine WL.q (oq_len_rd hr Tryz.underlying102 rfl) rfl rfl rfl ?_
 refine WL.q (oq_move rfl) rfl rfl rfl ?_
 refine WL.nil (WE.then_normal (WC.sub (fr' := [(3, _), (11, _), (12, _), (13, _)]) ?_ ⟨rfl, rfl, rfl, rfl, trivial⟩))
 refine WC.block ?_
 refine WC.loop (ι := Nat × Value × Hp) (fun i_ => (fun (i : Nat) (u : Value) (B : Hp) => [(3, u), (11, v), (12, I (ws.length : Int)), (13, I (i : Int))]) i_.1 i_.2.1 i_.2.2) (fun i_ => (fun (i : Nat) (u : Value) (B : Hp) => [B, L]) i_.1 i_.2.1 i_.2.2) (fun i_ => (fun (i : Nat) (u : Value) (B : Hp) => i ≤ ws.length ∧ OwS w0.heap.size 72 1 u B i ((ws.map wval).take i)) i_.1 i_.2.1 i_.2.2) (fun i_ => (fun (i : Nat) (u : Value) (B : Hp) => ws.length - i) i_.1 i_.2.1 i_.2.2) ((0, _, _)) ?_ ⟨rfl, rfl, rfl, rfl, trivial⟩ (List.Perm.refl _) ?_
 ·try dsimp only
  exact ⟨by omega, by assumption⟩
 ·rintro ⟨i, u, B⟩ hp
  try dsimp only at hp
  obtain ⟨hi, ho⟩ := hp
  show WC _ _ _ _ _ _ ([(3, u), (11, v), (12, I (ws.length : Int)), (13, I (i : Int))]) ([B, L])
  refine WC.seq (WC.region ?_)
  refine WL.q (oq_lss rfl rfl) rfl rfl rfl ?_
  refine WL.nil (WE.then_normal (WC.sub (fr' := [(3, _), (11, _), (12, _), (13, _), (14, _)]) ?_ ⟨rfl, rfl, rfl, rfl, rfl, trivial⟩))
  refine WC.seq ?_
  refine WC.cond rfl (fun q3 => ?_) (fun q3 => ?_)
  ·
   try simp only [Z1, Z2, Z3, Z4, Z5, Z6, Z7, Z8, Z9, Z0] at q3
   refine WC.skip (WE.then_normal (WC.sub (fr' := [(3, _), (11, _), (12, _), (13, _)]) ?_ ⟨rfl, rfl, rfl, rfl, trivial⟩))
   refine WC.seq (WC.block (WC.seq ?_))
   have hlt : i < ws.length := by omega
   refine WC.region ?_
   refine WL.q (oq_ixaddr hr Tryz.underlying102 ty72 rfl rfl (by (first | omega | (simp only [List.length_cons, List.length_nil, List.length_append, List.length_drop, List.length_take]; omega)))) rfl rfl rfl ?_
   refine WL.q (oq_load_el hr (by repeat (first | exact .head _ | apply List.Mem.tail)) flat72 rfl (by omega) (u := wval ws[i]) (by rw [Int.toNat_natCast, List.getElem?_map, List.getElem?_eq_getElem hlt]; rfl)) rfl rfl rfl ?_
   refine WL.q (oq_assign rfl) rfl rfl rfl ?_
   refine WL.nil (WE.then_normal (WC.sub (fr' := [(3, _), (5, _), (11, _), (12, _), (13, _)]) ?_ ⟨rfl, rfl, rfl, rfl, rfl, trivial⟩))
   refine WC.seq (WC.region ?_)
   refine WL.q (oq_move rfl) rfl rfl rfl ?_
   refine WL.q (oq_askG conc103 ty103 rfl) rfl rfl rfl ?_
   refine WL.q (oq_move rfl) rfl rfl rfl ?_
   refine WL.q (oq_extract rfl rfl) rfl rfl rfl ?_
   refine WL.q (oq_extract rfl rfl) rfl rfl rfl ?_
   refine WL.q (oq_assign rfl) rfl rfl rfl ?_
   refine WL.q (oq_assign rfl) rfl rfl rfl ?_
   refine WL.nil (WE.then_normal (WC.sub (fr' := [(3, _), (5, _), (6, _), (7, _), (11, _), (12, _), (13, _)]) ?_ ⟨rfl, rfl, rfl, rfl, rfl, rfl, rfl, trivial⟩))
   refine WC.seq (WC.region ?_)
   refine WL.q (oq_move rfl) rfl rfl rfl ?_
   refine WL.nil (WE.then_normal (WC.sub (fr' := [(3, _), (5, _), (6, _), (11, _), (12, _), (13, _), (22, _)]) ?_ ⟨rfl, rfl, rfl, rfl, rfl, rfl, rfl, trivial⟩))
   refine WC.cond rfl (fun q6 => ?_) (fun q6 => ?_)
   ·
    try simp only [Z1, Z2, Z3, Z4, Z5, Z6, Z7, Z8, Z9, Z0] at q6
    exact absurd q6 (hk _ (List.getElem_mem hlt))
   ·
    try simp only [Z1, Z2, Z3, Z4, Z5, Z6, Z7, Z8, Z9, Z0] at q6
    refine WC.region ?_
    refine WL.q (oq_move rfl) rfl rfl rfl ?_
    refine WL.q (oq_move rfl) rfl rfl rfl ?_
    refine WL.append1 ho Tryz.underlying102 ty72 rfl (by decide) (fun _ => rfl) rfl rfl (by unfold maxLen; omega) (by omega) rfl rfl (fun _ => rfl) rfl fun v8 A8 u8 ho8 hne8 => ?_
    refine WL.q (oq_assign rfl) rfl rfl rfl ?_
    refine WL.nil (WE.block_normal (WE.then_normal (WC.sub (fr' := [(3, _), (11, _), (12, _), (13, _)]) ?_ ⟨rfl, rfl, rfl, rfl, trivial⟩)))
    refine WC.region ?_
    refine WL.q (oq_add rfl rfl (by rw [i64_lo, i64_hi]; (first | omega | (simp only [List.length_cons, List.length_nil, List.length_append, List.length_drop, List.length_take]; omega)))) rfl rfl rfl ?_
    refine WL.q (oq_move rfl) rfl rfl rfl ?_
    refine WL.nil ?_
    refine WE.again (i + 1, _, _) ?_ ?_ ⟨rfl, rfl, rfl, rfl, trivial⟩ (List.Perm.refl _)
    ·try dsimp only
     exact ⟨by omega, by rw [List.take_add_one, List.getElem?_map, List.getElem?_eq_getElem hlt]; exact ho8⟩
    ·(try dsimp only); omega
  ·
   try simp only [Z1, Z2, Z3, Z4, Z5, Z6, Z7, Z8, Z9, Z0] at q3
   refine WC.exit (WE.then_exit (WE.then_exit (WE.block_same (WE.then_normal (WC.sub (fr' := [(3, _)]) ?_ ⟨rfl, trivial⟩)))))
   refine WC.seq ?_
   obtain ⟨pu, cu, rfl⟩ := ho.rd.shape
   refine WC.region ?_
   refine WL.q (oq_move rfl) rfl rfl rfl ?_
   refine WL.q (oq_build #[_] str106 ty106 rfl rfl) rfl rfl rfl ?_
   refine WL.box rfl rfl rfl fun mb hmb => ?_
   refine WL.q (oq_makeI conc103 rfl) rfl rfl rfl ?_
   refine WL.q (oq_assign rfl) rfl rfl rfl ?_
   refine WL.nil (WE.then_normal (WC.sub (fr' := [(2, _)]) ?_ ⟨rfl, trivial⟩))
   refine WC.ret ?_
   refine WE.cat ?_
   refine WE.endA (.inl rfl) (res1 Tryz.results26 rfl) ?_ (fresh_cat (fresh1 hmb) (ho.fresh))
   obtain rfl : i = ws.length := by omega
   rw [List.take_of_length_le (by simp)] at ho
   exact ⟨_, _, _, rfl, rfl, ho.rd⟩
theorem newEncoder  : FnA Tryz.prog 13 [] [] (fun w N => ∃ eb b1 b2, w = Pt eb 0 ∧ N = ([(eb, .cells #[Pt b1 0, Pt b2 0] 70 (0, 0))] ++ BB b1 (.slice none 0 0) 0) ++ BB b2 (.slice none 0 0) 0) := by
 refine FnA.enter0 (n := 5) Tryz.func13 rfl rfl fun w0 => ?_
 refine WC.sub (fr' := []) ?_ trivial
 refine WC.seq (WC.region ?_)
 refine WL.q (oq_assign rfl) rfl rfl rfl ?_
 refine WL.nil (WE.then_normal (WC.sub (fr' := []) ?_ trivial))
 refine WC.seq (WC.region ?_)
 refine WL.callA0 (newBuf) call23 rfl rfl rfl fun v1_0 N1_0 hR1_0 hN1_0 => ?_
 obtain ⟨b0, rfl, rfl⟩ := hR1_0
 refine WL.callA0 (newBuf) call23 rfl rfl rfl fun v1_1 N1_1 hR1_1 hN1_1 => ?_
 obtain ⟨b1, rfl, rfl⟩ := hR1_1
 refine WL.q (oq_build #[_, _] str70 ty70 rfl rfl) rfl rfl rfl ?_
 refine WL.box rfl rfl rfl fun eb heb => ?_
 refine WL.q (oq_assign rfl) rfl rfl rfl ?_
 refine WL.nil (WE.then_normal (WC.sub (fr' := [(0, _)]) ?_ ⟨rfl, trivial⟩))
 refine WC.ret ?_
 refine WE.f1 ?_
 refine WE.f2 ?_
 refine WE.f2 ?_
 refine WE.cat ?_
 refine WE.cat ?_
 refine WE.endA0 (.inl rfl) (res1 Tryz.results13 rfl) ?_ (fresh_cat (fresh_cat (fresh1 heb) (hN1_0)) (hN1_1))
 exact ⟨_, _, _, rfl, rfl⟩
end EK
end Go.Proofs.YtpjeiimlglgklaaGreatDoor
/- Writers of many writers, buffers as groups. -/
namespace Go.Proofs.YtpjeiimlglgklaaGreatDoor
open Go Go.RowKit V EA EB EC ED EE EF EG EH EI EJ EK
set_option linter.unusedSimpArgs false
set_option linter.unusedVariables false
namespace EL
theorem fw_perm {P : Program} {f : FuncId} {args : List Value} {base : Nat} {Hs Ks : List Hp} {F : Hp} {R R' : Value → List Hp → Prop} (h : FnW P f args base Hs R) (p : Ks.flatten.Perm (Hs.flatten ++ F)) (hr : ∀ v Hs', R v Hs' → ∃ Ks', R' v Ks' ∧ (Hs'.flatten ++ F).Perm Ks'.flatten) : FnW P f args base Ks R' := by
 intro w0 R0 w hb hw
 have e1 : ∀ (X : List Hp) (Y : Hp), (X ++ [Y]).flatten = X.flatten ++ Y := fun X Y => by simp
 have p1 : (Ks ++ [R0]).flatten.Perm (Hs ++ [F ++ R0]).flatten := by
  rw [e1, e1, ← List.append_assoc]; exact p.append_right _
 refine (h w0 (F ++ R0) w hb (hw.perm p1)).mono ?_
 rintro e w' ⟨v, Hs', he, hR, hst⟩
 obtain ⟨Ks', hR', p2⟩ := hr v Hs' hR
 refine ⟨v, Ks', he, hR', hst.perm ?_⟩
 rw [e1, e1, ← List.append_assoc]; exact p2.append_right _
theorem mid1 (W G F C : Hp) : ((W ++ G ++ F) ++ C).Perm ((G ++ C) ++ (W ++ F)) := by
 have h1 : (W ++ G ++ F ++ C).Perm (G ++ W ++ F ++ C) := ((List.perm_append_comm.append_right F).append_right C)
 have h2 : (G ++ W ++ F ++ C).Perm (G ++ C ++ (W ++ F)) := by
  rw [List.append_assoc G W F, List.append_assoc G (W ++ F) C, List.append_assoc G C]
  exact List.Perm.append_left _ List.perm_append_comm
 exact h1.trans h2
abbrev Hash (hb : Nat) (c : BitVec 32) : Hp := [(hb, .cells #[U32 c] 77 (0, 0))]
theorem midWr (base bb : Nat) (W F : Hp) : Wr base 45 (Pt bb 0) 100 (fun acc X => ∃ Gb, BufG base bb acc Gb ∧ X = (W ++ Gb) ++ F) := by
 refine ⟨invBW, nokBW _, ?_⟩
 rintro acc G s C data ⟨Gb, hG, rfl⟩ hr hl h0
 refine fw_perm (F := W ++ F) ((bufWr base bb).run acc Gb s C data hG hr hl h0) ?_ ?_
 ·simp only [List.flatten_cons, List.flatten_nil, List.append_nil]
  exact mid1 W Gb F C
 ·rintro v Hs ⟨G', rfl, rfl, hG'⟩
  refine ⟨_, ⟨_, rfl, rfl, G', hG', rfl⟩, ?_⟩
  simp only [List.flatten_cons, List.flatten_nil, List.append_nil]
  exact (mid1 W G' F C).symm
/-! ### A writer of two: a buffer and a sum -/
def MwG (base mb : Nat) (u : Value) (Ws : Hp) (bb hb : Nat) (acc : List UInt8) (X : Hp) : Prop := ∃ Gb, BufG base bb acc Gb ∧ X = (([(mb, .cells #[u] 106 (0, 0))] ++ Ws) ++ Gb) ++ Hash hb (crc acc)
def St2 (base bb hb : Nat) (acc data : List UInt8) (i : Nat) (X : Hp) : Prop := ∃ Gb, BufG base bb (if i = 0 then acc else acc ++ data) Gb ∧ X = Gb ++ Hash hb (crc (if i ≤ 1 then acc else acc ++ data))
theorem st_step (base bb hb : Nat) (acc data : List UInt8) (s : Value) (C : Hp) (hr : RdS 1 s C data.length (bytesV data)) (hl : acc.length + data.length ≤ 100000000000000) (h0 : 0 < acc.length + data.length) :
  MwStep base [.iface 45 (Pt bb 0), .iface 74 (Pt hb 0)] s C data.length (St2 base bb hb acc data) := by
 intro i hi
 match i, hi with
 | 0, _ =>
  refine ⟨_, _, _, rfl, invBW, ?_⟩
  rintro G ⟨Gb, hG, rfl⟩
  rw [if_pos rfl] at hG
  refine fw_perm (F := Hash hb (crc acc)) ((bufWr base bb).run acc Gb s C data hG hr hl h0) ?_ ?_
  ·simpa using mid1 [] Gb (Hash hb (crc acc)) C
  ·rintro v Hs ⟨G', rfl, rfl, hG'⟩
   exact ⟨_, ⟨_, rfl, rfl, G', hG', rfl⟩, by simpa using (mid1 [] G' (Hash hb (crc acc)) C).symm⟩
 | 1, _ =>
  refine ⟨_, _, _, rfl, invCW, ?_⟩
  rintro G ⟨Gb, hG, rfl⟩
  rw [if_neg (by decide)] at hG
  have hh : crc (if (1 : Nat) ≤ 1 then acc else acc ++ data) = crc acc := rfl
  rw [hh]
  refine fw_perm (F := Gb) (crcWrite base hb acc s C data hr (by omega)) ?_ ?_
  ·simpa using mid1 Gb (Hash hb (crc acc)) [] C
  ·rintro v Hs ⟨rfl, rfl⟩
   exact ⟨_, ⟨_, rfl, rfl, Gb, hG, rfl⟩, by simpa using (mid1 Gb (Hash hb (crc (acc ++ data))) [] C).symm⟩
theorem mwWr (base mb : Nat) (u : Value) (Ws : Hp) (bb hb : Nat) (hw : RdS 1 u Ws 2 [.iface 45 (Pt bb 0), .iface 74 (Pt hb 0)]) : Wr base 103 (Pt mb 0) 115 (MwG base mb u Ws bb hb) := by
 refine ⟨invMW, nokMW _, ?_⟩
 rintro acc G s C data ⟨Gb, hG, rfl⟩ hr hl h0
 have h := mwWrite base mb u Ws [.iface 45 (Pt bb 0), .iface 74 (Pt hb 0)] hw (by simp) s C data hr (by omega) (St2 base bb hb acc data) (st_step base bb hb acc data s C hr hl h0) (Gb ++ Hash hb (crc acc)) ⟨Gb, hG, rfl⟩
 refine fw_perm (F := []) h ?_ ?_
 ·simp
 ·rintro v Hs ⟨G2, rfl, rfl, G', hG', rfl⟩
  exact ⟨_, ⟨_, rfl, rfl, G', hG', rfl⟩, by simp⟩
theorem mwSum (base mb : Nat) (u : Value) (Ws : Hp) (bb hb : Nat) (acc : List UInt8) (G : Hp) (h : MwG base mb u Ws bb hb acc G) : FnR Tryz.prog 30 [Pt hb 0] G (U32 (crc acc)) := by
 obtain ⟨Gb, _, rfl⟩ := h
 exact (sum32 hb (crc acc)).wide (List.perm_append_comm)
theorem mw_mid {base mb : Nat} {u : Value} {Ws : Hp} {bb hb : Nat} {acc : List UInt8} {G : Hp} (h : MwG base mb u Ws bb hb acc G) : ∃ Gb, BufG base bb acc Gb ∧ G = (([(mb, .cells #[u] 106 (0, 0))] ++ Ws) ++ Gb) ++ Hash hb (crc acc) := h
/-! ### Buffers as groups -/
theorem bufReset (base bb : Nat) (acc : List UInt8) (G : Hp) (h : BufG base bb acc G) : FnW Tryz.prog 24 [Pt bb 0] base [G] (fun w Hs => ∃ G', w = .tuple #[] ∧ Hs = [G'] ∧ BufG base bb [] G') := by
 obtain ⟨v, lr, A, rfl, hb⟩ := h
 rcases hb with ⟨rfl, rfl, rfl⟩ | ⟨B, cap, L, rfl, rfl, hB, hL, hc, hc0, hm, ht⟩
 ·refine fw_perm (F := []) (reset0 base bb lr 0) (by simp) ?_
  rintro v Hs ⟨rfl, rfl⟩
  exact ⟨_, ⟨_, rfl, rfl, _, 0, [], rfl, .inl ⟨rfl, rfl, rfl⟩⟩, by simp⟩
 ·refine fw_perm (F := Bf B 5 L) (reset1 base bb lr 0 B acc.length cap hc hc0) (by simp) ?_
  rintro v Hs ⟨rfl, rfl⟩
  exact ⟨_, ⟨_, rfl, rfl, _, 0, _, rfl, .inr ⟨B, cap, L, rfl, rfl, hB, hL, Nat.zero_le _, hc0, hm, rfl⟩⟩, by simp⟩
theorem bufLenG (base bb : Nat) (acc : List UInt8) (G : Hp) (h : BufG base bb acc G) (hl : acc.length ≤ 140737488355328) : FnR Tryz.prog 27 [Pt bb 0] G (I (acc.length : Int)) := by
 obtain ⟨v, lr, A, rfl, hb⟩ := h
 rcases hb with ⟨rfl, rfl, rfl⟩ | ⟨B, cap, L, rfl, rfl, hB, hL, hc, hc0, hm, ht⟩
 ·exact (bufLen bb 0 0 none lr (by omega)).wide (List.Perm.refl _)
 ·exact (bufLen bb acc.length cap (some ⟨B, 0, none⟩) lr (by omega)).wide (List.Perm.refl _)
theorem bytesG (base bb : Nat) (acc : List UInt8) (G : Hp) (h : BufG base bb acc G) : ∃ v, FnR Tryz.prog 16 [Pt bb 0] G v ∧ RdS 1 v G acc.length (bytesV acc) := by
 obtain ⟨v, lr, A, rfl, hb⟩ := h
 rcases hb with ⟨rfl, rfl, rfl⟩ | ⟨B, cap, L, rfl, rfl, hB, hL, hc, hc0, hm, ht⟩
 ·exact ⟨_, (bufBytes0 bb lr).wide (List.Perm.refl _), rfl, .inl ⟨rfl, _, _, rfl⟩⟩
 ·refine ⟨_, (bufBytes bb B acc.length cap lr hc hc0).wide (List.Perm.refl _), ?_⟩
  have h1 : RdS 1 (Sl B 0 acc.length cap) (Bf B 5 L) acc.length (bytesV acc) := by have := Sl.rd (b := B) (off := 0) (n := acc.length) (c := cap) (e := 5) (l := L) (by omega) hc; rw [List.drop_zero, ht] at this; exact this
  exact h1.weaken fun x hx => List.mem_append_right _ hx
theorem copyG (base : Nat) (k : TypeId) (r : Value) (f : FuncId) (Wt : List UInt8 → Hp → Prop) (hW : Wr base k r f Wt) (acc0 : List UInt8) (G : Hp) (hG : Wt acc0 G) (bb : Nat) (acc : List UInt8) (B : Hp) (hB : BufG base bb acc B) (ha : 0 < acc.length) (hal : acc0.length + acc.length ≤ 100000000000000) :
  FnW Tryz.prog 29 [.iface k r, .iface 45 (Pt bb 0)] base [B, G] (fun w Hs => ∃ B' G', w = .tuple #[I (acc.length : Int), .nilIface] ∧ Hs = [B', G'] ∧ BufG base bb [] B' ∧ Wt (acc0 ++ acc) G') := by
 obtain ⟨v, lr, A, rfl, hb⟩ := hB
 rcases hb with ⟨rfl, rfl, rfl⟩ | ⟨B, cap, L, rfl, rfl, hB, hL, hc, hc0, hm, ht⟩
 ·cases ha
 ·refine fw_perm (F := []) (copy_ base k r f Wt hW acc0 G hG bb B cap lr L acc hB hL hc hc0 hm ht ha hal) (by simp) ?_
  rintro v Hs ⟨G2, rfl, rfl, hG2⟩
  exact ⟨_, ⟨_, _, rfl, rfl, ⟨_, 0, _, rfl, .inr ⟨B, cap, L, rfl, rfl, hB, hL, Nat.zero_le _, hc0, hm, rfl⟩⟩, hG2⟩, by simp⟩
end EL
end Go.Proofs.YtpjeiimlglgklaaGreatDoor
/- The engine, part 18: package variables that hold sentinels, or tables of numbers; slices of bytes that come in. Over any program. -/
namespace Go.Proofs.YtpjeiimlglgklaaGreatDoor.V
open Go Go.RowKit Go.ChangeShapes Go.WideShapes
set_option linter.unusedSimpArgs false
set_option linter.unusedVariables false
theorem var_heap {P : Program} {w : World} {n : String} {g : Nat} {cs : Array Value} (hg : P.globalNamed n = some g) (hv : w.var? P n = some cs) : ∃ t f, w.heap[g]? = some (.cells cs t f) := by
 simp only [World.var?, hg, Option.bind_some] at hv
 split at hv
 ·rename_i c t f h; simp at hv; subst hv; exact ⟨_, _, h⟩
 ·cases hv
section
variable {H : Type} {enc : TypeId × Value → H} {P : Program} {w : World} {base : Nat}
end
end Go.Proofs.YtpjeiimlglgklaaGreatDoor.V
/- The engine, part 28: arguments that come in: slices whose elements hold slices, structs. Over any program. -/
namespace Go.Proofs.YtpjeiimlglgklaaGreatDoor.V
open Go Go.RowKit Go.ChangeShapes Go.WideShapes
set_option linter.unusedSimpArgs false
set_option linter.unusedVariables false
theorem has_list {W : World} : ∀ (As : List Hp), (∀ A ∈ As, Has A W) → ∃ C, Has C W ∧ ∀ A ∈ As, ∀ x ∈ A, x ∈ C
 | [], _ => ⟨[], Has.nil W, fun _ h => nomatch h⟩
 | A :: r, h => by
  obtain ⟨C, hC, h1⟩ := has_list r fun B hB => h B (List.mem_cons_of_mem _ hB)
  obtain ⟨D, hD, h2, h3⟩ := has_two (h A List.mem_cons_self) hC
  refine ⟨D, hD, fun B hB x hx => ?_⟩
  rcases List.mem_cons.1 hB with rfl | hB
  ·exact h2 x hx
  ·exact h3 x (h1 B hB x hx)
section
variable {H : Type} {enc : TypeId × Value → H} {P : Program} {w : World}
theorem trod_sl {α : Type} (f : α → List Value) (R : α → Hp → Prop) {sz : Nat} (hR : ∀ x A C, R x A → (∀ y ∈ A, y ∈ C) → R x C) (hf : ∀ x, (f x).length = sz) (hsz : 0 < sz) {t e : TypeId} {cs : List Value} {fuel : Nat} {y : DataW H × List MemPlace} (ht : P.underlying t = some (.slice e)) (hc : P.cellsOf e = sz)
  (hel : ∀ (n : Nat) (cs : List Value) (y : DataW H × List MemPlace), DataW.trod enc P w 0 (fun _ => true) true n e cs = some y → cs.length = sz → ∃ x A, cs = f x ∧ Has A w ∧ R x A)
  (h : DataW.trod enc P w 0 (fun _ => true) true fuel t cs = some y) :
  ∃ (v : Value) (l : List α) (A : Hp), cs = [v] ∧ Has A w ∧ RdS sz v A l.length (recsV f l) ∧ l.length ≤ maxLen ∧ ∀ x ∈ l, R x A := by
 rcases DataW.trod_slice ht h with ⟨rfl, _⟩ | ⟨x, len, cap, elems, rest, n, _, rfl, _, _, hl, hm, hlen, hels, _, _⟩
 ·exact ⟨_, [], [], rfl, Has.nil w, ⟨by simp [recsV], .inl ⟨rfl, _, _, rfl⟩⟩, by simp, fun _ h => nomatch h⟩
 ·have each : ∀ i : Fin len, ∃ y : α × Hp, (∀ j, j < sz → w.cell? (x.add (i.1 * sz + j)) = (f y.1)[j]?) ∧ Has y.2 w ∧ R y.1 y.2 := by
   intro i
   have h1 := hels i.1 i.2
   rw [List.getElem?_eq_getElem (by omega), hc] at h1
   obtain ⟨cs, h2, h3⟩ := Option.bind_eq_some_iff.1 h1
   obtain ⟨_, h4, h5⟩ := World.cells?_some h2
   obtain ⟨y, A, rfl, hA, hr⟩ := hel n cs _ h3 h4
   exact ⟨(y, A), fun j hj => by rw [← Addr.add_add]; exact h5 j hj, hA, hr⟩
  let g : Fin len → α × Hp := fun i => Classical.choose (each i)
  have hg : ∀ i : Fin len, (∀ j, j < sz → w.cell? (x.add (i.1 * sz + j)) = (f (g i).1)[j]?) ∧ Has (g i).2 w ∧ R (g i).1 (g i).2 := fun i => Classical.choose_spec (each i)
  obtain ⟨l, hl'⟩ : ∃ l, l = List.ofFn (fun i => (g i).1) := ⟨_, rfl⟩
  have hll : l.length = len := by rw [hl']; simp
  obtain ⟨A, hA, hr⟩ := rd_of_cellsN (w := w) (a := x) (sz := sz) (len := len) (cap := cap) (xs := recsV f l) hsz (by rw [recs_len hf, hll]) hl (fun i hi => by
   have hdiv : i / sz < len := Nat.div_lt_of_lt_mul (by rw [Nat.mul_comm]; exact hi)
   have hmod : i % sz < sz := Nat.mod_lt _ hsz
   have hi2 : i / sz * sz + i % sz = i := by rw [Nat.mul_comm]; exact Nat.div_add_mod i sz
   have h1 := (hg ⟨i / sz, hdiv⟩).1 (i % sz) hmod
   have h2 := recs_get hf (g ⟨i / sz, hdiv⟩).1 l (i / sz) (i % sz) (by rw [hll]; exact hdiv) hmod
   rw [hi2] at h1 h2
   rw [h1, h2]
   congr 2
   rw [List.getD_eq_getElem?_getD, List.getElem?_eq_getElem (by rw [hll]; exact hdiv)]
   simp [hl'])
  obtain ⟨C, hC, hin⟩ := has_list (W := w) (List.ofFn fun i => (g i).2) (by
   intro B hB
   obtain ⟨i, rfl⟩ := List.mem_ofFn.1 hB
   exact (hg i).2.1)
  obtain ⟨D, hD, h2, h3⟩ := has_two hA hC
  refine ⟨_, l, D, rfl, hD, by rw [hll]; exact hr.weaken h2, by omega, fun z hz => ?_⟩
  rw [hl'] at hz
  obtain ⟨i, rfl⟩ := List.mem_ofFn.1 hz
  exact hR _ _ _ (hg i).2.2 fun y hy => h3 y (hin _ (List.mem_ofFn.2 ⟨i, rfl⟩) y hy)
def oneB (b : UInt8) : List Value := [.int .u8 (b.toNat : Int)]
theorem recs_bytes (l : List UInt8) : recsV oneB l = bytesV l := by
 unfold recsV bytesV oneB
 induction l with
 | nil => rfl
 | cons b r ih => rw [List.flatMap_cons, ih]; rfl
theorem trod_by {t e : TypeId} {cs : List Value} {fuel : Nat} {y : DataW H × List MemPlace} (ht : P.underlying t = some (.slice e)) (he : P.underlying e = some (.int .u8)) (hc : P.cellsOf e = 1) (h : DataW.trod enc P w 0 (fun _ => true) true fuel t cs = some y) :
  ∃ (p : Option Addr) (c : Nat) (l : List UInt8) (A : Hp), cs = [.slice p l.length c] ∧ Has A w ∧ RdS 1 (.slice p l.length c) A l.length (bytesV l) ∧ l.length ≤ maxLen := by
 obtain ⟨v, l, A, rfl, hA, hr, hl, _⟩ := trod_sl (enc := enc) oneB (fun _ _ => True) (fun _ _ _ _ _ => trivial) (fun _ => rfl) (by decide) ht hc (fun n cs y hy _ => by
  obtain ⟨z, rfl, _, hw⟩ := DataW.trod_int he hy
  have hb := wf_bounds hw
  rw [u8_lo, u8_hi] at hb
  refine ⟨UInt8.ofNat z.toNat, [], ?_, Has.nil w, trivial⟩
  show [Value.int .u8 z] = [Value.int .u8 (((UInt8.ofNat z.toNat).toNat : Nat) : Int)]
  rw [byte_back z (by omega) (by omega)]) h
 rw [recs_bytes] at hr
 obtain ⟨p, c, rfl⟩ := hr.shape
 exact ⟨p, c, l, A, rfl, hA, hr, hl⟩
end
end Go.Proofs.YtpjeiimlglgklaaGreatDoor.V
/- The engine, part 29: sentinels that are told apart, fields of own elements, told worlds at a function's begin. Over any program. -/
namespace Go.Proofs.YtpjeiimlglgklaaGreatDoor.V
open Go Go.RowKit
set_option linter.unusedSimpArgs false
set_option linter.unusedVariables false
section
variable {P : Program} {n : Nat} {w0 : World} {ds : List Deferred} {fr : Fr} {H : List Hp} {dst : Option Tmp} {ty : TypeId} {pos : String} {aft : Array Edge} {g : Option (Nat × Bool)} {ops : Array Oper} {Q : Post} {rest : List Oper}
theorem equal_iother {t k e : TypeId} {ms : Array (String × TypeId)} {a b : Addr} {ca cb : Array Value} {ta tb : TypeId} (ht : P.underlying t = some (.interface ms)) (hk : Comp P k e) (hne : a ≠ b) (w : World) (ha : w.heap[a.block]? = some (.cells ca ta (0, 0))) (hb : w.heap[b.block]? = some (.cells cb tb (0, 0))) :
  (Op.equal t (.iface k (.pointer (some a))) (.iface k (.pointer (some b)))).run P w = .ok false w := by
 obtain ⟨hk, ⟨inf, hi, hc⟩, z, size, bytes, hty, h0⟩ := hk
 unfold Op.equal Op.maxDepth Op.equalIn
 rw [Sem.run_bind, run_underlying ht]
 simp only [Result.andThen_ok]
 simp only [ne_eq, not_true_eq_false, ↓reduceIte, Sem.run_bind, typeInfo, run_program, hi, Result.andThen_ok, Sem.run_pure, hc, Bool.not_true, Bool.false_eq_true]
 unfold Op.equalIn
 rw [Sem.run_bind, run_underlying hk]
 simp [run_size hty, h0, run_sameAddr_other w hne ha hb]
theorem oq_iother {t t' k e : TypeId} {ms : Array (String × TypeId)} {a b : Addr} {ca cb : Array Value} {ta tb : TypeId} {A B : Hp} {x y : Operand} (hk : Comp P k e) (ht : P.underlying t = some (.interface ms)) (hne : a ≠ b) (hA : A ∈ H) (ha : (a.block, .cells ca ta (0, 0)) ∈ A) (hB : B ∈ H) (hb : (b.block, .cells cb tb (0, 0)) ∈ B)
  (hx : ev fr x = some (.iface k (.pointer (some a)))) (hy : ev fr y = some (.iface k (.pointer (some b)))) : OV P n w0 ⟨dst, .binOp .eql t x y t', ty, pos, aft, g⟩ (.bool false) ds fr H :=
 oq_of_run fun a' w hf hw => by
  have he := equal_iother ht hk hne w (hw.now _ _ (mem_flat hA ha)) (hw.now _ _ (mem_flat hB hb))
  simp [execOp, hf.eval hx, hf.eval hy, eqGuard, binOp, he]
theorem oq_niother {t t' k : TypeId} {ms : Array (String × TypeId)} {v : Value} {x y : Operand} (ht : P.underlying t = some (.interface ms)) (hx : ev fr x = some .nilIface) (hy : ev fr y = some (.iface k v)) : OV P n w0 ⟨dst, .binOp .eql t x y t', ty, pos, aft, g⟩ (.bool false) ds fr H :=
 oq_of_run fun a w hf _ => by
  have he : (Op.equal t .nilIface (.iface k v)).run P w = .ok false w := by
   unfold Op.equal Op.maxDepth Op.equalIn
   rw [Sem.run_bind, run_underlying ht]; rfl
  simp [execOp, hf.eval hx, hf.eval hy, eqGuard, binOp, he]
theorem oq_nilI {k : TypeId} {v : Value} {x : Operand} (hx : ev fr x = some (.iface k v)) : OV P n w0 ⟨dst, .nilCheck x, ty, pos, aft, g⟩ (.iface k v) ds fr H :=
 oq_of_run fun a w hf _ => by simp [execOp, hf.eval hx]
theorem oq_sliceNil2 {t e : TypeId} {x y y2 : Operand} {z : Value} {bytes : Nat} (ht : P.underlying t = some (.slice e)) (hty : Ty P e z 1 bytes) (hx : ev fr x = some (.slice none 0 0)) (hy : ev fr y = some (I 0)) (hy2 : ev fr y2 = some (I 0)) : OV P n w0 ⟨dst, .slice t x (some y) (some y2) none, ty, pos, aft, g⟩ (.slice none 0 0) ds fr H :=
 oq_of_run fun a w hf _ => by
  have h0 : (0 : Int) ≤ (0 : Int) ∧ (0 : Int) ≤ ((0 : Nat) : Int) := by omega
  have hb : ∀ c w, (Instr.sliceBound (.int .i64 0) 0 c).run P w = .ok 0 w := fun c w => run_sliceBound h0
  simp [execOp, hf.eval hx, hf.eval hy, hf.eval hy2, Instr.sliceAt, Instr.slice, Instr.sliceBounds, run_underlying ht, run_size hty, hb]
theorem WL.storeOwF {t e : TypeId} {x y : Operand} {m i off sz : Nat} {v u z : Value} {A : Hp} {xs : List Value} {bytes : Nat} (ho : OwS w0.heap.size e sz v A m xs) (hty : Ty P t z 1 bytes) (hx : ev fr x = some (adOff (elAddr sz v (i : Int)) off)) (hy : ev fr y = some u) (h1 : u.oneCell' = true) (hi : i < m) (hoff : off < sz)
  (hg : gd ops fr ⟨none, .store t x y, ty, pos, aft, g⟩ = some true) (hk : ∀ A', OwS w0.heap.size e sz v A' m (xs.set (i * sz + off) u) → WL P n w0 ops Q rest ds fr (A' :: H)) : WL P n w0 ops Q (⟨none, .store t x y, ty, pos, aft, g⟩ :: rest) ds fr (A :: H) := by
 have hlt : i * sz + off < m * sz := by
  have : (i + 1) * sz ≤ m * sz := Nat.mul_le_mul_right _ hi
  rw [Nat.succ_mul] at this; omega
 rcases ho.2 with ⟨_, _, rfl⟩ | ⟨b, cap, cur, rfl, rfl, hb, hmc, hcm, hcs, hct⟩
 ·omega
 ·have hms : m * sz ≤ cap * sz := Nat.mul_le_mul_right _ hmc
  have hxa : ev fr x = some (Pt b (i * sz + off)) := by rw [hx]; simp [elAddr, adOff, Addr.add]
  refine WL.store hty hxa hy h1 (by rw [hcs]; omega) (by simp) hg (hk _ ⟨by rw [List.length_set]; exact ho.1, .inr ⟨b, cap, _, rfl, rfl, hb, hmc, hcm, by simp [hcs], ?_⟩⟩)
  rw [Array.toList_setIfInBounds, listSet_take _ _ _ _ (by omega), hct]
theorem FnA.enterH {f : FuncId} {fn : Func} {c : Code} {args : List Value} {Hr : Hp} {R : Value → Hp → Prop} {n : Nat} (hf : P.funcs[f]? = some fn) (hb : fn.body = some c) (hn : args.length + (fn.ntmps - args.length) = n)
  (h : ∀ w0, Has Hr w0 → WC P n w0 c (bodyPost P fn (postA w0 Hr R)) [] (args.zipIdx.map fun (v, i) => (i, v)) [Hr]) : FnA P f args Hr R := by
 intro w hw
 exact calls_of_wp hf hb (h w hw _ w (args_fit hn) (by simpa using hw.st))
theorem Has.lt {A : Hp} {w : World} (h : Has A w) {b : Nat} {o : Obj} (hb : (b, o) ∈ A) : b < w.heap.size := (Array.getElem?_eq_some_iff.1 (h.now b o hb)).1
def putB (L : List UInt8) (off : Nat) (x : List UInt8) : List UInt8 := L.take off ++ x ++ L.drop (off + x.length)
theorem putB_nil (L : List UInt8) (off : Nat) : putB L off [] = L := by unfold putB; simp
theorem putB_len {L x : List UInt8} {off : Nat} (h : off + x.length ≤ L.length) : (putB L off x).length = L.length := by unfold putB; simp; omega
theorem putB_two {L x y : List UInt8} {off : Nat} (h : off + x.length + y.length ≤ L.length) : putB (putB L off x) (off + x.length) y = putB L off (x ++ y) := by
 unfold putB
 have h1 : (L.take off ++ x).length = off + x.length := by simp; omega
 rw [List.take_left' h1, ← List.drop_drop, List.drop_left' h1, List.drop_drop, List.length_append, Nat.add_assoc]
 simp
theorem putB_all {L x : List UInt8} (h : x.length = L.length) : putB L 0 x = x := by unfold putB; simp [h]
end
end Go.Proofs.YtpjeiimlglgklaaGreatDoor.V
/- Readers of bytes. -/
namespace Go.Proofs.YtpjeiimlglgklaaGreatDoor
open Go Go.RowKit V EA EB EC ED EL
set_option linter.unusedSimpArgs false
set_option linter.unusedVariables false
set_option maxRecDepth 10000
namespace DC
theorem flat2 : Flat Tryz.prog 2 := ⟨_, Tryz.underlying2, by simp⟩
theorem flat25 : Flat Tryz.prog 25 := ⟨_, Tryz.underlying25, by simp⟩
theorem flat41 : Flat Tryz.prog 41 := ⟨_, Tryz.underlying41, by simp⟩
theorem ty2 : Ty Tryz.prog 2 (.int .i64 0) 1 8 := ty_of (by kernel_rfl)
theorem ty3 : Ty Tryz.prog 3 (.int .i64 0) 1 8 := ty_of (by kernel_rfl)
theorem ty5 : Ty Tryz.prog 5 (.int .u8 0) 1 1 := ty_of (by kernel_rfl)
theorem ty25 : Ty Tryz.prog 25 (.slice none 0 0) 1 24 := ty_of (by kernel_rfl)
theorem fld92_0 : Fld Tryz.prog 92 0 0 25 := fld_of Tryz.underlying92 rfl rfl rfl ty25 (by decide)
theorem fld92_1 : Fld Tryz.prog 92 1 1 2 := fld_of Tryz.underlying92 rfl rfl rfl ty2 (by decide)
theorem fld92_2 : Fld Tryz.prog 92 2 2 3 := fld_of Tryz.underlying92 rfl rfl rfl ty3 (by decide)
abbrev RB (rb : Nat) (sv : Value) (i pr : Int) : Hp := [(rb, .cells #[sv, I i, I pr] 92 (0, 0))]
def lenE : Value := .agg #[S [109, 101, 115, 115, 97, 103, 101, 32, 112, 114, 101, 108, 117, 100, 101], I 16, I 0, .nilIface]
def erv (k : TypeId) (pE pU : Addr) (ob : Nat) : Nat → Value
 | 0 => .nilIface
 | 1 => .iface k (.pointer (some pE))
 | 2 => .iface k (.pointer (some pU))
 | 3 => .iface 65 (.agg #[])
 | 4 => .iface 67 lenE
 | _ => .iface k (Pt ob 0)
theorem erv_or (k : TypeId) (pE pU : Addr) (ob c : Nat) : erv k pE pU ob c = .nilIface ∨ ∃ k' u, erv k pE pU ob c = .iface k' u := by
 match c with
 | 0 => exact .inl rfl
 | 1 => exact .inr ⟨_, _, rfl⟩
 | 2 => exact .inr ⟨_, _, rfl⟩
 | 3 => exact .inr ⟨_, _, rfl⟩
 | 4 => exact .inr ⟨_, _, rfl⟩
 | _ + 5 => exact .inr ⟨_, _, rfl⟩
theorem erv_nil (k : TypeId) (pE pU : Addr) (ob c : Nat) : nilI (erv k pE pU ob c) = decide (c = 0) := by
 match c with
 | 0 => rfl
 | 1 => rfl
 | 2 => rfl
 | 3 => rfl
 | 4 => rfl
 | _ + 5 => rfl
structure Sn (E : Hp) (kE : TypeId) (pE pU : Addr) : Prop where
 comp : ∃ e, Comp Tryz.prog kE e
 eof : ∃ t f, (0, .cells #[.iface kE (.pointer (some pE))] t f) ∈ E
 uex : ∃ t f, (1, .cells #[.iface kE (.pointer (some pU))] t f) ∈ E
 shb : ∃ k p t f, (4, .cells #[.iface k (.pointer (some p))] t f) ∈ E
 ne : pE ≠ pU
 bE : ∃ c t, (pE.block, .cells c t (0, 0)) ∈ E
 bU : ∃ c t, (pU.block, .cells c t (0, 0)) ∈ E
 kd : kE = 196
theorem Sn.weaken {E C : Hp} {k : TypeId} {p u : Addr} (h : Sn E k p u) (hs : ∀ x ∈ E, x ∈ C) : Sn C k p u := by
 obtain ⟨h1, ⟨t, f, h2⟩, ⟨t3, f3, h3⟩, ⟨k4, p4, t4, f4, h4⟩, h5, ⟨c6, t6, h6⟩, ⟨c7, t7, h7⟩, h8⟩ := h
 exact ⟨h1, ⟨t, f, hs _ h2⟩, ⟨t3, f3, hs _ h3⟩, ⟨k4, p4, t4, f4, hs _ h4⟩, h5, ⟨c6, t6, hs _ h6⟩, ⟨c7, t7, hs _ h7⟩, h8⟩
section
variable {n : Nat} {w0 : World} {ds : List Deferred} {fr : Fr} {H : List Hp} {dst : Option Tmp} {ty : TypeId} {pos : String} {aft : Array Edge} {g : Option (Nat × Bool)} {E : Hp} {kE : TypeId} {pE pU : Addr} {ob c : Nat} {t t' : TypeId} {ms : Array (String × TypeId)} {x y : Operand}
theorem oq_erE (hS : Sn E kE pE pU) (hE : E ∈ H) (hob : c < 5 ∨ ∃ X ∈ H, ∃ cs u, (ob, .cells cs u (0, 0)) ∈ X ∧ ob ≠ pE.block) (ht : Tryz.prog.underlying t = some (.interface ms)) (hx : ev fr x = some (erv kE pE pU ob c)) (hy : ev fr y = some (.iface kE (.pointer (some pE)))) :
  OV Tryz.prog n w0 ⟨dst, .binOp .eql t x y t', ty, pos, aft, g⟩ (.bool (decide (c = 1))) ds fr H := by
 obtain ⟨e, hk⟩ := hS.comp
 obtain ⟨c1, t1, h1⟩ := hS.bE
 obtain ⟨c2, t2, h2⟩ := hS.bU
 match c, hx, hob with
 | 0, hx, _ => exact oq_niother ht hx hy
 | 1, hx, _ => exact oq_isame hk ht hx hy
 | 2, hx, _ => exact oq_iother hk ht (Ne.symm hS.ne) hE h2 hE h1 hx hy
 | 3, hx, _ => exact oq_eqI (eqI_other ht (by rw [hS.kd]; decide) _ _) hx hy
 | 4, hx, _ => exact oq_eqI (eqI_other ht (by rw [hS.kd]; decide) _ _) hx hy
 | m + 5, hx, .inl h => exact absurd h (by omega)
 | m + 5, hx, .inr ⟨X, hX, cs, u, hm, hne⟩ => exact oq_iother (a := ⟨ob, 0, none⟩) hk ht (fun e => hne (by rw [← e])) hX hm hE h1 hx hy
theorem oq_erU (hS : Sn E kE pE pU) (hE : E ∈ H) (hob : c < 5 ∨ ∃ X ∈ H, ∃ cs u, (ob, .cells cs u (0, 0)) ∈ X ∧ ob ≠ pU.block) (ht : Tryz.prog.underlying t = some (.interface ms)) (hx : ev fr x = some (erv kE pE pU ob c)) (hy : ev fr y = some (.iface kE (.pointer (some pU)))) :
  OV Tryz.prog n w0 ⟨dst, .binOp .eql t x y t', ty, pos, aft, g⟩ (.bool (decide (c = 2))) ds fr H := by
 obtain ⟨e, hk⟩ := hS.comp
 obtain ⟨c1, t1, h1⟩ := hS.bE
 obtain ⟨c2, t2, h2⟩ := hS.bU
 match c, hx, hob with
 | 0, hx, _ => exact oq_niother ht hx hy
 | 1, hx, _ => exact oq_iother hk ht hS.ne hE h1 hE h2 hx hy
 | 2, hx, _ => exact oq_isame hk ht hx hy
 | 3, hx, _ => exact oq_eqI (eqI_other ht (by rw [hS.kd]; decide) _ _) hx hy
 | 4, hx, _ => exact oq_eqI (eqI_other ht (by rw [hS.kd]; decide) _ _) hx hy
 | m + 5, hx, .inl h => exact absurd h (by omega)
 | m + 5, hx, .inr ⟨X, hX, cs, u, hm, hne⟩ => exact oq_iother (a := ⟨ob, 0, none⟩) hk ht (fun e => hne (by rw [← e])) hX hm hE h2 hx hy
end
structure Rr (base : Nat) (k : TypeId) (r : Value) (f : FuncId) (E : Hp) (kE : TypeId) (pE pU : Addr) (Rt : List UInt8 → Hp → Prop) : Prop where
 inv : Inv1 Tryz.prog k "Read" f
 nok : NilOk Tryz.prog k r "Read"
 run : ∀ (rs : List UInt8) (G : Hp) (bb : Nat) (e : TypeId) (L : List UInt8) (off m c : Nat), Rt rs G → 0 < m → off + m ≤ L.length → m ≤ c → L.length ≤ 9223372036854775807 → rs.length ≤ 1000000 →
  FnW Tryz.prog f [r, Sl bb off m c] base [G, Bf bb e L, E] (fun w Hs => ∃ G', w = .tuple #[I ((min m rs.length : Nat) : Int), erv kE pE pU 0 (if rs = [] then 1 else 0)] ∧ Hs = [G', Bf bb e (putB L off (rs.take m)), E] ∧ Rt (rs.drop m) G')
theorem rd_at {v : Value} {A : Hp} {xs : List UInt8} (i : Nat) (h : i ≤ xs.length) (hr : RdS 1 v A ((xs.length : Int) - (i : Int)).toNat (cut (bytesV xs) ((i : Int) * ((1 : Nat) : Int)) ((xs.length : Int) * ((1 : Nat) : Int)))) : RdS 1 v A (xs.length - i) (bytesV (xs.drop i)) := by
 rw [cut_bytes] at hr
 have e : cut xs ((i : Int) * ((1 : Nat) : Int)) ((xs.length : Int) * ((1 : Nat) : Int)) = xs.drop i := by
  unfold cut
  rw [show ((xs.length : Int) * ((1 : Nat) : Int)).toNat = xs.length by omega, show ((i : Int) * ((1 : Nat) : Int)).toNat = i by omega, List.take_length]
 rw [e, show ((xs.length : Int) - (i : Int)).toNat = xs.length - i by omega] at hr
 exact hr
theorem take_min (l : List UInt8) (m : Nat) : l.take (min l.length m) = l.take m := by
 rcases Nat.le_total l.length m with h | h
 ·rw [Nat.min_eq_left h, List.take_length, List.take_of_length_le h]
 ·rw [Nat.min_eq_right h]
theorem put_eq (L : List UInt8) (off : Nat) (x : List UInt8) (n : Nat) (h : n = x.length) : L.take off ++ x ++ L.drop (off + n) = putB L off x := by subst h; rfl
theorem brRead (base rb bb off m c : Nat) (e : TypeId) (L : List UInt8) (E : Hp) (kE : TypeId) (pE pU : Addr) (hS : Sn E kE pE pU) (xs : List UInt8) (sv : Value) (hr : RdS 1 sv E xs.length (bytesV xs)) (hx : xs.length ≤ 1000000) (i : Nat) (pr : Int) (hi : i ≤ xs.length) (hm0 : 0 < m) (hm : off + m ≤ L.length) (hmc : m ≤ c) (hl : L.length ≤ 9223372036854775807) : FnW Tryz.prog 109 [Pt rb 0, Sl bb off m c] base [[(rb, .cells #[sv, I (i : Int), I pr] 92 (0, 0))], Bf bb e L, E] (fun v Hs => ∃ pr2, v = .tuple #[I ((min m (xs.drop i).length : Nat) : Int), erv kE pE pU 0 (if xs.drop i = [] then 1 else 0)] ∧ Hs = [RB rb sv ((i + min m (xs.drop i).length : Nat) : Int) pr2, Bf bb e (putB L off ((xs.drop i).take m)), E]) := by
 obtain ⟨tE, fE, hEm⟩ := hS.eof
 have hdl : (xs.drop i).length = xs.length - i := List.length_drop
 refine FnW.enter (n := 39) Tryz.func109 rfl rfl fun w0 R0 hbase => ?_
 subst hbase
 show WC _ _ _ _ _ _ _ ([[(rb, .cells #[sv, I (i : Int), I pr] 92 (0, 0))], Bf bb e L, E, R0])
 refine WC.sub (fr' := [(0, _), (1, _)]) ?_ ⟨rfl, rfl, trivial⟩
 refine WC.seq (WC.region ?_)
 refine WL.q (oq_assign rfl) rfl rfl rfl ?_
 refine WL.q (oq_assign rfl) rfl rfl rfl ?_
 refine WL.nil (WE.then_normal (WC.sub (fr' := [(0, _), (1, _), (5, _)]) ?_ ⟨rfl, rfl, rfl, trivial⟩))
 refine WC.seq (WC.seq (WC.quiet (by kernel_rfl) (by kernel_rfl) ?_))
 refine WQ.q (oq_move rfl) rfl rfl rfl ?_
 refine WQ.q (oq_nilCheck rfl) rfl rfl rfl ?_
 refine WQ.q (oq_fieldAddr fld92_1 rfl) rfl rfl rfl ?_
 refine WQ.q (oq_load flat2 rfl (.head _) (List.mem_singleton.2 rfl) rfl) rfl rfl rfl ?_
 refine WQ.q (oq_move rfl) rfl rfl rfl ?_
 refine WQ.q (oq_nilCheck rfl) rfl rfl rfl ?_
 refine WQ.q (oq_fieldAddr fld92_0 rfl) rfl rfl rfl ?_
 refine WQ.q (oq_load flat25 rfl (.head _) (List.mem_singleton.2 rfl) rfl) rfl rfl rfl ?_
 refine WQ.q (oq_len_rd hr Tryz.underlying25 rfl) rfl rfl rfl ?_
 refine WQ.q (oq_geq rfl rfl) rfl rfl rfl ?_
 refine WQ.nil (WE.then_normal (WC.sub (fr' := [(0, _), (1, _), (5, _), (15, _)]) ?_ ⟨rfl, rfl, rfl, rfl, trivial⟩))
 refine WC.cond rfl (fun q1 => ?_) (fun q1 => ?_)
 ·
  try simp only [Z1, Z2, Z3, Z4, Z5, Z6, Z7, Z8, Z9, Z0] at q1
  refine WC.seq (WC.quiet (by kernel_rfl) (by kernel_rfl) ?_)
  refine WQ.q (oq_load flat41 rfl (.tail _ (.tail _ (.head _))) hEm rfl) rfl rfl rfl ?_
  refine WQ.q (oq_assign rfl) rfl rfl rfl ?_
  refine WQ.q (oq_assign rfl) rfl rfl rfl ?_
  refine WQ.nil (WE.then_normal (WC.sub (fr' := [(4, _), (5, _)]) ?_ ⟨rfl, rfl, trivial⟩))
  refine WC.ret (WE.then_ret ?_)
  refine WE.endW3 (.inl rfl) (res2 Tryz.results109 rfl rfl) ?_
  have h0 : xs.drop i = [] := List.drop_eq_nil_of_le (by omega)
  rw [h0, if_pos rfl]
  exact ⟨pr, by simp; rfl, by simp [putB_nil]⟩
 ·
  try simp only [Z1, Z2, Z3, Z4, Z5, Z6, Z7, Z8, Z9, Z0] at q1
  refine WC.skip (WE.then_normal (WC.sub (fr' := [(0, _), (1, _), (5, _)]) ?_ ⟨rfl, rfl, rfl, trivial⟩))
  refine WC.seq (WC.region ?_)
  refine WL.q (oq_move rfl) rfl rfl rfl ?_
  refine WL.q (oq_nilCheck rfl) rfl rfl rfl ?_
  refine WL.q (oq_fieldAddr fld92_2 rfl) rfl rfl rfl ?_
  refine WL.store1 #[_, _, _] ty3 rfl rfl (by first | rfl | exact OwS.one one_) (Nat.lt_of_lt_of_le (Nat.lt_succ_self _) (Nat.le_of_ble_eq_true rfl)) rfl rfl ?_
  refine WL.nil (WE.then_normal (WC.sub (fr' := [(0, _), (1, _), (5, _)]) ?_ ⟨rfl, rfl, rfl, trivial⟩))
  refine WC.seq ?_
  obtain ⟨v2, hv2, hov⟩ := slice_val (i := (i : Int)) (j := (xs.length : Int)) hr ty5 (by omega)
  have hrx := rd_at i (by omega) hv2
  refine WC.tailM (pl := []) (ql := [_, _, _, _, _, _, _, _, _, _]) (tl := [_, _]) [] [0, 1, 2, 3, 4, 5, 6, 7, 8, 9] 10 [11] (by kernel_rfl) (by kernel_rfl) (by kernel_rfl) (by kernel_rfl) (by kernel_rfl) (by kernel_rfl) (by decide) rfl rfl rfl (by decide) (by repeat (first | with_reducible exact QOk.body | with_reducible apply QOk.then | with_reducible apply QOk.block | exact QOk.body | apply QOk.then | apply QOk.block)) ?_
  refine WM.nil ?_
  refine WY.q (oq_move rfl) rfl rfl rfl ?_
  refine WY.q (oq_move rfl) rfl rfl rfl ?_
  refine WY.q (oq_nilCheck rfl) rfl rfl rfl ?_
  refine WY.q (oq_fieldAddr fld92_0 rfl) rfl rfl rfl ?_
  refine WY.q (oq_load flat25 rfl (.head _) (List.mem_singleton.2 rfl) rfl) rfl rfl rfl ?_
  refine WY.q (oq_move rfl) rfl rfl rfl ?_
  refine WY.q (oq_nilCheck rfl) rfl rfl rfl ?_
  refine WY.q (oq_fieldAddr fld92_1 rfl) rfl rfl rfl ?_
  refine WY.q (oq_load flat2 rfl (.head _) (List.mem_singleton.2 rfl) rfl) rfl rfl rfl ?_
  refine WY.q (hov Tryz.underlying25 rfl ⟨_, rfl⟩ rfl) rfl rfl rfl ?_
  refine WY.nil ?_
  refine WL.f1 ?_
  refine WL.copyB Tryz.underlying25 ty5 rfl rfl hrx (.tail _ (.head _)) (by omega) rfl rfl ?_
  refine WL.q (oq_assign rfl) rfl rfl rfl ?_
  refine WL.nil (WE.then_normal (WC.sub (fr' := [(0, _), (4, _), (5, _)]) ?_ ⟨rfl, rfl, rfl, trivial⟩))
  refine WC.seq (WC.region ?_)
  refine WL.q (oq_move rfl) rfl rfl rfl ?_
  refine WL.q (oq_nilCheck rfl) rfl rfl rfl ?_
  refine WL.q (oq_fieldAddr fld92_1 rfl) rfl rfl rfl ?_
  refine WL.q (oq_load flat2 rfl (.tail _ (.head _)) (List.mem_singleton.2 rfl) rfl) rfl rfl rfl ?_
  refine WL.q (oq_move rfl) rfl rfl rfl ?_
  refine WL.q (oq_add rfl rfl (by rw [i64_lo, i64_hi]; (first | omega | (simp only [List.length_cons, List.length_nil, List.length_append, List.length_drop, List.length_take]; omega)))) rfl rfl rfl ?_
  refine WL.q (oq_nilCheck rfl) rfl rfl rfl ?_
  refine WL.q (oq_fieldAddr fld92_1 rfl) rfl rfl rfl ?_
  refine WL.f1 ?_
  refine WL.store1 #[_, _, _] ty2 rfl rfl (by first | rfl | exact OwS.one one_) (Nat.lt_of_lt_of_le (Nat.lt_succ_self _) (Nat.le_of_ble_eq_true rfl)) rfl rfl ?_
  refine WL.nil (WE.then_normal (WC.sub (fr' := [(4, _), (5, _)]) ?_ ⟨rfl, rfl, trivial⟩))
  refine WC.ret ?_
  refine WE.endW3 (.inl rfl) (res2 Tryz.results109 rfl rfl) ?_
  have h0 : xs.drop i ≠ [] := fun h => by have := congrArg List.length h; rw [hdl] at this; simp at this; omega
  rw [if_neg h0]
  refine ⟨-1, ?_, ?_⟩
  ·rw [hdl, Nat.min_comm]; rfl
  ·rw [hdl, Nat.min_comm m, Int.natCast_add, ← hdl, take_min, put_eq _ _ _ _ (by rw [List.length_take, Nat.min_comm])]
def BrG (rb : Nat) (sv : Value) (all rs : List UInt8) (G : Hp) : Prop := ∃ dn pr, all = dn ++ rs ∧ G = RB rb sv (dn.length : Nat) pr
theorem invBR : Inv1 Tryz.prog 56 "Read" 109 := fun x a w => by kernel_rfl
theorem nokBR (p : Addr) : NilOk Tryz.prog 56 (.pointer (some p)) "Read" := fun w => by kernel_rfl
theorem brRr (base rb : Nat) (sv : Value) (E : Hp) (all : List UInt8) (hr : RdS 1 sv E all.length (bytesV all)) (hl : all.length ≤ 1000000) (kE : TypeId) (pE pU : Addr) (hS : Sn E kE pE pU) : Rr base 56 (Pt rb 0) 109 E kE pE pU (BrG rb sv all) := by
 refine ⟨invBR, nokBR _, ?_⟩
 rintro rs G bb e L off m c ⟨dn, pr, rfl, rfl⟩ h0 hm hmc hL _
 have hd : (dn ++ rs).drop dn.length = rs := List.drop_left' rfl
 refine fw_perm (F := []) (brRead base rb bb off m c e L E kE pE pU hS (dn ++ rs) sv hr hl dn.length pr (by simp) h0 hm hmc hL) (by simp) ?_
 rw [hd]
 rintro v Hs ⟨pr2, rfl, rfl⟩
 refine ⟨_, ⟨_, rfl, rfl, dn ++ rs.take m, pr2, by rw [List.append_assoc, List.take_append_drop], rfl⟩, ?_⟩
 have e1 : (dn ++ rs.take m).length = dn.length + min m rs.length := by rw [List.length_append, List.length_take]
 rw [e1]
 simp
end DC
end Go.Proofs.YtpjeiimlglgklaaGreatDoor
/- Readers with a sum, limited ones, reading in full. -/
namespace Go.Proofs.YtpjeiimlglgklaaGreatDoor
open Go Go.RowKit V EA EB EC ED EL DC
set_option linter.unusedSimpArgs false
set_option linter.unusedVariables false
set_option maxRecDepth 10000
namespace DD
theorem call70 : Callable Tryz.prog 70 := ⟨_, Tryz.func70, rfl, by kernel_rfl⟩
theorem flat2 : Flat Tryz.prog 2 := ⟨_, Tryz.underlying2, by simp⟩
theorem flat41 : Flat Tryz.prog 41 := ⟨_, Tryz.underlying41, by simp⟩
theorem flat72 : Flat Tryz.prog 72 := ⟨_, Tryz.underlying72, by simp⟩
theorem flat95 : Flat Tryz.prog 95 := ⟨_, Tryz.underlying95, by simp⟩
theorem ty2 : Ty Tryz.prog 2 (.int .i64 0) 1 8 := ty_of (by kernel_rfl)
theorem ty5 : Ty Tryz.prog 5 (.int .u8 0) 1 1 := ty_of (by kernel_rfl)
theorem ty72 : Ty Tryz.prog 72 .nilIface 1 16 := ty_of (by kernel_rfl)
theorem ty95 : Ty Tryz.prog 95 .nilIface 1 16 := ty_of (by kernel_rfl)
theorem fld151_0 : Fld Tryz.prog 151 0 0 95 := fld_of Tryz.underlying151 rfl rfl rfl ty95 (by decide)
theorem fld151_1 : Fld Tryz.prog 151 1 1 2 := fld_of Tryz.underlying151 rfl rfl rfl ty2 (by decide)
theorem fld155_0 : Fld Tryz.prog 155 0 0 95 := fld_of Tryz.underlying155 rfl rfl rfl ty95 (by decide)
theorem fld155_1 : Fld Tryz.prog 155 1 1 72 := fld_of Tryz.underlying155 rfl rfl rfl ty72 (by decide)
def rdc (m : Nat) (rs : List UInt8) : Nat := if m ≤ rs.length then 0 else if rs = [] then 1 else 2
abbrev TB (tb : Nat) (k : TypeId) (r : Value) (hb : Nat) : Hp := [(tb, .cells #[.iface k r, .iface 74 (Pt hb 0)] 155 (0, 0))]
abbrev LB (lb : Nat) (k : TypeId) (r : Value) (N : Int) : Hp := [(lb, .cells #[.iface k r, I N] 151 (0, 0))]
theorem rd_put {bb off m c : Nat} {e : TypeId} {L x : List UInt8} (h : off + m ≤ L.length) (hx : x.length = m) (hmc : m ≤ c) : RdS 1 (Sl bb off m c) (Bf bb e (putB L off x)) x.length (bytesV x) := by
 have h1 := Sl.rd (b := bb) (off := off) (n := m) (c := c) (e := e) (l := putB L off x) (by rw [putB_len (by omega)]; exact h) hmc
 have h2 : (putB L off x).drop off = x ++ L.drop (off + x.length) := by
  unfold putB; rw [List.append_assoc, List.drop_left' (by rw [List.length_take]; omega)]
 rw [h2, List.take_left' hx] at h1
 rw [hx]; exact h1
theorem len_nil {l : List UInt8} : l.length = 0 ↔ l = [] := List.length_eq_zero_iff
theorem teeRead (base tb hb : Nat) (E : Hp) (kE : TypeId) (pE pU : Addr) (hS : Sn E kE pE pU) (k : TypeId) (r : Value) (f : FuncId) (Rt : List UInt8 → Hp → Prop) (hR : Rr base k r f E kE pE pU Rt) (bb off m c : Nat) (e : TypeId) (L : List UInt8) (hm0 : 0 < m) (hm : off + m ≤ L.length) (hmc : m ≤ c) (hl : L.length ≤ 9223372036854775807) (acc rs : List UInt8) (X : Hp) (hX : Rt rs X) (hrs : rs.length ≤ 1000000) : FnW Tryz.prog 162 [Pt tb 0, Sl bb off m c] base [[(tb, .cells #[.iface k r, .iface 74 (Pt hb 0)] 155 (0, 0))], X, [(hb, .cells #[U32 (crc acc)] 77 (0, 0))], Bf bb e L, E] (fun v Hs => ∃ X2, v = .tuple #[I ((min m rs.length : Nat) : Int), erv kE pE pU 0 (if rs = [] then 1 else 0)] ∧ Hs = [TB tb k r hb, X2, [(hb, .cells #[U32 (crc (acc ++ rs.take m))] 77 (0, 0))], Bf bb e (putB L off (rs.take m)), E] ∧ Rt (rs.drop m) X2) := by
 have htl : (rs.take m).length = min m rs.length := List.length_take
 refine FnW.enter (n := 36) Tryz.func162 rfl rfl fun w0 R0 hbase => ?_
 subst hbase
 show WC _ _ _ _ _ _ _ ([[(tb, .cells #[.iface k r, .iface 74 (Pt hb 0)] 155 (0, 0))], X, [(hb, .cells #[U32 (crc acc)] 77 (0, 0))], Bf bb e L, E, R0])
 refine WC.sub (fr' := [(0, _), (1, _)]) ?_ ⟨rfl, rfl, trivial⟩
 refine WC.seq (WC.region ?_)
 refine WL.q (oq_assign rfl) rfl rfl rfl ?_
 refine WL.q (oq_assign rfl) rfl rfl rfl ?_
 refine WL.nil (WE.then_normal (WC.sub (fr' := [(0, _), (1, _)]) ?_ ⟨rfl, rfl, trivial⟩))
 refine WC.seq (WC.region ?_)
 refine WL.q (oq_move rfl) rfl rfl rfl ?_
 refine WL.q (oq_nilCheck rfl) rfl rfl rfl ?_
 refine WL.q (oq_fieldAddr fld155_0 rfl) rfl rfl rfl ?_
 refine WL.q (oq_load flat95 rfl (.head _) (List.mem_singleton.2 rfl) rfl) rfl rfl rfl ?_
 refine WL.q (oq_move rfl) rfl rfl rfl ?_
 refine WL.f4 ?_
 refine WL.f4 ?_
 refine WL.f3 ?_
 refine WL.callWE (fun a w hf => ent_inv1 hR.inv rfl rfl hf w) (hR.run rs X bb e L off m c hX hm0 hm hmc hl hrs) rfl rfl rfl rfl fun v1_5 Hs1_5 hR1_5 => ?_
 obtain ⟨X2, rfl, rfl, hX2⟩ := hR1_5
 refine WL.app3 ?_
 refine WL.q (oq_move rfl) rfl rfl rfl ?_
 refine WL.q (oq_extract rfl rfl) rfl rfl rfl ?_
 refine WL.q (oq_extract rfl rfl) rfl rfl rfl ?_
 refine WL.q (oq_assign rfl) rfl rfl rfl ?_
 refine WL.q (oq_assign rfl) rfl rfl rfl ?_
 refine WL.nil (WE.then_normal (WC.sub (fr' := [(0, _), (1, _), (4, _), (5, _)]) ?_ ⟨rfl, rfl, rfl, rfl, trivial⟩))
 refine WC.seq (WC.seq (WC.region ?_))
 refine WL.q (oq_move rfl) rfl rfl rfl ?_
 refine WL.q (oq_gtr rfl rfl) rfl rfl rfl ?_
 refine WL.nil (WE.then_normal (WC.sub (fr' := [(0, _), (1, _), (4, _), (5, _), (18, _)]) ?_ ⟨rfl, rfl, rfl, rfl, rfl, trivial⟩))
 refine WC.cond rfl (fun q2 => ?_) (fun q2 => ?_)
 ·
  try simp only [Z1, Z2, Z3, Z4, Z5, Z6, Z7, Z8, Z9, Z0] at q2
  refine WC.seq ?_
  refine WC.tailM (pl := []) (ql := [_, _, _, _, _, _, _, _, _]) (tl := [_, _, _, _, _, _]) [] [0, 1, 2, 3, 4, 5, 6, 7, 8] 9 [10, 11, 12, 13, 14] (by kernel_rfl) (by kernel_rfl) (by kernel_rfl) (by kernel_rfl) (by kernel_rfl) (by kernel_rfl) (by decide) rfl rfl rfl (by decide) (by repeat (first | with_reducible exact QOk.body | with_reducible apply QOk.then | with_reducible apply QOk.block | exact QOk.body | apply QOk.then | apply QOk.block)) ?_
  refine WM.nil ?_
  refine WY.q (oq_move rfl) rfl rfl rfl ?_
  refine WY.q (oq_nilCheck rfl) rfl rfl rfl ?_
  refine WY.q (oq_fieldAddr fld155_1 rfl) rfl rfl rfl ?_
  refine WY.q (oq_load flat72 rfl (.tail _ (.tail _ (.tail _ (.head _)))) (List.mem_singleton.2 rfl) rfl) rfl rfl rfl ?_
  refine WY.q (oq_move rfl) rfl rfl rfl ?_
  refine WY.q (oq_move rfl) rfl rfl rfl ?_
  refine WY.q (oq_sliceSl (j := (min m rs.length)) Tryz.underlying25 ty5 rfl (by (first | omega | (rw [putB_len (by rw [List.length_take]; omega)]; omega))) rfl ⟨_, rfl⟩ (by (first | omega | (rw [putB_len (by rw [List.length_take]; omega)]; omega))) (by (first | omega | (rw [putB_len (by rw [List.length_take]; omega)]; omega)))) rfl rfl rfl ?_
  refine WY.q (oq_nilI rfl) rfl rfl rfl ?_
  refine WY.q (oq_move rfl) rfl rfl rfl ?_
  refine WY.nil ?_
  refine WL.f1 ?_
  refine WL.f4 ?_
  refine WL.callWE (fun a w hf => ent_inv1 invCW rfl rfl hf w) (crcWrite _ hb acc _ (Bf bb e (putB L off (rs.take m))) (rs.take m) (rd_put (m := min m rs.length) (by omega) htl (by omega)) (by omega)) rfl rfl rfl rfl fun v3_9 Hs3_9 hR3_9 => ?_
  obtain ⟨rfl, rfl⟩ := hR3_9
  refine WL.app2 ?_
  refine WL.q (oq_move rfl) rfl rfl rfl ?_
  refine WL.q (oq_extract rfl rfl) rfl rfl rfl ?_
  refine WL.q (oq_extract rfl rfl) rfl rfl rfl ?_
  refine WL.q (oq_assign rfl) rfl rfl rfl ?_
  refine WL.q (oq_assign rfl) rfl rfl rfl ?_
  refine WL.nil (WE.then_normal (WC.sub (fr' := [(4, _), (5, _), (6, _), (7, _)]) ?_ ⟨rfl, rfl, rfl, rfl, trivial⟩))
  refine WC.seq (WC.region ?_)
  refine WL.q (oq_move rfl) rfl rfl rfl ?_
  refine WL.q (oq_ineq Tryz.underlying41 rfl (.inl rfl)) rfl rfl rfl ?_
  refine WL.nil (WE.then_normal (WC.sub (fr' := [(4, _), (5, _), (6, _), (7, _), (33, _)]) ?_ ⟨rfl, rfl, rfl, rfl, rfl, trivial⟩))
  refine WC.cond rfl (fun q4 => ?_) (fun q4 => ?_)
  ·
   try simp only [Z1, Z2, Z3, Z4, Z5, Z6, Z7, Z8, Z9, Z0] at q4
   first | contradiction | (exfalso; omega) | (exfalso; simp_all; done)
  ·
   try simp only [Z1, Z2, Z3, Z4, Z5, Z6, Z7, Z8, Z9, Z0] at q4
   refine WC.skip (WE.then_normal (WC.sub (fr' := [(4, _), (5, _)]) ?_ ⟨rfl, rfl, trivial⟩))
   refine WC.ret ?_
   refine WE.f5 ?_
   refine WE.f4 ?_
   refine WE.f3 ?_
   refine WE.f3 ?_
   refine WE.f4 ?_
   refine WE.f5 ?_
   refine WE.endW5 (.inl rfl) (res2 Tryz.results162 rfl rfl) ?_
   exact ⟨X2, rfl, rfl, hX2⟩
 ·
  try simp only [Z1, Z2, Z3, Z4, Z5, Z6, Z7, Z8, Z9, Z0] at q2
  refine WC.skip (WE.then_normal (WC.sub (fr' := [(4, _), (5, _)]) ?_ ⟨rfl, rfl, trivial⟩))
  refine WC.ret ?_
  refine WE.f5 ?_
  refine WE.f3 ?_
  refine WE.f3 ?_
  refine WE.f5 ?_
  refine WE.f4 ?_
  refine WE.f5 ?_
  refine WE.endW5 (.inl rfl) (res2 Tryz.results162 rfl rfl) ?_
  have h0 : rs = [] := len_nil.1 (by omega)
  subst h0
  exact ⟨X2, rfl, by simp, hX2⟩
def TeeG (tb : Nat) (k : TypeId) (r : Value) (hb : Nat) (Rt : List UInt8 → Hp → Prop) (all rs : List UInt8) (G : Hp) : Prop := ∃ acc X, all = acc ++ rs ∧ G = (TB tb k r hb ++ X) ++ [(hb, .cells #[U32 (crc acc)] 77 (0, 0))] ∧ Rt rs X
theorem invTR : Inv1 Tryz.prog 153 "Read" 162 := fun x a w => by kernel_rfl
theorem nokTR (p : Addr) : NilOk Tryz.prog 153 (.pointer (some p)) "Read" := fun w => by kernel_rfl
theorem invLR : Inv1 Tryz.prog 148 "Read" 161 := fun x a w => by kernel_rfl
theorem nokLR (p : Addr) : NilOk Tryz.prog 148 (.pointer (some p)) "Read" := fun w => by kernel_rfl
theorem teeRr (base tb hb : Nat) (E : Hp) (kE : TypeId) (pE pU : Addr) (hS : Sn E kE pE pU) (k : TypeId) (r : Value) (f : FuncId) (Rt : List UInt8 → Hp → Prop) (hR : Rr base k r f E kE pE pU Rt) (all : List UInt8) : Rr base 153 (Pt tb 0) 162 E kE pE pU (TeeG tb k r hb Rt all) := by
 refine ⟨invTR, nokTR _, ?_⟩
 rintro rs G bb e L off m c ⟨acc, X, hal, rfl, hX⟩ h0 hm hmc hL hrs
 refine fw_perm (F := []) (teeRead base tb hb E kE pE pU hS k r f Rt hR bb off m c e L h0 hm hmc hL acc rs X hX hrs) (by simp) ?_
 rintro v Hs ⟨X2, rfl, rfl, hX2⟩
 exact ⟨_, ⟨_, rfl, rfl, acc ++ rs.take m, X2, by rw [List.append_assoc, List.take_append_drop, hal], rfl, hX2⟩, by simp⟩
theorem limRead (base lb N : Nat) (E : Hp) (kE : TypeId) (pE pU : Addr) (hS : Sn E kE pE pU) (k : TypeId) (r : Value) (f : FuncId) (Rt : List UInt8 → Hp → Prop) (hR : Rr base k r f E kE pE pU Rt) (bb off m c : Nat) (e : TypeId) (L : List UInt8) (hm0 : 0 < m) (hm : off + m ≤ L.length) (hmc : m ≤ c) (hl : L.length ≤ 9223372036854775807) (w : List UInt8) (X : Hp) (hX : Rt w X) (hrs : w.length ≤ 1000000) (hN : N ≤ 4294967296) : FnW Tryz.prog 161 [Pt lb 0, Sl bb off m c] base [[(lb, .cells #[.iface k r, I (N : Int)] 151 (0, 0))], X, Bf bb e L, E] (fun v Hs => ∃ X2, v = .tuple #[I ((min m (w.take N).length : Nat) : Int), erv kE pE pU 0 (if w.take N = [] then 1 else 0)] ∧ Hs = [LB lb k r ((N - min m (w.take N).length : Nat) : Int), X2, Bf bb e (putB L off ((w.take N).take m)), E] ∧ Rt (w.drop (min m (w.take N).length)) X2) := by
 obtain ⟨tE, fE, hEm⟩ := hS.eof
 have htl : (w.take N).length = min N w.length := List.length_take
 have hdt : (w.take N).take m = w.take (min m N) := List.take_take
 refine FnW.enter (n := 42) Tryz.func161 rfl rfl fun w0 R0 hbase => ?_
 subst hbase
 show WC _ _ _ _ _ _ _ ([[(lb, .cells #[.iface k r, I (N : Int)] 151 (0, 0))], X, Bf bb e L, E, R0])
 refine WC.sub (fr' := [(0, _), (1, _)]) ?_ ⟨rfl, rfl, trivial⟩
 refine WC.seq (WC.region ?_)
 refine WL.q (oq_assign rfl) rfl rfl rfl ?_
 refine WL.q (oq_assign rfl) rfl rfl rfl ?_
 refine WL.nil (WE.then_normal (WC.sub (fr' := [(0, _), (1, _)]) ?_ ⟨rfl, rfl, trivial⟩))
 refine WC.seq (WC.seq (WC.region ?_))
 refine WL.q (oq_move rfl) rfl rfl rfl ?_
 refine WL.q (oq_nilCheck rfl) rfl rfl rfl ?_
 refine WL.q (oq_fieldAddr fld151_1 rfl) rfl rfl rfl ?_
 refine WL.q (oq_load flat2 rfl (.head _) (List.mem_singleton.2 rfl) rfl) rfl rfl rfl ?_
 refine WL.q (oq_leq rfl rfl) rfl rfl rfl ?_
 refine WL.nil (WE.then_normal (WC.sub (fr' := [(0, _), (1, _), (10, _)]) ?_ ⟨rfl, rfl, rfl, trivial⟩))
 refine WC.cond rfl (fun q1 => ?_) (fun q1 => ?_)
 ·
  try simp only [Z1, Z2, Z3, Z4, Z5, Z6, Z7, Z8, Z9, Z0] at q1
  refine WC.seq (WC.quiet (by kernel_rfl) (by kernel_rfl) ?_)
  refine WQ.q (oq_load flat41 rfl (.tail _ (.tail _ (.tail _ (.head _)))) hEm rfl) rfl rfl rfl ?_
  refine WQ.q (oq_assign rfl) rfl rfl rfl ?_
  refine WQ.q (oq_assign rfl) rfl rfl rfl ?_
  refine WQ.nil (WE.then_normal (WC.sub (fr' := [(4, _), (5, _)]) ?_ ⟨rfl, rfl, trivial⟩))
  refine WC.ret (WE.then_ret ?_)
  refine WE.endW4 (.inl rfl) (res2 Tryz.results161 rfl rfl) ?_
  obtain rfl : N = 0 := by omega
  exact ⟨X, by simp; rfl, by simp [putB_nil], by simpa using hX⟩
 ·
  try simp only [Z1, Z2, Z3, Z4, Z5, Z6, Z7, Z8, Z9, Z0] at q1
  refine WC.skip (WE.then_normal (WC.sub (fr' := [(0, _), (1, _)]) ?_ ⟨rfl, rfl, trivial⟩))
  refine WC.seq (WC.seq (WC.region ?_))
  refine WL.q (oq_move rfl) rfl rfl rfl ?_
  refine WL.q (oq_len_sl Tryz.underlying25 rfl) rfl rfl rfl ?_
  refine WL.q (oq_move rfl) rfl rfl rfl ?_
  refine WL.q (oq_nilCheck rfl) rfl rfl rfl ?_
  refine WL.q (oq_fieldAddr fld151_1 rfl) rfl rfl rfl ?_
  refine WL.q (oq_load flat2 rfl (.head _) (List.mem_singleton.2 rfl) rfl) rfl rfl rfl ?_
  refine WL.q (oq_gtr rfl rfl) rfl rfl rfl ?_
  refine WL.nil (WE.then_normal (WC.sub (fr' := [(0, _), (1, _), (18, _)]) ?_ ⟨rfl, rfl, rfl, trivial⟩))
  refine WC.cond rfl (fun q3 => ?_) (fun q3 => ?_)
  ·
   try simp only [Z1, Z2, Z3, Z4, Z5, Z6, Z7, Z8, Z9, Z0] at q3
   refine WC.region ?_
   refine WL.q (oq_move rfl) rfl rfl rfl ?_
   refine WL.q (oq_move rfl) rfl rfl rfl ?_
   refine WL.q (oq_nilCheck rfl) rfl rfl rfl ?_
   refine WL.q (oq_fieldAddr fld151_1 rfl) rfl rfl rfl ?_
   refine WL.q (oq_load flat2 rfl (.head _) (List.mem_singleton.2 rfl) rfl) rfl rfl rfl ?_
   refine WL.q (oq_sliceSl (i := 0) (j := N) Tryz.underlying25 ty5 rfl (by omega) ⟨_, rfl⟩ ⟨_, rfl⟩ (by omega) (by omega)) rfl rfl rfl ?_
   refine WL.q (oq_assign rfl) rfl rfl rfl ?_
   refine WL.nil (WE.then_normal (WC.sub (fr' := [(0, _), (1, _)]) ?_ ⟨rfl, rfl, trivial⟩))
   refine WC.seq (WC.region ?_)
   refine WL.q (oq_move rfl) rfl rfl rfl ?_
   refine WL.q (oq_nilCheck rfl) rfl rfl rfl ?_
   refine WL.q (oq_fieldAddr fld151_0 rfl) rfl rfl rfl ?_
   refine WL.q (oq_load flat95 rfl (.head _) (List.mem_singleton.2 rfl) rfl) rfl rfl rfl ?_
   refine WL.q (oq_move rfl) rfl rfl rfl ?_
   refine WL.f3 ?_
   refine WL.f3 ?_
   refine WL.f3 ?_
   refine WL.callWE (fun a w hf => ent_inv1 hR.inv rfl rfl hf w) (hR.run w X bb e L (off + 0) (N - 0) (c - 0) hX (by omega) (by omega) (by omega) hl hrs) rfl rfl rfl rfl fun v5_5 Hs5_5 hR5_5 => ?_
   obtain ⟨X2, rfl, rfl, hX2⟩ := hR5_5
   refine WL.app3 ?_
   refine WL.q (oq_move rfl) rfl rfl rfl ?_
   refine WL.q (oq_extract rfl rfl) rfl rfl rfl ?_
   refine WL.q (oq_extract rfl rfl) rfl rfl rfl ?_
   refine WL.q (oq_assign rfl) rfl rfl rfl ?_
   refine WL.q (oq_assign rfl) rfl rfl rfl ?_
   refine WL.nil (WE.then_normal (WC.sub (fr' := [(0, _), (4, _), (5, _)]) ?_ ⟨rfl, rfl, rfl, trivial⟩))
   refine WC.seq (WC.region ?_)
   refine WL.q (oq_move rfl) rfl rfl rfl ?_
   refine WL.q (oq_nilCheck rfl) rfl rfl rfl ?_
   refine WL.q (oq_fieldAddr fld151_1 rfl) rfl rfl rfl ?_
   refine WL.q (oq_load flat2 rfl (.tail _ (.tail _ (.tail _ (.head _)))) (List.mem_singleton.2 rfl) rfl) rfl rfl rfl ?_
   refine WL.q (oq_move rfl) rfl rfl rfl ?_
   refine WL.q (oq_sub rfl rfl (by rw [i64_lo, i64_hi]; (first | omega | (simp only [List.length_cons, List.length_nil, List.length_append, List.length_drop, List.length_take]; omega)))) rfl rfl rfl ?_
   refine WL.q (oq_nilCheck rfl) rfl rfl rfl ?_
   refine WL.q (oq_fieldAddr fld151_1 rfl) rfl rfl rfl ?_
   refine WL.f3 ?_
   refine WL.store1 #[_, _] ty2 rfl rfl (by first | rfl | exact OwS.one one_) (Nat.lt_of_lt_of_le (Nat.lt_succ_self _) (Nat.le_of_ble_eq_true rfl)) rfl rfl ?_
   refine WL.nil (WE.then_normal (WC.sub (fr' := [(4, _), (5, _)]) ?_ ⟨rfl, rfl, trivial⟩))
   refine WC.ret ?_
   refine WE.endW4 (.inl rfl) (res2 Tryz.results161 rfl rfl) ?_
   have hw : (w = []) ↔ (w.take N = []) := by rw [← len_nil, ← len_nil, htl]; omega
   have e1 : min m (min N w.length) = min N w.length := by omega
   rw [htl, hdt, e1, show min m N = N by omega]
   refine ⟨X2, ?_, ?_, ?_⟩
   ·simp only [hw, Nat.sub_zero]
   ·rw [show ((N - min N w.length : Nat) : Int) = (N : Int) - ((min N w.length : Nat) : Int) by omega]; simp
   ·rw [Nat.sub_zero] at hX2; rcases Nat.le_total N w.length with h | h
    ·rw [Nat.min_eq_left h]; exact hX2
    ·rw [Nat.min_eq_right h, List.drop_length]; rw [List.drop_eq_nil_of_le h] at hX2; exact hX2
  ·
   try simp only [Z1, Z2, Z3, Z4, Z5, Z6, Z7, Z8, Z9, Z0] at q3
   refine WC.skip (WE.then_normal (WC.sub (fr' := [(0, _), (1, _)]) ?_ ⟨rfl, rfl, trivial⟩))
   refine WC.seq (WC.region ?_)
   refine WL.q (oq_move rfl) rfl rfl rfl ?_
   refine WL.q (oq_nilCheck rfl) rfl rfl rfl ?_
   refine WL.q (oq_fieldAddr fld151_0 rfl) rfl rfl rfl ?_
   refine WL.q (oq_load flat95 rfl (.head _) (List.mem_singleton.2 rfl) rfl) rfl rfl rfl ?_
   refine WL.q (oq_move rfl) rfl rfl rfl ?_
   refine WL.f3 ?_
   refine WL.f3 ?_
   refine WL.f3 ?_
   refine WL.callWE (fun a w hf => ent_inv1 hR.inv rfl rfl hf w) (hR.run w X bb e L off m c hX hm0 hm hmc hl hrs) rfl rfl rfl rfl fun v5_5 Hs5_5 hR5_5 => ?_
   obtain ⟨X2, rfl, rfl, hX2⟩ := hR5_5
   refine WL.app3 ?_
   refine WL.q (oq_move rfl) rfl rfl rfl ?_
   refine WL.q (oq_extract rfl rfl) rfl rfl rfl ?_
   refine WL.q (oq_extract rfl rfl) rfl rfl rfl ?_
   refine WL.q (oq_assign rfl) rfl rfl rfl ?_
   refine WL.q (oq_assign rfl) rfl rfl rfl ?_
   refine WL.nil (WE.then_normal (WC.sub (fr' := [(0, _), (4, _), (5, _)]) ?_ ⟨rfl, rfl, rfl, trivial⟩))
   refine WC.seq (WC.region ?_)
   refine WL.q (oq_move rfl) rfl rfl rfl ?_
   refine WL.q (oq_nilCheck rfl) rfl rfl rfl ?_
   refine WL.q (oq_fieldAddr fld151_1 rfl) rfl rfl rfl ?_
   refine WL.q (oq_load flat2 rfl (.tail _ (.tail _ (.tail _ (.head _)))) (List.mem_singleton.2 rfl) rfl) rfl rfl rfl ?_
   refine WL.q (oq_move rfl) rfl rfl rfl ?_
   refine WL.q (oq_sub rfl rfl (by rw [i64_lo, i64_hi]; (first | omega | (simp only [List.length_cons, List.length_nil, List.length_append, List.length_drop, List.length_take]; omega)))) rfl rfl rfl ?_
   refine WL.q (oq_nilCheck rfl) rfl rfl rfl ?_
   refine WL.q (oq_fieldAddr fld151_1 rfl) rfl rfl rfl ?_
   refine WL.f3 ?_
   refine WL.store1 #[_, _] ty2 rfl rfl (by first | rfl | exact OwS.one one_) (Nat.lt_of_lt_of_le (Nat.lt_succ_self _) (Nat.le_of_ble_eq_true rfl)) rfl rfl ?_
   refine WL.nil (WE.then_normal (WC.sub (fr' := [(4, _), (5, _)]) ?_ ⟨rfl, rfl, trivial⟩))
   refine WC.ret ?_
   refine WE.endW4 (.inl rfl) (res2 Tryz.results161 rfl rfl) ?_
   have hw : (w = []) ↔ (w.take N = []) := by rw [← len_nil, ← len_nil, htl]; omega
   have e1 : min m (min N w.length) = min m w.length := by omega
   rw [htl, hdt, e1, show min m N = m by omega]
   refine ⟨X2, ?_, ?_, ?_⟩
   ·simp only [hw]
   ·rw [show ((N - min m w.length : Nat) : Int) = (N : Int) - ((min m w.length : Nat) : Int) by omega]
   ·rcases Nat.le_total m w.length with h | h
    ·rw [Nat.min_eq_left h]; exact hX2
    ·rw [Nat.min_eq_right h, List.drop_length]; rw [List.drop_eq_nil_of_le h] at hX2; exact hX2
def LimG (lb : Nat) (k : TypeId) (r : Value) (Rt : List UInt8 → Hp → Prop) (whole : List UInt8) (N : Nat) (rs : List UInt8) (G : Hp) : Prop := ∃ j X, j ≤ N ∧ j ≤ whole.length ∧ rs = (whole.drop j).take (N - j) ∧ G = LB lb k r ((N - j : Nat) : Int) ++ X ∧ Rt (whole.drop j) X
theorem limRr (base lb : Nat) (E : Hp) (kE : TypeId) (pE pU : Addr) (hS : Sn E kE pE pU) (k : TypeId) (r : Value) (f : FuncId) (Rt : List UInt8 → Hp → Prop) (hR : Rr base k r f E kE pE pU Rt) (whole : List UInt8) (N : Nat) (hN : N ≤ 4294967296) (hwl : whole.length ≤ 1000000) : Rr base 148 (Pt lb 0) 161 E kE pE pU (LimG lb k r Rt whole N) := by
 refine ⟨invLR, nokLR _, ?_⟩
 rintro rs G bb e L off m c ⟨j, X, hj, hjw, rfl, rfl, hX⟩ h0 hm hmc hL hrs
 have hdl : (whole.drop j).length = whole.length - j := List.length_drop
 refine fw_perm (F := []) (limRead base lb (N - j) E kE pE pU hS k r f Rt hR bb off m c e L h0 hm hmc hL (whole.drop j) X hX (by omega) (by omega)) (by simp) ?_
 rintro v Hs ⟨X2, rfl, rfl, hX2⟩
 have htl : ((whole.drop j).take (N - j)).length = min (N - j) (whole.length - j) := by rw [List.length_take, hdl]
 rw [List.drop_drop] at hX2
 refine ⟨_, ⟨_, rfl, rfl, j + min m ((whole.drop j).take (N - j)).length, X2, by omega, by omega, ?_, rfl, hX2⟩, ?_⟩
 ·rw [List.drop_take, List.drop_drop, htl]
  rcases Nat.le_total m (min (N - j) (whole.length - j)) with h | h
  ·rw [Nat.min_eq_left h, show N - j - m = N - (j + m) by omega]
  ·rw [Nat.min_eq_right h]
   rcases Nat.le_total (N - j) (whole.length - j) with h2 | h2
   ·rw [show N - j - m = 0 by omega, show N - (j + min (N - j) (whole.length - j)) = 0 by omega]; rfl
   ·rw [List.drop_eq_nil_of_le (show whole.length ≤ j + m by omega), List.drop_eq_nil_of_le (show whole.length ≤ j + min (N - j) (whole.length - j) by omega)]; simp
 ·rw [show N - (j + min m ((whole.drop j).take (N - j)).length) = N - j - min m ((whole.drop j).take (N - j)).length by omega]; simp
theorem LimG.done {lb : Nat} {k : TypeId} {r : Value} {Rt : List UInt8 → Hp → Prop} {whole : List UInt8} {N : Nat} {G : Hp} (h : LimG lb k r Rt whole N [] G) : ∃ i X, G = LB lb k r i ++ X ∧ Rt (whole.drop N) X := by
 obtain ⟨j, X, hj, hjw, hrs, rfl, hX⟩ := h
 refine ⟨_, X, rfl, ?_⟩
 have h1 := congrArg List.length hrs
 rw [List.length_take, List.length_drop] at h1
 simp at h1
 rcases Nat.lt_or_ge j N with h2 | h2
 ·rw [List.drop_eq_nil_of_le (show whole.length ≤ N by omega)]
  rwa [List.drop_eq_nil_of_le (show whole.length ≤ j by omega)] at hX
 ·rwa [show N = j by omega]
theorem LimG.start {lb : Nat} {k : TypeId} {r : Value} {Rt : List UInt8 → Hp → Prop} {whole : List UInt8} {N : Nat} {X : Hp} (hX : Rt whole X) : LimG lb k r Rt whole N (whole.take N) (LB lb k r (N : Nat) ++ X) := ⟨0, X, by omega, by omega, rfl, rfl, hX⟩
theorem LimG.out {lb : Nat} {k : TypeId} {r : Value} {Rt : List UInt8 → Hp → Prop} {whole : List UInt8} {N : Nat} {rs : List UInt8} {G : Hp} (h : LimG lb k r Rt whole N rs G) : ∃ i j X, G = LB lb k r i ++ X ∧ Rt (whole.drop j) X := by
 obtain ⟨j, X, hj, hjw, hrs, rfl, hX⟩ := h
 exact ⟨_, j, X, rfl, hX⟩
theorem readLeast (base : Nat) (E : Hp) (kE : TypeId) (pE pU : Addr) (hS : Sn E kE pE pU) (k : TypeId) (r : Value) (f : FuncId) (Rt : List UInt8 → Hp → Prop) (hR : Rr base k r f E kE pE pU Rt) (bb off m c : Nat) (e : TypeId) (L : List UInt8) (hm : off + m ≤ L.length) (hmc : m ≤ c) (hl : L.length ≤ 9223372036854775807) (rs : List UInt8) (X : Hp) (hX : Rt rs X) (hrs : rs.length ≤ 1000000) : FnW Tryz.prog 70 [.iface k r, Sl bb off m c, I (m : Int)] base [X, Bf bb e L, E] (fun v Hs => ∃ X2 vn, v = .tuple #[vn, erv kE pE pU 0 (rdc m rs)] ∧ Hs = [X2, Bf bb e (putB L off (rs.take m)), E] ∧ Rt (rs.drop m) X2) := by
 obtain ⟨tE, fE, hEm⟩ := hS.eof
 obtain ⟨tU, fU, hUm⟩ := hS.uex
 obtain ⟨k4, p4, t4, f4, hBm⟩ := hS.shb
 refine FnW.enter (n := 46) Tryz.func70 rfl rfl fun w0 R0 hbase => ?_
 subst hbase
 show WC _ _ _ _ _ _ _ ([X, Bf bb e L, E, R0])
 refine WC.sub (fr' := [(0, _), (1, _), (2, _)]) ?_ ⟨rfl, rfl, rfl, trivial⟩
 refine WC.seq (WC.region ?_)
 refine WL.q (oq_assign rfl) rfl rfl rfl ?_
 refine WL.q (oq_assign rfl) rfl rfl rfl ?_
 refine WL.nil (WE.then_normal (WC.sub (fr' := [(0, _), (1, _), (2, _), (6, _), (7, _)]) ?_ ⟨rfl, rfl, rfl, rfl, rfl, trivial⟩))
 refine WC.seq (WC.seq (WC.region ?_))
 refine WL.q (oq_move rfl) rfl rfl rfl ?_
 refine WL.q (oq_len_sl Tryz.underlying25 rfl) rfl rfl rfl ?_
 refine WL.q (oq_move rfl) rfl rfl rfl ?_
 refine WL.q (oq_lss rfl rfl) rfl rfl rfl ?_
 refine WL.nil (WE.then_normal (WC.sub (fr' := [(0, _), (1, _), (2, _), (6, _), (7, _), (12, _)]) ?_ ⟨rfl, rfl, rfl, rfl, rfl, rfl, trivial⟩))
 refine WC.cond rfl (fun q1 => ?_) (fun q1 => ?_)
 ·
  try simp only [Z1, Z2, Z3, Z4, Z5, Z6, Z7, Z8, Z9, Z0] at q1
  refine WC.seq ?_
  first | contradiction | (exfalso; omega) | (exfalso; simp_all; done)
 ·
  try simp only [Z1, Z2, Z3, Z4, Z5, Z6, Z7, Z8, Z9, Z0] at q1
  refine WC.skip (WE.then_normal (WC.sub (fr' := [(0, _), (1, _), (2, _), (6, _), (7, _)]) ?_ ⟨rfl, rfl, rfl, rfl, rfl, trivial⟩))
  refine WC.seq (WC.block ?_)
  refine WC.loop (ι := Nat × Nat × Hp × (List UInt8)) (fun i_ => (fun (n : Nat) (ce : Nat) (Y : Hp) (L2 : List UInt8) => [(0, .iface k r), (1, Sl bb off m c), (2, I (m : Int)), (6, I (n : Int)), (7, erv kE pE pU 0 ce)]) i_.1 i_.2.1 i_.2.2.1 i_.2.2.2) (fun i_ => (fun (n : Nat) (ce : Nat) (Y : Hp) (L2 : List UInt8) => [Y, Bf bb e L2, E, R0]) i_.1 i_.2.1 i_.2.2.1 i_.2.2.2) (fun i_ => (fun (n : Nat) (ce : Nat) (Y : Hp) (L2 : List UInt8) => n ≤ m ∧ n ≤ rs.length ∧ ce ≤ 1 ∧ Rt (rs.drop n) Y ∧ (ce = 1 → rs.length ≤ n ∧ n < m) ∧ L2 = putB L off (rs.take n)) i_.1 i_.2.1 i_.2.2.1 i_.2.2.2) (fun i_ => (fun (n : Nat) (ce : Nat) (Y : Hp) (L2 : List UInt8) => (m - n) + (if ce = 0 then 1 else 0)) i_.1 i_.2.1 i_.2.2.1 i_.2.2.2) ((0, 0, _, _)) ?_ ⟨rfl, rfl, rfl, rfl, rfl, trivial⟩ (List.Perm.refl _) ?_
  ·try dsimp only
   exact ⟨by omega, by omega, by omega, by simpa using hX, fun h => (by omega), by simp [putB_nil]⟩
  ·rintro ⟨n, ce, Y, L2⟩ hp
   try dsimp only at hp
   obtain ⟨hn, hnl, hce, hY, hc1, hL2⟩ := hp
   show WC _ _ _ _ _ _ ([(0, .iface k r), (1, Sl bb off m c), (2, I (m : Int)), (6, I (n : Int)), (7, erv kE pE pU 0 ce)]) ([Y, Bf bb e L2, E, R0])
   have hll : L2.length = L.length := by rw [hL2]; exact putB_len (by rw [List.length_take]; omega)
   have hdl : (rs.drop n).length = rs.length - n := List.length_drop
   have hdn : rs.drop n = [] ↔ rs.length - n = 0 := by rw [← len_nil, hdl]
   refine WC.seq (WC.seq (WC.region ?_))
   refine WL.q (oq_move rfl) rfl rfl rfl ?_
   refine WL.q (oq_move rfl) rfl rfl rfl ?_
   refine WL.q (oq_lss rfl rfl) rfl rfl rfl ?_
   refine WL.q (oq_move rfl) rfl rfl rfl ?_
   refine WL.split 17 rfl (fun s3_3 => ?_) (fun s3_3 => ?_)
   ·
    try simp only [Z1, Z2, Z3, Z4, Z5, Z6, Z7, Z8, Z9, Z0] at s3_3
    refine WL.q (oq_move rfl) rfl rfl rfl ?_
    refine WL.q (oq_ieql Tryz.underlying41 rfl (erv_or _ _ _ _ _)) rfl rfl rfl ?_
    refine WL.q (oq_pick_t rfl rfl) rfl rfl rfl ?_
    refine WL.nil (WE.then_normal (WC.sub (fr' := [(0, _), (1, _), (2, _), (6, _), (7, _), (20, _)]) ?_ ⟨rfl, rfl, rfl, rfl, rfl, rfl, trivial⟩))
    refine WC.cond rfl (fun q3 => ?_) (fun q3 => ?_)
    ·
     try simp only [Z1, Z2, Z3, Z4, Z5, Z6, Z7, Z8, Z9, Z0] at q3
     refine WC.skip (WE.then_normal (WC.sub (fr' := [(0, _), (1, _), (2, _), (6, _)]) ?_ ⟨rfl, rfl, rfl, rfl, trivial⟩))
     refine WC.block (WC.seq ?_)
     have hc0 : ce = 0 := by simpa [erv_nil] using q3
     subst hc0
     refine WC.region ?_
     refine WL.q (oq_assign rfl) rfl rfl rfl ?_
     refine WL.nil (WE.then_normal (WC.sub (fr' := [(0, _), (1, _), (2, _), (6, _)]) ?_ ⟨rfl, rfl, rfl, rfl, trivial⟩))
     refine WC.seq ?_
     refine WC.tailM (pl := []) (ql := [_, _, _, _, _, _, _]) (tl := [_, _, _, _, _, _]) [] [0, 1, 2, 3, 4, 5, 6] 7 [8, 9, 10, 11, 12] (by kernel_rfl) (by kernel_rfl) (by kernel_rfl) (by kernel_rfl) (by kernel_rfl) (by kernel_rfl) (by decide) rfl rfl rfl (by decide) (by repeat (first | with_reducible exact QOk.body | with_reducible apply QOk.then | with_reducible apply QOk.block | exact QOk.body | apply QOk.then | apply QOk.block)) ?_
     refine WM.nil ?_
     refine WY.q (oq_move rfl) rfl rfl rfl ?_
     refine WY.q (oq_move rfl) rfl rfl rfl ?_
     refine WY.q (oq_move rfl) rfl rfl rfl ?_
     refine WY.q (oq_sliceSl (i := n) Tryz.underlying25 ty5 rfl (by (first | omega | (rw [putB_len (by rw [List.length_take]; omega)]; omega))) ⟨_, rfl⟩ rfl (by (first | omega | (rw [putB_len (by rw [List.length_take]; omega)]; omega))) (by (first | omega | (rw [putB_len (by rw [List.length_take]; omega)]; omega)))) rfl rfl rfl ?_
     refine WY.q (oq_makeMeth rfl) rfl rfl rfl ?_
     refine WY.q (oq_nilMeth rfl (hR.nok)) rfl rfl rfl ?_
     refine WY.q (oq_move rfl) rfl rfl rfl ?_
     refine WY.nil ?_
     refine WL.f2 ?_
     refine WL.f2 ?_
     refine WL.f2 ?_
     refine WL.callWE (fun a w hf => ent_inv1 hR.inv rfl rfl hf w) (hR.run (rs.drop n) Y bb e L2 (off + n) (m - n) (c - n) hY (by omega) (by omega) (by omega) (by omega) (by omega)) rfl rfl rfl rfl fun v5_7 Hs5_7 hR5_7 => ?_
     obtain ⟨Y2, rfl, rfl, hY2⟩ := hR5_7
     refine WL.app3 ?_
     refine WL.q (oq_move rfl) rfl rfl rfl ?_
     refine WL.q (oq_extract rfl rfl) rfl rfl rfl ?_
     refine WL.q (oq_extract rfl rfl) rfl rfl rfl ?_
     refine WL.q (oq_assign rfl) rfl rfl rfl ?_
     refine WL.q (oq_assign rfl) rfl rfl rfl ?_
     refine WL.nil (WE.then_normal (WC.sub (fr' := [(0, _), (1, _), (2, _), (6, _), (7, _), (8, _)]) ?_ ⟨rfl, rfl, rfl, rfl, rfl, rfl, trivial⟩))
     refine WC.region ?_
     refine WL.q (oq_move rfl) rfl rfl rfl ?_
     refine WL.q (oq_move rfl) rfl rfl rfl ?_
     refine WL.q (oq_add rfl rfl (by rw [i64_lo, i64_hi]; (first | omega | (simp only [List.length_cons, List.length_nil, List.length_append, List.length_drop, List.length_take]; omega)))) rfl rfl rfl ?_
     refine WL.q (oq_assign rfl) rfl rfl rfl ?_
     refine WL.nil (WE.block_normal ?_)
     refine WE.again (n + min (m - n) (rs.drop n).length, if rs.drop n = [] then 1 else 0, _, putB L2 (off + n) ((rs.drop n).take (m - n))) ?_ ?_ ⟨rfl, rfl, rfl, rfl, rfl, trivial⟩ (List.Perm.refl _)
     ·try dsimp only
      refine ⟨by omega, by omega, by split <;> omega, ?_, ?_, ?_⟩
      ·rw [List.drop_drop] at hY2
       rcases Nat.le_total (m - n) (rs.length - n) with h | h
       ·rw [hdl, Nat.min_eq_left h]; exact hY2
       ·rw [hdl, Nat.min_eq_right h, List.drop_eq_nil_of_le (by omega)]; rw [List.drop_eq_nil_of_le (by omega)] at hY2; exact hY2
      ·split
       ·rename_i h; have := hdn.1 h; intro _; omega
       ·intro h; omega
      ·have htn : (rs.take n).length = n := by rw [List.length_take]; omega
       rw [hL2]
       have h2 := putB_two (L := L) (off := off) (x := rs.take n) (y := (rs.drop n).take (m - n)) (by rw [htn, List.length_take]; omega)
       rw [htn, ← List.take_add] at h2
       rw [h2, hdl]
       congr 1
       rcases Nat.le_total (m - n) (rs.length - n) with h | h
       ·rw [Nat.min_eq_left h]
       ·rw [Nat.min_eq_right h, List.take_of_length_le (by omega), List.take_of_length_le (by omega)]
     ·(try dsimp only); by_cases h : rs.drop n = [] <;> (have h2 := hdn; simp only [h, if_true, if_false, true_iff, false_iff, reduceIte] at h2 ⊢ <;> first | omega | (simp; done) | (simp; omega))
    ·
     try simp only [Z1, Z2, Z3, Z4, Z5, Z6, Z7, Z8, Z9, Z0] at q3
     refine WC.exit (WE.then_exit (WE.then_exit (WE.block_same (WE.then_normal (WC.sub (fr' := [(2, _), (6, _), (7, _)]) ?_ ⟨rfl, rfl, rfl, trivial⟩)))))
     refine WC.seq (WC.seq (WC.region ?_))
     refine WL.q (oq_move rfl) rfl rfl rfl ?_
     refine WL.q (oq_move rfl) rfl rfl rfl ?_
     refine WL.q (oq_geq rfl rfl) rfl rfl rfl ?_
     refine WL.nil (WE.then_normal (WC.sub (fr' := [(6, _), (7, _), (37, _)]) ?_ ⟨rfl, rfl, rfl, trivial⟩))
     refine WC.cond rfl (fun q7 => ?_) (fun q7 => ?_)
     ·
      try simp only [Z1, Z2, Z3, Z4, Z5, Z6, Z7, Z8, Z9, Z0] at q7
      refine WC.region ?_
      refine WL.q (oq_assign rfl) rfl rfl rfl ?_
      refine WL.nil (WE.then_normal (WC.sub (fr' := [(6, _), (7, _)]) ?_ ⟨rfl, rfl, trivial⟩))
      refine WC.ret ?_
      refine WE.endW3 (.inl rfl) (res2 Tryz.results70 rfl rfl) ?_
      have key : ∀ (d : Nat), (n = m ∧ d = 0) ∨ (n < m ∧ ce = 1 ∧ (0 < n → d = 2) ∧ (n = 0 → d = 1)) → rdc m rs = d ∧ rs.take n = rs.take m ∧ rs.drop n = rs.drop m := by
       rintro d (⟨rfl, rfl⟩ | ⟨hlt, h1, h2, h3⟩)
       ·exact ⟨if_pos hnl, rfl, rfl⟩
       ·have h4 := (hc1 h1).1
        refine ⟨?_, by rw [List.take_of_length_le h4, List.take_of_length_le (by omega)], by rw [List.drop_eq_nil_of_le h4, List.drop_eq_nil_of_le (by omega)]⟩
        unfold rdc; rw [if_neg (by omega)]
        by_cases h0 : rs = []
        ·rw [if_pos h0, h3 (by rw [← len_nil] at h0; omega)]
        ·rw [if_neg h0, h2 (by rw [← len_nil] at h0; omega)]
      rcases (show ce = 0 ∨ ce = 1 by omega) with rfl | rfl
      ·first | (exfalso; omega) | (exfalso; simp [erv_nil] at q3; done) | (exfalso; simp at q9; done) | (obtain ⟨k1, k2, k3⟩ := key 0 (by omega); rw [k1, ← k2, ← k3, ← hL2]; exact ⟨_, _, rfl, rfl, hY⟩) | (obtain ⟨k1, k2, k3⟩ := key 2 (by omega); rw [k1, ← k2, ← k3, ← hL2]; exact ⟨_, _, rfl, rfl, hY⟩) | (obtain ⟨k1, k2, k3⟩ := key 1 (by omega); rw [k1, ← k2, ← k3, ← hL2]; exact ⟨_, _, rfl, rfl, hY⟩)
      ·first | (exfalso; omega) | (exfalso; simp [erv_nil] at q3; done) | (exfalso; simp at q9; done) | (obtain ⟨k1, k2, k3⟩ := key 0 (by omega); rw [k1, ← k2, ← k3, ← hL2]; exact ⟨_, _, rfl, rfl, hY⟩) | (obtain ⟨k1, k2, k3⟩ := key 2 (by omega); rw [k1, ← k2, ← k3, ← hL2]; exact ⟨_, _, rfl, rfl, hY⟩) | (obtain ⟨k1, k2, k3⟩ := key 1 (by omega); rw [k1, ← k2, ← k3, ← hL2]; exact ⟨_, _, rfl, rfl, hY⟩)
     ·
      try simp only [Z1, Z2, Z3, Z4, Z5, Z6, Z7, Z8, Z9, Z0] at q7
      refine WC.seq (WC.region ?_)
      refine WL.q (oq_move rfl) rfl rfl rfl ?_
      refine WL.q (oq_gtr rfl rfl) rfl rfl rfl ?_
      refine WL.q (oq_move rfl) rfl rfl rfl ?_
      refine WL.split 40 rfl (fun s9_2 => ?_) (fun s9_2 => ?_)
      ·
       try simp only [Z1, Z2, Z3, Z4, Z5, Z6, Z7, Z8, Z9, Z0] at s9_2
       refine WL.q (oq_move rfl) rfl rfl rfl ?_
       refine WL.q (oq_load flat41 rfl (.tail _ (.tail _ (.head _))) hEm rfl) rfl rfl rfl ?_
       refine WL.q (oq_erE hS (by repeat (first | exact .head _ | apply List.Mem.tail)) (.inl (by omega)) Tryz.underlying41 rfl rfl) rfl rfl rfl ?_
       refine WL.q (oq_pick_t rfl rfl) rfl rfl rfl ?_
       refine WL.nil (WE.then_normal (WC.sub (fr' := [(6, _), (7, _), (44, _)]) ?_ ⟨rfl, rfl, rfl, trivial⟩))
       refine WC.cond rfl (fun q9 => ?_) (fun q9 => ?_)
       ·
        try simp only [Z1, Z2, Z3, Z4, Z5, Z6, Z7, Z8, Z9, Z0] at q9
        refine WC.region ?_
        refine WL.q (oq_load flat41 rfl (.tail _ (.tail _ (.head _))) hUm rfl) rfl rfl rfl ?_
        refine WL.q (oq_assign rfl) rfl rfl rfl ?_
        refine WL.nil (WE.then_normal (WC.sub (fr' := [(6, _), (7, _)]) ?_ ⟨rfl, rfl, trivial⟩))
        refine WC.ret ?_
        refine WE.endW3 (.inl rfl) (res2 Tryz.results70 rfl rfl) ?_
        have key : ∀ (d : Nat), (n = m ∧ d = 0) ∨ (n < m ∧ ce = 1 ∧ (0 < n → d = 2) ∧ (n = 0 → d = 1)) → rdc m rs = d ∧ rs.take n = rs.take m ∧ rs.drop n = rs.drop m := by
         rintro d (⟨rfl, rfl⟩ | ⟨hlt, h1, h2, h3⟩)
         ·exact ⟨if_pos hnl, rfl, rfl⟩
         ·have h4 := (hc1 h1).1
          refine ⟨?_, by rw [List.take_of_length_le h4, List.take_of_length_le (by omega)], by rw [List.drop_eq_nil_of_le h4, List.drop_eq_nil_of_le (by omega)]⟩
          unfold rdc; rw [if_neg (by omega)]
          by_cases h0 : rs = []
          ·rw [if_pos h0, h3 (by rw [← len_nil] at h0; omega)]
          ·rw [if_neg h0, h2 (by rw [← len_nil] at h0; omega)]
        rcases (show ce = 0 ∨ ce = 1 by omega) with rfl | rfl
        ·first | (exfalso; omega) | (exfalso; simp [erv_nil] at q3; done) | (exfalso; simp at q9; done) | (obtain ⟨k1, k2, k3⟩ := key 0 (by omega); rw [k1, ← k2, ← k3, ← hL2]; exact ⟨_, _, rfl, rfl, hY⟩) | (obtain ⟨k1, k2, k3⟩ := key 2 (by omega); rw [k1, ← k2, ← k3, ← hL2]; exact ⟨_, _, rfl, rfl, hY⟩) | (obtain ⟨k1, k2, k3⟩ := key 1 (by omega); rw [k1, ← k2, ← k3, ← hL2]; exact ⟨_, _, rfl, rfl, hY⟩)
        ·first | (exfalso; omega) | (exfalso; simp [erv_nil] at q3; done) | (exfalso; simp at q9; done) | (obtain ⟨k1, k2, k3⟩ := key 0 (by omega); rw [k1, ← k2, ← k3, ← hL2]; exact ⟨_, _, rfl, rfl, hY⟩) | (obtain ⟨k1, k2, k3⟩ := key 2 (by omega); rw [k1, ← k2, ← k3, ← hL2]; exact ⟨_, _, rfl, rfl, hY⟩) | (obtain ⟨k1, k2, k3⟩ := key 1 (by omega); rw [k1, ← k2, ← k3, ← hL2]; exact ⟨_, _, rfl, rfl, hY⟩)
       ·
        try simp only [Z1, Z2, Z3, Z4, Z5, Z6, Z7, Z8, Z9, Z0] at q9
        refine WC.skip (WE.then_normal (WC.sub (fr' := [(6, _), (7, _)]) ?_ ⟨rfl, rfl, trivial⟩))
        refine WC.ret ?_
        refine WE.endW3 (.inl rfl) (res2 Tryz.results70 rfl rfl) ?_
        have key : ∀ (d : Nat), (n = m ∧ d = 0) ∨ (n < m ∧ ce = 1 ∧ (0 < n → d = 2) ∧ (n = 0 → d = 1)) → rdc m rs = d ∧ rs.take n = rs.take m ∧ rs.drop n = rs.drop m := by
         rintro d (⟨rfl, rfl⟩ | ⟨hlt, h1, h2, h3⟩)
         ·exact ⟨if_pos hnl, rfl, rfl⟩
         ·have h4 := (hc1 h1).1
          refine ⟨?_, by rw [List.take_of_length_le h4, List.take_of_length_le (by omega)], by rw [List.drop_eq_nil_of_le h4, List.drop_eq_nil_of_le (by omega)]⟩
          unfold rdc; rw [if_neg (by omega)]
          by_cases h0 : rs = []
          ·rw [if_pos h0, h3 (by rw [← len_nil] at h0; omega)]
          ·rw [if_neg h0, h2 (by rw [← len_nil] at h0; omega)]
        rcases (show ce = 0 ∨ ce = 1 by omega) with rfl | rfl
        ·first | (exfalso; omega) | (exfalso; simp [erv_nil] at q3; done) | (exfalso; simp at q9; done) | (obtain ⟨k1, k2, k3⟩ := key 0 (by omega); rw [k1, ← k2, ← k3, ← hL2]; exact ⟨_, _, rfl, rfl, hY⟩) | (obtain ⟨k1, k2, k3⟩ := key 2 (by omega); rw [k1, ← k2, ← k3, ← hL2]; exact ⟨_, _, rfl, rfl, hY⟩) | (obtain ⟨k1, k2, k3⟩ := key 1 (by omega); rw [k1, ← k2, ← k3, ← hL2]; exact ⟨_, _, rfl, rfl, hY⟩)
        ·first | (exfalso; omega) | (exfalso; simp [erv_nil] at q3; done) | (exfalso; simp at q9; done) | (obtain ⟨k1, k2, k3⟩ := key 0 (by omega); rw [k1, ← k2, ← k3, ← hL2]; exact ⟨_, _, rfl, rfl, hY⟩) | (obtain ⟨k1, k2, k3⟩ := key 2 (by omega); rw [k1, ← k2, ← k3, ← hL2]; exact ⟨_, _, rfl, rfl, hY⟩) | (obtain ⟨k1, k2, k3⟩ := key 1 (by omega); rw [k1, ← k2, ← k3, ← hL2]; exact ⟨_, _, rfl, rfl, hY⟩)
      ·
       try simp only [Z1, Z2, Z3, Z4, Z5, Z6, Z7, Z8, Z9, Z0] at s9_2
       refine WL.skip rfl rfl rfl ?_
       refine WL.skip rfl rfl rfl ?_
       refine WL.skip rfl rfl rfl ?_
       refine WL.q (oq_pick_f rfl rfl) rfl rfl rfl ?_
       refine WL.nil (WE.then_normal (WC.sub (fr' := [(6, _), (7, _), (44, _)]) ?_ ⟨rfl, rfl, rfl, trivial⟩))
       refine WC.cond_f rfl ?_
       refine WC.skip (WE.then_normal (WC.sub (fr' := [(6, _), (7, _)]) ?_ ⟨rfl, rfl, trivial⟩))
       refine WC.ret ?_
       refine WE.endW3 (.inl rfl) (res2 Tryz.results70 rfl rfl) ?_
       have key : ∀ (d : Nat), (n = m ∧ d = 0) ∨ (n < m ∧ ce = 1 ∧ (0 < n → d = 2) ∧ (n = 0 → d = 1)) → rdc m rs = d ∧ rs.take n = rs.take m ∧ rs.drop n = rs.drop m := by
        rintro d (⟨rfl, rfl⟩ | ⟨hlt, h1, h2, h3⟩)
        ·exact ⟨if_pos hnl, rfl, rfl⟩
        ·have h4 := (hc1 h1).1
         refine ⟨?_, by rw [List.take_of_length_le h4, List.take_of_length_le (by omega)], by rw [List.drop_eq_nil_of_le h4, List.drop_eq_nil_of_le (by omega)]⟩
         unfold rdc; rw [if_neg (by omega)]
         by_cases h0 : rs = []
         ·rw [if_pos h0, h3 (by rw [← len_nil] at h0; omega)]
         ·rw [if_neg h0, h2 (by rw [← len_nil] at h0; omega)]
       rcases (show ce = 0 ∨ ce = 1 by omega) with rfl | rfl
       ·first | (exfalso; omega) | (exfalso; simp [erv_nil] at q3; done) | (exfalso; simp at q9; done) | (obtain ⟨k1, k2, k3⟩ := key 0 (by omega); rw [k1, ← k2, ← k3, ← hL2]; exact ⟨_, _, rfl, rfl, hY⟩) | (obtain ⟨k1, k2, k3⟩ := key 2 (by omega); rw [k1, ← k2, ← k3, ← hL2]; exact ⟨_, _, rfl, rfl, hY⟩) | (obtain ⟨k1, k2, k3⟩ := key 1 (by omega); rw [k1, ← k2, ← k3, ← hL2]; exact ⟨_, _, rfl, rfl, hY⟩)
       ·first | (exfalso; omega) | (exfalso; simp [erv_nil] at q3; done) | (exfalso; simp at q9; done) | (obtain ⟨k1, k2, k3⟩ := key 0 (by omega); rw [k1, ← k2, ← k3, ← hL2]; exact ⟨_, _, rfl, rfl, hY⟩) | (obtain ⟨k1, k2, k3⟩ := key 2 (by omega); rw [k1, ← k2, ← k3, ← hL2]; exact ⟨_, _, rfl, rfl, hY⟩) | (obtain ⟨k1, k2, k3⟩ := key 1 (by omega); rw [k1, ← k2, ← k3, ← hL2]; exact ⟨_, _, rfl, rfl, hY⟩)
   ·
    try simp only [Z1, Z2, Z3, Z4, Z5, Z6, Z7, Z8, Z9, Z0] at s3_3
    refine WL.skip rfl rfl rfl ?_
    refine WL.skip rfl rfl rfl ?_
    refine WL.q (oq_pick_f rfl rfl) rfl rfl rfl ?_
    refine WL.nil (WE.then_normal (WC.sub (fr' := [(0, _), (1, _), (2, _), (6, _), (7, _), (20, _)]) ?_ ⟨rfl, rfl, rfl, rfl, rfl, rfl, trivial⟩))
    refine WC.cond_f rfl ?_
    refine WC.exit (WE.then_exit (WE.then_exit (WE.block_same (WE.then_normal (WC.sub (fr' := [(2, _), (6, _), (7, _)]) ?_ ⟨rfl, rfl, rfl, trivial⟩)))))
    refine WC.seq (WC.seq (WC.region ?_))
    refine WL.q (oq_move rfl) rfl rfl rfl ?_
    refine WL.q (oq_move rfl) rfl rfl rfl ?_
    refine WL.q (oq_geq rfl rfl) rfl rfl rfl ?_
    refine WL.nil (WE.then_normal (WC.sub (fr' := [(6, _), (7, _), (37, _)]) ?_ ⟨rfl, rfl, rfl, trivial⟩))
    refine WC.cond rfl (fun q7 => ?_) (fun q7 => ?_)
    ·
     try simp only [Z1, Z2, Z3, Z4, Z5, Z6, Z7, Z8, Z9, Z0] at q7
     refine WC.region ?_
     refine WL.q (oq_assign rfl) rfl rfl rfl ?_
     refine WL.nil (WE.then_normal (WC.sub (fr' := [(6, _), (7, _)]) ?_ ⟨rfl, rfl, trivial⟩))
     refine WC.ret ?_
     refine WE.endW3 (.inl rfl) (res2 Tryz.results70 rfl rfl) ?_
     have key : ∀ (d : Nat), (n = m ∧ d = 0) ∨ (n < m ∧ ce = 1 ∧ (0 < n → d = 2) ∧ (n = 0 → d = 1)) → rdc m rs = d ∧ rs.take n = rs.take m ∧ rs.drop n = rs.drop m := by
      rintro d (⟨rfl, rfl⟩ | ⟨hlt, h1, h2, h3⟩)
      ·exact ⟨if_pos hnl, rfl, rfl⟩
      ·have h4 := (hc1 h1).1
       refine ⟨?_, by rw [List.take_of_length_le h4, List.take_of_length_le (by omega)], by rw [List.drop_eq_nil_of_le h4, List.drop_eq_nil_of_le (by omega)]⟩
       unfold rdc; rw [if_neg (by omega)]
       by_cases h0 : rs = []
       ·rw [if_pos h0, h3 (by rw [← len_nil] at h0; omega)]
       ·rw [if_neg h0, h2 (by rw [← len_nil] at h0; omega)]
     rcases (show ce = 0 ∨ ce = 1 by omega) with rfl | rfl
     ·first | (exfalso; omega) | (exfalso; simp [erv_nil] at q3; done) | (exfalso; simp at q9; done) | (obtain ⟨k1, k2, k3⟩ := key 0 (by omega); rw [k1, ← k2, ← k3, ← hL2]; exact ⟨_, _, rfl, rfl, hY⟩) | (obtain ⟨k1, k2, k3⟩ := key 2 (by omega); rw [k1, ← k2, ← k3, ← hL2]; exact ⟨_, _, rfl, rfl, hY⟩) | (obtain ⟨k1, k2, k3⟩ := key 1 (by omega); rw [k1, ← k2, ← k3, ← hL2]; exact ⟨_, _, rfl, rfl, hY⟩)
     ·first | (exfalso; omega) | (exfalso; simp [erv_nil] at q3; done) | (exfalso; simp at q9; done) | (obtain ⟨k1, k2, k3⟩ := key 0 (by omega); rw [k1, ← k2, ← k3, ← hL2]; exact ⟨_, _, rfl, rfl, hY⟩) | (obtain ⟨k1, k2, k3⟩ := key 2 (by omega); rw [k1, ← k2, ← k3, ← hL2]; exact ⟨_, _, rfl, rfl, hY⟩) | (obtain ⟨k1, k2, k3⟩ := key 1 (by omega); rw [k1, ← k2, ← k3, ← hL2]; exact ⟨_, _, rfl, rfl, hY⟩)
    ·
     try simp only [Z1, Z2, Z3, Z4, Z5, Z6, Z7, Z8, Z9, Z0] at q7
     refine WC.seq (WC.region ?_)
     refine WL.q (oq_move rfl) rfl rfl rfl ?_
     refine WL.q (oq_gtr rfl rfl) rfl rfl rfl ?_
     refine WL.q (oq_move rfl) rfl rfl rfl ?_
     refine WL.split 40 rfl (fun s9_2 => ?_) (fun s9_2 => ?_)
     ·
      try simp only [Z1, Z2, Z3, Z4, Z5, Z6, Z7, Z8, Z9, Z0] at s9_2
      refine WL.q (oq_move rfl) rfl rfl rfl ?_
      refine WL.q (oq_load flat41 rfl (.tail _ (.tail _ (.head _))) hEm rfl) rfl rfl rfl ?_
      refine WL.q (oq_erE hS (by repeat (first | exact .head _ | apply List.Mem.tail)) (.inl (by omega)) Tryz.underlying41 rfl rfl) rfl rfl rfl ?_
      refine WL.q (oq_pick_t rfl rfl) rfl rfl rfl ?_
      refine WL.nil (WE.then_normal (WC.sub (fr' := [(6, _), (7, _), (44, _)]) ?_ ⟨rfl, rfl, rfl, trivial⟩))
      refine WC.cond rfl (fun q9 => ?_) (fun q9 => ?_)
      ·
       try simp only [Z1, Z2, Z3, Z4, Z5, Z6, Z7, Z8, Z9, Z0] at q9
       refine WC.region ?_
       refine WL.q (oq_load flat41 rfl (.tail _ (.tail _ (.head _))) hUm rfl) rfl rfl rfl ?_
       refine WL.q (oq_assign rfl) rfl rfl rfl ?_
       refine WL.nil (WE.then_normal (WC.sub (fr' := [(6, _), (7, _)]) ?_ ⟨rfl, rfl, trivial⟩))
       refine WC.ret ?_
       refine WE.endW3 (.inl rfl) (res2 Tryz.results70 rfl rfl) ?_
       have key : ∀ (d : Nat), (n = m ∧ d = 0) ∨ (n < m ∧ ce = 1 ∧ (0 < n → d = 2) ∧ (n = 0 → d = 1)) → rdc m rs = d ∧ rs.take n = rs.take m ∧ rs.drop n = rs.drop m := by
        rintro d (⟨rfl, rfl⟩ | ⟨hlt, h1, h2, h3⟩)
        ·exact ⟨if_pos hnl, rfl, rfl⟩
        ·have h4 := (hc1 h1).1
         refine ⟨?_, by rw [List.take_of_length_le h4, List.take_of_length_le (by omega)], by rw [List.drop_eq_nil_of_le h4, List.drop_eq_nil_of_le (by omega)]⟩
         unfold rdc; rw [if_neg (by omega)]
         by_cases h0 : rs = []
         ·rw [if_pos h0, h3 (by rw [← len_nil] at h0; omega)]
         ·rw [if_neg h0, h2 (by rw [← len_nil] at h0; omega)]
       rcases (show ce = 0 ∨ ce = 1 by omega) with rfl | rfl
       ·first | (exfalso; omega) | (exfalso; simp [erv_nil] at q3; done) | (exfalso; simp at q9; done) | (obtain ⟨k1, k2, k3⟩ := key 0 (by omega); rw [k1, ← k2, ← k3, ← hL2]; exact ⟨_, _, rfl, rfl, hY⟩) | (obtain ⟨k1, k2, k3⟩ := key 2 (by omega); rw [k1, ← k2, ← k3, ← hL2]; exact ⟨_, _, rfl, rfl, hY⟩) | (obtain ⟨k1, k2, k3⟩ := key 1 (by omega); rw [k1, ← k2, ← k3, ← hL2]; exact ⟨_, _, rfl, rfl, hY⟩)
       ·first | (exfalso; omega) | (exfalso; simp [erv_nil] at q3; done) | (exfalso; simp at q9; done) | (obtain ⟨k1, k2, k3⟩ := key 0 (by omega); rw [k1, ← k2, ← k3, ← hL2]; exact ⟨_, _, rfl, rfl, hY⟩) | (obtain ⟨k1, k2, k3⟩ := key 2 (by omega); rw [k1, ← k2, ← k3, ← hL2]; exact ⟨_, _, rfl, rfl, hY⟩) | (obtain ⟨k1, k2, k3⟩ := key 1 (by omega); rw [k1, ← k2, ← k3, ← hL2]; exact ⟨_, _, rfl, rfl, hY⟩)
      ·
       try simp only [Z1, Z2, Z3, Z4, Z5, Z6, Z7, Z8, Z9, Z0] at q9
       refine WC.skip (WE.then_normal (WC.sub (fr' := [(6, _), (7, _)]) ?_ ⟨rfl, rfl, trivial⟩))
       refine WC.ret ?_
       refine WE.endW3 (.inl rfl) (res2 Tryz.results70 rfl rfl) ?_
       have key : ∀ (d : Nat), (n = m ∧ d = 0) ∨ (n < m ∧ ce = 1 ∧ (0 < n → d = 2) ∧ (n = 0 → d = 1)) → rdc m rs = d ∧ rs.take n = rs.take m ∧ rs.drop n = rs.drop m := by
        rintro d (⟨rfl, rfl⟩ | ⟨hlt, h1, h2, h3⟩)
        ·exact ⟨if_pos hnl, rfl, rfl⟩
        ·have h4 := (hc1 h1).1
         refine ⟨?_, by rw [List.take_of_length_le h4, List.take_of_length_le (by omega)], by rw [List.drop_eq_nil_of_le h4, List.drop_eq_nil_of_le (by omega)]⟩
         unfold rdc; rw [if_neg (by omega)]
         by_cases h0 : rs = []
         ·rw [if_pos h0, h3 (by rw [← len_nil] at h0; omega)]
         ·rw [if_neg h0, h2 (by rw [← len_nil] at h0; omega)]
       rcases (show ce = 0 ∨ ce = 1 by omega) with rfl | rfl
       ·first | (exfalso; omega) | (exfalso; simp [erv_nil] at q3; done) | (exfalso; simp at q9; done) | (obtain ⟨k1, k2, k3⟩ := key 0 (by omega); rw [k1, ← k2, ← k3, ← hL2]; exact ⟨_, _, rfl, rfl, hY⟩) | (obtain ⟨k1, k2, k3⟩ := key 2 (by omega); rw [k1, ← k2, ← k3, ← hL2]; exact ⟨_, _, rfl, rfl, hY⟩) | (obtain ⟨k1, k2, k3⟩ := key 1 (by omega); rw [k1, ← k2, ← k3, ← hL2]; exact ⟨_, _, rfl, rfl, hY⟩)
       ·first | (exfalso; omega) | (exfalso; simp [erv_nil] at q3; done) | (exfalso; simp at q9; done) | (obtain ⟨k1, k2, k3⟩ := key 0 (by omega); rw [k1, ← k2, ← k3, ← hL2]; exact ⟨_, _, rfl, rfl, hY⟩) | (obtain ⟨k1, k2, k3⟩ := key 2 (by omega); rw [k1, ← k2, ← k3, ← hL2]; exact ⟨_, _, rfl, rfl, hY⟩) | (obtain ⟨k1, k2, k3⟩ := key 1 (by omega); rw [k1, ← k2, ← k3, ← hL2]; exact ⟨_, _, rfl, rfl, hY⟩)
     ·
      try simp only [Z1, Z2, Z3, Z4, Z5, Z6, Z7, Z8, Z9, Z0] at s9_2
      refine WL.skip rfl rfl rfl ?_
      refine WL.skip rfl rfl rfl ?_
      refine WL.skip rfl rfl rfl ?_
      refine WL.q (oq_pick_f rfl rfl) rfl rfl rfl ?_
      refine WL.nil (WE.then_normal (WC.sub (fr' := [(6, _), (7, _), (44, _)]) ?_ ⟨rfl, rfl, rfl, trivial⟩))
      refine WC.cond_f rfl ?_
      refine WC.skip (WE.then_normal (WC.sub (fr' := [(6, _), (7, _)]) ?_ ⟨rfl, rfl, trivial⟩))
      refine WC.ret ?_
      refine WE.endW3 (.inl rfl) (res2 Tryz.results70 rfl rfl) ?_
      have key : ∀ (d : Nat), (n = m ∧ d = 0) ∨ (n < m ∧ ce = 1 ∧ (0 < n → d = 2) ∧ (n = 0 → d = 1)) → rdc m rs = d ∧ rs.take n = rs.take m ∧ rs.drop n = rs.drop m := by
       rintro d (⟨rfl, rfl⟩ | ⟨hlt, h1, h2, h3⟩)
       ·exact ⟨if_pos hnl, rfl, rfl⟩
       ·have h4 := (hc1 h1).1
        refine ⟨?_, by rw [List.take_of_length_le h4, List.take_of_length_le (by omega)], by rw [List.drop_eq_nil_of_le h4, List.drop_eq_nil_of_le (by omega)]⟩
        unfold rdc; rw [if_neg (by omega)]
        by_cases h0 : rs = []
        ·rw [if_pos h0, h3 (by rw [← len_nil] at h0; omega)]
        ·rw [if_neg h0, h2 (by rw [← len_nil] at h0; omega)]
      rcases (show ce = 0 ∨ ce = 1 by omega) with rfl | rfl
      ·first | (exfalso; omega) | (exfalso; simp [erv_nil] at q3; done) | (exfalso; simp at q9; done) | (obtain ⟨k1, k2, k3⟩ := key 0 (by omega); rw [k1, ← k2, ← k3, ← hL2]; exact ⟨_, _, rfl, rfl, hY⟩) | (obtain ⟨k1, k2, k3⟩ := key 2 (by omega); rw [k1, ← k2, ← k3, ← hL2]; exact ⟨_, _, rfl, rfl, hY⟩) | (obtain ⟨k1, k2, k3⟩ := key 1 (by omega); rw [k1, ← k2, ← k3, ← hL2]; exact ⟨_, _, rfl, rfl, hY⟩)
      ·first | (exfalso; omega) | (exfalso; simp [erv_nil] at q3; done) | (exfalso; simp at q9; done) | (obtain ⟨k1, k2, k3⟩ := key 0 (by omega); rw [k1, ← k2, ← k3, ← hL2]; exact ⟨_, _, rfl, rfl, hY⟩) | (obtain ⟨k1, k2, k3⟩ := key 2 (by omega); rw [k1, ← k2, ← k3, ← hL2]; exact ⟨_, _, rfl, rfl, hY⟩) | (obtain ⟨k1, k2, k3⟩ := key 1 (by omega); rw [k1, ← k2, ← k3, ← hL2]; exact ⟨_, _, rfl, rfl, hY⟩)
theorem readFull (base : Nat) (E : Hp) (kE : TypeId) (pE pU : Addr) (hS : Sn E kE pE pU) (k : TypeId) (r : Value) (f : FuncId) (Rt : List UInt8 → Hp → Prop) (hR : Rr base k r f E kE pE pU Rt) (bb off m c : Nat) (e : TypeId) (L : List UInt8) (hm : off + m ≤ L.length) (hmc : m ≤ c) (hl : L.length ≤ 9223372036854775807) (rs : List UInt8) (X : Hp) (hX : Rt rs X) (hrs : rs.length ≤ 1000000) : FnW Tryz.prog 57 [.iface k r, Sl bb off m c] base [X, Bf bb e L, E] (fun v Hs => ∃ X2 vn, v = .tuple #[vn, erv kE pE pU 0 (rdc m rs)] ∧ Hs = [X2, Bf bb e (putB L off (rs.take m)), E] ∧ Rt (rs.drop m) X2) := by
 refine FnW.enter (n := 13) Tryz.func57 rfl rfl fun w0 R0 hbase => ?_
 subst hbase
 show WC _ _ _ _ _ _ _ ([X, Bf bb e L, E, R0])
 refine WC.sub (fr' := [(0, _), (1, _)]) ?_ ⟨rfl, rfl, trivial⟩
 refine WC.seq (WC.region ?_)
 refine WL.q (oq_assign rfl) rfl rfl rfl ?_
 refine WL.q (oq_assign rfl) rfl rfl rfl ?_
 refine WL.nil (WE.then_normal (WC.sub (fr' := [(0, _), (1, _)]) ?_ ⟨rfl, rfl, trivial⟩))
 refine WC.seq (WC.region ?_)
 refine WL.q (oq_move rfl) rfl rfl rfl ?_
 refine WL.q (oq_move rfl) rfl rfl rfl ?_
 refine WL.q (oq_move rfl) rfl rfl rfl ?_
 refine WL.q (oq_len_sl Tryz.underlying25 rfl) rfl rfl rfl ?_
 refine WL.f2 ?_
 refine WL.f2 ?_
 refine WL.f2 ?_
 refine WL.callWE (fun a w hf => ent_fn call70 rfl hf w) (readLeast _ E kE pE pU hS k r f Rt hR bb off m c e L hm hmc hl rs X hX hrs) rfl rfl rfl rfl fun v1_4 Hs1_4 hR1_4 => ?_
 obtain ⟨X2, vn, rfl, rfl, hX2⟩ := hR1_4
 refine WL.app3 ?_
 refine WL.q (oq_extract rfl rfl) rfl rfl rfl ?_
 refine WL.q (oq_extract rfl rfl) rfl rfl rfl ?_
 refine WL.q (oq_assign rfl) rfl rfl rfl ?_
 refine WL.q (oq_assign rfl) rfl rfl rfl ?_
 refine WL.nil (WE.then_normal (WC.sub (fr' := [(4, _), (5, _)]) ?_ ⟨rfl, rfl, trivial⟩))
 refine WC.ret ?_
 refine WE.endW3 (.inl rfl) (res2 Tryz.results57 rfl rfl) ?_
 exact ⟨X2, vn, rfl, rfl, hX2⟩
end DD
end Go.Proofs.YtpjeiimlglgklaaGreatDoor
