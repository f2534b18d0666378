/- The encodings of values. -/
import Derived.Test.YtodlhaghdplclaaDoorEF
namespace Go.Proofs.YtodlhaghdplclaaDoor
open Go Go.RowKit V EA EB EC ED EE EF
set_option linter.unusedSimpArgs false
set_option linter.unusedVariables false
set_option maxRecDepth 10000
namespace EG
theorem call28 : Callable Tryd.prog 28 := ⟨_, Tryd.func28, rfl, by kernel_rfl⟩
theorem call72 : Callable Tryd.prog 72 := ⟨_, Tryd.func72, rfl, by kernel_rfl⟩
theorem call73 : Callable Tryd.prog 73 := ⟨_, Tryd.func73, rfl, by kernel_rfl⟩
theorem call77 : Callable Tryd.prog 77 := ⟨_, Tryd.func77, rfl, by kernel_rfl⟩
theorem call81 : Callable Tryd.prog 81 := ⟨_, Tryd.func81, rfl, by kernel_rfl⟩
theorem call85 : Callable Tryd.prog 85 := ⟨_, Tryd.func85, rfl, by kernel_rfl⟩
theorem call89 : Callable Tryd.prog 89 := ⟨_, Tryd.func89, rfl, by kernel_rfl⟩
theorem call90 : Callable Tryd.prog 90 := ⟨_, Tryd.func90, rfl, by kernel_rfl⟩
theorem call94 : Callable Tryd.prog 94 := ⟨_, Tryd.func94, rfl, by kernel_rfl⟩
theorem call95 : Callable Tryd.prog 95 := ⟨_, Tryd.func95, rfl, by kernel_rfl⟩
theorem call109 : Callable Tryd.prog 109 := ⟨_, Tryd.func109, rfl, by kernel_rfl⟩
theorem call110 : Callable Tryd.prog 110 := ⟨_, Tryd.func110, rfl, by kernel_rfl⟩
theorem call114 : Callable Tryd.prog 114 := ⟨_, Tryd.func114, rfl, by kernel_rfl⟩
theorem ty5 : Ty Tryd.prog 5 (.int .u8 0) 1 1 := ty_of (by kernel_rfl)
theorem ty20 : Ty Tryd.prog 20 .nilIface 1 16 := ty_of (by kernel_rfl)
theorem ty115 : Ty Tryd.prog 115 (.agg #[(.int .u8 0), (.int .u8 0), (.int .u8 0), (.int .u8 0), (.int .u8 0), (.int .u8 0), (.int .u8 0), (.int .u8 0), (.int .u8 0), (.int .u8 0), (.int .u8 0), (.int .u8 0), (.int .u8 0), (.int .u8 0), (.int .u8 0), (.int .u8 0)]) 16 16 := ty_of (by kernel_rfl)
theorem ty155 : Ty Tryd.prog 155 (.agg #[(.int .u8 0), (.int .u16 0), (.slice none 0 0)]) 3 32 := ty_of (by kernel_rfl)
theorem conc101 : Conc Tryd.prog 101 := ⟨_, Tryd.underlying101, by simp⟩
theorem conc102 : Conc Tryd.prog 102 := ⟨_, Tryd.underlying102, by simp⟩
theorem conc105 : Conc Tryd.prog 105 := ⟨_, Tryd.underlying105, by simp⟩
theorem conc106 : Conc Tryd.prog 106 := ⟨_, Tryd.underlying106, by simp⟩
theorem conc107 : Conc Tryd.prog 107 := ⟨_, Tryd.underlying107, by simp⟩
theorem agg115 : Agg Tryd.prog 115 := agg_arr Tryd.underlying115
theorem agg155 : Agg Tryd.prog 155 := agg_of Tryd.underlying155
theorem str155 : Str Tryd.prog 155 #[(0, 1), (1, 1), (2, 1)] := ⟨_, Tryd.underlying155, fun w => by kernel_rfl⟩
/-- (given.example/pub-tinwright/pub/smithy/eventstream.Int8Value).valueType -/
theorem vtInt8Value (x : Int) : Fn0 Tryd.prog 72 [.int .i8 x] (.int .u8 2) := by
  refine Fn0.enter (n := 3) Tryd.func72 rfl rfl fun w0 => ?_
  refine WC.sub (fr' := []) ?_ trivial
  refine WC.seq (WC.region ?_)
  refine WL.q (oq_assign rfl) rfl rfl rfl ?_
  refine WL.nil (WE.then_normal (WC.sub (fr' := []) ?_ trivial))
  refine WC.seq (WC.region ?_)
  refine WL.q (oq_assign rfl) rfl rfl rfl ?_
  refine WL.nil (WE.then_normal (WC.sub (fr' := [(2, _)]) ?_ ⟨rfl, trivial⟩))
  refine WC.ret ?_
  refine WE.end0 (.inl rfl) (res1 Tryd.results72 rfl) ?_
  -- end 0
  rfl

/-- (given.example/pub-tinwright/pub/smithy/eventstream.Int16Value).valueType -/
theorem vtInt16Value (x : Int) : Fn0 Tryd.prog 77 [.int .i16 x] (.int .u8 3) := by
  refine Fn0.enter (n := 3) Tryd.func77 rfl rfl fun w0 => ?_
  refine WC.sub (fr' := []) ?_ trivial
  refine WC.seq (WC.region ?_)
  refine WL.q (oq_assign rfl) rfl rfl rfl ?_
  refine WL.nil (WE.then_normal (WC.sub (fr' := []) ?_ trivial))
  refine WC.seq (WC.region ?_)
  refine WL.q (oq_assign rfl) rfl rfl rfl ?_
  refine WL.nil (WE.then_normal (WC.sub (fr' := [(2, _)]) ?_ ⟨rfl, trivial⟩))
  refine WC.ret ?_
  refine WE.end0 (.inl rfl) (res1 Tryd.results77 rfl) ?_
  -- end 0
  rfl

/-- (given.example/pub-tinwright/pub/smithy/eventstream.Int32Value).valueType -/
theorem vtInt32Value (x : Int) : Fn0 Tryd.prog 81 [.int .i32 x] (.int .u8 4) := by
  refine Fn0.enter (n := 3) Tryd.func81 rfl rfl fun w0 => ?_
  refine WC.sub (fr' := []) ?_ trivial
  refine WC.seq (WC.region ?_)
  refine WL.q (oq_assign rfl) rfl rfl rfl ?_
  refine WL.nil (WE.then_normal (WC.sub (fr' := []) ?_ trivial))
  refine WC.seq (WC.region ?_)
  refine WL.q (oq_assign rfl) rfl rfl rfl ?_
  refine WL.nil (WE.then_normal (WC.sub (fr' := [(2, _)]) ?_ ⟨rfl, trivial⟩))
  refine WC.ret ?_
  refine WE.end0 (.inl rfl) (res1 Tryd.results81 rfl) ?_
  -- end 0
  rfl

/-- (given.example/pub-tinwright/pub/smithy/eventstream.Int64Value).valueType -/
theorem vtInt64Value (x : Int) : Fn0 Tryd.prog 85 [.int .i64 x] (.int .u8 5) := by
  refine Fn0.enter (n := 3) Tryd.func85 rfl rfl fun w0 => ?_
  refine WC.sub (fr' := []) ?_ trivial
  refine WC.seq (WC.region ?_)
  refine WL.q (oq_assign rfl) rfl rfl rfl ?_
  refine WL.nil (WE.then_normal (WC.sub (fr' := []) ?_ trivial))
  refine WC.seq (WC.region ?_)
  refine WL.q (oq_assign rfl) rfl rfl rfl ?_
  refine WL.nil (WE.then_normal (WC.sub (fr' := [(2, _)]) ?_ ⟨rfl, trivial⟩))
  refine WC.ret ?_
  refine WE.end0 (.inl rfl) (res1 Tryd.results85 rfl) ?_
  -- end 0
  rfl

/-- (given.example/pub-tinwright/pub/smithy/eventstream.Int8Value).encode -/
theorem encInt8Value (base : Nat) (k : TypeId) (r : Value) (f : FuncId) (Wt : List UInt8 → Hp → Prop) (hW : Wr base k r f Wt) (acc0 : List UInt8) (G : Hp) (hG : Wt acc0 G) (x : Int) (hal : acc0.length ≤ 290000) : FnW Tryd.prog 71 [.int .i8 x, .iface k r] base [G] (Then Wt (acc0 ++ (2 :: be 1 x)) []) := by
  refine FnW.enter (n := 14) Tryd.func71 rfl rfl fun w0 R0 hbase => ?_
  subst hbase
  show WC _ _ _ _ _ _ _ ([G, R0])
  refine WC.sub (fr' := [(0, _), (1, _)]) ?_ ⟨rfl, rfl, trivial⟩
  refine WC.seq (WC.region ?_)
  refine WL.q (oq_assign rfl) rfl rfl rfl ?_
  refine WL.nil (WE.then_normal (WC.sub (fr' := [(0, _), (1, _)]) ?_ ⟨rfl, rfl, trivial⟩))
  refine WC.seq (WC.region ?_)
  refine WL.q (oq_move rfl) rfl rfl rfl ?_
  refine WL.qc (oq_call (vtInt8Value x) call72 rfl) rfl rfl rfl ?_
  refine WL.q (oq_build #[_, _, _] str155 ty155 rfl rfl) rfl rfl rfl ?_
  refine WL.alloc ty155 rfl rfl fun b1_3 hb1_3 => ?_
  refine WL.storeS #[_, _, _] ty155 rfl rfl rfl rfl (Nat.le_of_ble_eq_true rfl) rfl rfl ?_
  refine WL.nil (WE.then_normal (WC.sub (fr' := [(0, _), (1, _), (5, _)]) ?_ ⟨rfl, rfl, rfl, trivial⟩))
  refine WC.seq (WC.region ?_)
  refine WL.q (oq_loadS [_, _, _] agg155 ty155 rfl (.head _) (List.mem_singleton.2 rfl) rfl rfl) rfl rfl rfl ?_
  refine WL.q (oq_move rfl) rfl rfl rfl ?_
  refine WL.q (oq_move rfl) rfl rfl rfl ?_
  refine WL.q (oq_makeI conc102 rfl) rfl rfl rfl ?_
  refine WL.f1 ?_
  refine WL.callW1 (encScalar _ k r f Wt hW acc0 G hG 2 (.int .u16 0) (.slice none 0 0) ⟨102, .i8, 1, x⟩ (by simp [Num.ok, Num.kinds]) hal) call73 rfl rfl rfl fun v2_4 Hs2_4 hR2_4 => ?_
  obtain ⟨G2, rfl, rfl, hG2⟩ := hR2_4
  refine WL.to1 ?_
  refine WL.q (oq_assign rfl) rfl rfl rfl ?_
  refine WL.nil (WE.then_normal (WC.sub (fr' := [(4, _)]) ?_ ⟨rfl, trivial⟩))
  refine WC.ret ?_
  refine WE.f1 ?_
  refine WE.lose hb1_3 ?_
  refine WE.endW1 (.inl rfl) (res1 Tryd.results71 rfl) ?_
  -- end 0
  exact ⟨_, rfl, rfl, hG2⟩

/-- (given.example/pub-tinwright/pub/smithy/eventstream.Int16Value).encode -/
theorem encInt16Value (base : Nat) (k : TypeId) (r : Value) (f : FuncId) (Wt : List UInt8 → Hp → Prop) (hW : Wr base k r f Wt) (acc0 : List UInt8) (G : Hp) (hG : Wt acc0 G) (x : Int) (hal : acc0.length ≤ 290000) : FnW Tryd.prog 76 [.int .i16 x, .iface k r] base [G] (Then Wt (acc0 ++ (3 :: be 2 x)) []) := by
  refine FnW.enter (n := 14) Tryd.func76 rfl rfl fun w0 R0 hbase => ?_
  subst hbase
  show WC _ _ _ _ _ _ _ ([G, R0])
  refine WC.sub (fr' := [(0, _), (1, _)]) ?_ ⟨rfl, rfl, trivial⟩
  refine WC.seq (WC.region ?_)
  refine WL.q (oq_assign rfl) rfl rfl rfl ?_
  refine WL.nil (WE.then_normal (WC.sub (fr' := [(0, _), (1, _)]) ?_ ⟨rfl, rfl, trivial⟩))
  refine WC.seq (WC.region ?_)
  refine WL.q (oq_move rfl) rfl rfl rfl ?_
  refine WL.qc (oq_call (vtInt16Value x) call77 rfl) rfl rfl rfl ?_
  refine WL.q (oq_build #[_, _, _] str155 ty155 rfl rfl) rfl rfl rfl ?_
  refine WL.alloc ty155 rfl rfl fun b1_3 hb1_3 => ?_
  refine WL.storeS #[_, _, _] ty155 rfl rfl rfl rfl (Nat.le_of_ble_eq_true rfl) rfl rfl ?_
  refine WL.nil (WE.then_normal (WC.sub (fr' := [(0, _), (1, _), (5, _)]) ?_ ⟨rfl, rfl, rfl, trivial⟩))
  refine WC.seq (WC.region ?_)
  refine WL.q (oq_loadS [_, _, _] agg155 ty155 rfl (.head _) (List.mem_singleton.2 rfl) rfl rfl) rfl rfl rfl ?_
  refine WL.q (oq_move rfl) rfl rfl rfl ?_
  refine WL.q (oq_move rfl) rfl rfl rfl ?_
  refine WL.q (oq_makeI conc105 rfl) rfl rfl rfl ?_
  refine WL.f1 ?_
  refine WL.callW1 (encScalar _ k r f Wt hW acc0 G hG 3 (.int .u16 0) (.slice none 0 0) ⟨105, .i16, 2, x⟩ (by simp [Num.ok, Num.kinds]) hal) call73 rfl rfl rfl fun v2_4 Hs2_4 hR2_4 => ?_
  obtain ⟨G2, rfl, rfl, hG2⟩ := hR2_4
  refine WL.to1 ?_
  refine WL.q (oq_assign rfl) rfl rfl rfl ?_
  refine WL.nil (WE.then_normal (WC.sub (fr' := [(4, _)]) ?_ ⟨rfl, trivial⟩))
  refine WC.ret ?_
  refine WE.f1 ?_
  refine WE.lose hb1_3 ?_
  refine WE.endW1 (.inl rfl) (res1 Tryd.results76 rfl) ?_
  -- end 0
  exact ⟨_, rfl, rfl, hG2⟩

/-- (given.example/pub-tinwright/pub/smithy/eventstream.Int32Value).encode -/
theorem encInt32Value (base : Nat) (k : TypeId) (r : Value) (f : FuncId) (Wt : List UInt8 → Hp → Prop) (hW : Wr base k r f Wt) (acc0 : List UInt8) (G : Hp) (hG : Wt acc0 G) (x : Int) (hal : acc0.length ≤ 290000) : FnW Tryd.prog 80 [.int .i32 x, .iface k r] base [G] (Then Wt (acc0 ++ (4 :: be 4 x)) []) := by
  refine FnW.enter (n := 14) Tryd.func80 rfl rfl fun w0 R0 hbase => ?_
  subst hbase
  show WC _ _ _ _ _ _ _ ([G, R0])
  refine WC.sub (fr' := [(0, _), (1, _)]) ?_ ⟨rfl, rfl, trivial⟩
  refine WC.seq (WC.region ?_)
  refine WL.q (oq_assign rfl) rfl rfl rfl ?_
  refine WL.nil (WE.then_normal (WC.sub (fr' := [(0, _), (1, _)]) ?_ ⟨rfl, rfl, trivial⟩))
  refine WC.seq (WC.region ?_)
  refine WL.q (oq_move rfl) rfl rfl rfl ?_
  refine WL.qc (oq_call (vtInt32Value x) call81 rfl) rfl rfl rfl ?_
  refine WL.q (oq_build #[_, _, _] str155 ty155 rfl rfl) rfl rfl rfl ?_
  refine WL.alloc ty155 rfl rfl fun b1_3 hb1_3 => ?_
  refine WL.storeS #[_, _, _] ty155 rfl rfl rfl rfl (Nat.le_of_ble_eq_true rfl) rfl rfl ?_
  refine WL.nil (WE.then_normal (WC.sub (fr' := [(0, _), (1, _), (5, _)]) ?_ ⟨rfl, rfl, rfl, trivial⟩))
  refine WC.seq (WC.region ?_)
  refine WL.q (oq_loadS [_, _, _] agg155 ty155 rfl (.head _) (List.mem_singleton.2 rfl) rfl rfl) rfl rfl rfl ?_
  refine WL.q (oq_move rfl) rfl rfl rfl ?_
  refine WL.q (oq_move rfl) rfl rfl rfl ?_
  refine WL.q (oq_makeI conc106 rfl) rfl rfl rfl ?_
  refine WL.f1 ?_
  refine WL.callW1 (encScalar _ k r f Wt hW acc0 G hG 4 (.int .u16 0) (.slice none 0 0) ⟨106, .i32, 4, x⟩ (by simp [Num.ok, Num.kinds]) hal) call73 rfl rfl rfl fun v2_4 Hs2_4 hR2_4 => ?_
  obtain ⟨G2, rfl, rfl, hG2⟩ := hR2_4
  refine WL.to1 ?_
  refine WL.q (oq_assign rfl) rfl rfl rfl ?_
  refine WL.nil (WE.then_normal (WC.sub (fr' := [(4, _)]) ?_ ⟨rfl, trivial⟩))
  refine WC.ret ?_
  refine WE.f1 ?_
  refine WE.lose hb1_3 ?_
  refine WE.endW1 (.inl rfl) (res1 Tryd.results80 rfl) ?_
  -- end 0
  exact ⟨_, rfl, rfl, hG2⟩

/-- (given.example/pub-tinwright/pub/smithy/eventstream.Int64Value).encode -/
theorem encInt64Value (base : Nat) (k : TypeId) (r : Value) (f : FuncId) (Wt : List UInt8 → Hp → Prop) (hW : Wr base k r f Wt) (acc0 : List UInt8) (G : Hp) (hG : Wt acc0 G) (x : Int) (hal : acc0.length ≤ 290000) : FnW Tryd.prog 84 [.int .i64 x, .iface k r] base [G] (Then Wt (acc0 ++ (5 :: be 8 x)) []) := by
  refine FnW.enter (n := 14) Tryd.func84 rfl rfl fun w0 R0 hbase => ?_
  subst hbase
  show WC _ _ _ _ _ _ _ ([G, R0])
  refine WC.sub (fr' := [(0, _), (1, _)]) ?_ ⟨rfl, rfl, trivial⟩
  refine WC.seq (WC.region ?_)
  refine WL.q (oq_assign rfl) rfl rfl rfl ?_
  refine WL.nil (WE.then_normal (WC.sub (fr' := [(0, _), (1, _)]) ?_ ⟨rfl, rfl, trivial⟩))
  refine WC.seq (WC.region ?_)
  refine WL.q (oq_move rfl) rfl rfl rfl ?_
  refine WL.qc (oq_call (vtInt64Value x) call85 rfl) rfl rfl rfl ?_
  refine WL.q (oq_build #[_, _, _] str155 ty155 rfl rfl) rfl rfl rfl ?_
  refine WL.alloc ty155 rfl rfl fun b1_3 hb1_3 => ?_
  refine WL.storeS #[_, _, _] ty155 rfl rfl rfl rfl (Nat.le_of_ble_eq_true rfl) rfl rfl ?_
  refine WL.nil (WE.then_normal (WC.sub (fr' := [(0, _), (1, _), (5, _)]) ?_ ⟨rfl, rfl, rfl, trivial⟩))
  refine WC.seq (WC.region ?_)
  refine WL.q (oq_loadS [_, _, _] agg155 ty155 rfl (.head _) (List.mem_singleton.2 rfl) rfl rfl) rfl rfl rfl ?_
  refine WL.q (oq_move rfl) rfl rfl rfl ?_
  refine WL.q (oq_move rfl) rfl rfl rfl ?_
  refine WL.q (oq_makeI conc107 rfl) rfl rfl rfl ?_
  refine WL.f1 ?_
  refine WL.callW1 (encScalar _ k r f Wt hW acc0 G hG 5 (.int .u16 0) (.slice none 0 0) ⟨107, .i64, 8, x⟩ (by simp [Num.ok, Num.kinds]) hal) call73 rfl rfl rfl fun v2_4 Hs2_4 hR2_4 => ?_
  obtain ⟨G2, rfl, rfl, hG2⟩ := hR2_4
  refine WL.to1 ?_
  refine WL.q (oq_assign rfl) rfl rfl rfl ?_
  refine WL.nil (WE.then_normal (WC.sub (fr' := [(4, _)]) ?_ ⟨rfl, trivial⟩))
  refine WC.ret ?_
  refine WE.f1 ?_
  refine WE.lose hb1_3 ?_
  refine WE.endW1 (.inl rfl) (res1 Tryd.results84 rfl) ?_
  -- end 0
  exact ⟨_, rfl, rfl, hG2⟩

/-- (given.example/pub-tinwright/pub/smithy/eventstream.BytesValue).valueType -/
theorem vtBytesValue (s : Value) : Fn0 Tryd.prog 89 [s] (.int .u8 6) := by
  refine Fn0.enter (n := 3) Tryd.func89 rfl rfl fun w0 => ?_
  refine WC.sub (fr' := []) ?_ trivial
  refine WC.seq (WC.region ?_)
  refine WL.q (oq_assign rfl) rfl rfl rfl ?_
  refine WL.nil (WE.then_normal (WC.sub (fr' := []) ?_ trivial))
  refine WC.seq (WC.region ?_)
  refine WL.q (oq_assign rfl) rfl rfl rfl ?_
  refine WL.nil (WE.then_normal (WC.sub (fr' := [(2, _)]) ?_ ⟨rfl, trivial⟩))
  refine WC.ret ?_
  refine WE.end0 (.inl rfl) (res1 Tryd.results89 rfl) ?_
  -- end 0
  rfl

/-- (given.example/pub-tinwright/pub/smithy/eventstream.BytesValue).encode -/
theorem encBytesValue (base : Nat) (k : TypeId) (r : Value) (f : FuncId) (Wt : List UInt8 → Hp → Prop) (hW : Wr base k r f Wt) (acc0 : List UInt8) (G : Hp) (hG : Wt acc0 G) (s : Value) (Z : Hp) (data : List UInt8) (hr : RdS 1 s Z data.length (bytesV data)) (hdl : data.length ≤ 32767) (hal : acc0.length ≤ 250000) : FnW Tryd.prog 88 [s, .iface k r] base [G, Z] (Then Wt (acc0 ++ (6 :: be 2 data.length ++ data)) [Z]) := by
  refine FnW.enter (n := 13) Tryd.func88 rfl rfl fun w0 R0 hbase => ?_
  subst hbase
  show WC _ _ _ _ _ _ _ ([G, Z, R0])
  refine WC.sub (fr' := [(0, _), (1, _)]) ?_ ⟨rfl, rfl, trivial⟩
  refine WC.seq (WC.region ?_)
  refine WL.q (oq_assign rfl) rfl rfl rfl ?_
  refine WL.nil (WE.then_normal (WC.sub (fr' := [(0, _), (1, _)]) ?_ ⟨rfl, rfl, trivial⟩))
  refine WC.seq (WC.region ?_)
  refine WL.q (oq_move rfl) rfl rfl rfl ?_
  refine WL.qc (oq_call (vtBytesValue s) call89 rfl) rfl rfl rfl ?_
  refine WL.q (oq_build #[_, _, _] str155 ty155 rfl rfl) rfl rfl rfl ?_
  refine WL.alloc ty155 rfl rfl fun b1_3 hb1_3 => ?_
  refine WL.storeS #[_, _, _] ty155 rfl rfl rfl rfl (Nat.le_of_ble_eq_true rfl) rfl rfl ?_
  refine WL.nil (WE.then_normal (WC.sub (fr' := [(0, _), (1, _), (5, _)]) ?_ ⟨rfl, rfl, rfl, trivial⟩))
  refine WC.seq (WC.region ?_)
  refine WL.q (oq_loadS [_, _, _] agg155 ty155 rfl (.head _) (List.mem_singleton.2 rfl) rfl rfl) rfl rfl rfl ?_
  refine WL.q (oq_move rfl) rfl rfl rfl ?_
  refine WL.q (oq_move rfl) rfl rfl rfl ?_
  refine WL.f2 ?_
  refine WL.f2 ?_
  refine WL.callW2 (encBytes _ k r f Wt hW acc0 G hG 6 (.int .u16 0) (.slice none 0 0) s Z data hr hdl hal) call90 rfl rfl rfl fun v2_3 Hs2_3 hR2_3 => ?_
  obtain ⟨G2, rfl, rfl, hG2⟩ := hR2_3
  refine WL.to2 ?_
  refine WL.q (oq_assign rfl) rfl rfl rfl ?_
  refine WL.nil (WE.then_normal (WC.sub (fr' := [(4, _)]) ?_ ⟨rfl, trivial⟩))
  refine WC.ret ?_
  refine WE.f2 ?_
  refine WE.lose hb1_3 ?_
  refine WE.endW2 (.inl rfl) (res1 Tryd.results88 rfl) ?_
  -- end 0
  exact ⟨_, rfl, rfl, hG2⟩

/-- (given.example/pub-tinwright/pub/smithy/eventstream.StringValue).valueType -/
theorem vtStringValue (s : Value) : Fn0 Tryd.prog 94 [s] (.int .u8 7) := by
  refine Fn0.enter (n := 3) Tryd.func94 rfl rfl fun w0 => ?_
  refine WC.sub (fr' := []) ?_ trivial
  refine WC.seq (WC.region ?_)
  refine WL.q (oq_assign rfl) rfl rfl rfl ?_
  refine WL.nil (WE.then_normal (WC.sub (fr' := []) ?_ trivial))
  refine WC.seq (WC.region ?_)
  refine WL.q (oq_assign rfl) rfl rfl rfl ?_
  refine WL.nil (WE.then_normal (WC.sub (fr' := [(2, _)]) ?_ ⟨rfl, trivial⟩))
  refine WC.ret ?_
  refine WE.end0 (.inl rfl) (res1 Tryd.results94 rfl) ?_
  -- end 0
  rfl

/-- (given.example/pub-tinwright/pub/smithy/eventstream.StringValue).encode -/
theorem encStringValue (base bb : Nat) (acc0 : List UInt8) (G : Hp) (hG : BufG base bb acc0 G) (data : List UInt8) (hdl : data.length ≤ 32767) (hal : acc0.length ≤ 250000) : FnW Tryd.prog 93 [S data, .iface 45 (Pt bb 0)] base [G] (Then (BufG base bb) (acc0 ++ (7 :: be 2 data.length ++ data)) []) := by
  refine FnW.enter (n := 13) Tryd.func93 rfl rfl fun w0 R0 hbase => ?_
  subst hbase
  show WC _ _ _ _ _ _ _ ([G, R0])
  refine WC.sub (fr' := [(0, _), (1, _)]) ?_ ⟨rfl, rfl, trivial⟩
  refine WC.seq (WC.region ?_)
  refine WL.q (oq_assign rfl) rfl rfl rfl ?_
  refine WL.nil (WE.then_normal (WC.sub (fr' := [(0, _), (1, _)]) ?_ ⟨rfl, rfl, trivial⟩))
  refine WC.seq (WC.region ?_)
  refine WL.q (oq_move rfl) rfl rfl rfl ?_
  refine WL.qc (oq_call (vtStringValue (S data)) call94 rfl) rfl rfl rfl ?_
  refine WL.q (oq_build #[_, _, _] str155 ty155 rfl rfl) rfl rfl rfl ?_
  refine WL.alloc ty155 rfl rfl fun b1_3 hb1_3 => ?_
  refine WL.storeS #[_, _, _] ty155 rfl rfl rfl rfl (Nat.le_of_ble_eq_true rfl) rfl rfl ?_
  refine WL.nil (WE.then_normal (WC.sub (fr' := [(0, _), (1, _), (5, _)]) ?_ ⟨rfl, rfl, rfl, trivial⟩))
  refine WC.seq (WC.region ?_)
  refine WL.q (oq_loadS [_, _, _] agg155 ty155 rfl (.head _) (List.mem_singleton.2 rfl) rfl rfl) rfl rfl rfl ?_
  refine WL.q (oq_move rfl) rfl rfl rfl ?_
  refine WL.q (oq_move rfl) rfl rfl rfl ?_
  refine WL.f1 ?_
  refine WL.callW1 (encString _ bb acc0 G hG 7 (.int .u16 0) (.slice none 0 0) data hdl hal) call95 rfl rfl rfl fun v2_3 Hs2_3 hR2_3 => ?_
  obtain ⟨G2, rfl, rfl, hG2⟩ := hR2_3
  refine WL.to1 ?_
  refine WL.q (oq_assign rfl) rfl rfl rfl ?_
  refine WL.nil (WE.then_normal (WC.sub (fr' := [(4, _)]) ?_ ⟨rfl, trivial⟩))
  refine WC.ret ?_
  refine WE.f1 ?_
  refine WE.lose hb1_3 ?_
  refine WE.endW1 (.inl rfl) (res1 Tryd.results93 rfl) ?_
  -- end 0
  exact ⟨_, rfl, rfl, hG2⟩

/-- (given.example/pub-tinwright/pub/smithy/eventstream.BoolValue).valueType -/
theorem vtBoolValue (b : Bool) : Fn0 Tryd.prog 114 [.bool b] (.int .u8 ((if b then 0 else 1 : Nat) : Int)) := by
  refine Fn0.enter (n := 4) Tryd.func114 rfl rfl fun w0 => ?_
  refine WC.sub (fr' := [(0, _)]) ?_ ⟨rfl, trivial⟩
  refine WC.seq (WC.region ?_)
  refine WL.q (oq_assign rfl) rfl rfl rfl ?_
  refine WL.nil (WE.then_normal (WC.sub (fr' := [(0, _)]) ?_ ⟨rfl, trivial⟩))
  refine WC.seq (WC.seq (WC.region ?_))
  refine WL.q (oq_move rfl) rfl rfl rfl ?_
  refine WL.nil (WE.then_normal (WC.sub (fr' := [(3, _)]) ?_ ⟨rfl, trivial⟩))
  refine WC.cond rfl (fun q1 => ?_) (fun q1 => ?_)
  ·
    try simp only [Z1, Z2, Z3, Z4, Z5, Z6, Z7, Z8, Z9, Z0] at q1
    refine WC.seq (WC.region ?_)
    refine WL.q (oq_assign rfl) rfl rfl rfl ?_
    refine WL.nil (WE.then_normal (WC.sub (fr' := [(2, _)]) ?_ ⟨rfl, trivial⟩))
    refine WC.ret (WE.then_ret ?_)
    refine WE.end0 (.inl rfl) (res1 Tryd.results114 rfl) ?_
    -- end 0
    rw [q1]; rfl
  ·
    try simp only [Z1, Z2, Z3, Z4, Z5, Z6, Z7, Z8, Z9, Z0] at q1
    refine WC.skip (WE.then_normal (WC.sub (fr' := []) ?_ trivial))
    refine WC.seq (WC.region ?_)
    refine WL.q (oq_assign rfl) rfl rfl rfl ?_
    refine WL.nil (WE.then_normal (WC.sub (fr' := [(2, _)]) ?_ ⟨rfl, trivial⟩))
    refine WC.ret ?_
    refine WE.end0 (.inl rfl) (res1 Tryd.results114 rfl) ?_
    -- end 1
    rw [q1]; rfl

/-- (given.example/pub-tinwright/pub/smithy/eventstream.BoolValue).encode -/
theorem encBoolValue (base : Nat) (k : TypeId) (r : Value) (f : FuncId) (Wt : List UInt8 → Hp → Prop) (hW : Wr base k r f Wt) (acc0 : List UInt8) (G : Hp) (hG : Wt acc0 G) (b : Bool) (hal : acc0.length ≤ 290000) : FnW Tryd.prog 113 [.bool b, .iface k r] base [G] (Then Wt (acc0 ++ [(if b then 0 else 1 : UInt8)]) []) := by
  refine FnW.enter (n := 11) Tryd.func113 rfl rfl fun w0 R0 hbase => ?_
  subst hbase
  show WC _ _ _ _ _ _ _ ([G, R0])
  refine WC.sub (fr' := [(0, _), (1, _)]) ?_ ⟨rfl, rfl, trivial⟩
  refine WC.seq (WC.region ?_)
  refine WL.q (oq_assign rfl) rfl rfl rfl ?_
  refine WL.nil (WE.then_normal (WC.sub (fr' := [(0, _), (1, _)]) ?_ ⟨rfl, rfl, trivial⟩))
  refine WC.seq (WC.region ?_)
  refine WL.q (oq_move rfl) rfl rfl rfl ?_
  refine WL.q (oq_move rfl) rfl rfl rfl ?_
  refine WL.qc (oq_call (vtBoolValue b) call114 rfl) rfl rfl rfl ?_
  refine WL.q (oq_makeI conc101 rfl) rfl rfl rfl ?_
  refine WL.buildL Tryd.underlying100 ty20 rfl rfl (by decide) (by decide) rfl rfl rfl fun v1 A1 ho1 hne1 => ?_
  refine WL.f1 ?_
  refine WL.f1 ?_
  refine WL.callW2 (zzWrite _ k r f Wt hW acc0 G hG v1 A1 [⟨101, .u8, 1, ((if b then 0 else 1 : Nat) : Int)⟩] ho1.rd (ok1 (okT _)) (by simp) (by simp; omega)) call28 rfl rfl rfl fun v1_5 Hs1_5 hR1_5 => ?_
  obtain ⟨G2, rfl, rfl, hG2⟩ := hR1_5
  have e1 : bytesN [⟨101, .u8, 1, ((if b then 0 else 1 : Nat) : Int)⟩] = [(if b then 0 else 1 : UInt8)] := by cases b <;> decide
  rw [e1] at hG2
  refine WL.to2 ?_
  refine WL.q (oq_assign rfl) rfl rfl rfl ?_
  refine WL.nil (WE.then_normal (WC.sub (fr' := [(4, _)]) ?_ ⟨rfl, trivial⟩))
  refine WC.ret ?_
  refine WE.forget ho1.fresh ?_
  refine WE.endW1 (.inl rfl) (res1 Tryd.results113 rfl) ?_
  -- end 0
  exact ⟨_, rfl, rfl, hG2⟩

/-- (given.example/pub-tinwright/pub/smithy/eventstream.UUIDValue).valueType -/
theorem vtUUIDValue (l : List UInt8) (hl : l.length = 16) : Fn0 Tryd.prog 109 [.agg (bytesV l).toArray] (.int .u8 9) := by
  refine Fn0.enter (n := 3) Tryd.func109 rfl rfl fun w0 => ?_
  refine WC.sub (fr' := [(0, _)]) ?_ ⟨rfl, trivial⟩
  refine WC.seq (WC.region ?_)
  refine WL.box rfl rfl rfl fun b0_0 hb0_0 => ?_
  refine WL.q (oq_assign rfl) rfl rfl rfl ?_
  refine WL.nil (WE.then_normal (WC.sub (fr' := []) ?_ trivial))
  refine WC.seq (WC.region ?_)
  refine WL.q (oq_assign rfl) rfl rfl rfl ?_
  refine WL.nil (WE.then_normal (WC.sub (fr' := [(2, _)]) ?_ ⟨rfl, trivial⟩))
  refine WC.ret ?_
  refine WE.lose hb0_0 ?_
  refine WE.end0 (.inl rfl) (res1 Tryd.results109 rfl) ?_
  -- end 0
  rfl

/-- (given.example/pub-tinwright/pub/smithy/eventstream.UUIDValue).encode -/
theorem encUUIDValue (base : Nat) (k : TypeId) (r : Value) (f : FuncId) (Wt : List UInt8 → Hp → Prop) (hW : Wr base k r f Wt) (acc0 : List UInt8) (G : Hp) (hG : Wt acc0 G) (l : List UInt8) (hl : l.length = 16) (hal : acc0.length ≤ 250000) : FnW Tryd.prog 108 [.agg (bytesV l).toArray, .iface k r] base [G] (Then Wt (acc0 ++ (9 :: l)) []) := by
  refine FnW.enter (n := 13) Tryd.func108 rfl rfl fun w0 R0 hbase => ?_
  subst hbase
  show WC _ _ _ _ _ _ _ ([G, R0])
  refine WC.sub (fr' := [(0, _), (1, _)]) ?_ ⟨rfl, rfl, trivial⟩
  refine WC.seq (WC.region ?_)
  refine WL.box rfl rfl rfl fun ub hub => ?_
  refine WL.asB (l) rfl ?_
  refine WL.q (oq_assign rfl) rfl rfl rfl ?_
  refine WL.nil (WE.then_normal (WC.sub (fr' := [(1, _), (2, _)]) ?_ ⟨rfl, rfl, trivial⟩))
  refine WC.seq (WC.region ?_)
  refine WL.q (oq_loadArr agg115 ty115 (hl) rfl (.head _)) rfl rfl rfl ?_
  refine WL.qc (oq_call (vtUUIDValue l hl) call109 rfl) rfl rfl rfl ?_
  refine WL.q (oq_build #[_, _, _] str155 ty155 rfl rfl) rfl rfl rfl ?_
  refine WL.alloc ty155 rfl rfl fun b1_3 hb1_3 => ?_
  refine WL.storeS #[_, _, _] ty155 rfl rfl rfl rfl (Nat.le_of_ble_eq_true rfl) rfl rfl ?_
  refine WL.nil (WE.then_normal (WC.sub (fr' := [(1, _), (2, _), (5, _)]) ?_ ⟨rfl, rfl, rfl, trivial⟩))
  refine WC.seq ?_
  have hrd : RdS 1 (Sl ub 0 16 16) (Bf ub 115 l) l.length (bytesV l) := by
    have h1 := Sl.rd (b := ub) (off := 0) (n := 16) (c := 16) (e := 115) (l := l) (by omega) (by omega)
    rw [List.drop_zero, List.take_of_length_le (by omega)] at h1; rw [hl]; exact h1
  refine WC.tailM (pl := []) (ql := [_, _, _]) (tl := [_, _]) [] [0, 1, 2] 3 [4] (by kernel_rfl) (by kernel_rfl) (by kernel_rfl) (by kernel_rfl) (by kernel_rfl) (by kernel_rfl) (by decide) rfl rfl rfl (by decide) (by repeat (first | with_reducible exact QOk.body | with_reducible apply QOk.then | with_reducible apply QOk.block | exact QOk.body | apply QOk.then | apply QOk.block)) ?_
  refine WM.nil ?_
  refine WY.q (oq_loadS [_, _, _] agg155 ty155 rfl (.head _) (List.mem_singleton.2 rfl) rfl rfl) rfl rfl rfl ?_
  refine WY.q (oq_move rfl) rfl rfl rfl ?_
  refine WY.q (oq_sliceArr Tryd.underlying115 ty5 rfl rfl rfl (by omega) (by omega)) rfl rfl rfl ?_
  refine WY.nil ?_
  refine WL.f1 ?_
  refine WL.f2 ?_
  refine WL.callW2 (encFixed _ k r f Wt hW acc0 G hG 9 (.int .u16 0) (.slice none 0 0) _ (Bf ub 115 l) l hrd (by omega) hal) call110 rfl rfl rfl fun v2_3 Hs2_3 hR2_3 => ?_
  obtain ⟨G2, rfl, rfl, hG2⟩ := hR2_3
  refine WL.to2 ?_
  refine WL.q (oq_assign rfl) rfl rfl rfl ?_
  refine WL.nil (WE.then_normal (WC.sub (fr' := [(4, _)]) ?_ ⟨rfl, trivial⟩))
  refine WC.ret ?_
  refine WE.f1 ?_
  refine WE.lose hub ?_
  refine WE.f1 ?_
  refine WE.lose hb1_3 ?_
  refine WE.endW1 (.inl rfl) (res1 Tryd.results108 rfl) ?_
  -- end 0
  exact ⟨_, rfl, rfl, hG2⟩

end EG
end Go.Proofs.YtodlhaghdplclaaDoor
